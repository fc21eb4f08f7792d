/- The walk of generateFixedOffsetEncoding and its callers. -/
import Derived.Test.YtokbkbchblfcoaaPPlain
import Derived.Test.YtokbkbchblfcoaaPHcode
import Derived.Test.YtokbkbchblfcoaaT1
namespace Go.Proofs.Ytokbkbchblfcoaa
open Go.RowKit

theorem EncB.drewN {w : World} {base hb cb cap : Nat} {cur : Array Value} {cs : List Nat} (h : EncB w base hb cb cap cur cs) (m : Nat) : EncB (w.drewN m) base hb cb cap cur cs :=
  ⟨h.ge, h.blk, h.c0, h.own, h.ne⟩

theorem EncB.code_cell {w : World} {base hb cb cap : Nat} {cur : Array Value} {cs : List Nat} (h : EncB w base hb cb cap cur cs) (j : Nat) (hj : j < cs.length) :
    w.cell? ⟨cb, j, none⟩ = some (.int .u32 ((cs.getD j 0 : Nat) : Int)) := owns_cell h.own j hj rfl
theorem EncB.code_free {w : World} {base hb cb cap : Nat} {cur : Array Value} {cs : List Nat} (h : EncB w base hb cb cap cur cs) (j : Nat) : w.frozen? ⟨cb, j, none⟩ = false := h.own.frozenAt j

/-- The fixed codes of distances, so far. -/
def offC (k : Nat) : List Nat := (List.range 30).map fun j => if j < k then PT.turn j 5 * 256 + 5 else 0
theorem offC_len (k : Nat) : (offC k).length = 30 := by simp [offC]
theorem offC_zero : offC 0 = List.replicate 30 0 := by decide
theorem offC_succ (k : Nat) : offC (k + 1) = (offC k).set k (PT.turn k 5 * 256 + 5) := by
  apply List.ext_getElem
  · simp [offC]
  · intro i h1 h2
    simp only [offC, List.getElem_map, List.getElem_range, List.getElem_set]
    by_cases h : k = i
    · subst h; simp
    · rw [if_neg h]
      by_cases h3 : i < k
      · rw [if_pos h3, if_pos (by omega)]
      · rw [if_neg h3, if_neg (by omega)]

set_option maxHeartbeats 1000000 in
theorem genOff_any (w : World) :
    Calls Try.prog 46 #[] w fun e w' => ∃ hb cb C cur, e = .returned (.pointer (some ⟨hb, 0, none⟩)) ∧ EncB w' w.heap.size hb cb C cur (offC 30) ∧ Below w.heap.size w w' := by
  go_enter Try.func46, Try.ntmps46
  go_wp2_with (go_at_call 51; refine (newEnc2_any 30 (by omega) (by omega) _).mono ?_; rintro e w1 ⟨hb, cb, C, cur, rfl, hE0, hbel0, _⟩; have hc0 := hE0.cell; rw [List.length_replicate] at hc0; rw [← offC_zero] at hE0; have HE0 := Lib.hid hE0; have HB0 := Lib.hid hbel0; clear hE0 hbel0)
  clear hc0
  go_loopw [3, 11] (fun _ i wr => ∃ k : Nat, k ≤ 30 ∧ i = .int .i64 k ∧ EncB wr w.heap.size hb cb C cur (offC k) ∧ Below w.heap.size w wr) (fun _ i _ => 30 - (intOf i).toNat)
  case atStart => exact ⟨0, Nat.zero_le _, rfl, HE0.out, HB0.out⟩
  case round =>
    obtain ⟨k, hk, rfl, hE, hbel⟩ := hrel
    by_cases hlt : k < 30
    · have hck := hE.code_cell k (by rw [offC_len]; exact hlt)
      have hfk := hE.code_free k
      have HE := Lib.hid hE
      have HB := Lib.hid hbel
      have hT := PT.turn_lt k 5
      have HS := Lib.hid (offC_succ k)
      clear hE hbel
      go_wp2_with (first
        | (go_at_call 44; refine (reverseBits_any k 5 (by omega) (by omega) _).mono ?_; rintro e w2 ⟨rfl, m, rfl⟩)
        | (go_at_call 60; refine (newhcode_any (PT.turn k 5) 5 (by omega) (by omega) _).mono ?_; rintro e w3 ⟨rfl, rfl⟩))
      go_roundw
      case rel =>
        refine ⟨k + 1, by omega, by go_num, ?_, (below_dN HB.out m).setCell HE.out.cb_lt.1 _⟩
        rw [HS.out]
        exact (HE.out.drewN m).set k (PT.turn k 5 * 256 + 5)
      case measure => simp [intOf]; omega
    · go_wp2
      go_ret
      have hkl : k = 30 := by omega
      subst hkl
      exact ⟨hb, cb, C, cur, rfl, hE, hbel⟩

/-- What the thin package hands out of codes. -/
def bitsOf (cs : List Nat) : List Nat := cs.map (· / 256)
def lensOf (cs : List Nat) : List Nat := cs.map (· % 256)

set_option maxHeartbeats 1000000 in
theorem pFixOff_any (w : World) :
    Calls Try.prog 31 #[] w fun e w' => ∃ v, e = .returned v ∧ w'.ownsRow w.heap.size 58 2 v 30 (cvs ((offC 30).map codeOf)) ∧ Below w.heap.size w w' := by
  go_enter Try.func31, Try.ntmps31
  go_wp2_with (first
    | (go_at_call 46; refine (genOff_any _).mono ?_; rintro e w1 ⟨hb, cb, C, cur, rfl, hE, hbel⟩; have HE := Lib.hid hE; have HB := Lib.hid hbel; clear hE hbel)
    | (go_at_call 45; refine (codesOf_any (offC 30) _ HE.out (by rw [offC_len]; omega) (by decide)).mono ?_; rintro e w2 ⟨v, rfl, hown, hbel2⟩; have HO := Lib.hid hown; have HB2 := Lib.hid hbel2; clear hown hbel2))
  go_ret
  have h := HO.out
  rw [offC_len] at h
  exact ⟨v, rfl, owns_mono h HB.out.size, HB.out.trans (HB2.out.mono HB.out.size)⟩

set_option maxHeartbeats 1000000 in
theorem iFixOff_any (w : World) :
    Calls Try.prog 11 #[] w fun e w' => ∃ v1 v2, e = .returned (.tuple #[v1, v2]) ∧ w'.ownsRow w.heap.size 3 1 v1 30 (nv .i64 (bitsOf (offC 30))) ∧ w'.ownsRow w.heap.size 3 1 v2 30 (nv .i64 (lensOf (offC 30))) ∧ Below w.heap.size w w' := by
  go_enter Try.func11, Try.ntmps11
  go_wp2_with (first
    | (go_at_call 31; refine (pFixOff_any _).mono ?_; rintro e w1 ⟨v, rfl, hown, hbel⟩; have HO := Lib.hid hown; have HB := Lib.hid hbel; clear hown hbel)
    | (go_at_call 30; refine (plain_any v ((offC 30).map codeOf) _ (CRow.of_owns (by simp [offC]) HO.out) (by simp [offC]) (by decide)).mono ?_; rintro e w2 ⟨v1, v2, rfl, hown1, hown2, hbel2⟩; have HO1 := Lib.hid hown1; have HO2 := Lib.hid hown2; have HB2 := Lib.hid hbel2; clear hown1 hown2 hbel2))
  go_ret2
  have h1 := HO1.out
  have h2 := HO2.out
  rw [List.length_map, offC_len, List.map_map] at h1 h2
  exact ⟨v1, v2, rfl, owns_mono h1 HB.out.size, owns_mono h2 HB.out.size, HB.out.trans (HB2.out.mono HB.out.size)⟩
end Go.Proofs.Ytokbkbchblfcoaa

/- The walk of generateFixedLiteralEncoding and its callers. -/
import Derived.Test.YtokbkbchblfcoaaPFixOff
import Derived.Test.YtokbkbchblfcoaaSFixed
import Derived.Test.YtokbkbchblfcoaaSCanon
namespace Go.Proofs.Ytokbkbchblfcoaa
open Go.RowKit

/-- The fixed codes of literals and lengths. -/
def fixBits (s : Nat) : Nat := if s < 144 then s + 48 else if s < 256 then s + 256 else if s < 280 then s - 256 else s - 88
def fixCode (s : Nat) : Nat := PT.turn (fixBits s) (fixedLen s) * 256 + fixedLen s
def litC (k : Nat) : List Nat := (List.range 286).map fun j => if j < k then fixCode j else 0
theorem litC_len (k : Nat) : (litC k).length = 286 := by
  unfold litC
  exact (List.length_map _).trans List.length_range
theorem litC_zero : litC 0 = List.replicate 286 0 := by decide +kernel
theorem litC_succ (k : Nat) : litC (k + 1) = (litC k).set k (fixCode k) := by
  apply List.ext_getElem
  · rw [List.length_set, litC_len, litC_len]
  · intro i h1 h2
    simp only [litC, List.getElem_map, List.getElem_range, List.getElem_set]
    by_cases h : k = i
    · subst h; simp
    · rw [if_neg h]
      by_cases h3 : i < k
      · rw [if_pos h3, if_pos (by omega)]
      · rw [if_neg h3, if_neg (by omega)]

set_option maxHeartbeats 400000 in
set_option maxRecDepth 100000 in
theorem genLit_any (w : World) :
    Calls Try.prog 49 #[] w fun e w' => ∃ hb cb C cur, e = .returned (.pointer (some ⟨hb, 0, none⟩)) ∧ EncB w' w.heap.size hb cb C cur (litC 286) ∧ Below w.heap.size w w' := by
  go_enter Try.func49, Try.ntmps49
  go_wp2_with (go_at_call 51; refine (newEnc2_any 286 (by omega) (by omega) _).mono ?_; rintro e w1 ⟨hb, cb, C, cur, rfl, hE0, hbel0, _⟩; have hc0 := hE0.cell; rw [List.length_replicate] at hc0; rw [← litC_zero] at hE0; have HE0 := Lib.hid hE0; have HB0 := Lib.hid hbel0; clear hE0 hbel0)
  clear hc0
  go_loopw [3, 4, 5, 11] (fun _ _ _ i wr => ∃ k : Nat, k ≤ 286 ∧ i = .int .u16 k ∧ EncB wr w.heap.size hb cb C cur (litC k) ∧ Below w.heap.size w wr) (fun _ _ _ i _ => 286 - (intOf i).toNat)
  case atStart => exact ⟨0, Nat.zero_le _, rfl, HE0.out, HB0.out⟩
  case round =>
    obtain ⟨k, hk, rfl, hE, hbel⟩ := hrel
    by_cases hlt : k < 286
    · have hck := hE.code_cell k (by rw [litC_len]; exact hlt)
      have hfk := hE.code_free k
      have HE := Lib.hid hE
      have HB := Lib.hid hbel
      have HS := Lib.hid (litC_succ k)
      have hend : ∀ (x : Int) (m : Nat), x = ((fixCode k : Nat) : Int) → EncB ((wr.drewN m).setCell ⟨cb, k, none⟩ (.int .u32 x)) w.heap.size hb cb C cur (litC (k + 1)) ∧ Below w.heap.size w ((wr.drewN m).setCell ⟨cb, k, none⟩ (.int .u32 x)) := by
        rintro x m rfl
        refine ⟨?_, (below_dN HB.out m).setCell HE.out.cb_lt.1 _⟩
        rw [HS.out]
        exact (HE.out.drewN m).set k (fixCode k)
      have HEnd := Lib.hid hend
      clear hE hbel hend HE0 HB0
      by_cases h1 : k < 144
      · obtain ⟨q, hq⟩ : ∃ q : Nat, q = k + 48 := ⟨_, rfl⟩
        have e1 : q = fixBits k := by rw [hq]; simp [fixBits, h1]
        have e2 : 8 = fixedLen k := by simp [fixedLen, h1]
        have hT := PT.turn_lt q 8
        have e3 : (PT.turn q 8 : Int) * 256 + 8 = ((fixCode k : Nat) : Int) := by unfold fixCode; rw [← e1, ← e2]; simp
        have hx : (k : Int) + 48 = (q : Int) := by omega
        have E3 := Lib.hid e3
        clear e1 e2 e3 hq
        go_wp2_with (first
          | (go_at_call 44; refine (reverseBits_any q 8 (by omega) (by omega) _).mono ?_; rintro e w2 ⟨rfl, m, rfl⟩)
          | (go_at_call 60; refine (newhcode_any (PT.turn q 8) 8 (by omega) (by omega) _).mono ?_; rintro e w3 ⟨rfl, rfl⟩))
        go_roundw
        case rel => exact ⟨k + 1, by omega, by go_num, HEnd.out _ m E3.out⟩
        case measure => simp [intOf]; omega
      · by_cases h2 : k < 256
        · obtain ⟨q, hq⟩ : ∃ q : Nat, q = k + 256 := ⟨_, rfl⟩
          have e1 : q = fixBits k := by rw [hq]; simp [fixBits, h1, h2]
          have e2 : 9 = fixedLen k := by simp [fixedLen, h1, h2]
          have hT := PT.turn_lt q 9
          have e3 : (PT.turn q 9 : Int) * 256 + 9 = ((fixCode k : Nat) : Int) := by unfold fixCode; rw [← e1, ← e2]; simp
          have hx : (k : Int) + 400 - 144 = (q : Int) := by omega
          have E3 := Lib.hid e3
          clear e1 e2 e3 hq
          go_wp2_with (first
            | (go_at_call 44; refine (reverseBits_any q 9 (by omega) (by omega) _).mono ?_; rintro e w2 ⟨rfl, m, rfl⟩)
            | (go_at_call 60; refine (newhcode_any (PT.turn q 9) 9 (by omega) (by omega) _).mono ?_; rintro e w3 ⟨rfl, rfl⟩))
          go_roundw
          case rel => exact ⟨k + 1, by omega, by go_num, HEnd.out _ m E3.out⟩
          case measure => simp [intOf]; omega
        · by_cases h3 : k < 280
          · obtain ⟨q, hq⟩ : ∃ q : Nat, q = k - 256 := ⟨_, rfl⟩
            have e1 : q = fixBits k := by rw [hq]; simp [fixBits, h1, h2, h3]
            have e2 : 7 = fixedLen k := by simp [fixedLen, h1, h2, h3]
            have hT := PT.turn_lt q 7
            have e3 : (PT.turn q 7 : Int) * 256 + 7 = ((fixCode k : Nat) : Int) := by unfold fixCode; rw [← e1, ← e2]; simp
            have hx : (k : Int) - 256 = (q : Int) := by omega
            have E3 := Lib.hid e3
            clear e1 e2 e3 hq
            go_wp2_with (first
              | (go_at_call 44; refine (reverseBits_any q 7 (by omega) (by omega) _).mono ?_; rintro e w2 ⟨rfl, m, rfl⟩)
              | (go_at_call 60; refine (newhcode_any (PT.turn q 7) 7 (by omega) (by omega) _).mono ?_; rintro e w3 ⟨rfl, rfl⟩))
            go_roundw
            case rel => exact ⟨k + 1, by omega, by go_num, HEnd.out _ m E3.out⟩
            case measure => simp [intOf]; omega
          · obtain ⟨q, hq⟩ : ∃ q : Nat, q = k - 88 := ⟨_, rfl⟩
            have e1 : q = fixBits k := by rw [hq]; simp [fixBits, h1, h2, h3]
            have e2 : 8 = fixedLen k := by simp [fixedLen, h1, h2, h3]
            have hT := PT.turn_lt q 8
            have e3 : (PT.turn q 8 : Int) * 256 + 8 = ((fixCode k : Nat) : Int) := by unfold fixCode; rw [← e1, ← e2]; simp
            have hx : (k : Int) + 192 - 280 = (q : Int) := by omega
            have E3 := Lib.hid e3
            clear e1 e2 e3 hq
            go_wp2_with (first
              | (go_at_call 44; refine (reverseBits_any q 8 (by omega) (by omega) _).mono ?_; rintro e w2 ⟨rfl, m, rfl⟩)
              | (go_at_call 60; refine (newhcode_any (PT.turn q 8) 8 (by omega) (by omega) _).mono ?_; rintro e w3 ⟨rfl, rfl⟩))
            go_roundw
            case rel => exact ⟨k + 1, by omega, by go_num, HEnd.out _ m E3.out⟩
            case measure => simp [intOf]; omega
    · have hkl : k = 286 := by omega
      subst hkl
      have HE := Lib.hid hE
      have HB := Lib.hid hbel
      clear hE hbel
      go_wp2
      go_ret
      exact ⟨hb, cb, C, cur, rfl, HE.out, HB.out⟩
theorem litC_bd : ∀ x ∈ litC 286, x < 16777216 := by decide +kernel
theorem litC_codes : ∀ x ∈ (litC 286).map codeOf, x.1 < 65536 ∧ x.2 < 256 := by decide +kernel

set_option maxHeartbeats 1000000 in
theorem pFixLit_any (w : World) :
    Calls Try.prog 34 #[] w fun e w' => ∃ v, e = .returned v ∧ w'.ownsRow w.heap.size 58 2 v 286 (cvs ((litC 286).map codeOf)) ∧ Below w.heap.size w w' := by
  go_enter Try.func34, Try.ntmps34
  go_wp2_with (first
    | (go_at_call 49; refine (genLit_any _).mono ?_; rintro e w1 ⟨hb, cb, C, cur, rfl, hE, hbel⟩; have HE := Lib.hid hE; have HB := Lib.hid hbel; clear hE hbel)
    | (go_at_call 45; refine (codesOf_any (litC 286) _ HE.out (by rw [litC_len]; omega) litC_bd).mono ?_; rintro e w2 ⟨v, rfl, hown, hbel2⟩; have HO := Lib.hid hown; have HB2 := Lib.hid hbel2; clear hown hbel2))
  go_ret
  have h := HO.out
  rw [litC_len] at h
  exact ⟨v, rfl, owns_mono h HB.out.size, HB.out.trans (HB2.out.mono HB.out.size)⟩

set_option maxHeartbeats 1000000 in
theorem iFixLit_any (w : World) :
    Calls Try.prog 16 #[] w fun e w' => ∃ v1 v2, e = .returned (.tuple #[v1, v2]) ∧ w'.ownsRow w.heap.size 3 1 v1 286 (nv .i64 (bitsOf (litC 286))) ∧ w'.ownsRow w.heap.size 3 1 v2 286 (nv .i64 (lensOf (litC 286))) ∧ Below w.heap.size w w' := by
  have hl : ((litC 286).map codeOf).length = 286 := (List.length_map _).trans (litC_len 286)
  have HL := Lib.hid hl
  clear hl
  go_enter Try.func16, Try.ntmps16
  go_wp2_with (first
    | (go_at_call 34; refine (pFixLit_any _).mono ?_; rintro e w1 ⟨v, rfl, hown, hbel⟩; have HO := Lib.hid hown; have HB := Lib.hid hbel; clear hown hbel)
    | (go_at_call 30; refine (plain_any v ((litC 286).map codeOf) _ (CRow.of_owns HL.out.symm HO.out) (by rw [HL.out]; omega) litC_codes).mono ?_; rintro e w2 ⟨v1, v2, rfl, hown1, hown2, hbel2⟩; have HO1 := Lib.hid hown1; have HO2 := Lib.hid hown2; have HB2 := Lib.hid hbel2; clear hown1 hown2 hbel2))
  go_ret2
  have h1 := HO1.out
  have h2 := HO2.out
  rw [HL.out, List.map_map] at h1 h2
  exact ⟨v1, v2, rfl, owns_mono h1 HB.out.size, owns_mono h2 HB.out.size, HB.out.trans (HB2.out.mono HB.out.size)⟩

/-- The lengths of all the fixed codes of the RFC. -/
def fixedAll (k : Nat) : List Nat := (List.range 288).map fun i => if i < k then fixedLen i else 0
theorem fixedAll_len (k : Nat) : (fixedAll k).length = 288 := by
  unfold fixedAll
  exact (List.length_map _).trans List.length_range
theorem fixedAll_zero : fixedAll 0 = List.replicate 288 0 := by decide +kernel
theorem fixedAll_succ (k : Nat) : fixedAll (k + 1) = (fixedAll k).set k (fixedLen k) := by
  apply List.ext_getElem
  · rw [List.length_set, fixedAll_len, fixedAll_len]
  · intro i h1 h2
    simp only [fixedAll, List.getElem_map, List.getElem_range, List.getElem_set]
    by_cases h : k = i
    · subst h; simp
    · rw [if_neg h]
      by_cases h3 : i < k
      · rw [if_pos h3, if_pos (by omega)]
      · rw [if_neg h3, if_neg (by omega)]
theorem fixedAll_bd : ∀ x ∈ fixedAll 288, x ≤ 15 := by decide +kernel
theorem fixed_vals : ∀ i : Fin 286, (lensOf (litC 286)).getD i.val 0 = fixedLen i.val ∧ (bitsOf (litC 286)).getD i.val 0 = PT.turn (fixBits i.val) (fixedLen i.val) ∧ fixBits i.val < 512 ∧ fixedLen i.val ≤ 9 ∧ (canonL (fixedAll 288)).getD i.val 0 = fixBits i.val := by decide +kernel
end Go.Proofs.Ytokbkbchblfcoaa

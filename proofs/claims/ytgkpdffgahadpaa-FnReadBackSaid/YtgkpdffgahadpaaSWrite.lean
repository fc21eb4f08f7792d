/- The walk of the reference's Write: the bits of the codes of symbols. -/
import Derived.Test.YtgkpdffgahadpaaOwn
namespace Go.Proofs.Ytgkpdffgahadpaa
open Go.RowKit

theorem info_intw : (Try.prog.info? 3).map (fun i => (i.zero, i.size, i.bytes)) = some (some (.int .i64 0), 1, 8) := by kernel_rfl

/-- The bits of a code, the highest one first. -/
def wbits (c l : Nat) : List Nat := (List.range l).map fun j => c / 2 ^ (l - 1 - j) % 2
theorem wbits_len (c l : Nat) : (wbits c l).length = l := by simp [wbits]
/-- The bits of the codes of symbols. -/
def written (cs ls list : List Nat) : List Nat := list.flatMap fun s => wbits (cs.getD s 0) (ls.getD s 0)
theorem written_succ (cs ls list : List Nat) (k : Nat) (h : k < list.length) : written cs ls (list.take (k + 1)) = written cs ls (list.take k) ++ wbits (cs.getD (list.getD k 0) 0) (ls.getD (list.getD k 0) 0) := by
  unfold written; rw [take_succ_getD list k h]; simp
theorem written_len (cs ls : List Nat) (h15 : ∀ s, ls.getD s 0 ≤ 15) : ∀ list : List Nat, (written cs ls list).length ≤ 15 * list.length
  | [] => Nat.le_refl _
  | s :: r => by
    have ih := written_len cs ls h15 r
    have := h15 s
    unfold written at *
    rw [List.flatMap_cons, List.length_append, wbits_len, List.length_cons]; omega
theorem wbits_take (c l j : Nat) (h : j < l) : (wbits c l).take (j + 1) = (wbits c l).take j ++ [c / 2 ^ (l - 1 - j) % 2] := by
  rw [take_succ_getD _ _ (by rw [wbits_len]; exact h)]
  congr 2
  simp [wbits, List.getD, h]

set_option maxHeartbeats 2000000 in
set_option maxRecDepth 100000 in
theorem write_any (vl vc vn : Value) (list cs ls : List Nat) (w : World) (hl : NRow .i64 w vl list) (hc : NRow .i64 w vc cs) (hn : NRow .i64 w vn ls) (hlen : list.length ≤ 10000) (hs : ∀ s ∈ list, s < cs.length ∧ s < ls.length) (h15 : ∀ s, ls.getD s 0 ≤ 15) (h16 : ∀ s, cs.getD s 0 < 65536) :
    Calls Try.prog 24 #[vl, vc, vn] w fun e w' => ∃ v', e = .returned v' ∧ w'.ownsRow w.heap.size 3 1 v' (written cs ls list).length (nv .i64 (written cs ls list)) ∧ Below w.heap.size w w' := by
  obtain ⟨i0, hi, hz0, hz1, hz2⟩ := info_parts info_intw
  obtain ⟨al, capl, rfl, _, hl⟩ := hl
  obtain ⟨ac, capc, rfl, _, hc⟩ := hc
  obtain ⟨an, capn, rfl, _, hn⟩ := hn
  have HL := Lib.hid hl
  have HC := Lib.hid hc
  have HN := Lib.hid hn
  have HS := Lib.hid hs
  have H15 := Lib.hid h15
  have H16 := Lib.hid h16
  have HWL := Lib.hid (fun k : Nat => written_len cs ls h15 (list.take k))
  clear hl hc hn hs h15 h16
  go_enter Try.func24, Try.ntmps24
  go_wp2
  go_loopw [7, 9, 10, 13] (fun out _ _ i wr => ∃ k n : Nat, k ≤ list.length ∧ i = .int .i64 k ∧ n ≤ 15 * k ∧ wr.ownsRow w.heap.size 3 1 out n (nv .i64 (written cs ls (list.take k))) ∧ Below w.heap.size w wr) (fun _ _ _ i _ => list.length - (intOf i).toNat)
  case atStart => exact ⟨0, 0, Nat.zero_le _, rfl, Nat.le_refl _, World.ownsRow_nil _ _ _ _, Below.refl _ _⟩
  case round =>
    obtain ⟨k, n, hk, rfl, hnk, hown, hbel⟩ := hrel
    by_cases hlt : k < list.length
    · obtain ⟨b, o, rfl, hbl, hc⟩ := HL.out (by omega)
      have hck : wr.cell? ⟨b, o + k, none⟩ = _ := (hbel.cell (by exact hbl)).trans (hc k hlt)
      have hm := HS.out _ (getD_mem list k hlt)
      have H1 := Lib.hid (written_succ cs ls list k hlt)
      clear hc
      generalize list.getD k 0 = s at *
      obtain ⟨hs1, hs2⟩ := hm
      obtain ⟨b2, o2, rfl, hbl2, hc2⟩ := HN.out (by omega)
      have hck2 : wr.cell? ⟨b2, o2 + s, none⟩ = _ := (hbel.cell (by exact hbl2)).trans (hc2 s hs2)
      have h15 := H15.out s
      have HB := Lib.hid hbel
      have HO := Lib.hid hown
      clear hc2 hbel hown
      generalize ls.getD s 0 = l at *
      obtain ⟨b3, o3, rfl, hbl3, hc3⟩ := HC.out (by omega)
      have hck3 := hc3 s hs1
      have h16 := H16.out s
      clear hc3
      generalize cs.getD s 0 = c at *
      go_wp2
      go_loopw [7, 10] (fun out kk wr => ∃ r m : Nat, r ≤ l ∧ kk = .int .i64 ((r : Nat) - 1 : Int) ∧ m ≤ 15 * k + (l - r) ∧ wr.ownsRow w.heap.size 3 1 out m (nv .i64 (written cs ls (list.take k) ++ (wbits c l).take (l - r))) ∧ Below w.heap.size w wr) (fun _ kk _ => (intOf kk + 1).toNat)
      case atStart => exact ⟨l, n, Nat.le_refl _, rfl, by omega, by rw [Nat.sub_self, List.take_zero, List.append_nil]; exact HO.out, HB.out⟩
      case round =>
        obtain ⟨r, m, hr, rfl, hm, hown, hbel⟩ := hrel
        clear HO HB
        by_cases hr0 : 0 < r
        · have hck4 : wr.cell? ⟨b3, o3 + s, none⟩ = _ := (hbel.cell (by exact hbl3)).trans hck3
          have hsz := hbel.size
          have HT := Lib.hid (wbits_take c l (l - r) (by omega))
          have HB := Lib.hid hbel
          have HO := Lib.hid hown
          clear hbel hown
          obtain ⟨y, hy⟩ : ∃ y, y = c / 2 ^ (r - 1) % 2 := ⟨_, rfl⟩
          have hv : ((c : Int) / 2 ^ (r - 1)).tmod 2 = ((y : Nat) : Int) := by
            rw [hy, Int.tmod_eq_emod_of_nonneg (Int.ediv_nonneg (by omega) (Int.le_of_lt (Int.pow_pos (by omega))))]
            push_cast; rfl
          have e1 : l - 1 - (l - r) = r - 1 := by omega
          rw [e1, ← hy] at HT
          have HV := Lib.hid hv
          clear hv hy e1
          go_wp2_with (at_builtin; refine wpList_app1 wr w rfl (.tmp 26) (.tmp 34) 24 rfl Try.underlying24 hi hz0 hz1 hz2 (by decide) _ m _ y _ rfl HO.out rfl (by rw [cell_new, HV.out]) (by omega) hsz HB.out ?_; intro v' w1 hown1 hbel1 _ _ _)
          go_roundw
          case rel =>
            refine ⟨r - 1, m + 1, by omega, by go_num, by omega, ?_, hbel1⟩
            have e2 : l - (r - 1) = l - r + 1 := by omega
            rw [e2, HT.out, ← List.append_assoc]; exact hown1
          case measure => simp [intOf]; omega
        · have hr0' : r = 0 := by omega
          subst hr0'
          have HB := Lib.hid hbel
          have HO := Lib.hid hown
          clear hbel hown
          go_wp2
          go_roundw
          case rel =>
            refine ⟨k + 1, m, by omega, by go_num, by omega, ?_, HB.out⟩
            have h := HO.out
            rw [Nat.sub_zero, List.take_of_length_le (l := wbits c l) (by rw [wbits_len]; exact Nat.le_refl _)] at h
            rw [H1.out]; exact h
          case measure => simp [intOf]; omega
    · have hkl : k = list.length := by omega
      subst hkl
      rw [List.take_length] at hown
      have hnl := owns_len hown
      subst hnl
      have HB := Lib.hid hbel
      have HO := Lib.hid hown
      clear hbel hown
      go_wp2
      go_ret
      exact ⟨_, rfl, HO.out, HB.out⟩
end Go.Proofs.Ytgkpdffgahadpaa

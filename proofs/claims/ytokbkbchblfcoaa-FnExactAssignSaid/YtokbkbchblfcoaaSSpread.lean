/- The walk of the reference's Spread. -/
import Derived.Test.YtokbkbchblfcoaaSUsed
import Derived.Test.YtokbkbchblfcoaaPLen
namespace Go.Proofs.Ytokbkbchblfcoaa
open Go.RowKit

set_option maxHeartbeats 2000000 in
set_option maxRecDepth 100000 in
theorem spread_any (vc vo : Value) (cnt ord : List Nat) (size : Nat) (w : World) (hc : NRow .i32 w vc cnt) (ho : NRow .u16 w vo ord) (hs : size ≤ 1000) (hsum : cnt.sum = ord.length)
    (hlt : ∀ x ∈ ord, x < size) (hcl : cnt.length ≤ 16) (hol : ord.length ≤ 100000) :
    Calls Try.prog 21 #[vc, vo, .int .i64 size] w fun e w' => ∃ v', e = .returned v' ∧ w'.ownsRow w.heap.size 3 1 v' size (nv .i64 (spr ord (lsq 0 cnt) size ord.length)) ∧ Below w.heap.size w w' := by
  obtain ⟨i0, hi, hz0, hz1, hz2⟩ := info_parts info_int
  obtain ⟨ac, capc, rfl, hn1, hc⟩ := hc
  obtain ⟨ao, capo, rfl, hn2, ho⟩ := ho
  have HC := Lib.hid hc
  have HOR := Lib.hid ho
  have HLT := Lib.hid hlt
  have HSUM := Lib.hid hsum
  have HN2 := Lib.hid hn2
  clear hc ho hlt hsum hn1 hn2
  go_enter Try.func21, Try.ntmps21
  go_wp2_with (at_make; refine wpList_make0 w w rfl _ _ 26 rfl Try.underlying26 hi hz0 hz1 hz2 (by decide) .i64 .i64 _ _ size rfl rfl rfl rfl (by omega) (Nat.le_refl _) (Below.refl _ _) ?_; intro w1 hown1 hbel1; have HO := Lib.hid hown1; have HB := Lib.hid hbel1; clear hown1 hbel1)
  obtain ⟨g, hg⟩ : ∃ g, g = w.heap.size := ⟨_, rfl⟩
  have HG : Hid (g = w.heap.size) := hg
  rw [← hg]
  clear hg
  go_loopw [8, 9, 10, 17] (fun at_ _ _ ii wr => ∃ k m : Nat, k ≤ cnt.length ∧ ii = .int .i64 k ∧ at_ = .int .i64 m ∧ Hid (m + (cnt.take k).sum = ord.length) ∧ wr.ownsRow w.heap.size 3 1 (.slice (some ⟨g, 0, none⟩) size size) size (nv .i64 (spr ord (lsq 0 cnt) size (cnt.take k).sum)) ∧ Below w.heap.size w wr) (fun _ _ _ ii _ => cnt.length - (intOf ii).toNat)
  case atStart => exact ⟨0, ord.length, by omega, rfl, rfl, by simp [Lib.hid], by rw [HG.out]; simpa [spr] using HO.out, HB.out⟩
  case round =>
    obtain ⟨k, m, hk, rfl, rfl, hm, hown, hbel⟩ := hrel
    clear HO HB
    by_cases hkl : k < cnt.length
    · obtain ⟨b, o, rfl, hbl, hcc⟩ := HC.out (by omega)
      have hck : wr.cell? ⟨b, o + k, none⟩ = _ := (hbel.cell (by exact hbl)).trans (hcc k hkl)
      have HS := Lib.hid (sum_take_succ cnt k hkl)
      have HSL := Lib.hid (sum_take_le cnt (k + 1))
      have HGET := Lib.hid (lsq_get cnt 0 k)
      have hc16 : cnt.getD k 0 ≤ 100000 := by
        have := HS.out; have := HSL.out; have := HSUM.out; omega
      have HO := Lib.hid hown
      have HB := Lib.hid hbel
      clear hcc hown hbel
      generalize cnt.getD k 0 = c at *
      generalize (cnt.take k).sum = p at *
      go_wp2
      go_loopw [8, 10] (fun at_ cc wr => ∃ e f m : Nat, e + f = c ∧ cc = .int .i32 f ∧ at_ = .int .i64 m ∧ Hid (m + (p + e) = ord.length) ∧ wr.ownsRow w.heap.size 3 1 (.slice (some ⟨g, 0, none⟩) size size) size (nv .i64 (spr ord (lsq 0 cnt) size (p + e))) ∧ Below w.heap.size w wr) (fun _ cc _ => (intOf cc).toNat)
      case atStart => exact ⟨0, c, m, by omega, rfl, rfl, hm, HO.out, HB.out⟩
      case round =>
        obtain ⟨e, f, m, hef, rfl, rfl, hm, hown, hbel⟩ := hrel
        clear HO HB
        by_cases hf : 0 < f
        · have hm1 : 1 ≤ m ∧ m ≤ ord.length := by
            have h1 := hm.out; have h2 := HS.out; have h3 := HSL.out; have h4 := HSUM.out
            omega
          obtain ⟨q, rfl⟩ : ∃ q, m = q + 1 := ⟨m - 1, by omega⟩
          obtain ⟨b2, o2, rfl, hbl2, hoc⟩ := HOR.out (by omega)
          have hoq : wr.cell? ⟨b2, o2 + q, none⟩ = _ := (hbel.cell (by exact hbl2)).trans (hoc q (by omega))
          have hx := HLT.out _ (getD_mem ord q (by omega))
          have HST : Hid (spr ord (lsq 0 cnt) size (p + e + 1) = (spr ord (lsq 0 cnt) size (p + e)).set (ord.getD q 0) k) := by
            have h1 := HGET.out e hkl (by omega)
            have h2 : (lsq 0 cnt).getD (p + e) 0 = k := by
              rw [List.getD_eq_getElem?_getD, h1]; simp
            have h3 := hm.out
            show spr ord (lsq 0 cnt) size (p + e + 1) = _
            rw [spr, h2, show ord.length - 1 - (p + e) = q by omega]
          have hcell := owns_cell hown (ord.getD q 0) hx (spr_len _ _ _ _).symm
          have hfr := hown.frozenAt (ord.getD q 0)
          have HO := Lib.hid hown
          have HB := Lib.hid hbel
          have hg0 : w.heap.size ≤ g := by have := HG.out; omega
          have hq5 : q < ord.length := by omega
          clear hown hbel hoc HC HOR HLT hm1
          generalize ord.getD q 0 = x at *
          generalize (spr ord (lsq 0 cnt) size (p + e)).getD x 0 = y at *
          go_wp2
          go_roundw
          case rel =>
            refine ⟨e + 1, f - 1, q, by omega, by go_num, by go_num, ?_, ?_, HB.out.setCell hg0 _⟩
            · have h1 := hm.out
              show q + (p + (e + 1)) = ord.length
              omega
            · rw [← Nat.add_assoc, HST.out]
              exact owns_set HO.out x k
          case measure => simp [intOf]; omega
        · have hf0 : f = 0 := by omega
          subst hf0
          have he : e = c := by omega
          subst he
          have HO := Lib.hid hown
          have HB := Lib.hid hbel
          clear hown hbel
          go_wp2
          go_roundw
          case rel =>
            refine ⟨k + 1, m, by omega, by go_num, rfl, ?_, ?_, HB.out⟩
            · have h1 := hm.out
              have h2 := HS.out
              show m + (cnt.take (k + 1)).sum = ord.length
              omega
            · rw [HS.out]; exact HO.out
          case measure => simp [intOf]; omega
    · have hkk : k = cnt.length := by omega
      subst hkk
      go_wp2
      go_ret
      refine ⟨_, rfl, ?_, hbel⟩
      have h1 : (cnt.take cnt.length).sum = ord.length := by rw [List.take_length]; exact HSUM.out
      rw [h1] at hown
      exact hown
end Go.Proofs.Ytokbkbchblfcoaa

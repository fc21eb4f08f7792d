/- The walks of both ways to count bytes, with their callers. -/
import Derived.Test.YtokbkbchblfcoaaPSplit
namespace Go.Proofs.Ytokbkbchblfcoaa
open Go.RowKit

theorem info_u8 : (Try.prog.info? 5).map (fun i => (i.zero, i.size, i.bytes)) = some (some (.int .u8 0), 1, 1) := by kernel_rfl

set_option maxHeartbeats 1000000 in
set_option maxRecDepth 100000 in
theorem histogram_any (W0 w : World) (v : Value) (l : List Nat) (g : Nat) (hr : NRow .u8 W0 v l) (hb : Below W0.heap.size W0 w) (hlen : l.length < 65536) (h256 : ∀ x ∈ l, x < 256)
    (hown : w.ownsRow W0.heap.size 22 1 (.slice (some ⟨g, 0, none⟩) 256 256) 256 (nv .u16 (cnt []))) :
    Calls Try.prog 47 #[v, .slice (some ⟨g, 0, none⟩) 256 256] w fun e w' => e = .returned (.tuple #[]) ∧ w'.ownsRow W0.heap.size 22 1 (.slice (some ⟨g, 0, none⟩) 256 256) 256 (nv .u16 (cnt l)) ∧ Below W0.heap.size W0 w' := by
  by_cases hs : l.length < 8192
  · exact histogram_small W0 w v l g hr hb hs h256 hown
  · have hc := split_any W0 w v l g hr hb hlen h256 hown
    obtain ⟨a, cap, rfl, _, _⟩ := hr
    clear hown hb h256
    have hs' : 8192 ≤ l.length := by omega
    clear hs
    go_enter Try.func47, Try.ntmps47
    go_wp2_with (go_at_call 48; refine hc.mono ?_; rintro e w1 ⟨rfl, ho, hb⟩; have HO := Lib.hid ho; have HB := Lib.hid hb; clear ho hb)
    exact bodyPost_ret (v := .tuple #[]) (by simp [results, Try.results47, go_sem]) rfl ⟨rfl, HO.out, HB.out⟩

set_option maxHeartbeats 1000000 in
theorem pHist_any (w : World) (v : Value) (l : List Nat) (hr : NRow .u8 w v l) (hlen : l.length < 65536) (h256 : ∀ x ∈ l, x < 256) :
    Calls Try.prog 32 #[v] w fun e w' => ∃ v', e = .returned v' ∧ w'.ownsRow w.heap.size 22 1 v' 256 (nv .u16 (cnt l)) ∧ Below w.heap.size w w' := by
  obtain ⟨i0, hi, hz0, hz1, hz2⟩ := info_parts info_u16
  have HR := Lib.hid hr
  have H256 := Lib.hid h256
  clear hr h256
  go_enter Try.func32, Try.ntmps32
  go_wp2_with (first
    | (at_make; refine wpList_make0 w w rfl _ _ 31 rfl Try.underlying31 hi hz0 hz1 hz2 (by decide) .i64 .i64 256 256 256 rfl rfl rfl rfl (by omega) (Nat.le_refl _) (Below.refl _ _) ?_; intro w1 hown1 hbel1; rw [← cnt_nil] at hown1; have HO := Lib.hid hown1; have HB := Lib.hid hbel1; clear hown1 hbel1)
    | (go_at_call 47; refine (histogram_any w _ v l _ HR.out HB.out hlen H256.out HO.out).mono ?_; rintro e w2 ⟨rfl, ho, hb⟩; have HO2 := Lib.hid ho; have HB2 := Lib.hid hb; clear ho hb))
  go_ret
  exact ⟨_, rfl, HO2.out, HB2.out⟩

set_option maxHeartbeats 1000000 in
theorem pSplit_any (w : World) (v : Value) (l : List Nat) (hr : NRow .u8 w v l) (hlen : l.length < 65536) (h256 : ∀ x ∈ l, x < 256) :
    Calls Try.prog 33 #[v] w fun e w' => ∃ v', e = .returned v' ∧ w'.ownsRow w.heap.size 22 1 v' 256 (nv .u16 (cnt l)) ∧ Below w.heap.size w w' := by
  obtain ⟨i0, hi, hz0, hz1, hz2⟩ := info_parts info_u16
  have HR := Lib.hid hr
  have H256 := Lib.hid h256
  clear hr h256
  go_enter Try.func33, Try.ntmps33
  go_wp2_with (first
    | (at_make; refine wpList_make0 w w rfl _ _ 31 rfl Try.underlying31 hi hz0 hz1 hz2 (by decide) .i64 .i64 256 256 256 rfl rfl rfl rfl (by omega) (Nat.le_refl _) (Below.refl _ _) ?_; intro w1 hown1 hbel1; rw [← cnt_nil] at hown1; have HO := Lib.hid hown1; have HB := Lib.hid hbel1; clear hown1 hbel1)
    | (go_at_call 48; refine (split_any w _ v l _ HR.out HB.out hlen H256.out HO.out).mono ?_; rintro e w2 ⟨rfl, ho, hb⟩; have HO2 := Lib.hid ho; have HB2 := Lib.hid hb; clear ho hb))
  go_ret
  exact ⟨_, rfl, HO2.out, HB2.out⟩

set_option maxHeartbeats 1000000 in
theorem iHist_any (w : World) (v : Value) (l : List Nat) (hr : NRow .u8 w v l) (hlen : l.length < 65536) (h256 : ∀ x ∈ l, x < 256) :
    Calls Try.prog 14 #[v] w fun e w' => ∃ v', e = .returned v' ∧ w'.ownsRow w.heap.size 22 1 v' 256 (nv .u16 (cnt l)) ∧ Below w.heap.size w w' := by
  obtain ⟨i0, hi, hz0, hz1, hz2⟩ := info_parts info_u8
  have HR := Lib.hid hr
  have H256 := Lib.hid h256
  clear hr h256
  go_enter Try.func14, Try.ntmps14
  have HE := Lib.hid (own_empty w 5 .u8)
  have HA := Lib.hid ((Below.refl w.heap.size w).alloc (Nat.le_refl _) (.cells #[] 5))
  go_wp2_with (first
    | (at_builtin; go_must (refine wpList_appRow (w.alloc (.cells #[] 5)) w rfl (.tmp 3) (.tmp 4) 30 rfl Try.underlying30 hi hz0 hz1 hz2 (by decide) _ 0 [] v l rfl HE.out rfl (HR.out.below HA.out) (by omega) (by simp) HA.out ?_); intro v1 w1 hn1 hb1 _; have HN1 := Lib.hid hn1; have HB1 := Lib.hid hb1; clear hn1 hb1)
    | (go_at_call 32; refine (pHist_any w1 v1 l (NRow.of_owns (by simp) HN1.out) hlen H256.out).mono ?_; rintro e w2 ⟨v2, rfl, ho, hb⟩; have HO2 := Lib.hid ho; have HB2 := Lib.hid hb; clear ho hb))
  go_ret
  exact ⟨_, rfl, owns_mono HO2.out HB1.out.size, HB1.out.trans (HB2.out.mono HB1.out.size)⟩

set_option maxHeartbeats 1000000 in
theorem iSplit_any (w : World) (v : Value) (l : List Nat) (hr : NRow .u8 w v l) (hlen : l.length < 65536) (h256 : ∀ x ∈ l, x < 256) :
    Calls Try.prog 15 #[v] w fun e w' => ∃ v', e = .returned v' ∧ w'.ownsRow w.heap.size 22 1 v' 256 (nv .u16 (cnt l)) ∧ Below w.heap.size w w' := by
  obtain ⟨i0, hi, hz0, hz1, hz2⟩ := info_parts info_u8
  have HR := Lib.hid hr
  have H256 := Lib.hid h256
  clear hr h256
  go_enter Try.func15, Try.ntmps15
  have HE := Lib.hid (own_empty w 5 .u8)
  have HA := Lib.hid ((Below.refl w.heap.size w).alloc (Nat.le_refl _) (.cells #[] 5))
  go_wp2_with (first
    | (at_builtin; refine wpList_appRow (w.alloc (.cells #[] 5)) w rfl (.tmp 3) (.tmp 4) 30 rfl Try.underlying30 hi hz0 hz1 hz2 (by decide) _ 0 [] v l rfl HE.out rfl (HR.out.below HA.out) (by omega) (by simp) HA.out ?_; intro v1 w1 hn1 hb1 _; have HN1 := Lib.hid hn1; have HB1 := Lib.hid hb1; clear hn1 hb1)
    | (go_at_call 33; refine (pSplit_any w1 v1 l (NRow.of_owns (by simp) HN1.out) hlen H256.out).mono ?_; rintro e w2 ⟨v2, rfl, ho, hb⟩; have HO2 := Lib.hid ho; have HB2 := Lib.hid hb; clear ho hb))
  go_ret
  exact ⟨_, rfl, owns_mono HO2.out HB1.out.size, HB1.out.trans (HB2.out.mono HB1.out.size)⟩
end Go.Proofs.Ytokbkbchblfcoaa

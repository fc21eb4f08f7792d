/- The walk of the thin package's Counts. -/
import Derived.Test.YtokbkbchblfcoaaPCnt
import Derived.Test.YtokbkbchblfcoaaPCopied
namespace Go.Proofs.Ytokbkbchblfcoaa
open Go.RowKit

set_option maxHeartbeats 2000000 in
theorem iCnt_any (v : Value) (f : List Nat) (mb : Nat) (w : World) (hr : NRow .u16 w v f) (hF : PM.Freqs f (min mb (f.length - 1))) (h1 : 1 ≤ mb) (h15 : mb ≤ 15) :
    Calls Try.prog 25 #[v, .int .i64 mb] w fun e w' => ∃ v', e = .returned v' ∧ w'.ownsRow w.heap.size 21 1 v' (min mb (f.length - 1) + 1) (nv .i32 (PM.bcl f (min mb (f.length - 1)))) ∧ Below w.heap.size w w' := by
  obtain ⟨i0, hi, hz0, hz1, hz2⟩ := info_parts info_i32c
  have hlen : f.length < 65536 := by have := hF.few; omega
  have HR := Lib.hid hr
  have HF := Lib.hid hF
  have HLB : Hid (0 + (PM.bcl f (min mb (f.length - 1))).length < 1099511627776) := by
    refine Lib.hid ?_
    rw [PM.bcl_len]; omega
  have HLN := Lib.hid (PM.bcl_len f (min mb (f.length - 1)))
  have HC := Lib.hid (fun v2 W h => pCnt_any v2 f mb W h hF h1 h15)
  clear hr hF
  generalize min mb (f.length - 1) = L at *
  go_enter Try.func25, Try.ntmps25
  have HE := Lib.hid (own_empty w 21 .i32)
  have HA := Lib.hid ((Below.refl w.heap.size w).alloc (Nat.le_refl _) (.cells #[] 21))
  go_wp2_with fail
  refine (copied_any _ v f (HR.out.below HA.out) (by omega)).mono ?_
  rintro e w2 ⟨v2, rfl, ho2, hb2⟩
  have HN2 := Lib.hid (NRow.of_owns rfl ho2)
  have HB2 := Lib.hid (below_up HA.out hb2 HA.out.size)
  have HE2 := Lib.hid (owns_below HE.out hb2)
  clear ho2 hb2
  go_wp2_with fail
  refine (HC.out v2 w2 HN2.out).mono ?_
  rintro e w3 ⟨v3, rfl, ho3, hb3⟩
  have HN3 := Lib.hid (NRow.of_owns HLN.out.symm ho3)
  have HB3 := Lib.hid (below_up HB2.out hb3 HB2.out.size)
  have HE3 := Lib.hid (owns_below HE2.out hb3)
  clear ho3 hb3
  go_wp2_with (at_builtin; refine wpList_appRow w3 w rfl (.tmp 5) (.tmp 9) 37 rfl Try.underlying37 hi hz0 hz1 hz2 (by decide) _ 0 [] v3 _ rfl HE3.out rfl HN3.out HLB.out HB3.out.size HB3.out ?_; intro v' w4 ho4 hb4 _)
  go_ret
  rw [Nat.zero_add, HLN.out] at ho4
  exact ⟨v', rfl, ho4, hb4⟩
end Go.Proofs.Ytokbkbchblfcoaa

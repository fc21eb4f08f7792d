/- The walk of the thin package's copied. -/
import Derived.Test.YtgkpdffgahadpaaOwn
namespace Go.Proofs.Ytgkpdffgahadpaa
open Go.RowKit

theorem info_u16c : (Try.prog.info? 29).map (fun i => (i.zero, i.size, i.bytes)) = some (some (.int .u16 0), 1, 2) := by kernel_rfl

set_option maxHeartbeats 1000000 in
theorem copied_any (w : World) (v : Value) (l : List Nat) (hr : NRow .u16 w v l) (hlen : l.length < 65536) :
    Calls Try.prog 33 #[v] w fun e w' => ∃ v', e = .returned v' ∧ w'.ownsRow w.heap.size 29 1 v' l.length (nv .u16 l) ∧ Below w.heap.size w w' := by
  obtain ⟨i0, hi, hz0, hz1, hz2⟩ := info_parts info_u16c
  have HR := Lib.hid hr
  clear hr
  go_enter Try.func33, Try.ntmps33
  have HE := Lib.hid (own_empty w 29 .u16)
  have HA := Lib.hid ((Below.refl w.heap.size w).alloc (Nat.le_refl _) (.cells #[] 29))
  go_wp2_with (at_builtin; go_must (refine wpList_appRow (w.alloc (.cells #[] 29)) w rfl (.tmp 3) (.tmp 4) 22 rfl Try.underlying22 hi hz0 hz1 hz2 (by decide) _ 0 [] v l rfl HE.out rfl (HR.out.below HA.out) (by omega) (by simp) HA.out ?_); intro v1 w1 hn1 hb1 _; have HN1 := Lib.hid hn1; have HB1 := Lib.hid hb1; clear hn1 hb1)
  go_ret
  have h := HN1.out
  rw [Nat.zero_add, List.nil_append] at h
  exact ⟨_, rfl, h, HB1.out⟩
end Go.Proofs.Ytgkpdffgahadpaa

/-
  'FnExactOffset' is proved: the fixed codes of distances are their numbers in five bits, in the other order.
  No condition: every number.
-/
import Derived.Test.YtokbkbchblfcoaaRows
import Derived.Test.YtokbkbchblfcoaaPFixOff
import Derived.WalkKit
import Derived.ProofKit
import Derived.OpenShut
import Derived.ChangeOld
import Derived.Below
import Derived.ShutString
namespace Go.Proofs.Ytokbkbchblfcoaa.fnExactOffset
open Go.ChangeShapes Go.WideShapes Go.ChangeAt Go.RowKit
open Go.ChangeMaps (open_string shut_string)
set_option linter.unusedVariables false      -- a walk need not use every 'w<i>' (that an integer argument fits its kind)

theorem own : ownKnob Try.prog.godebug = none := by kernel_rfl

theorem owns_slice {w : World} {base e n size : Nat} {v : Value} {xs : List Value} (h : w.ownsRow base e size v n xs) (hn : 0 < n) : ∃ g cap, v = .slice (some ⟨g, 0, none⟩) n cap := by
  rcases h.2 with ⟨_, h0⟩ | ⟨g, cap, cur, rfl, _⟩
  · omega
  · exact ⟨g, cap, rfl⟩

theorem off_vals : ∀ i : Fin 30, (lensOf (offC 30)).getD i.val 0 = 5 ∧ (bitsOf (offC 30)).getD i.val 0 = PT.turn i.val 5 := by decide +kernel

set_option maxHeartbeats 1000000 in
theorem inside (s : Nat) (hs : s < 30) (w : World) :
    Calls Try.prog 4 #[.int .i64 s] w fun e w' => e = .returned (.bool true) ∧ Below w.heap.size w w' := by
  have hv := off_vals ⟨s, hs⟩
  have HV := Lib.hid hv
  have h32 : PT.turn s 5 < 32 := PT.turn_lt s 5
  clear hv
  go_enter Try.func4, Try.ntmps4
  go_wp2_with (go_at_call 11; refine (iFixOff_any _).mono ?_; rintro e w1 ⟨v1, v2, rfl, hown1, hown2, hbel⟩; obtain ⟨g1, c1, rfl⟩ := owns_slice hown1 (by omega); obtain ⟨g2, c2, rfl⟩ := owns_slice hown2 (by omega); have hc1 := owns_cell hown1 s hs (by simp [bitsOf, offC]); have hc2 := owns_cell hown2 s hs (by simp [lensOf, offC]); rw [HV.out.2] at hc1; rw [HV.out.1] at hc2; have HB := Lib.hid hbel; clear hown1 hown2 hbel)
  go_quiet (first | (go_at_call 10; exact Calls.quiet_of_same (turn_any s 5 (by omega) (by omega) _)))
  go_wp2
  go_ret
  exact ⟨by simp, below_dN HB.out _⟩

set_option maxHeartbeats 1000000 in
theorem outside (s : Int) (hs : s < 0 ∨ 30 ≤ s) (w : World) :
    Calls Try.prog 4 #[.int .i64 s] w fun e w' => e = .returned (.bool true) ∧ Below w.heap.size w w' := by
  have hd : (decide (s < 0) || decide (30 ≤ s)) = true := by
    rcases hs with h | h <;> simp [h]
  go_enter Try.func4, Try.ntmps4
  go_wp2_with (go_at_call 11; refine (iFixOff_any _).mono ?_; rintro e w1 ⟨v1, v2, rfl, hown1, hown2, hbel⟩; obtain ⟨g1, c1, rfl⟩ := owns_slice hown1 (by omega); obtain ⟨g2, c2, rfl⟩ := owns_slice hown2 (by omega); have HB := Lib.hid hbel; clear hown1 hown2 hbel)
  all_goals first | (go_ret; exact ⟨rfl, HB.out⟩) | (exfalso; omega)

theorem walk (a0 : Int) (w0 : (Lit.int .i64 a0).wf = true) (w : World) :
    Calls Try.prog 4 #[.int .i64 a0] w fun e w' => e = .returned (.bool true) ∧ Below w.heap.size w w' := by
  by_cases h : a0 < 0 ∨ 30 ≤ a0
  · exact outside a0 h w
  · obtain ⟨s, rfl⟩ := Int.eq_ofNat_of_zero_le (show 0 ≤ a0 by omega)
    exact inside s (by omega) w

/-! ### THE ROW's STEP: WRITTEN OUT: LEAVE IT -/
set_option maxRecDepth 100000 in
theorem lifted (os : Os) (started : os.Started) (H : Type) (enc : TypeId × Value → H) :
    ReturnsInHanded {} Try.checked os 4 .any (Rows.fnExactOffsetSpec.pre6 enc Try.prog Try.f4 Rows.fnExactOffsetRow.domain false) (Rows.fnExactOffsetSpec.post enc Try.prog Try.f4 false true false false) := by
  refine returnsInHanded_of_change (C := Try.checked) own started (by kernel_rfl) Try.func4
    (ChangeSpec.witness6 (enc := enc) (C := Try.checked) false ⟨#[], #[.int .i64 0], []⟩ 8 (by kernel_rfl) (by kernel_rfl) (by kernel_rfl) (by kernel_rfl)) ?_
  intro W base args ds gs before hval0 hW hcnd _
  have hval : ∀ (j : Nat) t v, Try.f4.params[j]? = some t → args[j]? = some v → Value.okWide Try.prog W .any base t v := hval0
  have hW' := hW
  obtain ⟨p, q, hA0, hV, rfl, hfz, hnd⟩ := hW
  have hA : DataW.TrodAll enc Try.prog W 0 (fun _ => true) true Try.f4.params.toList args.toList ds p := hA0
  rw [Try.params4] at hA hval
  obtain ⟨v0, vs0, d0, ds0, p0, q0, hargs, rfl, rfl, h0, r0⟩ := trodAll_cons hA
  obtain ⟨rfl, rfl, rfl⟩ := trodAll_nil r0
  obtain rfl : args = #[v0] := by cases args; simp_all
  obtain ⟨rfl, rfl⟩ := trodVars_none hV
  obtain ⟨a0, rfl, rfl, rfl, w0⟩ := open_int Try.underlying3 (hval 0 3 v0 rfl rfl) h0
  clear hA0 hval0
  simp only [List.append_nil] at hW'
  refine (walk a0 w0 W).mono fun e W' ⟨he, hg⟩ => ?_
  subst he
  exact ⟨_, rfl, _, _, _, [], _, [], hW', trodAll_mk1 (shut_bool Try.underlying4 _), (trodAll_cons_mk (shut_int Try.underlying3 w0) trodAll_mk0), rfl, hg.frame _, fun h => by cases h⟩

theorem over : Rows.fnExactOffsetRow.holds Try.pinned (OpenSpec.ofChange Rows.fnExactOffsetSpec) :=
  OpenClaim.holds_of_wide 4 Try.f4 rfl rfl rfl rfl rfl rfl rfl ⟨rfl, rfl, rfl, rfl, rfl⟩ rfl rfl rfl rfl rfl (by kernel_rfl) Try.func4 (by kernel_rfl)
    (of_decide_eq_true (by kernel_rfl)) (by unfold Func.isWrapper; first | (rw [if_pos (by decide +kernel)]; kernel_rfl) | (rw [if_neg (by decide +kernel)]; exact ⟨rfl, rfl⟩))
    (fun os started H enc _ => lifted os started H enc)

/-- ████ THE STATEMENT ████ -/
theorem proved : Rows.FnExactOffsetSaid :=
  over
#print axioms proved
end Go.Proofs.Ytokbkbchblfcoaa.fnExactOffset

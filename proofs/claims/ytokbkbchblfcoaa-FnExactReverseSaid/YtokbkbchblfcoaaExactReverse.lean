/-
  'FnExactReverse' is proved: ReverseBits turns the lowest bits of a number round, as the reference does.
  No condition: every 16-bit number and every number of bits.
-/
import Derived.Test.YtokbkbchblfcoaaRows
import Derived.Test.YtokbkbchblfcoaaT1
import Derived.WalkKit
import Derived.ProofKit
import Derived.OpenShut
import Derived.ShutString
namespace Go.Proofs.Ytokbkbchblfcoaa.fnExactReverse
open Go.ChangeShapes Go.WideShapes Go.ChangeAt Go.RowKit
open Go.ChangeMaps (open_string shut_string)
set_option linter.unusedVariables false      -- a walk need not use every 'w<i>' (that an integer argument fits its kind)

theorem own : ownKnob Try.prog.godebug = none := by kernel_rfl

theorem and_mask (x n : Nat) (hx : x < 65536) (hn' : n ≤ 16) : bits BinOp.and IntKind.i64 (x : Int) (wrap64 (wrap64 (2 ^ n) - 1)) = ((x % 2 ^ n : Nat) : Int) := by
  have hp : 2 ^ n ≤ 2 ^ 16 := Nat.pow_le_pow_right (by decide) hn'
  have hpos : 0 < 2 ^ n := Nat.two_pow_pos n
  have e : ((2 : Int) ^ n) = ((2 ^ n : Nat) : Int) := by simp
  rw [IntWalk.wrap64_in (2 ^ n) (by rw [e]; omega), IntWalk.wrap64_in (2 ^ n - 1) (by rw [e]; omega)]
  have h := bits_mask .i64 17 (by decide) (fun m h0 h1 => IntWalk.i64_in m (by have : (2 : Int) ^ 17 = 131072 := rfl; omega)) n (by omega) x (by omega) (by have : (2 : Int) ^ 17 = 131072 := rfl; omega)
  rw [h, e, Int.natCast_emod]

set_option maxHeartbeats 1000000 in
theorem inner (x n : Nat) (hx : x < 65536) (hn : 1 ≤ n) (hn' : n ≤ 16) (w : World) :
    Calls Try.prog 3 #[.int .u16 x, .int .u8 n] w fun e w' => e = .returned (.bool true) ∧ Grown w w' := by
  have hA := and_mask x n hx hn'
  have ht : PT.turn x n < 65536 := Nat.lt_of_lt_of_le (PT.turn_lt x n) (Nat.pow_le_pow_right (n := 2) (by decide) hn')
  have htm := PT.turn_mod x n
  have hmod : x % 2 ^ n < 65536 := Nat.lt_of_le_of_lt (Nat.mod_le x (2 ^ n)) hx
  have hT := fun w => turn_any (x % 2 ^ n) n (Nat.lt_of_lt_of_le hmod (by omega)) (by omega) w
  have ec : ((x % 2 ^ n : Nat) : Int) = (x : Int) % 2 ^ n := by simp
  rw [htm, ec] at hT
  rw [ec] at hA
  clear htm hmod ec
  go_enter Try.func3, Try.ntmps3
  go_wp2_with (first | (go_at_call 9; refine (reverse_any x n hn hn' _).mono ?_; rintro e w' ⟨rfl, m, rfl⟩) | (go_at_call 10; refine (hT _).mono ?_; rintro e w' ⟨rfl, rfl⟩))
  go_ret
  refine ⟨by simp, ?_⟩
  induction m with
  | zero => exact Grown.refl _
  | succ m ih => exact Grown.drew ih

set_option maxHeartbeats 1000000 in
theorem outer (a0 a1 : Int) (h : a1 < 1 ∨ 16 < a1) (w : World) :
    Calls Try.prog 3 #[.int .u16 a0, .int .u8 a1] w fun e w' => e = .returned (.bool true) ∧ Grown w w' := by
  rcases h with h | h
  · go_enter Try.func3, Try.ntmps3
    go_wp2
    go_ret
    exact ⟨rfl, Grown.refl _⟩
  · have h' : ¬ a1 < 1 := by omega
    go_enter Try.func3, Try.ntmps3
    go_wp2
    go_ret
    exact ⟨rfl, Grown.refl _⟩

theorem walk (a0 : Int) (a1 : Int) (w0 : (Lit.int .u16 a0).wf = true) (w1 : (Lit.int .u8 a1).wf = true) (w : World) :
    Calls Try.prog 3 #[.int .u16 a0, .int .u8 a1] w fun e w' => e = .returned (.bool true) ∧ Grown w w' := by
  by_cases h : a1 < 1 ∨ 16 < a1
  · exact outer a0 a1 h w
  · have b0 := bounds_u16 w0
    obtain ⟨x, rfl⟩ := Int.eq_ofNat_of_zero_le b0.1
    obtain ⟨n, rfl⟩ := Int.eq_ofNat_of_zero_le (show 0 ≤ a1 by omega)
    exact inner x n (by omega) (by omega) (by omega) w

/-! ### THE ROW's STEP: WRITTEN OUT: LEAVE IT -/
set_option maxRecDepth 100000 in
theorem lifted (os : Os) (started : os.Started) (H : Type) (enc : TypeId × Value → H) :
    ReturnsInHanded {} Try.checked os 3 .any (Rows.fnExactReverseSpec.pre6 enc Try.prog Try.f3 Rows.fnExactReverseRow.domain false) (Rows.fnExactReverseSpec.post enc Try.prog Try.f3 false true false false) := by
  refine returnsInHanded_of_change (C := Try.checked) own started (by kernel_rfl) Try.func3
    (ChangeSpec.witness6 (enc := enc) (C := Try.checked) false ⟨#[], #[.int .u16 0, .int .u8 0], []⟩ 8 (by kernel_rfl) (by kernel_rfl) (by kernel_rfl) (by kernel_rfl)) ?_
  intro W base args ds gs before hval0 hW hcnd _
  have hval : ∀ (j : Nat) t v, Try.f3.params[j]? = some t → args[j]? = some v → Value.okWide Try.prog W .any base t v := hval0
  have hW' := hW
  obtain ⟨p, q, hA0, hV, rfl, hfz, hnd⟩ := hW
  have hA : DataW.TrodAll enc Try.prog W 0 (fun _ => true) true Try.f3.params.toList args.toList ds p := hA0
  rw [Try.params3] at hA hval
  obtain ⟨v0, vs0, d0, ds0, p0, q0, hargs, rfl, rfl, h0, r0⟩ := trodAll_cons hA
  obtain ⟨v1, vs1, d1, ds1, p1, q1, rfl, rfl, rfl, h1, r1⟩ := trodAll_cons r0
  obtain ⟨rfl, rfl, rfl⟩ := trodAll_nil r1
  obtain rfl : args = #[v0, v1] := by cases args; simp_all
  obtain ⟨rfl, rfl⟩ := trodVars_none hV
  obtain ⟨a0, rfl, rfl, rfl, w0⟩ := open_int Try.underlying22 (hval 0 22 v0 rfl rfl) h0
  obtain ⟨a1, rfl, rfl, rfl, w1⟩ := open_int Try.underlying5 (hval 1 5 v1 rfl rfl) h1
  clear hA0 hval0
  simp only [List.append_nil] at hW'
  refine (walk a0 a1 w0 w1 W).mono fun e W' ⟨he, hg⟩ => ?_
  subst he
  exact ⟨_, rfl, post_of_same (pa := []) (pv := []) hW' (fun _ _ _ => (trodAll_cons_mk (shut_bool Try.underlying4 _) trodAll_mk0)) (fun sp _ => (trodAll_cons_mk (shut_int Try.underlying22 w0) (trodAll_cons_mk (shut_int Try.underlying5 w1) trodAll_mk0))) (fun _ _ => rfl) rfl
    (hg.frame _) hg.2.1 (ok_one (by kernel_rfl) rfl (okWide_bool_mk Try.underlying4 _))⟩

theorem over : Rows.fnExactReverseRow.holds Try.pinned (OpenSpec.ofChange Rows.fnExactReverseSpec) :=
  OpenClaim.holds_of_wide 3 Try.f3 rfl rfl rfl rfl rfl rfl rfl ⟨rfl, rfl, rfl, rfl, rfl⟩ rfl rfl rfl rfl rfl (by kernel_rfl) Try.func3 (by kernel_rfl)
    (of_decide_eq_true (by kernel_rfl)) (by unfold Func.isWrapper; first | (rw [if_pos (by decide +kernel)]; kernel_rfl) | (rw [if_neg (by decide +kernel)]; exact ⟨rfl, rfl⟩))
    (fun os started H enc _ => lifted os started H enc)

/-- ████ THE STATEMENT ████ -/
theorem proved : Rows.FnExactReverseSaid :=
  over
#print axioms proved
end Go.Proofs.Ytokbkbchblfcoaa.fnExactReverse

/-
  'FnExactHistogram' is proved: by both ways (the plain one and the one by four quarters) each byte is counted as often as it is there.
  No condition: every list of bytes (of more than 65535 the statement asks nothing).
-/
import Derived.Test.YtokbkbchblfcoaaRows
import Derived.Test.YtokbkbchblfcoaaPHist2
import Derived.Test.YtokbkbchblfcoaaSEqU
import Derived.WalkKit
import Derived.ProofKit
import Derived.OpenShut
import Derived.ShutString
import Derived.ChangeOld
import Derived.Below
namespace Go.Proofs.Ytokbkbchblfcoaa.fnExactHistogram
open Go.ChangeShapes Go.WideShapes Go.ChangeAt Go.RowKit
open Go.ChangeMaps (open_string shut_string)
set_option linter.unusedVariables false

theorem own : ownKnob Try.prog.godebug = none := by kernel_rfl
theorem laidOut : laidOutB Try.prog = true := by kernel_rfl

/-- WHAT THE WALK IS TOLD OF A SLICE OF INTEGERS THAT CAME IN: it is nil; or it leads to a row of 'cap' cells, the numbers 'zs' (the first 'len' are its elements, the rest its spare room), each fitting its kind. -/
def IsRow (k : IntKind) (w : World) (a : Option Addr) (len cap : Nat) (zs : List Int) : Prop :=
  (a = none ∧ len = 0 ∧ cap = 0 ∧ zs = []) ∨
  ∃ x, a = some x ∧ len ≤ cap ∧ cap ≤ maxLen ∧ zs.length = cap ∧ (∀ i, i < zs.length → w.cell? (x.add i) = some (.int k (zs.getD i 0))) ∧ ∀ n ∈ zs, (Lit.int k n).wf = true

theorem eqU_same (v1 v2 : Value) (l : List Nat) (w : World) (h1 : NRow .u16 w v1 l) (h2 : NRow .u16 w v2 l) (hlen : l.length < 4294967296) :
    Calls Try.prog 13 #[v1, v2] w fun e w' => e = .returned (.bool true) ∧ ∃ n, w' = w.drewN n :=
  (equalU_any v1 v2 l l w h1 h2 hlen hlen).mono fun e w' ⟨he, hw⟩ => ⟨by rw [he, decide_eq_true rfl], hw⟩

set_option maxHeartbeats 1000000 in
set_option maxRecDepth 100000 in
theorem small (v : Value) (l : List Nat) (w : World) (hr : NRow .u8 w v l) (hlen : l.length < 65536) (h256 : ∀ x ∈ l, x < 256) :
    Calls Try.prog 5 #[v] w fun e w' => e = .returned (.bool true) ∧ Below w.heap.size w w' := by
  have HR := Lib.hid hr
  have H256 := Lib.hid h256
  obtain ⟨a, cap, rfl, hn1, hn2⟩ := hr
  clear h256 hn1 hn2
  have hc256 : (cnt l).length < 4294967296 := by rw [cnt_len]; omega
  have HC := Lib.hid hc256
  have hd1 : decide ((2147483647 : Int) < (l.length : Int)) = false := decide_eq_false (by omega)
  have hd2 : decide ((65535 : Int) < (l.length : Int)) = false := decide_eq_false (by omega)
  have HL := Lib.hid hlen
  clear hc256 hlen
  go_enter Try.func5, Try.ntmps5
  go_wp2_with (go_at_call 12; refine (count_any _ l _ HR.out HL.out H256.out).mono ?_; rintro e w1 ⟨g, rfl, ho, hb⟩; have HO := Lib.hid ho; have HB := Lib.hid hb; have HN := Lib.hid (NRow.of_owns (cnt_len l).symm ho); clear ho hb)
  go_wp2_with fail
  refine (iHist_any w1 _ l (HR.out.below HB.out) HL.out H256.out).mono ?_
  rintro e w2 ⟨v2, rfl, ho, hb⟩
  have HB2 := Lib.hid (below_up HB.out hb HB.out.size)
  have HN2 := Lib.hid (NRow.of_owns (cnt_len l).symm ho)
  have HW2 := Lib.hid (HN.out.below hb)
  clear ho hb
  go_wp2_with fail
  refine (eqU_same _ _ (cnt l) w2 HN2.out HW2.out HC.out).mono ?_
  rintro e w4 ⟨rfl, m, rfl⟩
  go_wp2_with fail
  refine (iSplit_any (w2.drewN m) _ l ((HR.out.below HB2.out).drewN m) HL.out H256.out).mono ?_
  rintro e w3 ⟨v3, rfl, ho, hb⟩
  have HB3 := Lib.hid (below_up (below_dN HB2.out m) hb HB2.out.size)
  have HN3 := Lib.hid (NRow.of_owns (cnt_len l).symm ho)
  have HW3 := Lib.hid ((HW2.out.drewN m).below hb)
  clear ho hb
  go_wp2_with fail
  refine (eqU_same _ _ (cnt l) w3 HN3.out HW3.out HC.out).mono ?_
  rintro e w4 ⟨rfl, m2, rfl⟩
  go_wp2
  go_ret
  exact ⟨by simp, below_dN HB3.out _⟩

set_option maxHeartbeats 400000 in
theorem large (a : Option Addr) (n cap : Nat) (w : World) (hlen : 65536 ≤ n) :
    Calls Try.prog 5 #[.slice a n cap] w fun e w' => e = .returned (.bool true) ∧ Below w.heap.size w w' := by
  go_enter Try.func5, Try.ntmps5
  go_wp2
  all_goals (go_ret; exact ⟨rfl, Below.refl _ _⟩)

theorem walk (a0 : Option Addr) (len0 cap0 : Nat) (z0 : List Int) (w : World) (w0 : IsRow .u8 w a0 len0 cap0 z0) :
    Calls Try.prog 5 #[.slice a0 len0 cap0] w fun e w' => e = .returned (.bool true) ∧ Below w.heap.size w w' := by
  by_cases h : 65536 ≤ len0
  · exact large a0 len0 cap0 w h
  · obtain ⟨l, hl, hr, hb⟩ := nrow_of (B := 256) (fun n hn => by have := bounds_u8 hn; omega) w0
    exact small _ l w hr (by omega) hb

/-! ### THE ROW's STEP: WRITTEN OUT: LEAVE IT -/
set_option maxRecDepth 100000 in
theorem lifted (os : Os) (started : os.Started) (H : Type) (enc : TypeId × Value → H) :
    ReturnsInHanded {} Try.checked os 5 .any (Rows.fnExactHistogramSpec.pre6 enc Try.prog Try.f5 Rows.fnExactHistogramRow.domain false) (Rows.fnExactHistogramSpec.post enc Try.prog Try.f5 false true false false) := by
  refine returnsInHanded_of_change (C := Try.checked) own started (by kernel_rfl) Try.func5
    (ChangeSpec.witness6 (enc := enc) (C := Try.checked) false ⟨#[], #[.slice none 0 0], []⟩ 8 (by kernel_rfl) (by kernel_rfl) (by kernel_rfl) (by kernel_rfl)) ?_
  intro W base args ds gs before hval0 hW hcnd _
  have hval : ∀ (j : Nat) t v, Try.f5.params[j]? = some t → args[j]? = some v → Value.okWide Try.prog W .any base t v := hval0
  have hW' := hW
  obtain ⟨p, q, hA0, hV, rfl, hfz, hnd⟩ := hW
  have hA : DataW.TrodAll enc Try.prog W 0 (fun _ => true) true Try.f5.params.toList args.toList ds p := hA0
  rw [Try.params5] at hA hval
  obtain ⟨v0, vs0, d0, ds0, p0, q0, hargs, rfl, rfl, h0, r0⟩ := trodAll_cons hA
  obtain ⟨rfl, rfl, rfl⟩ := trodAll_nil r0
  obtain rfl : args = #[v0] := by cases args; simp_all
  obtain ⟨rfl, rfl⟩ := trodVars_none hV
  obtain ⟨a0, len0, cap0, rfl⟩ := okWide_slice Try.underlying30 (hval 0 30 v0 rfl rfl)
  have k0 := h0
  have lt0 : ∀ x ∈ p0, x.block < W.heap.size := by obtain ⟨m, hm⟩ := k0; exact DataW.trod_lt m _ _ _ hm
  obtain ⟨z0, w0⟩ : ∃ zs, IsRow .u8 W a0 len0 cap0 zs := by
    obtain ⟨fuel, hf⟩ := h0
    rcases open_ints Try.underlying30 Try.underlying5 (by kernel_rfl) hf with ⟨hcs, _⟩ | ⟨x, l, c, zs, hcs, _, hl, hm, hz, _, hcell, hwz⟩
    · simp [Value.cells] at hcs
      obtain ⟨rfl, rfl, rfl⟩ := hcs
      exact ⟨[], .inl ⟨rfl, rfl, rfl, rfl⟩⟩
    · simp [Value.cells] at hcs
      obtain ⟨rfl, rfl, rfl⟩ := hcs
      exact ⟨zs, .inr ⟨_, rfl, hl, hm, by simpa using hz, hcell, hwz⟩⟩
  clear hA0 hval0
  refine (walk a0 len0 cap0 z0 W w0).mono fun e W' ⟨he, bel⟩ => ?_
  subst he
  exact ⟨_, rfl, _, _, _, [], _, [], hW', trodAll_mk1 (shut_bool Try.underlying4 _), (trodAll_cons_mk (Below.trod laidOut (by kernel_rfl) (of_decide_eq_true (by kernel_rfl)) k0 bel lt0) trodAll_mk0), rfl, bel.frame _, fun h => by cases h⟩

theorem over : Rows.fnExactHistogramRow.holds Try.pinned (OpenSpec.ofChange Rows.fnExactHistogramSpec) :=
  OpenClaim.holds_of_wide 5 Try.f5 rfl rfl rfl rfl rfl rfl rfl ⟨rfl, rfl, rfl, rfl, rfl⟩ rfl rfl rfl rfl rfl (by kernel_rfl) Try.func5 (by kernel_rfl)
    (of_decide_eq_true (by kernel_rfl)) (by unfold Func.isWrapper; first | (rw [if_pos (by decide +kernel)]; kernel_rfl) | (rw [if_neg (by decide +kernel)]; exact ⟨rfl, rfl⟩))
    (fun os started H enc _ => lifted os started H enc)

/-- ████ THE STATEMENT ████ -/
theorem proved : Rows.FnExactHistogramSaid := over
#print axioms proved
end Go.Proofs.Ytokbkbchblfcoaa.fnExactHistogram

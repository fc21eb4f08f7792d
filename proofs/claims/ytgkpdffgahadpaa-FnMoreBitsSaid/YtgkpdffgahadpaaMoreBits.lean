/-
  'FnMoreBits' is proved: with one bit more allowed, no more bits are needed.
  No condition: every list of frequencies and every number of bits.
-/
import Derived.Test.YtgkpdffgahadpaaRows
import Derived.Test.YtgkpdffgahadpaaBLst
import Derived.Test.YtgkpdffgahadpaaBTot
import Derived.WalkKit
import Derived.ProofKit
import Derived.OpenShut
import Derived.ShutString
import Derived.ChangeOld
import Derived.Below
namespace Go.Proofs.Ytgkpdffgahadpaa.fnMoreBits
open Go.ChangeShapes Go.WideShapes Go.ChangeAt Go.RowKit
open Go.ChangeMaps (open_string shut_string)
set_option linter.unusedVariables false

theorem own : ownKnob Try.prog.godebug = none := by kernel_rfl
theorem laidOut : laidOutB Try.prog = true := by kernel_rfl

/-- WHAT THE WALK IS TOLD OF A SLICE OF INTEGERS THAT CAME IN: it is nil; or it leads to a row of 'cap' cells, the numbers 'zs' (the first 'len' are its elements, the rest its spare room), each fitting its kind. -/
def IsRow (k : IntKind) (w : World) (a : Option Addr) (len cap : Nat) (zs : List Int) : Prop :=
  (a = none ∧ len = 0 ∧ cap = 0 ∧ zs = []) ∨
  ∃ x, a = some x ∧ len ≤ cap ∧ cap ≤ maxLen ∧ zs.length = cap ∧ (∀ i, i < zs.length → w.cell? (x.add i) = some (.int k (zs.getD i 0))) ∧ ∀ n ∈ zs, (Lit.int k n).wf = true

set_option maxHeartbeats 8000000 in
set_option maxRecDepth 100000 in
theorem main (a : Option Addr) (cap : Nat) (f : List Nat) (bits : Int) (w : World) (hr : NRow .u16 w (.slice a f.length cap) f) (h16 : ∀ x ∈ f, x < 65536) (hl : f.length < 2147483648) (hbb : -9223372036854775808 ≤ bits ∧ bits ≤ 9223372036854775807) :
    Calls Try.prog 11 #[.slice a f.length cap, .int .i64 bits] w fun e w' => e = .returned (.bool true) ∧ Below w.heap.size w w' := by
  have d1 : decide ((2147483647 : Int) < (f.length : Int)) = false := decide_eq_false (by omega)
  by_cases hw : 0 < f.length ∧ f.length ≤ 286 ∧ 1 ≤ bits ∧ bits ≤ 15
  · obtain ⟨hw0, hw1, hw2, hw3⟩ := hw
    obtain ⟨b, rfl⟩ := Int.eq_ofNat_of_zero_le (show 0 ≤ bits by omega)
    have hWY := well_yes (.slice a f.length cap) f b w hr hw0 hw1 (by omega) (by omega) h16
    have HR := Lib.hid hr
    have H16 := Lib.hid h16
    by_cases hP : (used f).length ≤ 2 ^ b
    · rw [decide_eq_true hP] at hWY
      have hW : WellF f b := ⟨hw0, hw1, by omega, by omega, h16, hP⟩
      have hG := good hW
      have HWY := Lib.hid hWY
      have HW := Lib.hid hW
      have HG := Lib.hid hG
      have hb15 : b ≤ 15 := by omega
      have hb1' : 1 ≤ b := by omega
      clear hWY hW hG hP hbb hw2 hw3
      by_cases hb14 : b < 15
      · have hT1 := fun W hR => total_any (.slice a f.length cap) (.slice a f.length cap) f f b W hR hR HW.out rfl h16
        have hT2 := fun W hR => total_any (.slice a f.length cap) (.slice a f.length cap) f f (b + 1) W hR hR (HW.out.more hb14) rfl h16
        have e1 : ((b + 1 : Nat) : Int) = (b : Int) + 1 := by push_cast; rfl
        rw [e1, (good (HW.out.more hb14)).cost] at hT2
        rw [HG.out.cost] at hT1
        have HT1 := Lib.hid hT1
        have HT2 := Lib.hid hT2
        have hle := least_le HW.out
        have hge := least_ge (HW.out.more hb14)
        have hbd := dotK_bd (getD_bd h16) (getD_15 fun x hx => Nat.le_trans (HG.out.le x hx) hb15) f.length
        rw [HG.out.cost] at hbd
        have HPOS := Lib.hid (used_pos f)
        have hfl : f.length < 4294967296 := by omega
        have hul := used_le f
        have d3 : decide ((15 : Int) ≤ (b : Int)) = false := decide_eq_false (by omega)
        have HSUM : Hid (∀ v W, NRow .i64 W v (used f) → Calls Try.prog 27 #[v] W fun e w' => e = .returned (.int .i64 ((used f).sum : Nat)) ∧ W = w') := Lib.hid fun v W hR => sum_any v (used f) W hR (by omega) (by omega)
        have HEMP : Hid (PM.least (used f) (b + 1) = 0 → (used f).length = 0) := Lib.hid fun h0 => by
          have hs0 : (used f).sum = 0 := by omega
          match hu : used f, hs0 with
          | [], _ => rfl
          | x :: r, hs0 =>
            have := used_pos f x (by rw [hu]; simp)
            simp at hs0; omega
        clear hT1 hT2 e1 hr h16 hul
        generalize PM.least (used f) b = N at *
        generalize PM.least (used f) (b + 1) = M at *
        have hMN : M ≤ N := hle
        have hM : M ≤ 286000000 := by omega
        have hN : N ≤ 286000000 := by omega
        have HGE := Lib.hid hge
        clear hle hge hbd
        go_enter Try.func11, Try.ntmps11
        go_wp2_with fail
        refine HWY.out.mono ?_
        rintro e w1 ⟨rfl, hb1⟩
        have HR1 := Lib.hid (HR.out.below hb1)
        have HB1 := Lib.hid hb1
        clear hb1
        go_wp2_with fail
        refine (HT1.out w1 HR1.out).mono ?_
        rintro e w2 ⟨rfl, hb2⟩
        have HR2 := Lib.hid (HR1.out.below hb2)
        have HB2 := Lib.hid (below_up HB1.out hb2 HB1.out.size)
        clear hb2
        go_wp2_with fail
        refine (HT2.out w2 HR2.out).mono ?_
        rintro e w3 ⟨rfl, hb3⟩
        have HR3 := Lib.hid (HR2.out.below hb3)
        have HB3 := Lib.hid (below_up HB2.out hb3 HB2.out.size)
        clear hb3 HT1 HT2
        by_cases hM0 : 0 < M
        · clear HEMP
          go_wp2_with fail
          refine (used_any _ f w3 HR3.out hfl H16.out).mono ?_
          rintro e w4 ⟨v4, rfl, ho4, hb4⟩
          have HN4 := Lib.hid (NRow.of_owns rfl ho4)
          have HB4 := Lib.hid (below_up HB3.out hb4 HB3.out.size)
          clear ho4 hb4
          go_wp2_with fail
          refine (HSUM.out v4 w4 HN4.out).mono ?_
          rintro e w5 ⟨rfl, rfl⟩
          go_wp2
          go_ret
          exact ⟨ret_bool (by have := HGE.out; simp; omega), HB4.out⟩
        · have hM1 : M = 0 := by omega
          have hu0 := HEMP.out hM1
          subst hM1
          clear HEMP hM0
          go_wp2_with fail
          refine (used_any _ f w3 HR3.out hfl H16.out).mono ?_
          rintro e w4 ⟨v4, rfl, ho4, hb4⟩
          obtain ⟨a4, c4, rfl⟩ := owns_shape ho4
          have HR4 := Lib.hid (HR3.out.below hb4)
          have HB4 := Lib.hid (below_up HB3.out hb4 HB3.out.size)
          clear ho4 hb4
          go_wp2_with fail
          refine (used_any _ f w4 HR4.out hfl H16.out).mono ?_
          rintro e w5 ⟨v5, rfl, ho5, hb5⟩
          have HN5 := Lib.hid (NRow.of_owns rfl ho5)
          have HB5 := Lib.hid (below_up HB4.out hb5 HB4.out.size)
          clear ho5 hb5
          go_wp2_with fail
          refine (HSUM.out v5 w5 HN5.out).mono ?_
          rintro e w6 ⟨rfl, rfl⟩
          go_wp2
          go_ret
          exact ⟨ret_bool (by have := HGE.out; simp; omega), HB5.out⟩
      · have d3 : decide ((15 : Int) ≤ (b : Int)) = true := decide_eq_true (by omega)
        clear hb14 hr h16
        go_enter Try.func11, Try.ntmps11
        go_wp2_with fail
        refine HWY.out.mono ?_
        rintro e w1 ⟨rfl, hb1⟩
        have HR1 := Lib.hid (HR.out.below hb1)
        have HB1 := Lib.hid hb1
        clear hb1
        go_wp2
        go_ret
        exact ⟨rfl, HB1.out⟩
    · rw [decide_eq_false hP] at hWY
      have HWY := Lib.hid hWY
      clear hWY hP hr h16 hbb hw2 hw3
      go_enter Try.func11, Try.ntmps11
      go_wp2_with fail
      refine HWY.out.mono ?_
      rintro e w1 ⟨rfl, hb1⟩
      have HB1 := Lib.hid hb1
      clear hb1
      go_wp2
      go_ret
      exact ⟨rfl, HB1.out⟩
  · have HWN := Lib.hid (well_no a f.length cap bits w hw hbb)
    clear hr h16 hbb hw
    go_enter Try.func11, Try.ntmps11
    go_wp2_with fail
    refine HWN.out.mono ?_
    rintro e w1 ⟨rfl, m, rfl⟩
    go_wp2
    go_ret
    exact ⟨rfl, below_dN (Below.refl _ _) m⟩

theorem long (a : Option Addr) (n c : Nat) (s : Int) (w : World) (h : 2147483648 ≤ n) : Calls Try.prog 11 #[.slice a n c, .int .i64 s] w fun e w' => e = .returned (.bool true) ∧ Below w.heap.size w w' := by
  have d1 : decide ((2147483647 : Int) < (n : Int)) = true := decide_eq_true (by omega)
  clear h
  go_enter Try.func11, Try.ntmps11
  go_wp2
  go_ret
  exact ⟨rfl, Below.refl _ _⟩

theorem walk (a0 : Option Addr) (len0 cap0 : Nat) (z0 : List Int) (a1 : Int) (w : World) (w0 : IsRow .u16 w a0 len0 cap0 z0) (w1 : (Lit.int .i64 a1).wf = true) :
    Calls Try.prog 11 #[.slice a0 len0 cap0, .int .i64 a1] w fun e w' => e = .returned (.bool true) ∧ Below w.heap.size w w' := by
  by_cases h0 : 2147483648 ≤ len0
  · exact long a0 len0 cap0 a1 w h0
  obtain ⟨l, hl, hn, hb⟩ := nrow_of (B := 65536) (fun n hn => by have := bounds_u16 hn; omega) w0
  have hbb := bounds_i64 w1
  subst hl
  exact main a0 cap0 l a1 w hn hb (by omega) (by omega)

/-! ### THE ROW's STEP: WRITTEN OUT: LEAVE IT -/
set_option maxRecDepth 100000 in
theorem lifted (os : Os) (started : os.Started) (H : Type) (enc : TypeId × Value → H) :
    ReturnsInHanded {} Try.checked os 11 .any (Rows.fnMoreBitsSpec.pre6 enc Try.prog Try.f11 Rows.fnMoreBitsRow.domain false) (Rows.fnMoreBitsSpec.post enc Try.prog Try.f11 false true false false) := by
  refine returnsInHanded_of_change (C := Try.checked) own started (by kernel_rfl) Try.func11
    (ChangeSpec.witness6 (enc := enc) (C := Try.checked) false ⟨#[], #[.slice none 0 0, .int .i64 0], []⟩ 8 (by kernel_rfl) (by kernel_rfl) (by kernel_rfl) (by kernel_rfl)) ?_
  intro W base args ds gs before hval0 hW hcnd _
  have hval : ∀ (j : Nat) t v, Try.f11.params[j]? = some t → args[j]? = some v → Value.okWide Try.prog W .any base t v := hval0
  have hW' := hW
  obtain ⟨p, q, hA0, hV, rfl, hfz, hnd⟩ := hW
  have hA : DataW.TrodAll enc Try.prog W 0 (fun _ => true) true Try.f11.params.toList args.toList ds p := hA0
  rw [Try.params11] at hA hval
  obtain ⟨v0, vs0, d0, ds0, p0, q0, hargs, rfl, rfl, h0, r0⟩ := trodAll_cons hA
  obtain ⟨v1, vs1, d1, ds1, p1, q1, rfl, rfl, rfl, h1, r1⟩ := trodAll_cons r0
  obtain ⟨rfl, rfl, rfl⟩ := trodAll_nil r1
  obtain rfl : args = #[v0, v1] := by cases args; simp_all
  obtain ⟨rfl, rfl⟩ := trodVars_none hV
  obtain ⟨a0, len0, cap0, rfl⟩ := okWide_slice Try.underlying22 (hval 0 22 v0 rfl rfl)
  have k0 := h0
  have lt0 : ∀ x ∈ p0, x.block < W.heap.size := by obtain ⟨m, hm⟩ := k0; exact DataW.trod_lt m _ _ _ hm
  obtain ⟨z0, w0⟩ : ∃ zs, IsRow .u16 W a0 len0 cap0 zs := by
    obtain ⟨fuel, hf⟩ := h0
    rcases open_ints Try.underlying22 Try.underlying29 (by kernel_rfl) hf with ⟨hcs, _⟩ | ⟨x, l, c, zs, hcs, _, hl, hm, hz, _, hcell, hwz⟩
    · simp [Value.cells] at hcs
      obtain ⟨rfl, rfl, rfl⟩ := hcs
      exact ⟨[], .inl ⟨rfl, rfl, rfl, rfl⟩⟩
    · simp [Value.cells] at hcs
      obtain ⟨rfl, rfl, rfl⟩ := hcs
      exact ⟨zs, .inr ⟨_, rfl, hl, hm, by simpa using hz, hcell, hwz⟩⟩
  obtain ⟨a1, rfl, rfl, rfl, w1⟩ := open_int Try.underlying3 (hval 1 3 v1 rfl rfl) h1
  clear hA0 hval0
  refine (walk a0 len0 cap0 z0 a1 W w0 w1).mono fun e W' ⟨he, bel⟩ => ?_
  subst he
  exact ⟨_, rfl, _, _, _, [], _, [], hW', trodAll_mk1 (shut_bool Try.underlying4 _), (trodAll_cons_mk (Below.trod laidOut (by kernel_rfl) (of_decide_eq_true (by kernel_rfl)) k0 bel lt0) (trodAll_cons_mk (shut_int Try.underlying3 w1) trodAll_mk0)), rfl, bel.frame _, fun h => by cases h⟩

theorem over : Rows.fnMoreBitsRow.holds Try.pinned (OpenSpec.ofChange Rows.fnMoreBitsSpec) :=
  OpenClaim.holds_of_wide 11 Try.f11 rfl rfl rfl rfl rfl rfl rfl ⟨rfl, rfl, rfl, rfl, rfl⟩ rfl rfl rfl rfl rfl (by kernel_rfl) Try.func11 (by kernel_rfl)
    (of_decide_eq_true (by kernel_rfl)) (by unfold Func.isWrapper; first | (rw [if_pos (by decide +kernel)]; kernel_rfl) | (rw [if_neg (by decide +kernel)]; exact ⟨rfl, rfl⟩))
    (fun os started H enc _ => lifted os started H enc)

/-- ████ THE STATEMENT ████ -/
theorem proved : Rows.FnMoreBitsSaid := over
#print axioms proved
end Go.Proofs.Ytgkpdffgahadpaa.fnMoreBits

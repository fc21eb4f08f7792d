/-
  'FnExactCodes' is proved: the codes are those of their lengths by the RFC, with their bits in the other order.
  No condition: every list of frequencies and every number of bits.
-/
import Derived.Test.YtgkpdffgahadpaaRows
import Derived.Test.YtgkpdffgahadpaaBLst
import Derived.Test.YtgkpdffgahadpaaBRead
import Derived.WalkKit
import Derived.ProofKit
import Derived.OpenShut
import Derived.ShutString
import Derived.ChangeOld
import Derived.Below
namespace Go.Proofs.Ytgkpdffgahadpaa.fnExactCodes
open Go.ChangeShapes Go.WideShapes Go.ChangeAt Go.RowKit
open Go.ChangeMaps (open_string shut_string)
set_option linter.unusedVariables false

theorem own : ownKnob Try.prog.godebug = none := by kernel_rfl
theorem laidOut : laidOutB Try.prog = true := by kernel_rfl

/-- WHAT THE WALK IS TOLD OF A SLICE OF INTEGERS THAT CAME IN: it is nil; or it leads to a row of 'cap' cells, the numbers 'zs' (the first 'len' are its elements, the rest its spare room), each fitting its kind. -/
def IsRow (k : IntKind) (w : World) (a : Option Addr) (len cap : Nat) (zs : List Int) : Prop :=
  (a = none ∧ len = 0 ∧ cap = 0 ∧ zs = []) ∨
  ∃ x, a = some x ∧ len ≤ cap ∧ cap ≤ maxLen ∧ zs.length = cap ∧ (∀ i, i < zs.length → w.cell? (x.add i) = some (.int k (zs.getD i 0))) ∧ ∀ n ∈ zs, (Lit.int k n).wf = true

set_option maxHeartbeats 8000000 in
set_option maxRecDepth 100000 in
theorem main (a : Option Addr) (cap : Nat) (f : List Nat) (bits : Int) (w : World) (hr : NRow .u16 w (.slice a f.length cap) f) (h16 : ∀ x ∈ f, x < 65536) (hl : f.length < 2147483648) (hbb : -9223372036854775808 ≤ bits ∧ bits ≤ 9223372036854775807) :
    Calls Try.prog 3 #[.slice a f.length cap, .int .i64 bits] w fun e w' => e = .returned (.bool true) ∧ Below w.heap.size w w' := by
  have d1 : decide ((2147483647 : Int) < (f.length : Int)) = false := decide_eq_false (by omega)
  by_cases hw : 0 < f.length ∧ f.length ≤ 286 ∧ 1 ≤ bits ∧ bits ≤ 15
  · obtain ⟨hw0, hw1, hw2, hw3⟩ := hw
    obtain ⟨b, rfl⟩ := Int.eq_ofNat_of_zero_le (show 0 ≤ bits by omega)
    have hWY := well_yes (.slice a f.length cap) f b w hr hw0 hw1 (by omega) (by omega) h16
    have HR := Lib.hid hr
    have H16 := Lib.hid h16
    by_cases hP : (used f).length ≤ 2 ^ b
    · rw [decide_eq_true hP] at hWY
      have hW : WellF f b := ⟨hw0, hw1, by omega, by omega, h16, hP⟩
      have hG := good hW
      have HWY := Lib.hid hWY
      have HW := Lib.hid hW
      have HG := Lib.hid hG
      have hb15 : b ≤ 15 := by omega
      have hb1' : 1 ≤ b := by omega
      clear hWY hW hG hP hbb hw2 hw3
      obtain ⟨bk, o, rfl, hbl, hcc⟩ := nrow_slice hr hw0
      have HFC := Lib.hid hcc
      have HBB := Lib.hid (getD_bd h16)
      have HL15 := Lib.hid (getD_15 fun x hx => Nat.le_trans (HG.out.le x hx) hb15)
      clear hcc
      clear hr h16
      by_cases h2 : 2 ≤ (used f).length
      · have d2 : decide (((used f).length : Int) < 2) = false := decide_eq_false (by omega)
        have H2 := Lib.hid h2
        clear h2
        go_enter Try.func3, Try.ntmps3
        go_wp2_with fail
        refine HWY.out.mono ?_
        rintro e w1 ⟨rfl, hb1⟩
        have HR1 := Lib.hid (HR.out.below hb1)
        have HB1 := Lib.hid hb1
        clear hb1
        go_wp2_with fail
        refine (used_any _ f w1 HR1.out (by omega) H16.out).mono ?_
        rintro e w2 ⟨v2, rfl, ho2, hb2⟩
        obtain ⟨a2, c2, rfl⟩ := owns_shape ho2
        have HR2 := Lib.hid (HR1.out.below hb2)
        have HB2 := Lib.hid (below_up HB1.out hb2 HB1.out.size)
        clear ho2 hb2
        go_wp2_with fail
        refine (codes_any _ f b w2 HR2.out HW.out).mono ?_
        rintro e w3 ⟨vc, vl, rfl, hoc, hol, hbj⟩
        obtain ⟨gc, cc, rfl⟩ := owns_slice hoc hw0
        obtain ⟨gl, cl, rfl⟩ := owns_slice hol hw0
        have HB3 := Lib.hid (below_up HB2.out hbj HB2.out.size)
        have HR3 := Lib.hid (HR2.out.below hbj)
        have HNL := Lib.hid (NRow.of_owns HG.out.len.symm hol)
        have HNC := Lib.hid (NRow.of_owns (by rw [bitsG_len]; exact HG.out.len.symm) hoc)
        have HCL := Lib.hid (owns_cells hol HG.out.len.symm (Below.refl _ _))
        have HCC := Lib.hid (owns_cells hoc (by rw [bitsG_len]; exact HG.out.len.symm) (Below.refl _ _))
        clear hoc hol hbj
        have hfl : f.length < 65536 := by omega
        go_wp2_with fail
        refine (canon_any _ (lensG f b) w3 HNL.out (by rw [HG.out.len]; exact hfl) (fun x hx => Nat.le_trans (HG.out.le x hx) hb15)).mono ?_
        rintro e w4 ⟨v4, rfl, ho4, hb4⟩
        rw [HG.out.len] at ho4
        obtain ⟨g4, c4, rfl⟩ := owns_slice ho4 hw0
        have HB4 := Lib.hid (below_up HB3.out hb4 HB3.out.size)
        have HC4 : Hid (∀ i, i < f.length → w4.cell? ⟨g4, i, none⟩ = some (.int .i64 (canonAt (lensG f b) i : Nat))) := Lib.hid fun i hi => by
          rw [owns_cell ho4 i hi (by rw [canonL_len]; exact HG.out.len.symm), canonL_get, if_pos (by rw [HG.out.len]; exact hi)]
        have HCL4 : Hid (∀ i, i < f.length → w4.cell? ⟨gl, i, none⟩ = _) := Lib.hid fun i hi => (hb4.cell (p := ⟨gl, i, none⟩) (World.block_lt_of_cell? _ _ (HCL.out i hi))).trans (HCL.out i hi)
        have HCC4 : Hid (∀ i, i < f.length → w4.cell? ⟨gc, i, none⟩ = _) := Lib.hid fun i hi => (hb4.cell (p := ⟨gc, i, none⟩) (World.block_lt_of_cell? _ _ (HCC.out i hi))).trans (HCC.out i hi)
        have HFU := Lib.hid (genH_full fun x hx => Nat.le_trans (HG.out.le x hx) hb15)
        have HCP := Lib.hid (fun i hi => canonAt_pow (L := lensG f b) (by rw [HG.out.kraft H2.out]; exact Nat.le_refl _) (fun x hx => Nat.le_trans (HG.out.le x hx) hb15) i hi)
        clear ho4 hb4
        go_wp2
        go_loopw [7, 8, 43] (fun _ _ ii wr => ∃ i q : Nat, i ≤ f.length ∧ ii = .int .i64 (i : Nat) ∧ wr = w4.drewN q) (fun _ _ ii _ => f.length - (intOf ii).toNat)
        case atStart => exact ⟨0, 0, Nat.zero_le _, rfl, rfl⟩
        case round =>
          obtain ⟨i, q, hi, rfl, rfl⟩ := hrel
          by_cases hlt : i < f.length
          · have hcf : (w4.drewN q).cell? ⟨bk, o + i, none⟩ = _ := (HB4.out.cell (p := ⟨bk, o + i, none⟩) hbl).trans (HFC.out i hlt)
            have k1 : (w4.drewN q).cell? ⟨gc, i, none⟩ = _ := HCC4.out i hlt
            have k3 : (w4.drewN q).cell? ⟨gl, i, none⟩ = _ := HCL4.out i hlt
            have k4 : (w4.drewN q).cell? ⟨g4, i, none⟩ = _ := HC4.out i hlt
            have hx16 := HBB.out i
            have hl15 := HL15.out i
            have hpos := HG.out.pos i hlt
            by_cases hp : 0 < f.getD i 0
            · have hlp := hpos.2 hp
              have hb := HFU.out.2 i (by rw [HG.out.len]; exact hlt) hlp
              have hcp := HCP.out i (by rw [HG.out.len]; exact hlt)
              have hp2 : 2 ^ (lensG f b).getD i 0 ≤ 32768 := Nat.le_trans (Nat.pow_le_pow_right (by omega) hl15) (by decide)
              have hcb : canonAt (lensG f b) i < 32768 := by omega
              have hb' : (bitsG (lensG f b)).getD i 0 = PT.turn (canonAt (lensG f b) i) ((lensG f b).getD i 0) := hb
              rw [hb'] at k1
              have HTN := Lib.hid (fun W => turn_any (canonAt (lensG f b) i) ((lensG f b).getD i 0) (by omega) (by omega) W)
              clear hb hb' hcp hp2 hpos
              generalize PT.turn (canonAt (lensG f b) i) ((lensG f b).getD i 0) = tv at *
              generalize canonAt (lensG f b) i = cv at *
              generalize (lensG f b).getD i 0 = lv at *
              generalize f.getD i 0 = x at *
              have hnt : ((tv : Int) != (tv : Int)) = false := by simp
              generalize hwd : World.drewN w4 q = wd at *
              have HWD := Lib.hid hwd
              clear hwd
              go_upto_region 11 with (fail)
              go_quiet (first | (go_at_call 19; exact Calls.quiet_of_same (HTN.out _)))
              go_wp2
              go_roundw
              case rel => exact ⟨i + 1, q + nq, by omega, by go_num, by rw [← HWD.out, drewN_add]⟩
              case measure => simp [intOf]; omega
            · have h0 : f.getD i 0 = 0 := by omega
              rw [h0] at hcf
              have hcf : (w4.drewN q).cell? ⟨bk, o + i, none⟩ = some (.int .u16 0) := hcf
              clear hpos hp h0 hx16 hl15
              generalize (bitsG (lensG f b)).getD i 0 = tv at *
              generalize canonAt (lensG f b) i = cv at *
              generalize (lensG f b).getD i 0 = lv at *
              generalize hwd : World.drewN w4 q = wd at *
              have HWD := Lib.hid hwd
              clear hwd
              go_upto_region 11 with (fail)
              go_quiet (fail)
              go_wp2
              go_roundw
              case rel => exact ⟨i + 1, q + nq, by omega, by go_num, by rw [← HWD.out, drewN_add]⟩
              case measure => simp [intOf]; omega
          · have hil : i = f.length := by omega
            subst hil
            go_wp2
            go_ret
            exact ⟨rfl, below_dN HB4.out q⟩
      · have d2 : decide (((used f).length : Int) < 2) = true := decide_eq_true (by omega)
        clear h2
        go_enter Try.func3, Try.ntmps3
        go_wp2_with fail
        refine HWY.out.mono ?_
        rintro e w1 ⟨rfl, hb1⟩
        have HR1 := Lib.hid (HR.out.below hb1)
        have HB1 := Lib.hid hb1
        clear hb1
        go_wp2_with fail
        refine (used_any _ f w1 HR1.out (by omega) H16.out).mono ?_
        rintro e w2 ⟨v2, rfl, ho2, hb2⟩
        obtain ⟨a2, c2, rfl⟩ := owns_shape ho2
        have HR2 := Lib.hid (HR1.out.below hb2)
        have HB2 := Lib.hid (below_up HB1.out hb2 HB1.out.size)
        clear ho2 hb2
        go_wp2
        go_ret
        exact ⟨rfl, HB2.out⟩
    · rw [decide_eq_false hP] at hWY
      have HWY := Lib.hid hWY
      clear hWY hP hr h16 hbb hw2 hw3
      go_enter Try.func3, Try.ntmps3
      go_wp2_with fail
      refine HWY.out.mono ?_
      rintro e w1 ⟨rfl, hb1⟩
      have HB1 := Lib.hid hb1
      clear hb1
      go_wp2
      go_ret
      exact ⟨rfl, HB1.out⟩
  · have HWN := Lib.hid (well_no a f.length cap bits w hw hbb)
    clear hr h16 hbb hw
    go_enter Try.func3, Try.ntmps3
    go_wp2_with fail
    refine HWN.out.mono ?_
    rintro e w1 ⟨rfl, m, rfl⟩
    go_wp2
    go_ret
    exact ⟨rfl, below_dN (Below.refl _ _) m⟩

theorem long (a : Option Addr) (n c : Nat) (s : Int) (w : World) (h : 2147483648 ≤ n) : Calls Try.prog 3 #[.slice a n c, .int .i64 s] w fun e w' => e = .returned (.bool true) ∧ Below w.heap.size w w' := by
  have d1 : decide ((2147483647 : Int) < (n : Int)) = true := decide_eq_true (by omega)
  clear h
  go_enter Try.func3, Try.ntmps3
  go_wp2
  go_ret
  exact ⟨rfl, Below.refl _ _⟩

theorem walk (a0 : Option Addr) (len0 cap0 : Nat) (z0 : List Int) (a1 : Int) (w : World) (w0 : IsRow .u16 w a0 len0 cap0 z0) (w1 : (Lit.int .i64 a1).wf = true) :
    Calls Try.prog 3 #[.slice a0 len0 cap0, .int .i64 a1] w fun e w' => e = .returned (.bool true) ∧ Below w.heap.size w w' := by
  by_cases h0 : 2147483648 ≤ len0
  · exact long a0 len0 cap0 a1 w h0
  obtain ⟨l, hl, hn, hb⟩ := nrow_of (B := 65536) (fun n hn => by have := bounds_u16 hn; omega) w0
  have hbb := bounds_i64 w1
  subst hl
  exact main a0 cap0 l a1 w hn hb (by omega) (by omega)

/-! ### THE ROW's STEP: WRITTEN OUT: LEAVE IT -/
set_option maxRecDepth 100000 in
theorem lifted (os : Os) (started : os.Started) (H : Type) (enc : TypeId × Value → H) :
    ReturnsInHanded {} Try.checked os 3 .any (Rows.fnExactCodesSpec.pre6 enc Try.prog Try.f3 Rows.fnExactCodesRow.domain false) (Rows.fnExactCodesSpec.post enc Try.prog Try.f3 false true false false) := by
  refine returnsInHanded_of_change (C := Try.checked) own started (by kernel_rfl) Try.func3
    (ChangeSpec.witness6 (enc := enc) (C := Try.checked) false ⟨#[], #[.slice none 0 0, .int .i64 0], []⟩ 8 (by kernel_rfl) (by kernel_rfl) (by kernel_rfl) (by kernel_rfl)) ?_
  intro W base args ds gs before hval0 hW hcnd _
  have hval : ∀ (j : Nat) t v, Try.f3.params[j]? = some t → args[j]? = some v → Value.okWide Try.prog W .any base t v := hval0
  have hW' := hW
  obtain ⟨p, q, hA0, hV, rfl, hfz, hnd⟩ := hW
  have hA : DataW.TrodAll enc Try.prog W 0 (fun _ => true) true Try.f3.params.toList args.toList ds p := hA0
  rw [Try.params3] at hA hval
  obtain ⟨v0, vs0, d0, ds0, p0, q0, hargs, rfl, rfl, h0, r0⟩ := trodAll_cons hA
  obtain ⟨v1, vs1, d1, ds1, p1, q1, rfl, rfl, rfl, h1, r1⟩ := trodAll_cons r0
  obtain ⟨rfl, rfl, rfl⟩ := trodAll_nil r1
  obtain rfl : args = #[v0, v1] := by cases args; simp_all
  obtain ⟨rfl, rfl⟩ := trodVars_none hV
  obtain ⟨a0, len0, cap0, rfl⟩ := okWide_slice Try.underlying22 (hval 0 22 v0 rfl rfl)
  have k0 := h0
  have lt0 : ∀ x ∈ p0, x.block < W.heap.size := by obtain ⟨m, hm⟩ := k0; exact DataW.trod_lt m _ _ _ hm
  obtain ⟨z0, w0⟩ : ∃ zs, IsRow .u16 W a0 len0 cap0 zs := by
    obtain ⟨fuel, hf⟩ := h0
    rcases open_ints Try.underlying22 Try.underlying29 (by kernel_rfl) hf with ⟨hcs, _⟩ | ⟨x, l, c, zs, hcs, _, hl, hm, hz, _, hcell, hwz⟩
    · simp [Value.cells] at hcs
      obtain ⟨rfl, rfl, rfl⟩ := hcs
      exact ⟨[], .inl ⟨rfl, rfl, rfl, rfl⟩⟩
    · simp [Value.cells] at hcs
      obtain ⟨rfl, rfl, rfl⟩ := hcs
      exact ⟨zs, .inr ⟨_, rfl, hl, hm, by simpa using hz, hcell, hwz⟩⟩
  obtain ⟨a1, rfl, rfl, rfl, w1⟩ := open_int Try.underlying3 (hval 1 3 v1 rfl rfl) h1
  clear hA0 hval0
  refine (walk a0 len0 cap0 z0 a1 W w0 w1).mono fun e W' ⟨he, bel⟩ => ?_
  subst he
  exact ⟨_, rfl, _, _, _, [], _, [], hW', trodAll_mk1 (shut_bool Try.underlying4 _), (trodAll_cons_mk (Below.trod laidOut (by kernel_rfl) (of_decide_eq_true (by kernel_rfl)) k0 bel lt0) (trodAll_cons_mk (shut_int Try.underlying3 w1) trodAll_mk0)), rfl, bel.frame _, fun h => by cases h⟩

theorem over : Rows.fnExactCodesRow.holds Try.pinned (OpenSpec.ofChange Rows.fnExactCodesSpec) :=
  OpenClaim.holds_of_wide 3 Try.f3 rfl rfl rfl rfl rfl rfl rfl ⟨rfl, rfl, rfl, rfl, rfl⟩ rfl rfl rfl rfl rfl (by kernel_rfl) Try.func3 (by kernel_rfl)
    (of_decide_eq_true (by kernel_rfl)) (by unfold Func.isWrapper; first | (rw [if_pos (by decide +kernel)]; kernel_rfl) | (rw [if_neg (by decide +kernel)]; exact ⟨rfl, rfl⟩))
    (fun os started H enc _ => lifted os started H enc)

/-- ████ THE STATEMENT ████ -/
theorem proved : Rows.FnExactCodesSaid := over
#print axioms proved
end Go.Proofs.Ytgkpdffgahadpaa.fnExactCodes

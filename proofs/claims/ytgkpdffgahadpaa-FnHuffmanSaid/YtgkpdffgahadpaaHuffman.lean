/-
  'FnHuffman' is proved: with room for the longest code, the bits are those of Huffman's own way.
  No condition: every list of frequencies and every number of bits.
-/
import Derived.Test.YtgkpdffgahadpaaRows
import Derived.Test.YtgkpdffgahadpaaBLst
import Derived.WalkKit
import Derived.ProofKit
import Derived.OpenShut
import Derived.ShutString
import Derived.ChangeOld
import Derived.Below
namespace Go.Proofs.Ytgkpdffgahadpaa.fnHuffman
open Go.ChangeShapes Go.WideShapes Go.ChangeAt Go.RowKit
open Go.ChangeMaps (open_string shut_string)
set_option linter.unusedVariables false

theorem own : ownKnob Try.prog.godebug = none := by kernel_rfl
theorem laidOut : laidOutB Try.prog = true := by kernel_rfl

/-- WHAT THE WALK IS TOLD OF A SLICE OF INTEGERS THAT CAME IN: it is nil; or it leads to a row of 'cap' cells, the numbers 'zs' (the first 'len' are its elements, the rest its spare room), each fitting its kind. -/
def IsRow (k : IntKind) (w : World) (a : Option Addr) (len cap : Nat) (zs : List Int) : Prop :=
  (a = none ∧ len = 0 ∧ cap = 0 ∧ zs = []) ∨
  ∃ x, a = some x ∧ len ≤ cap ∧ cap ≤ maxLen ∧ zs.length = cap ∧ (∀ i, i < zs.length → w.cell? (x.add i) = some (.int k (zs.getD i 0))) ∧ ∀ n ∈ zs, (Lit.int k n).wf = true

set_option maxHeartbeats 8000000 in
set_option maxRecDepth 100000 in
theorem main (a : Option Addr) (cap : Nat) (f : List Nat) (bits : Int) (w : World) (hr : NRow .u16 w (.slice a f.length cap) f) (h16 : ∀ x ∈ f, x < 65536) (hl : f.length < 2147483648) (hbb : -9223372036854775808 ≤ bits ∧ bits ≤ 9223372036854775807) :
    Calls Try.prog 8 #[.slice a f.length cap, .int .i64 bits] w fun e w' => e = .returned (.bool true) ∧ Below w.heap.size w w' := by
  have d1 : decide ((2147483647 : Int) < (f.length : Int)) = false := decide_eq_false (by omega)
  have HU := Lib.hid (used_any (.slice a f.length cap) f w hr (by omega) h16)
  have HR := Lib.hid hr
  have H16 := Lib.hid h16
  by_cases hw : 0 < f.length ∧ f.length ≤ 286 ∧ 1 ≤ bits ∧ bits ≤ 15
  · obtain ⟨hw0, hw1, hw2, hw3⟩ := hw
    obtain ⟨b, rfl⟩ := Int.eq_ofNat_of_zero_le (show 0 ≤ bits by omega)
    have hb15 : b ≤ 15 := by omega
    have hb1' : 1 ≤ b := by omega
    by_cases hP : (used f).length ≤ 2 ^ b
    · have hW : WellF f b := ⟨hw0, hw1, by omega, by omega, h16, hP⟩
      have hG := good hW
      have HW := Lib.hid hW
      have HG := Lib.hid hG
      have HP := Lib.hid hP
      clear hW hG hP hbb hw2 hw3
      obtain ⟨bk, o, rfl, hbl, hcc⟩ := nrow_slice hr hw0
      have HFC := Lib.hid hcc
      have HBB := Lib.hid (getD_bd h16)
      have HL15 := Lib.hid (getD_15 fun x hx => Nat.le_trans (HG.out.le x hx) hb15)
      clear hr h16 hcc
      have hnu : (used f).length ≤ 286 := Nat.le_trans (used_le f) hw1
      by_cases h1 : (used f).length < 1
      · have d3 : decide (((used f).length : Int) < 1) = true := decide_eq_true (by omega)
        clear h1
        go_enter Try.func8, Try.ntmps8
        go_wp2_with fail
        refine HU.out.mono ?_
        rintro e w1 ⟨v1, rfl, ho1, hb1⟩
        have HN1 := Lib.hid (NRow.of_owns rfl ho1)
        obtain ⟨a1, c1, rfl⟩ := owns_shape ho1
        have HR1 := Lib.hid (HR.out.below hb1)
        have HB1 := Lib.hid hb1
        clear ho1 hb1
        go_wp2_with fail
        refine (well_yes _ f b w1 HR1.out hw0 hw1 hb1' hb15 H16.out).mono ?_
        rintro e w2 ⟨rfl, hb2⟩
        rw [decide_eq_true HP.out]
        have HR2 := Lib.hid (HR1.out.below hb2)
        have HB2 := Lib.hid (below_up HB1.out hb2 HB1.out.size)
        have HN2 := Lib.hid (HN1.out.below hb2)
        clear hb2
        go_wp2
        go_ret
        exact ⟨rfl, HB2.out⟩
      · have d3 : decide (((used f).length : Int) < 1) = false := decide_eq_false (by omega)
        have hn1 : 1 ≤ (used f).length := by omega
        by_cases h2 : b + 1 < (used f).length
        · have d4 : decide ((b : Int) < ((used f).length : Int) - 1) = true := decide_eq_true (by omega)
          clear h1 h2
          go_enter Try.func8, Try.ntmps8
          go_wp2_with fail
          refine HU.out.mono ?_
          rintro e w1 ⟨v1, rfl, ho1, hb1⟩
          have HN1 := Lib.hid (NRow.of_owns rfl ho1)
          obtain ⟨a1, c1, rfl⟩ := owns_shape ho1
          have HR1 := Lib.hid (HR.out.below hb1)
          have HB1 := Lib.hid hb1
          clear ho1 hb1
          go_wp2_with fail
          refine (well_yes _ f b w1 HR1.out hw0 hw1 hb1' hb15 H16.out).mono ?_
          rintro e w2 ⟨rfl, hb2⟩
          rw [decide_eq_true HP.out]
          have HR2 := Lib.hid (HR1.out.below hb2)
          have HB2 := Lib.hid (below_up HB1.out hb2 HB1.out.size)
          have HN2 := Lib.hid (HN1.out.below hb2)
          clear hb2
          go_wp2
          go_ret
          exact ⟨rfl, HB2.out⟩
        · have d4 : decide ((b : Int) < ((used f).length : Int) - 1) = false := decide_eq_false (by omega)
          have HUL : Hid ((used f).length ≤ b + 1) := Lib.hid (by omega)
          clear h1 h2
          go_enter Try.func8, Try.ntmps8
          go_wp2_with fail
          refine HU.out.mono ?_
          rintro e w1 ⟨v1, rfl, ho1, hb1⟩
          have HN1 := Lib.hid (NRow.of_owns rfl ho1)
          obtain ⟨a1, c1, rfl⟩ := owns_shape ho1
          have HR1 := Lib.hid (HR.out.below hb1)
          have HB1 := Lib.hid hb1
          clear ho1 hb1
          go_wp2_with fail
          refine (well_yes _ f b w1 HR1.out hw0 hw1 hb1' hb15 H16.out).mono ?_
          rintro e w2 ⟨rfl, hb2⟩
          rw [decide_eq_true HP.out]
          have HR2 := Lib.hid (HR1.out.below hb2)
          have HB2 := Lib.hid (below_up HB1.out hb2 HB1.out.size)
          have HN2 := Lib.hid (HN1.out.below hb2)
          clear hb2
          go_wp2_with fail
          refine (codes_any _ f b w2 HR2.out HW.out).mono ?_
          rintro e w3 ⟨vc, vl, rfl, hoc, hol, hbj⟩
          obtain ⟨gc, cc, rfl⟩ := owns_slice hoc hw0
          obtain ⟨gl, cl, rfl⟩ := owns_slice hol hw0
          have HB3 := Lib.hid (below_up HB2.out hbj HB2.out.size)
          have HR3 := Lib.hid (HR2.out.below hbj)
          have HNL := Lib.hid (NRow.of_owns HG.out.len.symm hol)
          have HNC := Lib.hid (NRow.of_owns (by rw [bitsG_len]; exact HG.out.len.symm) hoc)
          have HCL := Lib.hid (owns_cells hol HG.out.len.symm (Below.refl _ _))
          have HCC := Lib.hid (owns_cells hoc (by rw [bitsG_len]; exact HG.out.len.symm) (Below.refl _ _))
          have HNU := Lib.hid (HN2.out.below hbj)
          clear hoc hol hbj
          go_wp2
          go_loopw [8, 9, 10, 45] (fun tt _ _ ii wr => ∃ k m T : Nat, k ≤ f.length ∧ ii = .int .i64 (k : Nat) ∧ tt = .int .i64 (T : Nat) ∧ T ≤ 1000000 * k ∧ wr = w3.drewN m ∧ Hid (T = dotK f (lensG f b) k)) (fun _ _ _ ii _ => f.length - (intOf ii).toNat)
          case atStart => exact ⟨0, 0, 0, Nat.zero_le _, rfl, rfl, Nat.zero_le _, rfl, rfl⟩
          case round =>
            obtain ⟨k, m, T, hk, rfl, rfl, hT, rfl, HT⟩ := hrel
            by_cases hlt : k < f.length
            · have hck : (w3.drewN m).cell? ⟨bk, o + k, none⟩ = _ := (HB3.out.cell (p := ⟨bk, o + k, none⟩) hbl).trans (HFC.out k hlt)
              have hc2 : (w3.drewN m).cell? ⟨gl, k, none⟩ = _ := HCL.out k hlt
              have hx16 := HBB.out k
              have hl15 := HL15.out k
              have hpe : ((f.getD k 0 : Nat) : Int) * (((lensG f b).getD k 0 : Nat) : Int) = ((f.getD k 0 * (lensG f b).getD k 0 : Nat) : Int) := by push_cast; rfl
              have hpb : f.getD k 0 * (lensG f b).getD k 0 ≤ 1000000 := Nat.le_trans (Nat.mul_le_mul (show f.getD k 0 ≤ 65535 by omega) hl15) (by decide)
              have HD : Hid (dotK f (lensG f b) (k + 1) = dotK f (lensG f b) k + f.getD k 0 * (lensG f b).getD k 0) := rfl
              generalize f.getD k 0 = x at *
              generalize (lensG f b).getD k 0 = l at *
              generalize x * l = p at *
              generalize hwd : World.drewN w3 m = wd at *
              have HWD := Lib.hid hwd
              clear hwd
              go_wp2
              go_roundw
              case rel => exact ⟨k + 1, m, T + p, by omega, by go_num, by go_num, by omega, HWD.out.symm, by unfold Hid; rw [HD.out, ← HT.out]⟩
              case measure => simp [intOf]; omega
            · have hkl : k = f.length := by omega
              subst hkl
              have HN4 : Hid (NRow .i64 (w3.drewN m) _ (used f)) := HNU.out
              have HB4 : Hid (Below w.heap.size w (w3.drewN m)) := below_dN HB3.out m
              have HTC : Hid (T = PM.least (used f) b) := Lib.hid (HT.out.trans HG.out.cost)
              generalize World.drewN w3 m = w4 at *
              clear HT
              go_wp2_with fail
              refine (huffG_any _ f b w4 HN4.out HW.out HUL.out).mono ?_
              rintro e w5 ⟨rfl, hb5⟩
              rw [← HTC.out]
              have HB5 := Lib.hid (below_up HB4.out hb5 HB4.out.size)
              clear hb5
              go_wp2
              go_ret
              exact ⟨by simp, HB5.out⟩
    · have HP := Lib.hid hP
      clear hr h16 hbb hP hw2 hw3
      go_enter Try.func8, Try.ntmps8
      go_wp2_with fail
      refine HU.out.mono ?_
      rintro e w1 ⟨v1, rfl, ho1, hb1⟩
      have HN1 := Lib.hid (NRow.of_owns rfl ho1)
      obtain ⟨a1, c1, rfl⟩ := owns_shape ho1
      have HR1 := Lib.hid (HR.out.below hb1)
      have HB1 := Lib.hid hb1
      clear ho1 hb1
      go_wp2_with fail
      refine (well_yes _ f b w1 HR1.out hw0 hw1 hb1' hb15 H16.out).mono ?_
      rintro e w2 ⟨rfl, hb2⟩
      rw [decide_eq_false HP.out]
      have HB2 := Lib.hid (below_up HB1.out hb2 HB1.out.size)
      clear hb2
      go_wp2
      go_ret
      exact ⟨rfl, HB2.out⟩
  · have HWN := Lib.hid (fun W => well_no a f.length cap bits W hw hbb)
    clear hr h16 hbb hw
    go_enter Try.func8, Try.ntmps8
    go_wp2_with fail
    refine HU.out.mono ?_
    rintro e w1 ⟨v1, rfl, ho1, hb1⟩
    have HN1 := Lib.hid (NRow.of_owns rfl ho1)
    obtain ⟨a1, c1, rfl⟩ := owns_shape ho1
    have HR1 := Lib.hid (HR.out.below hb1)
    have HB1 := Lib.hid hb1
    clear ho1 hb1
    go_wp2_with fail
    refine (HWN.out w1).mono ?_
    rintro e w2 ⟨rfl, m, rfl⟩
    go_wp2
    go_ret
    exact ⟨rfl, below_dN HB1.out m⟩

theorem long (a : Option Addr) (n c : Nat) (s : Int) (w : World) (h : 2147483648 ≤ n) : Calls Try.prog 8 #[.slice a n c, .int .i64 s] w fun e w' => e = .returned (.bool true) ∧ Below w.heap.size w w' := by
  have d1 : decide ((2147483647 : Int) < (n : Int)) = true := decide_eq_true (by omega)
  clear h
  go_enter Try.func8, Try.ntmps8
  go_wp2
  go_ret
  exact ⟨rfl, Below.refl _ _⟩

theorem walk (a0 : Option Addr) (len0 cap0 : Nat) (z0 : List Int) (a1 : Int) (w : World) (w0 : IsRow .u16 w a0 len0 cap0 z0) (w1 : (Lit.int .i64 a1).wf = true) :
    Calls Try.prog 8 #[.slice a0 len0 cap0, .int .i64 a1] w fun e w' => e = .returned (.bool true) ∧ Below w.heap.size w w' := by
  by_cases h0 : 2147483648 ≤ len0
  · exact long a0 len0 cap0 a1 w h0
  obtain ⟨l, hl, hn, hb⟩ := nrow_of (B := 65536) (fun n hn => by have := bounds_u16 hn; omega) w0
  have hbb := bounds_i64 w1
  subst hl
  exact main a0 cap0 l a1 w hn hb (by omega) (by omega)

/-! ### THE ROW's STEP: WRITTEN OUT: LEAVE IT -/
set_option maxRecDepth 100000 in
theorem lifted (os : Os) (started : os.Started) (H : Type) (enc : TypeId × Value → H) :
    ReturnsInHanded {} Try.checked os 8 .any (Rows.fnHuffmanSpec.pre6 enc Try.prog Try.f8 Rows.fnHuffmanRow.domain false) (Rows.fnHuffmanSpec.post enc Try.prog Try.f8 false true false false) := by
  refine returnsInHanded_of_change (C := Try.checked) own started (by kernel_rfl) Try.func8
    (ChangeSpec.witness6 (enc := enc) (C := Try.checked) false ⟨#[], #[.slice none 0 0, .int .i64 0], []⟩ 8 (by kernel_rfl) (by kernel_rfl) (by kernel_rfl) (by kernel_rfl)) ?_
  intro W base args ds gs before hval0 hW hcnd _
  have hval : ∀ (j : Nat) t v, Try.f8.params[j]? = some t → args[j]? = some v → Value.okWide Try.prog W .any base t v := hval0
  have hW' := hW
  obtain ⟨p, q, hA0, hV, rfl, hfz, hnd⟩ := hW
  have hA : DataW.TrodAll enc Try.prog W 0 (fun _ => true) true Try.f8.params.toList args.toList ds p := hA0
  rw [Try.params8] at hA hval
  obtain ⟨v0, vs0, d0, ds0, p0, q0, hargs, rfl, rfl, h0, r0⟩ := trodAll_cons hA
  obtain ⟨v1, vs1, d1, ds1, p1, q1, rfl, rfl, rfl, h1, r1⟩ := trodAll_cons r0
  obtain ⟨rfl, rfl, rfl⟩ := trodAll_nil r1
  obtain rfl : args = #[v0, v1] := by cases args; simp_all
  obtain ⟨rfl, rfl⟩ := trodVars_none hV
  obtain ⟨a0, len0, cap0, rfl⟩ := okWide_slice Try.underlying22 (hval 0 22 v0 rfl rfl)
  have k0 := h0
  have lt0 : ∀ x ∈ p0, x.block < W.heap.size := by obtain ⟨m, hm⟩ := k0; exact DataW.trod_lt m _ _ _ hm
  obtain ⟨z0, w0⟩ : ∃ zs, IsRow .u16 W a0 len0 cap0 zs := by
    obtain ⟨fuel, hf⟩ := h0
    rcases open_ints Try.underlying22 Try.underlying29 (by kernel_rfl) hf with ⟨hcs, _⟩ | ⟨x, l, c, zs, hcs, _, hl, hm, hz, _, hcell, hwz⟩
    · simp [Value.cells] at hcs
      obtain ⟨rfl, rfl, rfl⟩ := hcs
      exact ⟨[], .inl ⟨rfl, rfl, rfl, rfl⟩⟩
    · simp [Value.cells] at hcs
      obtain ⟨rfl, rfl, rfl⟩ := hcs
      exact ⟨zs, .inr ⟨_, rfl, hl, hm, by simpa using hz, hcell, hwz⟩⟩
  obtain ⟨a1, rfl, rfl, rfl, w1⟩ := open_int Try.underlying3 (hval 1 3 v1 rfl rfl) h1
  clear hA0 hval0
  refine (walk a0 len0 cap0 z0 a1 W w0 w1).mono fun e W' ⟨he, bel⟩ => ?_
  subst he
  exact ⟨_, rfl, _, _, _, [], _, [], hW', trodAll_mk1 (shut_bool Try.underlying4 _), (trodAll_cons_mk (Below.trod laidOut (by kernel_rfl) (of_decide_eq_true (by kernel_rfl)) k0 bel lt0) (trodAll_cons_mk (shut_int Try.underlying3 w1) trodAll_mk0)), rfl, bel.frame _, fun h => by cases h⟩

theorem over : Rows.fnHuffmanRow.holds Try.pinned (OpenSpec.ofChange Rows.fnHuffmanSpec) :=
  OpenClaim.holds_of_wide 8 Try.f8 rfl rfl rfl rfl rfl rfl rfl ⟨rfl, rfl, rfl, rfl, rfl⟩ rfl rfl rfl rfl rfl (by kernel_rfl) Try.func8 (by kernel_rfl)
    (of_decide_eq_true (by kernel_rfl)) (by unfold Func.isWrapper; first | (rw [if_pos (by decide +kernel)]; kernel_rfl) | (rw [if_neg (by decide +kernel)]; exact ⟨rfl, rfl⟩))
    (fun os started H enc _ => lifted os started H enc)

/-- ████ THE STATEMENT ████ -/
theorem proved : Rows.FnHuffmanSaid := over
#print axioms proved
end Go.Proofs.Ytgkpdffgahadpaa.fnHuffman

/-
  'FnOrder' is proved: a symbol that is more frequent has no longer code.
  No condition: every list of frequencies and every number of bits.
-/
import Derived.Test.YtgkpdffgahadpaaRows
import Derived.Test.YtgkpdffgahadpaaBLst
import Derived.WalkKit
import Derived.ProofKit
import Derived.OpenShut
import Derived.ShutString
import Derived.ChangeOld
import Derived.Below
namespace Go.Proofs.Ytgkpdffgahadpaa.fnOrder
open Go.ChangeShapes Go.WideShapes Go.ChangeAt Go.RowKit
open Go.ChangeMaps (open_string shut_string)
set_option linter.unusedVariables false

theorem own : ownKnob Try.prog.godebug = none := by kernel_rfl
theorem laidOut : laidOutB Try.prog = true := by kernel_rfl

/-- WHAT THE WALK IS TOLD OF A SLICE OF INTEGERS THAT CAME IN: it is nil; or it leads to a row of 'cap' cells, the numbers 'zs' (the first 'len' are its elements, the rest its spare room), each fitting its kind. -/
def IsRow (k : IntKind) (w : World) (a : Option Addr) (len cap : Nat) (zs : List Int) : Prop :=
  (a = none ∧ len = 0 ∧ cap = 0 ∧ zs = []) ∨
  ∃ x, a = some x ∧ len ≤ cap ∧ cap ≤ maxLen ∧ zs.length = cap ∧ (∀ i, i < zs.length → w.cell? (x.add i) = some (.int k (zs.getD i 0))) ∧ ∀ n ∈ zs, (Lit.int k n).wf = true

set_option maxHeartbeats 8000000 in
set_option maxRecDepth 100000 in
theorem main (a : Option Addr) (cap : Nat) (f : List Nat) (bits : Int) (w : World) (hr : NRow .u16 w (.slice a f.length cap) f) (h16 : ∀ x ∈ f, x < 65536) (hl : f.length < 2147483648) (hbb : -9223372036854775808 ≤ bits ∧ bits ≤ 9223372036854775807) :
    Calls Try.prog 7 #[.slice a f.length cap, .int .i64 bits] w fun e w' => e = .returned (.bool true) ∧ Below w.heap.size w w' := by
  have d1 : decide ((2147483647 : Int) < (f.length : Int)) = false := decide_eq_false (by omega)
  by_cases hw : 0 < f.length ∧ f.length ≤ 286 ∧ 1 ≤ bits ∧ bits ≤ 15
  · obtain ⟨hw0, hw1, hw2, hw3⟩ := hw
    obtain ⟨b, rfl⟩ := Int.eq_ofNat_of_zero_le (show 0 ≤ bits by omega)
    have hWY := well_yes (.slice a f.length cap) f b w hr hw0 hw1 (by omega) (by omega) h16
    have HR := Lib.hid hr
    have H16 := Lib.hid h16
    by_cases hP : (used f).length ≤ 2 ^ b
    · rw [decide_eq_true hP] at hWY
      have hW : WellF f b := ⟨hw0, hw1, by omega, by omega, h16, hP⟩
      have hG := good hW
      have HWY := Lib.hid hWY
      have HW := Lib.hid hW
      have HG := Lib.hid hG
      have hb15 : b ≤ 15 := by omega
      have hb1' : 1 ≤ b := by omega
      clear hWY hW hG hP hbb hw2 hw3
      obtain ⟨bk, o, rfl, hbl, hcc⟩ := nrow_slice hr hw0
      have HFC := Lib.hid hcc
      have HBB := Lib.hid (getD_bd h16)
      have HL15 := Lib.hid (getD_15 fun x hx => Nat.le_trans (HG.out.le x hx) hb15)
      clear hr h16 hcc
      go_enter Try.func7, Try.ntmps7
      go_wp2_with fail
      refine HWY.out.mono ?_
      rintro e w1 ⟨rfl, hb1⟩
      have HR1 := Lib.hid (HR.out.below hb1)
      have HB1 := Lib.hid hb1
      clear hb1
      go_wp2_with fail
      refine (codes_any _ f b w1 HR1.out HW.out).mono ?_
      rintro e w2 ⟨vc, vl, rfl, hoc, hol, hbj⟩
      obtain ⟨gc, cc, rfl⟩ := owns_slice hoc hw0
      obtain ⟨gl, cl, rfl⟩ := owns_slice hol hw0
      have HB2 := Lib.hid (below_up HB1.out hbj HB1.out.size)
      have HR2 := Lib.hid (HR1.out.below hbj)
      have HNL := Lib.hid (NRow.of_owns HG.out.len.symm hol)
      have HNC := Lib.hid (NRow.of_owns (by rw [bitsG_len]; exact HG.out.len.symm) hoc)
      have HCL := Lib.hid (owns_cells hol HG.out.len.symm (Below.refl _ _))
      have HCC := Lib.hid (owns_cells hoc (by rw [bitsG_len]; exact HG.out.len.symm) (Below.refl _ _))
      clear hoc hol hbj
      go_wp2
      go_loopw [7, 8, 31] (fun _ _ ii wr => ∃ i m : Nat, i ≤ f.length ∧ ii = .int .i64 (i : Nat) ∧ wr = w2.drewN m) (fun _ _ ii _ => f.length - (intOf ii).toNat)
      case atStart => exact ⟨0, 0, Nat.zero_le _, rfl, rfl⟩
      case round =>
        obtain ⟨i, m, hi, rfl, rfl⟩ := hrel
        by_cases hlt : i < f.length
        · have hci : (w2.drewN m).cell? ⟨bk, o + i, none⟩ = _ := (HB2.out.cell (p := ⟨bk, o + i, none⟩) hbl).trans (HFC.out i hlt)
          have hli : ∀ q, (w2.drewN q).cell? ⟨gl, i, none⟩ = _ := fun q => HCL.out i hlt
          have HLI := Lib.hid hli
          have hxi := HBB.out i
          have hyi := HL15.out i
          have HOR := Lib.hid (fun k hk => HG.out.order i k hlt hk)
          clear hli
          generalize f.getD i 0 = x at *
          generalize (lensG f b).getD i 0 = y at *
          generalize hwd : World.drewN w2 m = wd at *
          have HWD := Lib.hid hwd
          clear hwd
          go_wp2
          go_loopw [9, 10, 38] (fun _ _ kk wr => ∃ k q : Nat, k ≤ f.length ∧ kk = .int .i64 (k : Nat) ∧ wr = w2.drewN q) (fun _ _ kk _ => f.length - (intOf kk).toNat)
          case atStart => exact ⟨0, m, Nat.zero_le _, rfl, HWD.out.symm⟩
          case round =>
            obtain ⟨k, q, hk, rfl, rfl⟩ := hrel
            by_cases hlk : k < f.length
            · have hck : (w2.drewN q).cell? ⟨bk, o + k, none⟩ = _ := (HB2.out.cell (p := ⟨bk, o + k, none⟩) hbl).trans (HFC.out k hlk)
              have hclk : (w2.drewN q).cell? ⟨gl, k, none⟩ = _ := HCL.out k hlk
              have hcli := HLI.out q
              have hxk := HBB.out k
              have hyk := HL15.out k
              have hord := HOR.out k hlk
              generalize f.getD k 0 = u at *
              generalize (lensG f b).getD k 0 = v at *
              generalize hwd : World.drewN w2 q = wq at *
              have HWQ := Lib.hid hwd
              clear hwd hci
              by_cases h1 : u < x
              · by_cases h2 : 0 < u
                · have hle := hord h1 h2
                  have d5 : ¬ v < y := by omega
                  clear hord hle
                  go_upto_region 14 with (fail)
                  go_quiet (fail)
                  go_wp2
                  go_roundw
                  case rel => exact ⟨k + 1, q + nq, by omega, by go_num, by rw [← HWQ.out, drewN_add]⟩
                  case measure => simp [intOf]; omega
                · have h3 : u = 0 := by omega
                  subst h3
                  have hck : wq.cell? ⟨bk, o + k, none⟩ = some (.int .u16 0) := hck
                  clear hord h2
                  go_upto_region 14 with (fail)
                  go_quiet (fail)
                  go_wp2
                  go_roundw
                  case rel => exact ⟨k + 1, q + nq, by omega, by go_num, by rw [← HWQ.out, drewN_add]⟩
                  case measure => simp [intOf]; omega
              · clear hord
                go_upto_region 14 with (fail)
                go_quiet (fail)
                go_wp2
                go_roundw
                case rel => exact ⟨k + 1, q + nq, by omega, by go_num, by rw [← HWQ.out, drewN_add]⟩
                case measure => simp [intOf]; omega
            · have hkl : k = f.length := by omega
              subst hkl
              go_wp2
              go_roundw
              case rel => exact ⟨i + 1, q, by omega, by go_num, rfl⟩
              case measure => simp [intOf]; omega
        · have hil : i = f.length := by omega
          subst hil
          go_wp2
          go_ret
          exact ⟨rfl, below_dN HB2.out m⟩
    · rw [decide_eq_false hP] at hWY
      have HWY := Lib.hid hWY
      clear hWY hP hr h16 hbb hw2 hw3
      go_enter Try.func7, Try.ntmps7
      go_wp2_with fail
      refine HWY.out.mono ?_
      rintro e w1 ⟨rfl, hb1⟩
      have HB1 := Lib.hid hb1
      clear hb1
      go_wp2
      go_ret
      exact ⟨rfl, HB1.out⟩
  · have HWN := Lib.hid (well_no a f.length cap bits w hw hbb)
    clear hr h16 hbb hw
    go_enter Try.func7, Try.ntmps7
    go_wp2_with fail
    refine HWN.out.mono ?_
    rintro e w1 ⟨rfl, m, rfl⟩
    go_wp2
    go_ret
    exact ⟨rfl, below_dN (Below.refl _ _) m⟩

theorem long (a : Option Addr) (n c : Nat) (s : Int) (w : World) (h : 2147483648 ≤ n) : Calls Try.prog 7 #[.slice a n c, .int .i64 s] w fun e w' => e = .returned (.bool true) ∧ Below w.heap.size w w' := by
  have d1 : decide ((2147483647 : Int) < (n : Int)) = true := decide_eq_true (by omega)
  clear h
  go_enter Try.func7, Try.ntmps7
  go_wp2
  go_ret
  exact ⟨rfl, Below.refl _ _⟩

theorem walk (a0 : Option Addr) (len0 cap0 : Nat) (z0 : List Int) (a1 : Int) (w : World) (w0 : IsRow .u16 w a0 len0 cap0 z0) (w1 : (Lit.int .i64 a1).wf = true) :
    Calls Try.prog 7 #[.slice a0 len0 cap0, .int .i64 a1] w fun e w' => e = .returned (.bool true) ∧ Below w.heap.size w w' := by
  by_cases h0 : 2147483648 ≤ len0
  · exact long a0 len0 cap0 a1 w h0
  obtain ⟨l, hl, hn, hb⟩ := nrow_of (B := 65536) (fun n hn => by have := bounds_u16 hn; omega) w0
  have hbb := bounds_i64 w1
  subst hl
  exact main a0 cap0 l a1 w hn hb (by omega) (by omega)

/-! ### THE ROW's STEP: WRITTEN OUT: LEAVE IT -/
set_option maxRecDepth 100000 in
theorem lifted (os : Os) (started : os.Started) (H : Type) (enc : TypeId × Value → H) :
    ReturnsInHanded {} Try.checked os 7 .any (Rows.fnOrderSpec.pre6 enc Try.prog Try.f7 Rows.fnOrderRow.domain false) (Rows.fnOrderSpec.post enc Try.prog Try.f7 false true false false) := by
  refine returnsInHanded_of_change (C := Try.checked) own started (by kernel_rfl) Try.func7
    (ChangeSpec.witness6 (enc := enc) (C := Try.checked) false ⟨#[], #[.slice none 0 0, .int .i64 0], []⟩ 8 (by kernel_rfl) (by kernel_rfl) (by kernel_rfl) (by kernel_rfl)) ?_
  intro W base args ds gs before hval0 hW hcnd _
  have hval : ∀ (j : Nat) t v, Try.f7.params[j]? = some t → args[j]? = some v → Value.okWide Try.prog W .any base t v := hval0
  have hW' := hW
  obtain ⟨p, q, hA0, hV, rfl, hfz, hnd⟩ := hW
  have hA : DataW.TrodAll enc Try.prog W 0 (fun _ => true) true Try.f7.params.toList args.toList ds p := hA0
  rw [Try.params7] at hA hval
  obtain ⟨v0, vs0, d0, ds0, p0, q0, hargs, rfl, rfl, h0, r0⟩ := trodAll_cons hA
  obtain ⟨v1, vs1, d1, ds1, p1, q1, rfl, rfl, rfl, h1, r1⟩ := trodAll_cons r0
  obtain ⟨rfl, rfl, rfl⟩ := trodAll_nil r1
  obtain rfl : args = #[v0, v1] := by cases args; simp_all
  obtain ⟨rfl, rfl⟩ := trodVars_none hV
  obtain ⟨a0, len0, cap0, rfl⟩ := okWide_slice Try.underlying22 (hval 0 22 v0 rfl rfl)
  have k0 := h0
  have lt0 : ∀ x ∈ p0, x.block < W.heap.size := by obtain ⟨m, hm⟩ := k0; exact DataW.trod_lt m _ _ _ hm
  obtain ⟨z0, w0⟩ : ∃ zs, IsRow .u16 W a0 len0 cap0 zs := by
    obtain ⟨fuel, hf⟩ := h0
    rcases open_ints Try.underlying22 Try.underlying29 (by kernel_rfl) hf with ⟨hcs, _⟩ | ⟨x, l, c, zs, hcs, _, hl, hm, hz, _, hcell, hwz⟩
    · simp [Value.cells] at hcs
      obtain ⟨rfl, rfl, rfl⟩ := hcs
      exact ⟨[], .inl ⟨rfl, rfl, rfl, rfl⟩⟩
    · simp [Value.cells] at hcs
      obtain ⟨rfl, rfl, rfl⟩ := hcs
      exact ⟨zs, .inr ⟨_, rfl, hl, hm, by simpa using hz, hcell, hwz⟩⟩
  obtain ⟨a1, rfl, rfl, rfl, w1⟩ := open_int Try.underlying3 (hval 1 3 v1 rfl rfl) h1
  clear hA0 hval0
  refine (walk a0 len0 cap0 z0 a1 W w0 w1).mono fun e W' ⟨he, bel⟩ => ?_
  subst he
  exact ⟨_, rfl, _, _, _, [], _, [], hW', trodAll_mk1 (shut_bool Try.underlying4 _), (trodAll_cons_mk (Below.trod laidOut (by kernel_rfl) (of_decide_eq_true (by kernel_rfl)) k0 bel lt0) (trodAll_cons_mk (shut_int Try.underlying3 w1) trodAll_mk0)), rfl, bel.frame _, fun h => by cases h⟩

theorem over : Rows.fnOrderRow.holds Try.pinned (OpenSpec.ofChange Rows.fnOrderSpec) :=
  OpenClaim.holds_of_wide 7 Try.f7 rfl rfl rfl rfl rfl rfl rfl ⟨rfl, rfl, rfl, rfl, rfl⟩ rfl rfl rfl rfl rfl (by kernel_rfl) Try.func7 (by kernel_rfl)
    (of_decide_eq_true (by kernel_rfl)) (by unfold Func.isWrapper; first | (rw [if_pos (by decide +kernel)]; kernel_rfl) | (rw [if_neg (by decide +kernel)]; exact ⟨rfl, rfl⟩))
    (fun os started H enc _ => lifted os started H enc)

/-- ████ THE STATEMENT ████ -/
theorem proved : Rows.FnOrderSaid := over
#print axioms proved
end Go.Proofs.Ytgkpdffgahadpaa.fnOrder

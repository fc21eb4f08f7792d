/-
  'FnExactRaw' is proved: bytes that have codes need as many bits as these have.
  No condition: every list of frequencies, every number of bits and every list of bytes.
-/
import Derived.Test.YtgkpdffgahadpaaRows
import Derived.Test.YtgkpdffgahadpaaBLst
import Derived.Test.YtgkpdffgahadpaaBTot
import Derived.WalkKit
import Derived.ProofKit
import Derived.OpenShut
import Derived.ShutString
import Derived.ChangeOld
import Derived.Below
namespace Go.Proofs.Ytgkpdffgahadpaa.fnExactRaw
open Go.ChangeShapes Go.WideShapes Go.ChangeAt Go.RowKit
open Go.ChangeMaps (open_string shut_string)
set_option linter.unusedVariables false

theorem own : ownKnob Try.prog.godebug = none := by kernel_rfl
theorem laidOut : laidOutB Try.prog = true := by kernel_rfl

/-- WHAT THE WALK IS TOLD OF A SLICE OF INTEGERS THAT CAME IN: it is nil; or it leads to a row of 'cap' cells, the numbers 'zs' (the first 'len' are its elements, the rest its spare room), each fitting its kind. -/
def IsRow (k : IntKind) (w : World) (a : Option Addr) (len cap : Nat) (zs : List Int) : Prop :=
  (a = none ∧ len = 0 ∧ cap = 0 ∧ zs = []) ∨
  ∃ x, a = some x ∧ len ≤ cap ∧ cap ≤ maxLen ∧ zs.length = cap ∧ (∀ i, i < zs.length → w.cell? (x.add i) = some (.int k (zs.getD i 0))) ∧ ∀ n ∈ zs, (Lit.int k n).wf = true

set_option maxHeartbeats 8000000 in
set_option maxRecDepth 100000 in
theorem main (a : Option Addr) (cap : Nat) (f : List Nat) (bits : Int) (w : World) (hr : NRow .u16 w (.slice a 256 cap) f) (hf : f.length = 256) (h16 : ∀ x ∈ f, x < 65536) (hbb : -9223372036854775808 ≤ bits ∧ bits ≤ 9223372036854775807)
    (a2 : Option Addr) (cap2 : Nat) (g : List Nat) (hg : NRow .u8 w (.slice a2 g.length cap2) g) (hg8 : ∀ x ∈ g, x < 256) (hgl : g.length < 2147483648) :
    Calls Try.prog 12 #[.slice a 256 cap, .int .i64 bits, .slice a2 g.length cap2] w fun e w' => e = .returned (.bool true) ∧ Below w.heap.size w w' := by
  have d1g : decide ((2147483647 : Int) < (g.length : Int)) = false := decide_eq_false (by omega)
  by_cases hw : 1 ≤ bits ∧ bits ≤ 15
  · obtain ⟨hw2, hw3⟩ := hw
    obtain ⟨b, rfl⟩ := Int.eq_ofNat_of_zero_le (show 0 ≤ bits by omega)
    have hWY := well_yes (.slice a 256 cap) f b w hr (by omega) (by omega) (by omega) (by omega) h16
    have HR := Lib.hid hr
    have HF := Lib.hid hf
    have hb15 : b ≤ 15 := by omega
    by_cases hP : (used f).length ≤ 2 ^ b
    · rw [decide_eq_true hP] at hWY
      have hW : WellF f b := ⟨by omega, by omega, by omega, by omega, h16, hP⟩
      have hG := good hW
      have HWY := Lib.hid hWY
      have HW := Lib.hid hW
      have HG := Lib.hid hG
      have HBB := Lib.hid (getD_bd h16)
      have HL15 := Lib.hid (getD_15 fun x hx => Nat.le_trans (hG.le x hx) hb15)
      have HMOD := Lib.hid (genH_mod fun x hx => Nat.le_trans (hG.le x hx) hb15)
      by_cases hgs : g.length ≤ 1048576
      · have d2 : decide ((1048576 : Int) < (g.length : Int)) = false := decide_eq_false (by omega)
        have HGR := Lib.hid hg
        have HG8 := Lib.hid hg8
        have hr' := hr
        obtain ⟨a', c', he, _, hrc⟩ := hr'
        rw [hf] at he hrc
        cases he
        obtain ⟨bk, o, rfl, hbl, hcc⟩ := hrc (by omega)
        have HFC := Lib.hid hcc
        have HGROW : Hid (0 < g.length → ∃ b o, a2 = some ⟨b, o, none⟩ ∧ b < w.heap.size ∧ ∀ i, i < g.length → w.cell? ⟨b, o + i, none⟩ = some (.int .u8 ((g.getD i 0 : Nat) : Int))) := Lib.hid fun h0 => nrow_slice hg h0
        clear hWY hW hG hP hbb hw2 hw3 hr hg hg8 h16 hf hrc hcc
        go_enter Try.func12, Try.ntmps12
        go_wp2_with fail
        refine HWY.out.mono ?_
        rintro e w1 ⟨rfl, hb1⟩
        have HR1 := Lib.hid (HR.out.below hb1)
        have HB1 := Lib.hid hb1
        clear hb1
        go_wp2_with fail
        refine (codes_any _ f b w1 HR1.out HW.out).mono ?_
        rintro e w2 ⟨vc, vl, rfl, hoc, hol, hbj⟩
        have HB2 := Lib.hid (below_up HB1.out hbj HB1.out.size)
        have HR2 := Lib.hid (HR1.out.below hbj)
        rw [HF.out] at hoc hol
        obtain ⟨gc, cc, rfl⟩ := owns_slice hoc (by omega)
        obtain ⟨gl, cl, rfl⟩ := owns_slice hol (by omega)
        have HCL := Lib.hid (owns_cells hol (by rw [HG.out.len]; exact HF.out.symm) (Below.refl _ _))
        clear hoc hol hbj
        go_wp2
        go_loopw [9, 11, 45] (fun tt _ ii wr => ∃ k m T : Nat, k ≤ g.length ∧ ii = .int .i64 (k : Nat) ∧ tt = .int .i64 (T : Nat) ∧ T ≤ 256 * k ∧ wr = w2.drewN m ∧ Hid (T = rawC g (genH (lensG f b)) k)) (fun _ _ ii _ => g.length - (intOf ii).toNat)
        case atStart => exact ⟨0, 0, 0, Nat.zero_le _, rfl, rfl, Nat.zero_le _, rfl, rfl⟩
        case round =>
          obtain ⟨k, m, T, hk, rfl, rfl, hT, rfl, HT⟩ := hrel
          by_cases hlt : k < g.length
          · obtain ⟨bg, og, rfl, hbg, hgc⟩ := HGROW.out (by omega)
            have hck : (w2.drewN m).cell? ⟨bg, og + k, none⟩ = _ := (HB2.out.cell (p := ⟨bg, og + k, none⟩) hbg).trans (hgc k hlt)
            have hx8 := HG8.out _ (getD_mem g k hlt)
            have HD : Hid (rawC g (genH (lensG f b)) (k + 1) = rawC g (genH (lensG f b)) k + max 1 ((genH (lensG f b)).getD (g.getD k 0) 0 % 256)) := rfl
            clear hgc
            generalize g.getD k 0 = x at *
            have hcf : (w2.drewN m).cell? ⟨bk, o + x, none⟩ = _ := (HB2.out.cell (p := ⟨bk, o + x, none⟩) hbl).trans (HFC.out x hx8)
            have hcl : (w2.drewN m).cell? ⟨gl, x, none⟩ = _ := HCL.out x hx8
            have hy16 := HBB.out x
            have hl15 := HL15.out x
            have hpos := HG.out.pos x (by rw [HF.out]; exact hx8)
            have hmod := HMOD.out x
            have HB3 : Hid (Below w.heap.size w (w2.drewN m)) := below_dN HB2.out m
            generalize f.getD x 0 = y at *
            generalize (lensG f b).getD x 0 = l at *
            generalize hwd : World.drewN w2 m = wd at *
            have HWD := Lib.hid hwd
            clear hwd
            by_cases hy0 : y = 0
            · subst hy0
              have hcf : wd.cell? ⟨bk, o + x, none⟩ = some (.int .u16 0) := hcf
              clear hpos hmod hy16 hl15
              go_wp2
              exact bodyPost_ret (v := .bool true) (by simp [results, Try.results12, go_sem]) rfl ⟨rfl, HB3.out⟩
            · have hy1 : 0 < y := by omega
              have HST : Hid (rawC g (genH (lensG f b)) (k + 1) = T + l) := by
                refine Lib.hid ?_
                rw [HD.out, hmod, ← HT.out, Nat.max_eq_right (hpos.2 hy1)]
              clear hpos hmod hy0
              go_wp2
              go_roundw
              case rel => exact ⟨k + 1, m, T + l, by omega, by go_num, by go_num, by omega, HWD.out.symm, HST.out.symm⟩
              case measure => simp [intOf]; omega
          · have hkl : k = g.length := by omega
            subst hkl
            have HB3 : Hid (Below w.heap.size w (w2.drewN m)) := below_dN HB2.out m
            have HR3 : Hid (NRow .u16 (w2.drewN m) _ f) := HR2.out
            have HGR3 : Hid (NRow .u8 (w2.drewN m) _ g) := Lib.hid (HGR.out.below HB3.out)
            generalize World.drewN w2 m = w3 at *
            go_wp2_with fail
            refine (raw_any _ _ f g b w3 HR3.out HGR3.out HW.out HF.out hgs HG8.out).mono ?_
            rintro e w4 ⟨rfl, hb4⟩
            rw [← HT.out]
            have HB4 := Lib.hid (below_up HB3.out hb4 HB3.out.size)
            clear hb4
            go_wp2
            go_ret
            exact ⟨by simp, HB4.out⟩
      · have d2 : decide ((1048576 : Int) < (g.length : Int)) = true := decide_eq_true (by omega)
        clear hWY hW hG hP hbb hw2 hw3 hr hg hg8 h16 hf hgs
        go_enter Try.func12, Try.ntmps12
        go_wp2_with fail
        refine HWY.out.mono ?_
        rintro e w1 ⟨rfl, hb1⟩
        have HR1 := Lib.hid (HR.out.below hb1)
        have HB1 := Lib.hid hb1
        clear hb1
        go_wp2
        go_ret
        exact ⟨rfl, HB1.out⟩
    · rw [decide_eq_false hP] at hWY
      have HWY := Lib.hid hWY
      clear hWY hP hr h16 hbb hw2 hw3 hf hg hg8
      go_enter Try.func12, Try.ntmps12
      go_wp2_with fail
      refine HWY.out.mono ?_
      rintro e w1 ⟨rfl, hb1⟩
      have HR1 := Lib.hid (HR.out.below hb1)
      have HB1 := Lib.hid hb1
      clear hb1
      go_wp2
      go_ret
      exact ⟨rfl, HB1.out⟩
  · have HWN := Lib.hid (well_no a 256 cap bits w (fun h => hw h.2.2) hbb)
    clear hr h16 hbb hw hf hg hg8
    go_enter Try.func12, Try.ntmps12
    go_wp2_with fail
    refine HWN.out.mono ?_
    rintro e w1 ⟨rfl, m, rfl⟩
    go_wp2
    go_ret
    exact ⟨rfl, below_dN (Below.refl _ _) m⟩

theorem other (a b : Option Addr) (n c n2 c2 : Nat) (s : Int) (w : World) (h1 : n < 2147483648) (h : n2 < 2147483648) (hn : n ≠ 256) : Calls Try.prog 12 #[.slice a n c, .int .i64 s, .slice b n2 c2] w fun e w' => e = .returned (.bool true) ∧ Below w.heap.size w w' := by
  have d1 : decide ((2147483647 : Int) < (n : Int)) = false := decide_eq_false (by omega)
  have d2 : decide ((2147483647 : Int) < (n2 : Int)) = false := decide_eq_false (by omega)
  have d3 : ((n : Int) != 256) = true := by
    simp only [bne_iff_ne, ne_eq]; omega
  clear h h1 hn
  go_enter Try.func12, Try.ntmps12
  go_wp2
  go_ret
  exact ⟨rfl, Below.refl _ _⟩

theorem long (a : Option Addr) (n c : Nat) (s : Int) (u : Value) (w : World) (h : 2147483648 ≤ n) : Calls Try.prog 12 #[.slice a n c, .int .i64 s, u] w fun e w' => e = .returned (.bool true) ∧ Below w.heap.size w w' := by
  have d1 : decide ((2147483647 : Int) < (n : Int)) = true := decide_eq_true (by omega)
  clear h
  go_enter Try.func12, Try.ntmps12
  go_wp2
  go_ret
  exact ⟨rfl, Below.refl _ _⟩
theorem long2 (a b : Option Addr) (n c n2 c2 : Nat) (s : Int) (w : World) (h1 : n < 2147483648) (h : 2147483648 ≤ n2) : Calls Try.prog 12 #[.slice a n c, .int .i64 s, .slice b n2 c2] w fun e w' => e = .returned (.bool true) ∧ Below w.heap.size w w' := by
  have d1 : decide ((2147483647 : Int) < (n : Int)) = false := decide_eq_false (by omega)
  have d2 : decide ((2147483647 : Int) < (n2 : Int)) = true := decide_eq_true (by omega)
  clear h h1
  go_enter Try.func12, Try.ntmps12
  go_wp2
  go_ret
  exact ⟨rfl, Below.refl _ _⟩

theorem walk (a0 : Option Addr) (len0 cap0 : Nat) (z0 : List Int) (a1 : Int) (a2 : Option Addr) (len2 cap2 : Nat) (z2 : List Int) (w : World) (w0 : IsRow .u16 w a0 len0 cap0 z0) (w1 : (Lit.int .i64 a1).wf = true) (w2 : IsRow .u8 w a2 len2 cap2 z2) :
    Calls Try.prog 12 #[.slice a0 len0 cap0, .int .i64 a1, .slice a2 len2 cap2] w fun e w' => e = .returned (.bool true) ∧ Below w.heap.size w w' := by
  by_cases h0 : 2147483648 ≤ len0
  · exact long a0 len0 cap0 a1 _ w h0
  by_cases h1 : 2147483648 ≤ len2
  · exact long2 a0 a2 len0 cap0 len2 cap2 a1 w (by omega) h1
  by_cases h2 : len0 = 256
  · obtain ⟨l, hl, hn, hb⟩ := nrow_of (B := 65536) (fun n hn => by have := bounds_u16 hn; omega) w0
    obtain ⟨g, hg, hgn, hgb⟩ := nrow_of (B := 256) (fun n hn => by have := bounds_u8 hn; omega) w2
    have hbb := bounds_i64 w1
    subst hg
    subst h2
    exact main a0 cap0 l a1 w hn hl hb (by omega) a2 cap2 g hgn hgb (by omega)
  · exact other a0 a2 len0 cap0 len2 cap2 a1 w (by omega) (by omega) h2

/-! ### THE ROW's STEP: WRITTEN OUT: LEAVE IT -/
set_option maxRecDepth 100000 in
theorem lifted (os : Os) (started : os.Started) (H : Type) (enc : TypeId × Value → H) :
    ReturnsInHanded {} Try.checked os 12 .any (Rows.fnExactRawSpec.pre6 enc Try.prog Try.f12 Rows.fnExactRawRow.domain false) (Rows.fnExactRawSpec.post enc Try.prog Try.f12 false true false false) := by
  refine returnsInHanded_of_change (C := Try.checked) own started (by kernel_rfl) Try.func12
    (ChangeSpec.witness6 (enc := enc) (C := Try.checked) false ⟨#[], #[.slice none 0 0, .int .i64 0, .slice none 0 0], []⟩ 8 (by kernel_rfl) (by kernel_rfl) (by kernel_rfl) (by kernel_rfl)) ?_
  intro W base args ds gs before hval0 hW hcnd _
  have hval : ∀ (j : Nat) t v, Try.f12.params[j]? = some t → args[j]? = some v → Value.okWide Try.prog W .any base t v := hval0
  have hW' := hW
  obtain ⟨p, q, hA0, hV, rfl, hfz, hnd⟩ := hW
  have hA : DataW.TrodAll enc Try.prog W 0 (fun _ => true) true Try.f12.params.toList args.toList ds p := hA0
  rw [Try.params12] at hA hval
  obtain ⟨v0, vs0, d0, ds0, p0, q0, hargs, rfl, rfl, h0, r0⟩ := trodAll_cons hA
  obtain ⟨v1, vs1, d1, ds1, p1, q1, rfl, rfl, rfl, h1, r1⟩ := trodAll_cons r0
  obtain ⟨v2, vs2, d2, ds2, p2, q2, rfl, rfl, rfl, h2, r2⟩ := trodAll_cons r1
  obtain ⟨rfl, rfl, rfl⟩ := trodAll_nil r2
  obtain rfl : args = #[v0, v1, v2] := by cases args; simp_all
  obtain ⟨rfl, rfl⟩ := trodVars_none hV
  obtain ⟨a0, len0, cap0, rfl⟩ := okWide_slice Try.underlying22 (hval 0 22 v0 rfl rfl)
  have k0 := h0
  have lt0 : ∀ x ∈ p0, x.block < W.heap.size := by obtain ⟨m, hm⟩ := k0; exact DataW.trod_lt m _ _ _ hm
  obtain ⟨z0, w0⟩ : ∃ zs, IsRow .u16 W a0 len0 cap0 zs := by
    obtain ⟨fuel, hf⟩ := h0
    rcases open_ints Try.underlying22 Try.underlying29 (by kernel_rfl) hf with ⟨hcs, _⟩ | ⟨x, l, c, zs, hcs, _, hl, hm, hz, _, hcell, hwz⟩
    · simp [Value.cells] at hcs
      obtain ⟨rfl, rfl, rfl⟩ := hcs
      exact ⟨[], .inl ⟨rfl, rfl, rfl, rfl⟩⟩
    · simp [Value.cells] at hcs
      obtain ⟨rfl, rfl, rfl⟩ := hcs
      exact ⟨zs, .inr ⟨_, rfl, hl, hm, by simpa using hz, hcell, hwz⟩⟩
  obtain ⟨a1, rfl, rfl, rfl, w1⟩ := open_int Try.underlying3 (hval 1 3 v1 rfl rfl) h1
  obtain ⟨a2, len2, cap2, rfl⟩ := okWide_slice Try.underlying39 (hval 2 39 v2 rfl rfl)
  have k2 := h2
  have lt2 : ∀ x ∈ p2, x.block < W.heap.size := by obtain ⟨m, hm⟩ := k2; exact DataW.trod_lt m _ _ _ hm
  obtain ⟨z2, w2⟩ : ∃ zs, IsRow .u8 W a2 len2 cap2 zs := by
    obtain ⟨fuel, hf⟩ := h2
    rcases open_ints Try.underlying39 Try.underlying5 (by kernel_rfl) hf with ⟨hcs, _⟩ | ⟨x, l, c, zs, hcs, _, hl, hm, hz, _, hcell, hwz⟩
    · simp [Value.cells] at hcs
      obtain ⟨rfl, rfl, rfl⟩ := hcs
      exact ⟨[], .inl ⟨rfl, rfl, rfl, rfl⟩⟩
    · simp [Value.cells] at hcs
      obtain ⟨rfl, rfl, rfl⟩ := hcs
      exact ⟨zs, .inr ⟨_, rfl, hl, hm, by simpa using hz, hcell, hwz⟩⟩
  clear hA0 hval0
  refine (walk a0 len0 cap0 z0 a1 a2 len2 cap2 z2 W w0 w1 w2).mono fun e W' ⟨he, bel⟩ => ?_
  subst he
  exact ⟨_, rfl, _, _, _, [], _, [], hW', trodAll_mk1 (shut_bool Try.underlying4 _), (trodAll_cons_mk (Below.trod laidOut (by kernel_rfl) (of_decide_eq_true (by kernel_rfl)) k0 bel lt0) (trodAll_cons_mk (shut_int Try.underlying3 w1) (trodAll_cons_mk (Below.trod laidOut (by kernel_rfl) (of_decide_eq_true (by kernel_rfl)) k2 bel lt2) trodAll_mk0))), rfl, bel.frame _, fun h => by cases h⟩

theorem over : Rows.fnExactRawRow.holds Try.pinned (OpenSpec.ofChange Rows.fnExactRawSpec) :=
  OpenClaim.holds_of_wide 12 Try.f12 rfl rfl rfl rfl rfl rfl rfl ⟨rfl, rfl, rfl, rfl, rfl⟩ rfl rfl rfl rfl rfl (by kernel_rfl) Try.func12 (by kernel_rfl)
    (of_decide_eq_true (by kernel_rfl)) (by unfold Func.isWrapper; first | (rw [if_pos (by decide +kernel)]; kernel_rfl) | (rw [if_neg (by decide +kernel)]; exact ⟨rfl, rfl⟩))
    (fun os started H enc _ => lifted os started H enc)

/-- ████ THE STATEMENT ████ -/
theorem proved : Rows.FnExactRawSaid := over
#print axioms proved
end Go.Proofs.Ytgkpdffgahadpaa.fnExactRaw

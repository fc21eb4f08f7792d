/-
  'FnReadBack' is proved: what is written with the codes is read back, symbol by symbol.
  No condition: every list of frequencies, every number of bits and every list of symbols.
-/
import Derived.Test.YtgkpdffgahadpaaRows
import Derived.Test.YtgkpdffgahadpaaBIRow
import Derived.WalkKit
import Derived.ProofKit
import Derived.OpenShut
import Derived.ShutString
import Derived.ChangeOld
import Derived.Below
namespace Go.Proofs.Ytgkpdffgahadpaa.fnReadBack
open Go.ChangeShapes Go.WideShapes Go.ChangeAt Go.RowKit
open Go.ChangeMaps (open_string shut_string)
set_option linter.unusedVariables false

theorem own : ownKnob Try.prog.godebug = none := by kernel_rfl
theorem laidOut : laidOutB Try.prog = true := by kernel_rfl

/-- WHAT THE WALK IS TOLD OF A SLICE OF INTEGERS THAT CAME IN: it is nil; or it leads to a row of 'cap' cells, the numbers 'zs' (the first 'len' are its elements, the rest its spare room), each fitting its kind. -/
def IsRow (k : IntKind) (w : World) (a : Option Addr) (len cap : Nat) (zs : List Int) : Prop :=
  (a = none ∧ len = 0 ∧ cap = 0 ∧ zs = []) ∨
  ∃ x, a = some x ∧ len ≤ cap ∧ cap ≤ maxLen ∧ zs.length = cap ∧ (∀ i, i < zs.length → w.cell? (x.add i) = some (.int k (zs.getD i 0))) ∧ ∀ n ∈ zs, (Lit.int k n).wf = true

set_option maxHeartbeats 8000000 in
set_option maxRecDepth 100000 in
theorem main (a : Option Addr) (cap : Nat) (f : List Nat) (bits : Int) (w : World) (hr : NRow .u16 w (.slice a f.length cap) f) (h16 : ∀ x ∈ f, x < 65536) (hl : f.length < 2147483648) (hbb : -9223372036854775808 ≤ bits ∧ bits ≤ 9223372036854775807) (a2 : Option Addr) (cap2 : Nat) (zs : List Int) (hg : IRow .i64 w (.slice a2 zs.length cap2) zs) (hgl : zs.length < 2147483648) :
    Calls Try.prog 10 #[.slice a f.length cap, .int .i64 bits, .slice a2 zs.length cap2] w fun e w' => e = .returned (.bool true) ∧ Below w.heap.size w w' := by
  have d1 : decide ((2147483647 : Int) < (f.length : Int)) = false := decide_eq_false (by omega)
  have d1g : decide ((2147483647 : Int) < (zs.length : Int)) = false := decide_eq_false (by omega)
  by_cases hw : 0 < f.length ∧ f.length ≤ 286 ∧ 1 ≤ bits ∧ bits ≤ 15
  · obtain ⟨hw0, hw1, hw2, hw3⟩ := hw
    obtain ⟨b, rfl⟩ := Int.eq_ofNat_of_zero_le (show 0 ≤ bits by omega)
    have hWY := well_yes (.slice a f.length cap) f b w hr hw0 hw1 (by omega) (by omega) h16
    have HR := Lib.hid hr
    have H16 := Lib.hid h16
    by_cases hP : (used f).length ≤ 2 ^ b
    · rw [decide_eq_true hP] at hWY
      have hW : WellF f b := ⟨hw0, hw1, by omega, by omega, h16, hP⟩
      have hG := good hW
      have HWY := Lib.hid hWY
      have HW := Lib.hid hW
      have HG := Lib.hid hG
      have hb15 : b ≤ 15 := by omega
      have hb1' : 1 ≤ b := by omega
      clear hWY hW hG hP hbb hw2 hw3
      obtain ⟨bk, o, rfl, hbl, hcc⟩ := nrow_slice hr hw0
      have HFC := Lib.hid hcc
      have HBB := Lib.hid (getD_bd h16)
      have HL15 := Lib.hid (getD_15 fun x hx => Nat.le_trans (HG.out.le x hx) hb15)
      clear hr h16 hcc
      have HGR := Lib.hid hg
      clear hg
      by_cases h2 : 2 ≤ (used f).length
      · have d2 : decide (((used f).length : Int) < 2) = false := decide_eq_false (by omega)
        have H2 := Lib.hid h2
        clear h2
        by_cases hz : zs.length ≤ 10000
        · have d3 : decide ((10000 : Int) < (zs.length : Int)) = false := decide_eq_false (by omega)
          go_enter Try.func10, Try.ntmps10
          go_wp2_with fail
          refine HWY.out.mono ?_
          rintro e w1 ⟨rfl, hb1⟩
          have HR1 := Lib.hid (HR.out.below hb1)
          have HB1 := Lib.hid hb1
          clear hb1
          go_wp2_with fail
          refine (used_any _ f w1 HR1.out (by omega) H16.out).mono ?_
          rintro e w2 ⟨v2, rfl, ho2, hb2⟩
          obtain ⟨au, cu, rfl⟩ := owns_shape ho2
          have HR2 := Lib.hid (HR1.out.below hb2)
          have HB2 := Lib.hid (below_up HB1.out hb2 HB1.out.size)
          clear ho2 hb2
          have HGC : Hid (0 < zs.length → ∃ b o, a2 = some ⟨b, o, none⟩ ∧ b < w.heap.size ∧ ∀ i, i < zs.length → w.cell? ⟨b, o + i, none⟩ = some (.int .i64 (zs.getD i 0))) := Lib.hid fun h0 => by
            obtain ⟨a', c', he, _, hc⟩ := HGR.out
            cases he
            exact hc h0
          go_wp2
          go_loopw [8, 41] (fun _ ii wr => ∃ k m : Nat, k ≤ zs.length ∧ ii = .int .i64 (k : Nat) ∧ wr = w2.drewN m ∧ Hid (∀ j, j < k → GoodS f (zs.getD j 0))) (fun _ ii _ => zs.length - (intOf ii).toNat)
          case atStart => exact ⟨0, 0, Nat.zero_le _, rfl, rfl, Lib.hid fun j hj => by omega⟩
          case round =>
            obtain ⟨k, m, hk, rfl, rfl, HGD⟩ := hrel
            have HB3 : Hid (Below w.heap.size w (w2.drewN m)) := below_dN HB2.out m
            by_cases hlt : k < zs.length
            · obtain ⟨bg, og, rfl, hbg, hgc⟩ := HGC.out (by omega)
              have hck : (w2.drewN m).cell? ⟨bg, og + k, none⟩ = _ := (HB2.out.cell (p := ⟨bg, og + k, none⟩) hbg).trans (hgc k hlt)
              have hnx : ∀ z, zs.getD k 0 = z → GoodS f z → ∀ j, j < k + 1 → GoodS f (zs.getD j 0) := fun z hz hg j hj => by
                by_cases e : j = k
                · subst e; rw [hz]; exact hg
                · exact HGD.out j (by omega)
              generalize hzv : zs.getD k 0 = z at *
              have HNX := Lib.hid (hnx z rfl)
              clear hgc hzv hnx
              by_cases hz0 : z < 0
              · have d5 : decide (z < 0) = true := decide_eq_true hz0
                generalize World.drewN w2 m = wd at *
                clear HNX HGD
                go_wp2
                exact bodyPost_ret (v := .bool true) (by simp [results, Try.results10, go_sem]) rfl ⟨rfl, HB3.out⟩
              · obtain ⟨s, rfl⟩ := Int.eq_ofNat_of_zero_le (show 0 ≤ z by omega)
                have d5 : decide ((s : Int) < 0) = false := decide_eq_false hz0
                clear hz0
                by_cases hsl : s < f.length
                · have hcf : (w2.drewN m).cell? ⟨bk, o + s, none⟩ = _ := (HB2.out.cell (p := ⟨bk, o + s, none⟩) hbl).trans (HFC.out s hsl)
                  have hy16 := HBB.out s
                  have d6 : decide ((f.length : Int) ≤ (s : Int)) = false := decide_eq_false (by omega)
                  have HGS : Hid (0 < f.getD s 0 → GoodS f (s : Int)) := Lib.hid fun h => ⟨by omega, by omega, h⟩
                  generalize f.getD s 0 = y at *
                  generalize hwd : World.drewN w2 m = wd at *
                  have HWD := Lib.hid hwd
                  clear hwd
                  by_cases hy0 : y = 0
                  · subst hy0
                    have hcf : wd.cell? ⟨bk, o + s, none⟩ = some (.int .u16 0) := hcf
                    clear HNX HGD HGS
                    go_wp2
                    exact bodyPost_ret (v := .bool true) (by simp [results, Try.results10, go_sem]) rfl ⟨rfl, HB3.out⟩
                  · have hy1 : 0 < y := by omega
                    have HN2 := Lib.hid (HNX.out (HGS.out hy1))
                    have hyb : ((y : Int) == 0) = false := beq_eq_false_iff_ne.2 (by omega)
                    clear hy0 HGS HNX HGD
                    go_wp2
                    go_roundw
                    case rel => exact ⟨k + 1, m, by omega, by go_num, HWD.out.symm, HN2⟩
                    case measure => simp [intOf]; omega
                · have hge : f.length ≤ s := by omega
                  generalize World.drewN w2 m = wd at *
                  clear HNX HGD hsl
                  go_wp2
                  exact bodyPost_ret (v := .bool true) (by simp [results, Try.results10, go_sem]) rfl ⟨rfl, HB3.out⟩
            · have hkl : k = zs.length := by omega
              subst hkl
              have HR3 : Hid (NRow .u16 (w2.drewN m) _ f) := HR2.out
              have HGR3 := Lib.hid (HGR.out.below HB3.out)
              generalize World.drewN w2 m = w3 at *
              obtain ⟨hE, hM⟩ := goods_nat HGD.out
              have hNL := HGR3.out.toN hE
              have hll : (zs.map Int.toNat).length = zs.length := by rw [List.length_map]
              generalize zs.map Int.toNat = l at *
              have HLS := Lib.hid hNL
              have HM := Lib.hid hM
              have HLL := Lib.hid hll
              clear hE hM hNL hll HGD HGC HGR HGR3 hlt hk
              go_wp2_with fail
              refine (codes_any _ f b w3 HR3.out HW.out).mono ?_
              rintro e w4 ⟨vc, vl, rfl, hoc, hol, hbj⟩
              obtain ⟨gc, cc, rfl⟩ := owns_slice hoc hw0
              obtain ⟨gl, cl, rfl⟩ := owns_slice hol hw0
              have HB4 := Lib.hid (below_up HB3.out hbj HB3.out.size)
              have HR4 := Lib.hid (HR3.out.below hbj)
              have HNL := Lib.hid (NRow.of_owns HG.out.len.symm hol)
              have HNC := Lib.hid (NRow.of_owns (by rw [bitsG_len]; exact HG.out.len.symm) hoc)
              have HCL := Lib.hid (owns_cells hol HG.out.len.symm (Below.refl _ _))
              have HCC := Lib.hid (owns_cells hoc (by rw [bitsG_len]; exact HG.out.len.symm) (Below.refl _ _))
              have HLS4 := Lib.hid (HLS.out.below hbj)
              clear hoc hol hbj
              obtain ⟨i0, hi, hz0, hz1, hz2⟩ := info_parts info_int
              go_wp2_with (at_make; refine wpList_make0 w4 w4 rfl _ _ 24 rfl Try.underlying24 hi hz0 hz1 hz2 (by decide) .i64 .i64 (f.length : Int) (f.length : Int) f.length rfl rfl rfl rfl (by omega) (Nat.le_refl _) (Below.refl _ _) ?_; intro w5 ho5 hb5; have HO5 := Lib.hid ho5; have HB5 := Lib.hid hb5; clear ho5 hb5)
              have HLE : Hid ((lensG f b).length = f.length) := Lib.hid HG.out.len
              have HKR : Hid (kraft (lensG f b) ≤ 32768) := Lib.hid (by rw [HG.out.kraft H2.out]; exact Nat.le_refl _)
              have HML : Hid (∀ x ∈ lensG f b, x ≤ 15) := Lib.hid fun x hx => Nat.le_trans (HG.out.le x hx) hb15
              have HCE : Hid ((canonL (lensG f b)).length = f.length) := Lib.hid (by rw [canonL_len]; exact HG.out.len)
              clear hi hz0 hz1 hz2
              go_loopw [12, 13, 84] (fun _ _ ii wr => ∃ k : Nat, k ≤ f.length ∧ ii = .int .i64 (k : Nat) ∧ wr.ownsRow w4.heap.size 3 1 (.slice (some ⟨w4.heap.size, 0, none⟩) f.length f.length) f.length (nv .i64 (encC (canonL (lensG f b)) k)) ∧ Below w4.heap.size w4 wr) (fun _ _ ii _ => f.length - (intOf ii).toNat)
              case atStart => exact ⟨0, Nat.zero_le _, rfl, by rw [encC_zero, HCE.out]; exact HO5.out, HB5.out⟩
              case round =>
                obtain ⟨k, hk, rfl, hown, hbel⟩ := hrel
                clear HO5 HB5
                by_cases hlk : k < f.length
                · have kc : wr.cell? ⟨gc, k, none⟩ = _ := (hbel.cell (p := ⟨gc, k, none⟩) (World.block_lt_of_cell? _ _ (HCC.out k hlk))).trans (HCC.out k hlk)
                  have kl : wr.cell? ⟨gl, k, none⟩ = _ := (hbel.cell (p := ⟨gl, k, none⟩) (World.block_lt_of_cell? _ _ (HCL.out k hlk))).trans (HCL.out k hlk)
                  have hs1 := owns_cell hown k hlk (by rw [encC_len]; exact HCE.out.symm)
                  have hf1 := hown.frozenAt k
                  have hxb := bitsG_lt (lensG f b) k
                  have hyl := HL15.out k
                  have HTN := Lib.hid (fun W => turn_any ((bitsG (lensG f b)).getD k 0) ((lensG f b).getD k 0) (by omega) (by omega) W)
                  have HTG := Lib.hid (turnG HKR.out HML.out k (by rw [HLE.out]; exact hlk))
                  have HST := Lib.hid (encC_succ (canonL (lensG f b)) k)
                  have htb := PT.turn_lt ((bitsG (lensG f b)).getD k 0) ((lensG f b).getD k 0)
                  have hp2 : 2 ^ (lensG f b).getD k 0 ≤ 32768 := Nat.le_trans (Nat.pow_le_pow_right (by omega) hyl) (by decide)
                  have htb2 : PT.turn ((bitsG (lensG f b)).getD k 0) ((lensG f b).getD k 0) < 32768 := by omega
                  have HO := Lib.hid hown
                  have HB := Lib.hid hbel
                  clear hown hbel htb hp2
                  generalize PT.turn ((bitsG (lensG f b)).getD k 0) ((lensG f b).getD k 0) = t at *
                  generalize (bitsG (lensG f b)).getD k 0 = x at *
                  generalize (lensG f b).getD k 0 = y at *
                  generalize (encC (canonL (lensG f b)) k).getD k 0 = u at *
                  go_wp2_with (go_at_call 19; refine (HTN.out _).mono ?_; rintro e w6 ⟨rfl, rfl⟩)
                  go_roundw
                  case rel =>
                    refine ⟨k + 1, by omega, by go_num, ?_, HB.out.setCell (Nat.le_refl _) _⟩
                    rw [HST.out, ← HTG.out]
                    exact owns_set HO.out k t
                  case measure => simp [intOf]; omega
                · have hkl : k = f.length := by omega
                  subst hkl
                  have hall : encC (canonL (lensG f b)) f.length = canonL (lensG f b) := by
                    have h9 := encC_all (canonL (lensG f b))
                    rwa [HCE.out] at h9
                  rw [hall] at hown
                  have hNT := NRow.of_owns HCE.out.symm hown
                  have hNLr := HNL.out.below hbel
                  have hLSr := HLS4.out.below hbel
                  have hB6 := below_up HB4.out hbel HB4.out.size
                  have hl1 : l.length ≤ 10000 := by rw [HLL.out]; exact hz
                  have hP := prefix_of (list := l) HKR.out HML.out fun s hs => ⟨by rw [HLE.out]; exact (HM.out s hs).1, (HG.out.pos s (HM.out s hs).1).2 (HM.out s hs).2⟩
                  have hWR := write_any (.slice a2 zs.length cap2) _ _ l (canonL (lensG f b)) (lensG f b) wr hLSr hNT hNLr hl1 (fun s hs => by rw [HCE.out, HLE.out]; exact ⟨(HM.out s hs).1, (HM.out s hs).1⟩) HL15.out (canonL_lt HKR.out HML.out)
                  have HWR := Lib.hid hWR
                  have HNT := Lib.hid hNT
                  have HNLr := Lib.hid hNLr
                  have HLSr := Lib.hid hLSr
                  have HB6 := Lib.hid hB6
                  have HPX := Lib.hid hP
                  have HL1 := Lib.hid hl1
                  clear hown hbel hall hNT hNLr hLSr hB6 hl1 hP hWR HCL HCC HNL HNC HLS HLS4
                  go_wp2_with fail
                  refine HWR.out.mono ?_
                  rintro e w7 ⟨v7, rfl, ho7, hb7⟩
                  have HN7 := Lib.hid (NRow.of_owns rfl ho7)
                  have HT7 := Lib.hid (HNT.out.below hb7)
                  have HL7 := Lib.hid (HNLr.out.below hb7)
                  have HS7 := Lib.hid (HLSr.out.below hb7)
                  have HB7 := Lib.hid (below_up HB6.out hb7 HB6.out.size)
                  clear ho7 hb7 HWR HNT HNLr HLSr
                  go_wp2_with fail
                  refine (read_any v7 _ _ l (canonL (lensG f b)) (lensG f b) w7 HN7.out HT7.out HL7.out HL1.out (by rw [HLE.out]; omega) HPX.out (canonL_lt HKR.out HML.out) HL15.out).mono ?_
                  rintro e w8 ⟨v8, rfl, ho8, hb8⟩
                  have HN8 := Lib.hid (NRow.of_owns rfl ho8)
                  have HS8 := Lib.hid (HS7.out.below hb8)
                  have HB8 := Lib.hid (below_up HB7.out hb8 HB7.out.size)
                  clear ho8 hb8
                  go_wp2_with fail
                  refine (eqI_same v8 (.slice a2 zs.length cap2) l w8 HN8.out HS8.out (by have := HL1.out; omega)).mono ?_
                  rintro e w9 ⟨rfl, q, rfl⟩
                  go_wp2
                  go_ret
                  exact ⟨rfl, below_dN HB8.out q⟩
        · have d3 : decide ((10000 : Int) < (zs.length : Int)) = true := decide_eq_true (by omega)
          clear hz
          go_enter Try.func10, Try.ntmps10
          go_wp2_with fail
          refine HWY.out.mono ?_
          rintro e w1 ⟨rfl, hb1⟩
          have HR1 := Lib.hid (HR.out.below hb1)
          have HB1 := Lib.hid hb1
          clear hb1
          go_wp2_with fail
          refine (used_any _ f w1 HR1.out (by omega) H16.out).mono ?_
          rintro e w2 ⟨v2, rfl, ho2, hb2⟩
          obtain ⟨a2, c2, rfl⟩ := owns_shape ho2
          have HR2 := Lib.hid (HR1.out.below hb2)
          have HB2 := Lib.hid (below_up HB1.out hb2 HB1.out.size)
          clear ho2 hb2
          go_wp2
          go_ret
          exact ⟨rfl, HB2.out⟩
      · have d2 : decide (((used f).length : Int) < 2) = true := decide_eq_true (by omega)
        clear h2
        go_enter Try.func10, Try.ntmps10
        go_wp2_with fail
        refine HWY.out.mono ?_
        rintro e w1 ⟨rfl, hb1⟩
        have HR1 := Lib.hid (HR.out.below hb1)
        have HB1 := Lib.hid hb1
        clear hb1
        go_wp2_with fail
        refine (used_any _ f w1 HR1.out (by omega) H16.out).mono ?_
        rintro e w2 ⟨v2, rfl, ho2, hb2⟩
        obtain ⟨a2, c2, rfl⟩ := owns_shape ho2
        have HR2 := Lib.hid (HR1.out.below hb2)
        have HB2 := Lib.hid (below_up HB1.out hb2 HB1.out.size)
        clear ho2 hb2
        go_wp2
        go_ret
        exact ⟨rfl, HB2.out⟩
    · rw [decide_eq_false hP] at hWY
      have HWY := Lib.hid hWY
      clear hWY hP hr h16 hbb hw2 hw3
      go_enter Try.func10, Try.ntmps10
      go_wp2_with fail
      refine HWY.out.mono ?_
      rintro e w1 ⟨rfl, hb1⟩
      have HB1 := Lib.hid hb1
      clear hb1
      go_wp2
      go_ret
      exact ⟨rfl, HB1.out⟩
  · have HWN := Lib.hid (well_no a f.length cap bits w hw hbb)
    clear hr h16 hbb hw
    go_enter Try.func10, Try.ntmps10
    go_wp2_with fail
    refine HWN.out.mono ?_
    rintro e w1 ⟨rfl, m, rfl⟩
    go_wp2
    go_ret
    exact ⟨rfl, below_dN (Below.refl _ _) m⟩

theorem long (a : Option Addr) (n c : Nat) (s : Int) (u : Value) (w : World) (h : 2147483648 ≤ n) : Calls Try.prog 10 #[.slice a n c, .int .i64 s, u] w fun e w' => e = .returned (.bool true) ∧ Below w.heap.size w w' := by
  have d1 : decide ((2147483647 : Int) < (n : Int)) = true := decide_eq_true (by omega)
  clear h
  go_enter Try.func10, Try.ntmps10
  go_wp2
  go_ret
  exact ⟨rfl, Below.refl _ _⟩
theorem long2 (a b : Option Addr) (n c n2 c2 : Nat) (s : Int) (w : World) (h1 : n < 2147483648) (h : 2147483648 ≤ n2) : Calls Try.prog 10 #[.slice a n c, .int .i64 s, .slice b n2 c2] w fun e w' => e = .returned (.bool true) ∧ Below w.heap.size w w' := by
  have d1 : decide ((2147483647 : Int) < (n : Int)) = false := decide_eq_false (by omega)
  have d2 : decide ((2147483647 : Int) < (n2 : Int)) = true := decide_eq_true (by omega)
  clear h h1
  go_enter Try.func10, Try.ntmps10
  go_wp2
  go_ret
  exact ⟨rfl, Below.refl _ _⟩

theorem walk (a0 : Option Addr) (len0 cap0 : Nat) (z0 : List Int) (a1 : Int) (a2 : Option Addr) (len2 cap2 : Nat) (z2 : List Int) (w : World) (w0 : IsRow .u16 w a0 len0 cap0 z0) (w1 : (Lit.int .i64 a1).wf = true) (w2 : IsRow .i64 w a2 len2 cap2 z2) :
    Calls Try.prog 10 #[.slice a0 len0 cap0, .int .i64 a1, .slice a2 len2 cap2] w fun e w' => e = .returned (.bool true) ∧ Below w.heap.size w w' := by
  by_cases h0 : 2147483648 ≤ len0
  · exact long a0 len0 cap0 a1 _ w h0
  by_cases h1 : 2147483648 ≤ len2
  · exact long2 a0 a2 len0 cap0 len2 cap2 a1 w (by omega) h1
  obtain ⟨l, hl, hn, hb⟩ := nrow_of (B := 65536) (fun n hn => by have := bounds_u16 hn; omega) w0
  obtain ⟨g, hg, hgn, _⟩ := irow_of w2
  have hbb := bounds_i64 w1
  subst hl
  subst hg
  exact main a0 cap0 l a1 w hn hb (by omega) (by omega) a2 cap2 g hgn (by omega)

/-! ### THE ROW's STEP: WRITTEN OUT: LEAVE IT -/
set_option maxRecDepth 100000 in
theorem lifted (os : Os) (started : os.Started) (H : Type) (enc : TypeId × Value → H) :
    ReturnsInHanded {} Try.checked os 10 .any (Rows.fnReadBackSpec.pre6 enc Try.prog Try.f10 Rows.fnReadBackRow.domain false) (Rows.fnReadBackSpec.post enc Try.prog Try.f10 false true false false) := by
  refine returnsInHanded_of_change (C := Try.checked) own started (by kernel_rfl) Try.func10
    (ChangeSpec.witness6 (enc := enc) (C := Try.checked) false ⟨#[], #[.slice none 0 0, .int .i64 0, .slice none 0 0], []⟩ 8 (by kernel_rfl) (by kernel_rfl) (by kernel_rfl) (by kernel_rfl)) ?_
  intro W base args ds gs before hval0 hW hcnd _
  have hval : ∀ (j : Nat) t v, Try.f10.params[j]? = some t → args[j]? = some v → Value.okWide Try.prog W .any base t v := hval0
  have hW' := hW
  obtain ⟨p, q, hA0, hV, rfl, hfz, hnd⟩ := hW
  have hA : DataW.TrodAll enc Try.prog W 0 (fun _ => true) true Try.f10.params.toList args.toList ds p := hA0
  rw [Try.params10] at hA hval
  obtain ⟨v0, vs0, d0, ds0, p0, q0, hargs, rfl, rfl, h0, r0⟩ := trodAll_cons hA
  obtain ⟨v1, vs1, d1, ds1, p1, q1, rfl, rfl, rfl, h1, r1⟩ := trodAll_cons r0
  obtain ⟨v2, vs2, d2, ds2, p2, q2, rfl, rfl, rfl, h2, r2⟩ := trodAll_cons r1
  obtain ⟨rfl, rfl, rfl⟩ := trodAll_nil r2
  obtain rfl : args = #[v0, v1, v2] := by cases args; simp_all
  obtain ⟨rfl, rfl⟩ := trodVars_none hV
  obtain ⟨a0, len0, cap0, rfl⟩ := okWide_slice Try.underlying22 (hval 0 22 v0 rfl rfl)
  have k0 := h0
  have lt0 : ∀ x ∈ p0, x.block < W.heap.size := by obtain ⟨m, hm⟩ := k0; exact DataW.trod_lt m _ _ _ hm
  obtain ⟨z0, w0⟩ : ∃ zs, IsRow .u16 W a0 len0 cap0 zs := by
    obtain ⟨fuel, hf⟩ := h0
    rcases open_ints Try.underlying22 Try.underlying29 (by kernel_rfl) hf with ⟨hcs, _⟩ | ⟨x, l, c, zs, hcs, _, hl, hm, hz, _, hcell, hwz⟩
    · simp [Value.cells] at hcs
      obtain ⟨rfl, rfl, rfl⟩ := hcs
      exact ⟨[], .inl ⟨rfl, rfl, rfl, rfl⟩⟩
    · simp [Value.cells] at hcs
      obtain ⟨rfl, rfl, rfl⟩ := hcs
      exact ⟨zs, .inr ⟨_, rfl, hl, hm, by simpa using hz, hcell, hwz⟩⟩
  obtain ⟨a1, rfl, rfl, rfl, w1⟩ := open_int Try.underlying3 (hval 1 3 v1 rfl rfl) h1
  obtain ⟨a2, len2, cap2, rfl⟩ := okWide_slice Try.underlying24 (hval 2 24 v2 rfl rfl)
  have k2 := h2
  have lt2 : ∀ x ∈ p2, x.block < W.heap.size := by obtain ⟨m, hm⟩ := k2; exact DataW.trod_lt m _ _ _ hm
  obtain ⟨z2, w2⟩ : ∃ zs, IsRow .i64 W a2 len2 cap2 zs := by
    obtain ⟨fuel, hf⟩ := h2
    rcases open_ints Try.underlying24 Try.underlying3 (by kernel_rfl) hf with ⟨hcs, _⟩ | ⟨x, l, c, zs, hcs, _, hl, hm, hz, _, hcell, hwz⟩
    · simp [Value.cells] at hcs
      obtain ⟨rfl, rfl, rfl⟩ := hcs
      exact ⟨[], .inl ⟨rfl, rfl, rfl, rfl⟩⟩
    · simp [Value.cells] at hcs
      obtain ⟨rfl, rfl, rfl⟩ := hcs
      exact ⟨zs, .inr ⟨_, rfl, hl, hm, by simpa using hz, hcell, hwz⟩⟩
  clear hA0 hval0
  refine (walk a0 len0 cap0 z0 a1 a2 len2 cap2 z2 W w0 w1 w2).mono fun e W' ⟨he, bel⟩ => ?_
  subst he
  exact ⟨_, rfl, _, _, _, [], _, [], hW', trodAll_mk1 (shut_bool Try.underlying4 _), (trodAll_cons_mk (Below.trod laidOut (by kernel_rfl) (of_decide_eq_true (by kernel_rfl)) k0 bel lt0) (trodAll_cons_mk (shut_int Try.underlying3 w1) (trodAll_cons_mk (Below.trod laidOut (by kernel_rfl) (of_decide_eq_true (by kernel_rfl)) k2 bel lt2) trodAll_mk0))), rfl, bel.frame _, fun h => by cases h⟩

theorem over : Rows.fnReadBackRow.holds Try.pinned (OpenSpec.ofChange Rows.fnReadBackSpec) :=
  OpenClaim.holds_of_wide 10 Try.f10 rfl rfl rfl rfl rfl rfl rfl ⟨rfl, rfl, rfl, rfl, rfl⟩ rfl rfl rfl rfl rfl (by kernel_rfl) Try.func10 (by kernel_rfl)
    (of_decide_eq_true (by kernel_rfl)) (by unfold Func.isWrapper; first | (rw [if_pos (by decide +kernel)]; kernel_rfl) | (rw [if_neg (by decide +kernel)]; exact ⟨rfl, rfl⟩))
    (fun os started H enc _ => lifted os started H enc)

/-- ████ THE STATEMENT ████ -/
theorem proved : Rows.FnReadBackSaid := over
#print axioms proved
end Go.Proofs.Ytgkpdffgahadpaa.fnReadBack

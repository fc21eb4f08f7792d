/-
  'FnCounts' is proved: the counts are those of all symbols, leave no room, and need no more bits than the coins of the package-merge algorithm are worth.
  No condition: every list of frequencies and every number of bits.
-/
import Derived.Test.YtokbkbchblfcoaaRows
import Derived.Test.YtokbkbchblfcoaaPCntI
import Derived.Test.YtokbkbchblfcoaaSSorted
import Derived.Test.YtokbkbchblfcoaaSWell
import Derived.Test.YtokbkbchblfcoaaSCost
import Derived.Test.YtokbkbchblfcoaaSLeast
import Derived.WalkKit
import Derived.ProofKit
import Derived.OpenShut
import Derived.ShutString
import Derived.ChangeOld
import Derived.Below
namespace Go.Proofs.Ytokbkbchblfcoaa.fnCounts
open Go.ChangeShapes Go.WideShapes Go.ChangeAt Go.RowKit
open Go.ChangeMaps (open_string shut_string)
set_option linter.unusedVariables false

theorem own : ownKnob Try.prog.godebug = none := by kernel_rfl
theorem laidOut : laidOutB Try.prog = true := by kernel_rfl

/-- WHAT THE WALK IS TOLD OF A SLICE OF INTEGERS THAT CAME IN: it is nil; or it leads to a row of 'cap' cells, the numbers 'zs' (the first 'len' are its elements, the rest its spare room), each fitting its kind. -/
def IsRow (k : IntKind) (w : World) (a : Option Addr) (len cap : Nat) (zs : List Int) : Prop :=
  (a = none ∧ len = 0 ∧ cap = 0 ∧ zs = []) ∨
  ∃ x, a = some x ∧ len ≤ cap ∧ cap ≤ maxLen ∧ zs.length = cap ∧ (∀ i, i < zs.length → w.cell? (x.add i) = some (.int k (zs.getD i 0))) ∧ ∀ n ∈ zs, (Lit.int k n).wf = true

theorem used_same (f : List Nat) (hs : PM.Srt f) (h0 : f.getD 0 0 ≠ 0) (h3 : 0 < f.length) : (∀ x ∈ f, 0 < x) ∧ used f = f := by
  have hp : ∀ x ∈ f, 0 < x := by
    intro x hx
    obtain ⟨i, hi, rfl⟩ := List.mem_iff_getElem.1 hx
    have h := PM.getD_srt hs (Nat.zero_le i) hi
    rw [PM.getD_of hi] at h
    omega
  refine ⟨hp, ?_⟩
  have e : usedF f = f := List.filter_eq_self.2 fun x hx => by simpa using hp x hx
  unfold used; rw [e]; exact PM.srt_of_sorted hs

theorem owns_slice {w : World} {base e n size : Nat} {v : Value} {xs : List Value} (h : w.ownsRow base e size v n xs) (hn : 0 < n) : ∃ g cap, v = .slice (some ⟨g, 0, none⟩) n cap := by
  rcases h.2 with ⟨_, h0⟩ | ⟨g, cap, cur, rfl, _⟩
  · omega
  · exact ⟨g, cap, rfl⟩
theorem shares_bd (l : List Nat) (h : ∀ k, l.getD k 0 ≤ 286) : ∀ k, PM.shares l k ≤ 286 * 32768 * k
  | 0 => Nat.le_refl _
  | k + 1 => by
    have h1 := shares_bd l h k
    have h2 := h k
    have h3 : 2 ^ (15 - k) ≤ 32768 := Nat.le_trans (Nat.pow_le_pow_right (by omega) (show 15 - k ≤ 15 by omega)) (by decide)
    have h4 : l.getD k 0 * 2 ^ (15 - k) ≤ 286 * 32768 := Nat.mul_le_mul h2 h3
    simp only [PM.shares]
    split <;> omega

set_option maxHeartbeats 4000000 in
set_option maxRecDepth 100000 in
theorem main (v : Value) (a : Option Addr) (cap : Nat) (f : List Nat) (bits : Int) (w : World) (hv : v = .slice a f.length cap) (hr : NRow .u16 w v f) (h16 : ∀ x ∈ f, x < 65536) (h3 : 3 ≤ f.length) (hl : f.length < 2147483648) (hbb : -9223372036854775808 ≤ bits ∧ bits ≤ 9223372036854775807) :
    Calls Try.prog 8 #[v, .int .i64 bits] w fun e w' => e = .returned (.bool true) ∧ Below w.heap.size w w' := by
  subst hv
  have HR := Lib.hid hr
  have H16 := Lib.hid h16
  have HBB := Lib.hid hbb
  have d1 : decide ((2147483647 : Int) < (f.length : Int)) = false := decide_eq_false (by omega)
  have d2 : decide ((f.length : Int) < 3) = false := decide_eq_false (by omega)
  have HSO := Lib.hid (sorted_any (.slice a f.length cap) f w hr (by omega))
  obtain ⟨a', c', he, _, hc⟩ := hr
  cases he
  obtain ⟨bk, o, rfl, hbl, hcc⟩ := hc (by omega)
  have k0 := hcc 0 (by omega)
  rw [Nat.add_zero] at k0
  have H3 := Lib.hid h3
  have HL := Lib.hid hl
  have h0l : 0 < f.length := by omega
  clear hc hcc h16 hbb h3 hl
  go_enter Try.func8, Try.ntmps8
  go_wp2_with fail
  refine HSO.out.mono ?_
  rintro e w1 ⟨⟨bb, rfl, hb⟩, m, rfl⟩
  have k1 : (w.drewN m).cell? ⟨bk, o, none⟩ = _ := k0
  have HB1 : Hid (Below w.heap.size w (w.drewN m)) := below_dN (Below.refl _ _) m
  cases bb with
  | false =>
    go_wp2
    go_ret
    exact ⟨rfl, HB1.out⟩
  | true =>
    have hs := hb rfl
    have HS := Lib.hid hs
    clear hb hs HSO k0
    have HR1 : Hid (NRow .u16 (w.drewN m) (.slice (some ⟨bk, o, none⟩) f.length cap) f) := HR.out
    by_cases hx0 : f.getD 0 0 = 0
    · rw [hx0] at k1
      have k1 : (w.drewN m).cell? ⟨bk, o, none⟩ = some (.int .u16 0) := k1
      clear hx0
      go_wp2
      go_ret
      exact ⟨rfl, HB1.out⟩
    · have hx1 : (((f.getD 0 0 : Nat) : Int) == 0) = false := beq_eq_false_iff_ne.2 (by omega)
      have HX := Lib.hid hx0
      have hx2 : 0 < f.getD 0 0 := by omega
      clear hx0
      generalize hfv : f.getD 0 0 = x0 at *
      have HFV := Lib.hid hfv
      clear hfv
      go_wp2_with fail
      by_cases hw : 0 < f.length ∧ f.length ≤ 286 ∧ 1 ≤ bits ∧ bits ≤ 15
      · obtain ⟨_, hw1, hw2, hw3⟩ := hw
        obtain ⟨b, rfl⟩ := Int.eq_ofNat_of_zero_le (show 0 ≤ bits by omega)
        refine (well_yes _ f b (w.drewN m) HR1.out h0l hw1 (by omega) (by omega) H16.out).mono ?_
        rintro e w2 ⟨rfl, hb2⟩
        have HB2 := Lib.hid (below_up HB1.out hb2 (Nat.le_refl _))
        have HR2 := Lib.hid (HR1.out.below hb2)
        clear hb2
        obtain ⟨hpos, hus⟩ := used_same f HS.out (by rw [HFV.out]; omega) h0l
        rw [hus]
        by_cases hP : f.length ≤ 2 ^ b
        · rw [decide_eq_true hP]
          have hF := PM.freqs_of HS.out hpos (fun x hx => by have := H16.out x hx; omega) H3.out (by omega) (show 1 ≤ b by omega) (show b ≤ 15 by omega) hP
          have HF := Lib.hid hF
          have HEN := Lib.hid (PM.lvl_enough' f b (by omega) hP)
          have HP := Lib.hid hpos
          have HU := Lib.hid hus
          have HIC := Lib.hid (iCnt_any (.slice (some ⟨bk, o, none⟩) f.length cap) f b w2 HR2.out hF (by omega) (by omega))
          have hLs := PM.least_same (bits := b) HS.out hpos H3.out
          have HLS := Lib.hid hLs
          have hL1 := hF.L1
          have hLb : min b (f.length - 1) ≤ b := Nat.min_le_left _ _
          clear hF hpos hus hP hLs
          generalize min b (f.length - 1) = L at *
          go_wp2_with fail
          refine HIC.out.mono ?_
          rintro e w3 ⟨v3, rfl, ho3, hb3⟩
          obtain ⟨g, c3, rfl⟩ := owns_slice ho3 (by omega)
          have HB3 := Lib.hid (below_up HB2.out hb3 HB2.out.size)
          have HR3 := Lib.hid (HR2.out.below hb3)
          have HN3 := Lib.hid (NRow.of_owns (PM.bcl_len f L).symm ho3)
          have HC3 : Hid (∀ k, k < L + 1 → w3.cell? ⟨g, k, none⟩ = some (.int .i32 ((PM.bcl f L).getD k 0 : Nat))) := Lib.hid fun k hk => owns_cell ho3 k hk (PM.bcl_len f L).symm
          clear ho3 hb3 HIC
          have hb15 : b ≤ 15 := by omega
          go_wp2
          go_loop [6, 7, 8, 9, 38] (fun nn rr _ _ ii => ∃ k N R : Nat, k ≤ L + 1 ∧ ii = .int .i64 (k : Nat) ∧ nn = .int .i64 (N : Nat) ∧ rr = .int .i64 (R : Nat) ∧ N ≤ 286 * k ∧ R ≤ 286 * 32768 * k ∧ Hid (N = ((PM.bcl f L).take k).sum) ∧ Hid (R = PM.shares (PM.bcl f L) k)) (fun _ _ _ _ ii => L + 1 - (intOf ii).toNat)
          case atStart => exact ⟨0, 0, 0, Nat.zero_le _, rfl, rfl, rfl, by omega, by omega, rfl, rfl⟩
          case round =>
            obtain ⟨k, N, R, hk, rfl, rfl, rfl, hN, hR, hNe, hRe⟩ := hrel
            by_cases hlt : k < L + 1
            · have kc := HC3.out k hlt
              have hcb : (PM.bcl f L).getD k 0 ≤ 286 := Nat.le_trans (PM.bcl_le k) hw1
              have HS1 := Lib.hid (sum_take_succ (PM.bcl f L) k (by rw [PM.bcl_len]; exact hlt))
              have HS2 : Hid (PM.shares (PM.bcl f L) (k + 1) = PM.shares (PM.bcl f L) k + if 0 < k then (PM.bcl f L).getD k 0 * 2 ^ (15 - k) else 0) := rfl
              have HZ := Lib.hid (PM.bcl_zero f L)
              have hkb : k ≤ b := by omega
              have e1 : decide ((b : Int) < (k : Int)) = false := decide_eq_false (by omega)
              by_cases hk0 : k = 0
              · subst hk0
                have kc0 : w3.cell? ⟨g, 0, none⟩ = some (.int .i32 0) := kc
                have hNR : N = 0 ∧ R = 0 := ⟨by omega, by omega⟩
                obtain ⟨rfl, rfl⟩ := hNR
                clear kc hcb hN hR
                go_wp2
                go_round
                case rel =>
                  refine ⟨1, 0, 0, by omega, rfl, rfl, rfl, by omega, by omega, ?_, ?_⟩
                  · show 0 = _
                    rw [show (1 : Nat) = 0 + 1 from rfl, HS1.out, HZ.out]; rfl
                  · show 0 = _
                    rw [show (1 : Nat) = 0 + 1 from rfl, HS2.out]; rfl
                case measure => first | (simp [intOf]; done) | (simp [intOf]; omega)
              · have e2 : ((k : Int) == 0) = false := beq_eq_false_iff_ne.2 (by omega)
                have hk1 : 0 < k := by omega
                have hk15 : k ≤ 15 := by omega
                have hmin : min (k : Int) 15 = (k : Int) := Int.min_eq_left (by omega)
                have hp : (2 : Int) ^ (15 - (k : Int)).toNat = ((2 ^ (15 - k) : Nat) : Int) := by
                  have e : (15 - (k : Int)).toNat = 15 - k := by omega
                  rw [e]; simp
                have hb : 2 ^ (15 - k) ≤ 32768 := Nat.le_trans (Nat.pow_le_pow_right (by omega) (show 15 - k ≤ 15 by omega)) (by decide)
                have hp3 : (2 : Int) ^ (15 - k) = ((2 ^ (15 - k) : Nat) : Int) := by simp
                rw [if_pos hk1] at HS2
                have hxy : (PM.bcl f L).getD k 0 * 2 ^ (15 - k) ≤ 286 * 32768 := Nat.mul_le_mul hcb hb
                have HXY := Lib.hid hxy
                have e3 : decide ((286 : Int) < (((PM.bcl f L).getD k 0 : Nat) : Int)) = false := decide_eq_false (by omega)
                have HHB := Lib.hid hb
                have HK0 := Lib.hid hk0
                clear hxy hb hk0
                generalize (PM.bcl f L).getD k 0 = c at *
                generalize (2 : Nat) ^ (15 - k) = y at *
                go_wp2
                all_goals
                  go_round
                  case rel =>
                    clear hp hp3
                    obtain ⟨P, hPe⟩ : ∃ P, P = c * y := ⟨_, rfl⟩
                    have hP := HXY.out
                    rw [← hPe] at hP
                    have ep : ((c : Int) * (y : Int)) = (P : Int) := by rw [hPe]; push_cast; rfl
                    rw [ep, IntWalk.wrap64_in (P : Int) (by omega), IntWalk.wrap64_in ((R : Int) + (P : Int)) (by omega)]
                    refine ⟨k + 1, N + c, R + P, by omega, by go_num, by go_num, by go_num, by omega, by omega, ?_, ?_⟩
                    · show N + c = _
                      rw [HS1.out, ← hNe.out]
                    · show R + P = _
                      rw [HS2.out, hPe, ← hRe.out]
                  case measure => first | (simp [intOf]; done) | (simp [intOf]; omega)
            · have hkL : k = L + 1 := by omega
              subst hkL
              have hsum : N = f.length := by rw [hNe.out, List.take_of_length_le (by rw [PM.bcl_len]; exact Nat.le_refl _)]; exact PM.bcl_total HF.out
              have hroom : R = 32768 := by rw [hRe.out]; exact PM.kraft_bcl HF.out
              subst hsum
              subst hroom
              have HW := Lib.hid (cost_any (.slice (some ⟨g, 0, none⟩) (L + 1) c3) (.slice (some ⟨bk, o, none⟩) f.length cap) (PM.bcl f L) f w3 HN3.out HR3.out (by rw [PM.bcl_len]; omega) (fun k => by have := PM.bcl_le (f := f) (L := L) k; omega) (by omega) (fun x hx => by have := H16.out x hx; omega) (by rw [PM.bcl_total HF.out]; exact Nat.le_refl _))
              rw [PM.bcl_len, PM.worth_least HF.out, ← HLS.out] at HW
              clear hN hR
              go_wp2_with fail
              refine HW.out.mono ?_
              rintro e w4 ⟨rfl, rfl⟩
              go_wp2_with fail
              refine (used_any _ f w3 HR3.out (by omega) H16.out).mono ?_
              rintro e w5 ⟨v5, rfl, ho5, hb5⟩
              rw [HU.out] at ho5
              have HB5 := Lib.hid (below_up HB3.out hb5 HB3.out.size)
              have HN5 := Lib.hid (NRow.of_owns rfl ho5)
              clear ho5 hb5
              go_wp2_with fail
              refine (least_any v5 f b w5 HN5.out (by have := H3.out; omega) (by omega) HS.out (fun x hx => by have := H16.out x hx; omega) (by omega) hb15 HEN.out).mono ?_
              rintro e w6 ⟨rfl, hb6⟩
              go_wp2
              go_ret
              exact ⟨by simp, below_up HB5.out hb6 HB5.out.size⟩
        · rw [decide_eq_false hP]
          go_wp2
          go_ret
          exact ⟨rfl, HB2.out⟩
      · refine (well_no _ _ _ bits (w.drewN m) hw HBB.out).mono ?_
        rintro e w2 ⟨rfl, m2, rfl⟩
        go_wp2
        go_ret
        exact ⟨rfl, by rw [← drewN_add]; exact below_dN HB1.out m2⟩

theorem long (a : Option Addr) (n c : Nat) (s : Int) (w : World) (h : 2147483648 ≤ n) : Calls Try.prog 8 #[.slice a n c, .int .i64 s] w fun e w' => e = .returned (.bool true) ∧ Below w.heap.size w w' := by
  have d1 : decide ((2147483647 : Int) < (n : Int)) = true := decide_eq_true (by omega)
  clear h
  go_enter Try.func8, Try.ntmps8
  go_wp2
  go_ret
  exact ⟨rfl, Below.refl _ _⟩
theorem short (a : Option Addr) (n c : Nat) (s : Int) (w : World) (h : n < 3) : Calls Try.prog 8 #[.slice a n c, .int .i64 s] w fun e w' => e = .returned (.bool true) ∧ Below w.heap.size w w' := by
  have d1 : decide ((2147483647 : Int) < (n : Int)) = false := decide_eq_false (by omega)
  have d2 : decide ((n : Int) < 3) = true := decide_eq_true (by omega)
  clear h
  go_enter Try.func8, Try.ntmps8
  go_wp2
  go_ret
  exact ⟨rfl, Below.refl _ _⟩

theorem walk (a0 : Option Addr) (len0 cap0 : Nat) (z0 : List Int) (a1 : Int) (w : World) (w0 : IsRow .u16 w a0 len0 cap0 z0) (w1 : (Lit.int .i64 a1).wf = true) :
    Calls Try.prog 8 #[.slice a0 len0 cap0, .int .i64 a1] w fun e w' => e = .returned (.bool true) ∧ Below w.heap.size w w' := by
  by_cases h0 : 2147483648 ≤ len0
  · exact long a0 len0 cap0 a1 w h0
  by_cases h1 : len0 < 3
  · exact short a0 len0 cap0 a1 w h1
  obtain ⟨l, hl, hn, hb⟩ := nrow_of (B := 65536) (fun n hn => by have := bounds_u16 hn; omega) w0
  have hbb := bounds_i64 w1
  exact main _ a0 cap0 l a1 w (by rw [hl]) hn hb (by omega) (by omega) (by omega)

/-! ### THE ROW's STEP: WRITTEN OUT: LEAVE IT -/
set_option maxRecDepth 100000 in
theorem lifted (os : Os) (started : os.Started) (H : Type) (enc : TypeId × Value → H) :
    ReturnsInHanded {} Try.checked os 8 .any (Rows.fnCountsSpec.pre6 enc Try.prog Try.f8 Rows.fnCountsRow.domain false) (Rows.fnCountsSpec.post enc Try.prog Try.f8 false true false false) := by
  refine returnsInHanded_of_change (C := Try.checked) own started (by kernel_rfl) Try.func8
    (ChangeSpec.witness6 (enc := enc) (C := Try.checked) false ⟨#[], #[.slice none 0 0, .int .i64 0], []⟩ 8 (by kernel_rfl) (by kernel_rfl) (by kernel_rfl) (by kernel_rfl)) ?_
  intro W base args ds gs before hval0 hW hcnd _
  have hval : ∀ (j : Nat) t v, Try.f8.params[j]? = some t → args[j]? = some v → Value.okWide Try.prog W .any base t v := hval0
  have hW' := hW
  obtain ⟨p, q, hA0, hV, rfl, hfz, hnd⟩ := hW
  have hA : DataW.TrodAll enc Try.prog W 0 (fun _ => true) true Try.f8.params.toList args.toList ds p := hA0
  rw [Try.params8] at hA hval
  obtain ⟨v0, vs0, d0, ds0, p0, q0, hargs, rfl, rfl, h0, r0⟩ := trodAll_cons hA
  obtain ⟨v1, vs1, d1, ds1, p1, q1, rfl, rfl, rfl, h1, r1⟩ := trodAll_cons r0
  obtain ⟨rfl, rfl, rfl⟩ := trodAll_nil r1
  obtain rfl : args = #[v0, v1] := by cases args; simp_all
  obtain ⟨rfl, rfl⟩ := trodVars_none hV
  obtain ⟨a0, len0, cap0, rfl⟩ := okWide_slice Try.underlying31 (hval 0 31 v0 rfl rfl)
  have k0 := h0
  have lt0 : ∀ x ∈ p0, x.block < W.heap.size := by obtain ⟨m, hm⟩ := k0; exact DataW.trod_lt m _ _ _ hm
  obtain ⟨z0, w0⟩ : ∃ zs, IsRow .u16 W a0 len0 cap0 zs := by
    obtain ⟨fuel, hf⟩ := h0
    rcases open_ints Try.underlying31 Try.underlying22 (by kernel_rfl) hf with ⟨hcs, _⟩ | ⟨x, l, c, zs, hcs, _, hl, hm, hz, _, hcell, hwz⟩
    · simp [Value.cells] at hcs
      obtain ⟨rfl, rfl, rfl⟩ := hcs
      exact ⟨[], .inl ⟨rfl, rfl, rfl, rfl⟩⟩
    · simp [Value.cells] at hcs
      obtain ⟨rfl, rfl, rfl⟩ := hcs
      exact ⟨zs, .inr ⟨_, rfl, hl, hm, by simpa using hz, hcell, hwz⟩⟩
  obtain ⟨a1, rfl, rfl, rfl, w1⟩ := open_int Try.underlying3 (hval 1 3 v1 rfl rfl) h1
  clear hA0 hval0
  refine (walk a0 len0 cap0 z0 a1 W w0 w1).mono fun e W' ⟨he, bel⟩ => ?_
  subst he
  exact ⟨_, rfl, _, _, _, [], _, [], hW', trodAll_mk1 (shut_bool Try.underlying4 _), (trodAll_cons_mk (Below.trod laidOut (by kernel_rfl) (of_decide_eq_true (by kernel_rfl)) k0 bel lt0) (trodAll_cons_mk (shut_int Try.underlying3 w1) trodAll_mk0)), rfl, bel.frame _, fun h => by cases h⟩

theorem over : Rows.fnCountsRow.holds Try.pinned (OpenSpec.ofChange Rows.fnCountsSpec) :=
  OpenClaim.holds_of_wide 8 Try.f8 rfl rfl rfl rfl rfl rfl rfl ⟨rfl, rfl, rfl, rfl, rfl⟩ rfl rfl rfl rfl rfl (by kernel_rfl) Try.func8 (by kernel_rfl)
    (of_decide_eq_true (by kernel_rfl)) (by unfold Func.isWrapper; first | (rw [if_pos (by decide +kernel)]; kernel_rfl) | (rw [if_neg (by decide +kernel)]; exact ⟨rfl, rfl⟩))
    (fun os started H enc _ => lifted os started H enc)

/-- ████ THE STATEMENT ████ -/
theorem proved : Rows.FnCountsSaid := over
#print axioms proved
end Go.Proofs.Ytokbkbchblfcoaa.fnCounts

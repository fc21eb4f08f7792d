/- The walk of the reference's Cost. -/
import Derived.Test.YtokbkbchblfcoaaBase
import Derived.Test.YtokbkbchblfcoaaPm4
import Derived.IntWalk
namespace Go.Proofs.Ytokbkbchblfcoaa
open Go.RowKit

theorem cost_step (f : List Nat) (k A j W : Nat) (hj : j + 1 ≤ A) (hA : A ≤ f.length) :
    W + k * ((f.take A).sum - (f.take (A - (j + 1))).sum) = W + k * ((f.take A).sum - (f.take (A - j)).sum) + f.getD (A - (j + 1)) 0 * k := by
  have h1 := sum_take_succ f (A - (j + 1)) (by omega)
  rw [show A - (j + 1) + 1 = A - j by omega] at h1
  have h2 := PM.take_sum_mono f (show A - j ≤ A by omega)
  have e : (f.take A).sum - (f.take (A - (j + 1))).sum = (f.take A).sum - (f.take (A - j)).sum + f.getD (A - (j + 1)) 0 := by omega
  rw [e, Nat.mul_add, Nat.mul_comm (f.getD (A - (j + 1)) 0) k]; omega
theorem sum_bd (f : List Nat) (h : ∀ x ∈ f, x ≤ 65535) : f.sum ≤ 65535 * f.length := by
  induction f with
  | nil => simp
  | cons a r ih =>
    have := ih fun x hx => h x (by simp [hx])
    have := h a (by simp)
    simp only [List.sum_cons, List.length_cons]; omega
theorem cost_bd (f : List Nat) (h : ∀ x ∈ f, x ≤ 65535) (hl : f.length ≤ 1000) (k A B : Nat) (hk : k ≤ 17) : k * ((f.take A).sum - (f.take B).sum) ≤ 1114095000 := by
  have h1 := sum_bd f h
  have h2 := sum_take_le f A
  have h3 : (f.take A).sum - (f.take B).sum ≤ 65535000 := by omega
  have h4 : k * ((f.take A).sum - (f.take B).sum) ≤ 17 * 65535000 := Nat.mul_le_mul hk h3
  omega

set_option maxHeartbeats 2000000 in
theorem cost_any (vc vf : Value) (cnt f : List Nat) (w : World) (hc : NRow .i32 w vc cnt) (hf : NRow .u16 w vf f) (hcl : cnt.length ≤ 17) (hc1 : ∀ k, cnt.getD k 0 ≤ 1000) (hfl : f.length ≤ 1000) (h16 : ∀ x ∈ f, x ≤ 65535) (hsum : cnt.sum ≤ f.length) :
    Calls Try.prog 26 #[vc, vf] w fun e w' => e = .returned (.int .i64 (PM.worth cnt f cnt.length : Nat)) ∧ w = w' := by
  obtain ⟨ac, capc, rfl, _, hc⟩ := hc
  obtain ⟨af, capf, rfl, _, hf⟩ := hf
  have HC := Lib.hid hc
  have HF := Lib.hid hf
  have HC1 := Lib.hid hc1
  have H16 := Lib.hid h16
  have HS := Lib.hid hsum
  clear hc hf hc1 h16 hsum
  go_enter Try.func26, Try.ntmps26
  go_wp2
  go_loop [5, 6, 7, 8, 13] (fun nn aa _ _ ii => ∃ k A W : Nat, k ≤ cnt.length ∧ ii = .int .i64 k ∧ aa = .int .i64 (A : Nat) ∧ nn = .int .i64 (W : Nat) ∧ A ≤ f.length ∧ W ≤ 1114095000 * k ∧ Hid (A = f.length - (cnt.take k).sum) ∧ Hid (W = PM.worth cnt f k)) (fun _ _ _ _ ii => cnt.length - (intOf ii).toNat)
  case atStart => exact ⟨0, f.length, 0, Nat.zero_le _, rfl, rfl, rfl, Nat.le_refl _, by omega, by show _ = _; simp, rfl⟩
  case round =>
    obtain ⟨k, A, W, hk, rfl, rfl, rfl, hA, hW, hAe, hWe⟩ := hrel
    by_cases hlt : k < cnt.length
    · obtain ⟨b, o, rfl, hbl, hcc⟩ := HC.out (by omega)
      have hck := hcc k hlt
      have hcb := HC1.out k
      have hS1 := sum_take_succ cnt k hlt
      have hS2 := sum_take_le cnt (k + 1)
      have HX : Hid (cnt.getD k 0 ≤ A ∧ (∀ A', A' = A - cnt.getD k 0 → A' = f.length - (cnt.take (k + 1)).sum) ∧ PM.worth cnt f (k + 1) = PM.worth cnt f k + k * ((f.take A).sum - (f.take (A - cnt.getD k 0)).sum)) := by
        have h1 := HS.out
        have h2 := hAe.out
        refine Lib.hid ⟨by omega, fun A' h => by omega, ?_⟩
        rw [PM.worth]
        rw [show f.length - (cnt.take k).sum = A by omega, show f.length - (cnt.take (k + 1)).sum = A - cnt.getD k 0 by omega]
      clear hcc hS1 hS2
      generalize cnt.getD k 0 = c at *
      have hcA := HX.out.1
      go_wp2
      go_loop [5, 6, 8] (fun nn aa cc => ∃ j T : Nat, j ≤ c ∧ cc = .int .i32 ((c - j : Nat) : Int) ∧ aa = .int .i64 ((A - j : Nat) : Int) ∧ nn = .int .i64 (T : Nat) ∧ T ≤ W + 1114095000 ∧ Hid (T = W + k * ((f.take A).sum - (f.take (A - j)).sum))) (fun _ _ cc => (intOf cc).toNat)
      case atStart => exact ⟨0, W, Nat.zero_le _, rfl, rfl, rfl, by omega, by show _ = _; simp⟩
      case round =>
        obtain ⟨j, T, hj, rfl, rfl, rfl, hT, hTe⟩ := hrel
        by_cases hjl : j < c
        · obtain ⟨b2, o2, rfl, hbl2, hff⟩ := HF.out (by omega)
          have hfx := hff (A - (j + 1)) (by omega)
          have hx16 := H16.out _ (getD_mem f (A - (j + 1)) (by omega))
          have hstep := cost_step f k A j W (by omega) hA
          have hbd := cost_bd f H16.out hfl k A (A - (j + 1)) (by omega)
          rw [← hTe.out] at hstep
          obtain ⟨q, hq⟩ : ∃ q, c - j = q + 1 := ⟨c - j - 1, by omega⟩
          obtain ⟨a, ha⟩ : ∃ a, A - j = a + 1 := ⟨A - j - 1, by omega⟩
          rw [show A - (j + 1) = a by omega] at hfx hx16 hstep hbd
          rw [hq, ha]
          have HQ := Lib.hid (And.intro hq ha)
          have HST := Lib.hid hstep
          have HBD := Lib.hid hbd
          have hq1000 : q < 1000 := by omega
          have ha1000 : a < 1000 := by omega
          clear hff hq ha hstep hbd hTe
          generalize f.getD a 0 = x at *
          rw [show ((q + 1 : Nat) : Int) = (q : Int) + 1 by omega, show ((a + 1 : Nat) : Int) = (a : Int) + 1 by omega]
          have haf : a < f.length := by have := HQ.out.2; omega
          go_wp2
          go_round
          case rel =>
            obtain ⟨P, hP⟩ : ∃ P, P = x * k := ⟨_, rfl⟩
            have ep : ((x : Int) * (k : Int)) = (P : Int) := by rw [hP]; push_cast; rfl
            have hst := HST.out
            have hbd := HBD.out
            obtain ⟨hq, ha⟩ := HQ.out
            rw [← hP] at hst
            rw [ep, IntWalk.wrap64_in (P : Int) (by omega), IntWalk.wrap64_in ((T : Int) + (P : Int)) (by omega)]
            refine ⟨j + 1, T + P, by omega, congrArg (Value.int .i32) (by omega), congrArg (Value.int .i64) (by omega), by go_num, by omega, ?_⟩
            show _ = _
            rw [show A - (j + 1) = a by omega]; exact hst.symm
          case measure => first | (simp [intOf]; done) | (simp [intOf]; omega)
        · have hjc : j = c := by omega
          subst hjc
          rw [show j - j = 0 by omega]
          obtain ⟨x1, x2, x3⟩ := HX.out
          have hT2 := hTe.out
          have HW2 : Hid (T = PM.worth cnt f (k + 1)) := by
            show _ = _
            rw [x3, hT2, hWe.out]
          have HX2 := Lib.hid (x2 (A - j) rfl)
          have hT3 : T ≤ 1114095000 * (k + 1) := by omega
          clear x1 x2 x3 hT2
          go_wp2
          go_round
          case rel => exact ⟨k + 1, A - j, T, by omega, by go_num, rfl, rfl, by omega, hT3, HX2, HW2⟩
          case measure => first | (simp [intOf]; done) | (simp [intOf]; omega)
    · have hkl : k = cnt.length := by omega
      subst hkl
      go_wp2
      go_ret
      exact ⟨by rw [← hWe.out]; rfl, rfl⟩
end Go.Proofs.Ytokbkbchblfcoaa

/- The walk of slices.IsSorted on frequencies. -/
import Derived.Test.YtokbkbchblfcoaaBase
import Derived.Test.YtokbkbchblfcoaaPm1
import Derived.Deep.DeepCutAuto
import Derived.Deep.CutRange
namespace Go.Proofs.Ytokbkbchblfcoaa
open Go.RowKit

set_option maxHeartbeats 400000 in
theorem lessU_any (a b : Nat) (w : World) : Calls Try.prog 38 #[.int .u16 a, .int .u16 b] w fun e w' => e = .returned (.bool (decide (a < b))) ∧ w' = w := by
  go_enter Try.func38, Try.ntmps38
  go_wp2_with go_in
  go_ret
  exact ⟨ret_bool (by simp), rfl⟩

theorem srt_of_steps (l : List Nat) (h : ∀ i, 1 ≤ i → i < l.length → l.getD (i - 1) 0 ≤ l.getD i 0) : PM.Srt l := by
  have key : ∀ d i, i + d < l.length → l.getD i 0 ≤ l.getD (i + d) 0 := by
    intro d
    induction d with
    | zero => intro i _; exact Nat.le_refl _
    | succ d ih =>
      intro i hi
      have h1 := ih i (by omega)
      have h2 := h (i + d + 1) (by omega) (by omega)
      rw [show i + d + 1 - 1 = i + d by omega] at h2
      exact Nat.le_trans h1 h2
  refine List.pairwise_iff_getElem.2 ?_
  intro i j hi hj hij
  have h1 := key (j - i) i (by omega)
  rw [show i + (j - i) = j by omega, PM.getD_of hi, PM.getD_of hj] at h1
  exact h1

set_option maxHeartbeats 1000000 in
theorem sorted_any (v : Value) (l : List Nat) (w : World) (hr : NRow .u16 w v l) (hlen : l.length < 4294967296) :
    Calls Try.prog 23 #[v] w fun e w' => (∃ b, e = .returned (.bool b) ∧ (b = true → PM.Srt l)) ∧ ∃ n, w' = w.drewN n := by
  obtain ⟨a, cap, rfl, _, hr⟩ := hr
  have HR := Lib.hid hr
  clear hr
  go_enter Try.func23, Try.ntmps23
  go_wp2
  go_loopw [3] (fun ii wr => ∃ k m : Nat, k ≤ l.length ∧ ii = .int .i64 ((k : Int) - 1) ∧ wr = w.drewN m ∧ Hid (∀ i, 1 ≤ i → k ≤ i → i < l.length → l.getD (i - 1) 0 ≤ l.getD i 0)) (fun ii _ => (intOf ii).toNat)
  case atStart => exact ⟨l.length, 0, Nat.le_refl _, rfl, rfl, Lib.hid fun i h1 h2 h3 => by omega⟩
  case round =>
    obtain ⟨k, m, hk, rfl, rfl, hs⟩ := hrel
    by_cases hlt : 2 ≤ k
    · obtain ⟨b, o, rfl, hbl, hc⟩ := HR.out (by omega)
      obtain ⟨j, rfl⟩ : ∃ j, k = j + 2 := ⟨k - 2, by omega⟩
      have k1 : (w.drewN m).cell? ⟨b, o + (j + 1), none⟩ = _ := hc (j + 1) (by omega)
      have k2 : (w.drewN m).cell? ⟨b, o + j, none⟩ = _ := hc j (by omega)
      have e1 : ((j + 2 : Nat) : Int) - 1 = (j : Int) + 1 := by omega
      rw [e1]
      have HS : Hid (l.getD j 0 ≤ l.getD (j + 1) 0 → ∀ i, 1 ≤ i → j + 1 ≤ i → i < l.length → l.getD (i - 1) 0 ≤ l.getD i 0) := by
        refine Lib.hid fun h i h1 h2 h3 => ?_
        by_cases e : i = j + 1
        · subst e; exact h
        · exact hs.out i h1 (by omega) h3
      have p1 : (0 : Int) ≤ (j : Int) + 1 := by omega
      have p2 : (j : Int) + 1 < l.length := by omega
      clear hc hs
      generalize hwd : World.drewN w m = wd at *
      have HWD := Lib.hid hwd
      clear hwd e1
      generalize l.getD j 0 = x at *
      generalize l.getD (j + 1) 0 = y at *
      rcases Nat.lt_or_ge y x with hyx | hyx
      · go_upto_region 4 with (fail)
        go_quiet (first | (go_at_call 38; exact Calls.quiet_of_same (lessU_any _ _ _)))
        go_wp2
        go_ret
        first
          | exact ⟨⟨false, rfl, (fun h => by cases h)⟩, m + nq, by rw [← HWD.out, drewN_add]⟩
          | exact ⟨.inl rfl, m + nq, by rw [← HWD.out, drewN_add]⟩
      · go_upto_region 4 with (fail)
        go_quiet (first | (go_at_call 38; exact Calls.quiet_of_same (lessU_any _ _ _)))
        go_wp2
        go_roundw
        case rel => exact ⟨j + 1, m + nq, by omega, by go_num, by rw [← HWD.out, drewN_add], Lib.hid (HS.out hyx)⟩
        case measure => first | (simp [intOf]; done) | (simp [intOf]; omega)
    · have hd2 : decide ((1 : Int) < (k : Int)) = false := decide_eq_false (by omega)
      have hd3 : k ≤ 1 := by omega
      have hd : decide ((0 : Int) < (k : Int) - 1) = false := decide_eq_false (by omega)
      have HK := Lib.hid hlt
      clear hlt
      go_wp2
      go_ret
      have hfin : PM.Srt l := srt_of_steps l fun i h1 h2 => hs.out i h1 (by have := HK.out; omega) h2
      first
        | exact ⟨⟨true, rfl, fun _ => hfin⟩, m, rfl⟩
        | exact ⟨.inr ⟨rfl, hfin⟩, m, rfl⟩
        | exact ⟨hfin, m, rfl⟩
end Go.Proofs.Ytokbkbchblfcoaa

/- The walk of slices.Equal at []int. -/
import Derived.Test.YtgkpdffgahadpaaBase
namespace Go.Proofs.Ytgkpdffgahadpaa
open Go.RowKit

set_option maxHeartbeats 1000000 in
theorem equalI_any (v1 v2 : Value) (l m : List Nat) (w : World) (h1 : NRow .i64 w v1 l) (h2 : NRow .i64 w v2 m) (_hlen : l.length < 4294967296) (hlen2 : m.length < 4294967296) :
    Calls Try.prog 25 #[v1, v2] w fun e w' => e = .returned (.bool (decide (l = m))) ∧ ∃ n, w' = w.drewN n := by
  obtain ⟨a1, c1, rfl, _, h1⟩ := h1
  obtain ⟨a2, c2, rfl, _, h2⟩ := h2
  by_cases hne : l.length = m.length
  · obtain ⟨n, hn1⟩ : ∃ n, n = l.length := ⟨_, rfl⟩
    have hn2 : n = m.length := by omega
    rw [← hn1] at h1 _hlen
    rw [← hn2] at h2 hlen2
    rw [← hn1, ← hn2]
    have H1 := Lib.hid h1
    have H2 := Lib.hid h2
    have HN1 := Lib.hid hn1
    have HN2 := Lib.hid hn2
    clear h1 h2 hne hn1 hn2
    go_enter Try.func25, Try.ntmps25
    go_wp2
    go_loopw [5, 13] (fun _ i wr => ∃ k q : Nat, k ≤ n ∧ i = .int .i64 k ∧ wr = w.drewN q ∧ Hid (l.take k = m.take k)) (fun _ i _ => n - (intOf i).toNat)
    case atStart => exact ⟨0, 0, Nat.zero_le _, rfl, rfl, rfl⟩
    case round =>
      obtain ⟨k, q, hk, rfl, rfl, ht⟩ := hrel
      by_cases hlt : k < n
      · obtain ⟨b1, o1, rfl, hb1, hc1⟩ := H1.out (by omega)
        obtain ⟨b2, o2, rfl, hb2, hc2⟩ := H2.out (by omega)
        have e1 := hc1 k hlt
        have e2 := hc2 k hlt
        have T1 := Lib.hid (take_succ_getD l k (by rw [← HN1.out]; exact hlt))
        have T2 := Lib.hid (take_succ_getD m k (by rw [← HN2.out]; exact hlt))
        clear hc1 hc2 H1 H2
        generalize hx : l.getD k 0 = x at *
        generalize hy : m.getD k 0 = y at *
        have HX := Lib.hid hx
        have HY := Lib.hid hy
        clear hx hy
        by_cases hxy : x = y
        · subst hxy
          go_wp2
          go_quiet (fail)
          go_wp2
          go_roundw
          case rel => exact ⟨k + 1, _, by omega, by go_num, rfl, by have h := ht.out; rw [T1.out, T2.out, h]; exact rfl⟩
          case measure => simp [intOf]; omega
        · have hd : decide (l = m) = false := by
            refine decide_eq_false fun h => hxy ?_
            have h1 := HX.out
            have h2 := HY.out
            rw [h] at h1
            omega
          have HD := Lib.hid hd
          have f1 : ((x : Int) == (y : Int)) = false := by simp; omega
          have f2 : ((x : Int) != (y : Int)) = true := by simp; omega
          clear hd
          go_wp2
          go_quiet (fail)
          go_wp2
          go_ret
          exact ⟨by rw [HD.out]; rfl, _, drewN_add w _ _⟩
      · have hd : decide (l = m) = true := by
          refine decide_eq_true ?_
          have h := ht.out
          rw [List.take_of_length_le (by have := HN1.out; omega), List.take_of_length_le (by have := HN2.out; omega)] at h
          exact h
        have HD := Lib.hid hd
        clear hd
        go_wp2
        go_ret
        exact ⟨by rw [HD.out]; rfl, _, rfl⟩
  · have hd : decide (l = m) = false := decide_eq_false fun h => hne (by rw [h])
    have HD := Lib.hid hd
    have f1 : ((l.length : Int) == (m.length : Int)) = false := by simp; omega
    have f2 : ((l.length : Int) != (m.length : Int)) = true := by simp; omega
    clear hd h1 h2
    go_enter Try.func25, Try.ntmps25
    go_wp2
    go_ret
    exact ⟨by rw [HD.out]; rfl, 0, rfl⟩
end Go.Proofs.Ytgkpdffgahadpaa

/- The walk of the reference's Well. -/
import Derived.Test.YtgkpdffgahadpaaSUsed
import Derived.Deep.RegionHeld3
import Derived.Deep.DeepCutAuto
import Derived.IntWalk
import Derived.Deep.CutRange
namespace Go.Proofs.Ytgkpdffgahadpaa
open Go.RowKit

theorem owns_shape {w : World} {base e n size : Nat} {v : Value} {xs : List Value} (h : w.ownsRow base e size v n xs) : ∃ a cap, v = .slice a n cap := by
  rcases h.2 with ⟨rfl, h0⟩ | ⟨g, cap, cur, rfl, _⟩
  · exact ⟨none, 0, by rw [h0]⟩
  · exact ⟨_, cap, rfl⟩

set_option maxHeartbeats 4000000 in
theorem well_yes (v : Value) (l : List Nat) (b : Nat) (w : World) (hr : NRow .u16 w v l) (h0 : 0 < l.length) (h286 : l.length ≤ 286) (h1 : 1 ≤ b) (h15 : b ≤ 15) (h16 : ∀ x ∈ l, x < 65536) :
    Calls Try.prog 15 #[v, .int .i64 b] w fun e w' => e = .returned (.bool (decide ((used l).length ≤ 2 ^ b))) ∧ Below w.heap.size w w' := by
  have HR := Lib.hid hr
  obtain ⟨a, cap, rfl, hn, hc⟩ := hr
  clear hn hc
  have hu : (used l).length ≤ 286 := by rw [used_len]; exact Nat.le_trans (usedF_le l) h286
  have HC := Lib.hid (fun W hW => used_any (.slice a l.length cap) l W hW (by omega) h16)
  have hp : 2 ^ b ≤ 32768 := Nat.le_trans (Nat.pow_le_pow_right (by omega) h15) (by decide)
  have hpn : (2 : Int) ^ b = ((2 ^ b : Nat) : Int) := by simp
  generalize (2 : Nat) ^ b = P at *
  have hpw : IntKind.i64.wrap (P : Int) = P := IntWalk.i64_in _ (by omega)
  have d1 : decide ((l.length : Int) ≤ 286) = true := decide_eq_true (by omega)
  have d2 : decide ((1 : Int) ≤ (b : Int)) = true := decide_eq_true (by omega)
  have d3 : decide ((b : Int) ≤ 15) = true := decide_eq_true (by omega)
  generalize (used l).length = n at *
  have HRD : Hid (NRow .u16 w.drew (.slice a l.length cap) l) := HR.out
  clear h16
  go_enter Try.func15, Try.ntmps15
  go_wp2
  go_region_held3 (fun _ : World => True) (trivial) (first | (go_at_call 16; refine (HC.out _ HRD.out).mono ?_; rintro e w1 ⟨v1, rfl, ho, hb⟩; obtain ⟨a1, c1, rfl⟩ := owns_shape ho; have HB := Lib.hid hb; clear ho hb))
  all_goals
    go_wp2
    go_ret
    have hB : Below w.heap.size w _ := below_up ((Below.refl _ _).drew) HB.out (Nat.le_refl _)
    exact ⟨ret_bool (by simp), hB⟩

theorem well_no (a : Option Addr) (n cap : Nat) (bits : Int) (w : World) (h : ¬ (0 < n ∧ n ≤ 286 ∧ 1 ≤ bits ∧ bits ≤ 15)) (hb : -9223372036854775808 ≤ bits ∧ bits ≤ 9223372036854775807) :
    Calls Try.prog 15 #[.slice a n cap, .int .i64 bits] w fun e w' => e = .returned (.bool false) ∧ ∃ m, w' = w.drewN m := by
  by_cases h0 : 0 < n
  · by_cases h1 : n ≤ 286
    · have d1 : decide ((n : Int) ≤ 286) = true := decide_eq_true (by omega)
      by_cases h2 : 1 ≤ bits
      · have d2 : decide ((1 : Int) ≤ bits) = true := decide_eq_true (by omega)
        have d3 : decide (bits ≤ 15) = false := decide_eq_false (by omega)
        clear h h1 h2
        go_enter Try.func15, Try.ntmps15
        go_wp2
        go_quiet (fail)
        go_wp2
        go_ret
        exact ⟨rfl, nq, rfl⟩
      · have d2 : decide ((1 : Int) ≤ bits) = false := decide_eq_false (by omega)
        clear h h1 h2
        go_enter Try.func15, Try.ntmps15
        go_wp2
        go_quiet (fail)
        go_wp2
        go_ret
        exact ⟨rfl, nq, rfl⟩
    · have d1 : decide ((n : Int) ≤ 286) = false := decide_eq_false (by omega)
      clear h h1
      go_enter Try.func15, Try.ntmps15
      go_wp2
      go_quiet (fail)
      go_wp2
      go_ret
      exact ⟨rfl, nq, rfl⟩
  · obtain rfl : n = 0 := by omega
    have d0 : decide ((0 : Int) < 0) = false := by simp
    clear h h0
    go_enter Try.func15, Try.ntmps15
    go_wp2
    go_quiet (fail)
    go_wp2
    go_ret
    exact ⟨rfl, nq, rfl⟩
end Go.Proofs.Ytgkpdffgahadpaa

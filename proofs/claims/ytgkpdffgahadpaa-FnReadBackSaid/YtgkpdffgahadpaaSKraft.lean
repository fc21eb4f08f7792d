/- The walk of the reference's shares (Kraft). -/
import Derived.Test.YtgkpdffgahadpaaBase
namespace Go.Proofs.Ytgkpdffgahadpaa
open Go.RowKit

/-- What Kraft adds for a length. -/
def share (k : Nat) : Nat := if 0 < k then 2 ^ (15 - k) else 0
def kraft (l : List Nat) : Nat := (l.map share).sum
theorem share_le (k : Nat) : share k ≤ 32768 := by
  unfold share; split
  · exact Nat.le_trans (Nat.pow_le_pow_right (by omega) (show 15 - k ≤ 15 by omega)) (by decide)
  · omega
theorem kraft_take_succ (l : List Nat) (k : Nat) (h : k < l.length) : kraft (l.take (k + 1)) = kraft (l.take k) + share (l.getD k 0) := by
  unfold kraft; rw [take_succ_getD l k h]; simp
theorem kraft_take_le (l : List Nat) : ∀ k, kraft (l.take k) ≤ 32768 * k
  | 0 => by simp [kraft]
  | k + 1 => by
    have h1 := kraft_take_le l k
    have h2 := share_le (l.getD k 0)
    rcases Nat.lt_or_ge k l.length with h | h
    · rw [kraft_take_succ l k h]; omega
    · rw [List.take_of_length_le (by omega)] at h1 ⊢; omega

set_option maxHeartbeats 400000 in
theorem kraft_any (v : Value) (l : List Nat) (w : World) (hr : NRow .i64 w v l) (hlen : l.length < 65536) (h15 : ∀ x ∈ l, x ≤ 15) :
    Calls Try.prog 20 #[v] w fun e w' => e = .returned (.int .i64 (kraft l : Nat)) ∧ w = w' := by
  obtain ⟨a, cap, rfl, _, hr⟩ := hr
  have hr' := Lib.hid hr
  have h15' := Lib.hid h15
  clear hr h15
  go_enter Try.func20, Try.ntmps20
  go_wp2
  go_loop [3, 5, 8] (fun n _ i => ∃ k : Nat, k ≤ l.length ∧ i = .int .i64 k ∧ n = .int .i64 (kraft (l.take k) : Nat)) (fun _ _ i => l.length - (intOf i).toNat)
  case atStart => exact ⟨0, Nat.zero_le _, rfl, by simp [kraft]⟩
  case round =>
    obtain ⟨k, hk, rfl, rfl⟩ := hrel
    by_cases hlt : k < l.length
    · obtain ⟨b, o, rfl, hbl, hc⟩ := hr'.out (by omega)
      have hck := hc k hlt
      have H1 := Lib.hid (kraft_take_succ l k hlt)
      have h2 := kraft_take_le l k
      have h3 := h15'.out _ (getD_mem l k hlt)
      clear hr' hc h15'
      generalize l.getD k 0 = x at *
      generalize kraft (l.take k) = q at *
      by_cases hx : 0 < x
      · have hs : share x = 2 ^ (15 - x) := by simp [share, hx]
        rw [hs] at H1
        have hb : 2 ^ (15 - x) ≤ 32768 := Nat.le_trans (Nat.pow_le_pow_right (by omega) (show 15 - x ≤ 15 by omega)) (by decide)
        have hp : (2 : Int) ^ (15 - (x : Int)).toNat = ((2 ^ (15 - x) : Nat) : Int) := by
          have e : (15 - (x : Int)).toNat = 15 - x := by omega
          rw [e]; simp
        have hp3 : (2 : Int) ^ (15 - x) = ((2 ^ (15 - x) : Nat) : Int) := by simp
        clear hs
        generalize (2 : Nat) ^ (15 - x) = y at *
        go_wp2
        go_round
        case rel => exact ⟨k + 1, by omega, by go_num, by rw [H1.out]; go_num⟩
        case measure => simp [intOf]; omega
      · have hs : share x = 0 := by simp [share, hx]
        rw [hs] at H1
        clear hs
        go_wp2
        go_round
        case rel => exact ⟨k + 1, by omega, by go_num, by rw [H1.out]; go_num⟩
        case measure => simp [intOf]; omega
    · go_wp2
      go_ret
      have : k = l.length := by omega
      subst this
      exact ⟨by rw [List.take_length]; rfl, rfl⟩

end Go.Proofs.Ytgkpdffgahadpaa

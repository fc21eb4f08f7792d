/- The walk of the reference's sum. -/
import Derived.Test.YtgkpdffgahadpaaBase
namespace Go.Proofs.Ytgkpdffgahadpaa
open Go.RowKit

set_option maxHeartbeats 400000 in
theorem sum_any (v : Value) (l : List Nat) (w : World) (hr : NRow .i64 w v l) (hlen : l.length < 4294967296) (hsum : l.sum < 4611686018427387904) :
    Calls Try.prog 27 #[v] w fun e w' => e = .returned (.int .i64 (l.sum : Nat)) ∧ w = w' := by
  obtain ⟨a, cap, rfl, _, hr⟩ := hr
  have hr' := Lib.hid hr
  clear hr
  go_enter Try.func27, Try.ntmps27
  go_wp2
  go_loop [3, 5, 8] (fun n _ i => ∃ k : Nat, k ≤ l.length ∧ i = .int .i64 k ∧ n = .int .i64 ((l.take k).sum : Nat)) (fun _ _ i => l.length - (intOf i).toNat)
  case atStart => exact ⟨0, Nat.zero_le _, rfl, by simp⟩
  case round =>
    obtain ⟨k, hk, rfl, rfl⟩ := hrel
    by_cases hlt : k < l.length
    · obtain ⟨b, o, rfl, hbl, hc⟩ := hr'.out (by omega)
      have hck := hc k hlt
      have h1 := sum_take_succ l k hlt
      have h2 := sum_take_le l (k + 1)
      clear hr' hc
      generalize l.getD k 0 = x at *
      have H1 := Lib.hid h1
      have h3 : (l.take k).sum + x < 4611686018427387904 := by omega
      clear h1 h2
      go_wp2
      go_round
      case rel => exact ⟨k + 1, by omega, by go_num, by rw [H1.out]; go_num⟩
      case measure => simp [intOf]; omega
    · go_wp2
      go_ret
      have : k = l.length := by omega
      subst this
      exact ⟨by rw [List.take_length]; rfl, rfl⟩

end Go.Proofs.Ytgkpdffgahadpaa

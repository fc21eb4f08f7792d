/- The walks of math/bits.Reverse16, reverseBits and its callers, and of the reference's Turn. -/
import Derived.Test.YtokbkbchblfcoaaBase
import Derived.Test.YtokbkbchblfcoaaPt
namespace Go.Proofs.Ytokbkbchblfcoaa
open Go.RowKit

set_option maxHeartbeats 1000000 in
set_option maxRecDepth 100000 in
theorem reverse16_any (x : Nat) (hx : x < 65536) (w : World) :
    Calls Try.prog 57 #[.int .u16 x] w fun e w' => e = .returned (.int .u16 (PT.turn x 16 : Nat)) ∧ ∃ n, w' = w.drewN n := by
  have hb : bits BinOp.and IntKind.u16 (x : Int) 255 = ((x % 256 : Nat) : Int) := by
    rw [show (255 : Int) = ((255 : Nat) : Int) from rfl, u16_and_nat x 255 hx (by omega), nat_mask8]
  have h1 : (0 : Int) ≤ ↑x / 256 := by omega
  have h2 : ↑x / 256 ≤ (255 : Int) := by omega
  have h3 : (0 : Int) ≤ ((x % 256 : Nat) : Int) := by omega
  have h4 : ((x % 256 : Nat) : Int) ≤ (255 : Int) := by omega
  go_enter Try.func57, Try.ntmps57
  go_wp2
  go_quiet (fail)
  go_wp2
  go_ret
  refine ⟨ret_int ?_, nq, rfl⟩
  have e1 : Lib.rev8 ((x : Int) / 256) = (PT.turn (x / 256) 8 : Int) := PT.rev8_eq (x / 256) (by omega)
  have e2 : Lib.rev8 ((x : Int) % 256) = (PT.turn (x % 256) 8 : Int) := PT.rev8_eq (x % 256) (by omega)
  have l1 := PT.turn_lt (x / 256) 8
  have l2 := PT.turn_lt (x % 256) 8
  rw [e1, e2, IntKind.wrap_u16, IntKind.wrap_u16, IntKind.wrap_u16, ← PT.reverse16_eq x]
  congr 1
  · omega
  · omega

set_option maxHeartbeats 1000000 in
theorem reverseBits_any (x n : Nat) (hn : 1 ≤ n) (hn' : n ≤ 16) (w : World) :
    Calls Try.prog 44 #[.int .u16 x, .int .u8 n] w fun e w' => e = .returned (.int .u16 (PT.turn x n : Nat)) ∧ ∃ n, w' = w.drewN n := by
  have hs : IntKind.u16.wrap (↑x * 2 ^ (-(n : Int) % 16).toNat) = ((x * 2 ^ (16 - n) % 65536 : Nat) : Int) := by
    have e : (-(n : Int) % 16).toNat = 16 - n := by omega
    rw [e, IntKind.wrap_u16]; simp
  have hc := reverse16_any (x * 2 ^ (16 - n) % 65536) (Nat.mod_lt _ (by omega)) w
  rw [PT.turn_shift x n hn', ← hs] at hc
  clear hs
  go_enter Try.func44, Try.ntmps44
  go_wp2_with (go_at_call 57; refine hc.mono ?_; rintro e w' ⟨rfl, m, rfl⟩)
  go_ret
  exact ⟨rfl, m, rfl⟩

set_option maxHeartbeats 1000000 in
theorem reverse_any (x n : Nat) (hn : 1 ≤ n) (hn' : n ≤ 16) (w : World) :
    Calls Try.prog 9 #[.int .u16 x, .int .u8 n] w fun e w' => e = .returned (.int .u16 (PT.turn x n : Nat)) ∧ ∃ n, w' = w.drewN n := by
  go_enter Try.func9, Try.ntmps9
  go_wp2_with (first | (go_at_call 44; refine (reverseBits_any x n hn hn' _).mono ?_; rintro e w' ⟨rfl, m, rfl⟩) | go_in)
  go_ret
  exact ⟨rfl, m, rfl⟩

set_option maxHeartbeats 400000 in
theorem turn_any (n b : Nat) (hn : n < 9223372036854775808) (hb : b ≤ 62) (w : World) :
    Calls Try.prog 10 #[.int .i64 n, .int .i64 b] w fun e w' => e = .returned (.int .i64 (PT.turn n b : Nat)) ∧ w' = w := by
  go_enter Try.func10, Try.ntmps10
  go_wp2
  go_loop [0, 1, 5] (fun x k o => ∃ m c q : Nat, m < 9223372036854775808 ∧ c ≤ b ∧ q < 2 ^ (b - c) ∧ x = .int .i64 m ∧ k = .int .i64 c ∧ o = .int .i64 q ∧ PT.turn n b = PT.turnA c q m) (fun _ k _ => (intOf k).toNat)
  case atStart => exact ⟨n, b, 0, hn, Nat.le_refl _, Nat.two_pow_pos _, rfl, rfl, rfl, rfl⟩
  case round =>
    obtain ⟨m, c, q, hm, hc, hq, rfl, rfl, rfl, ht⟩ := hrel
    have HT := Lib.hid ht
    clear ht
    rcases Nat.eq_zero_or_pos c with h0 | h0
    · obtain rfl := h0
      go_wp2
      go_ret
      exact ⟨ret_int (by rw [HT.out]; rfl), rfl⟩
    · have hq2 : q < 4611686018427387904 := Nat.lt_of_lt_of_le hq (Nat.le_trans (Nat.pow_le_pow_right (by omega) (show b - c ≤ 61 by omega)) (by decide))
      have HQ := Lib.hid hq
      clear hq
      go_wp2
      go_round
      case rel =>
        refine ⟨m / 2, c - 1, q * 2 + m % 2, by omega, by omega, ?_, by go_num, by go_num, by go_num, ?_⟩
        · have e : b - (c - 1) = (b - c) + 1 := by omega
          rw [e, Nat.pow_succ]
          have := HQ.out
          omega
        · rw [HT.out, show c = (c - 1) + 1 by omega]; rfl
      case measure => simp [intOf]; omega
end Go.Proofs.Ytokbkbchblfcoaa

/- The walk of newhcode. -/
import Derived.Test.YtokbkbchblfcoaaBase
namespace Go.Proofs.Ytokbkbchblfcoaa
open Go.RowKit

theorem or_code (c n : Nat) (hc : c < 65536) (hn : n < 256) : bits BinOp.or IntKind.u32 (n : Int) ((c * 256 : Nat) : Int) = ((c * 256 + n : Nat) : Int) := by
  rw [u32_or_nat n (c * 256) (by omega) (by omega), Nat.or_comm, nat_join 8 (c * 256) n (by omega) (by omega)]

set_option maxHeartbeats 400000 in
theorem newhcode_any (c n : Nat) (hc : c < 65536) (hn : n < 256) (w : World) :
    Calls Try.prog 60 #[.int .u16 c, .int .u8 n] w fun e w' => e = .returned (.int .u32 ((c * 256 + n : Nat) : Int)) ∧ w = w' := by
  have ho := or_code c n hc hn
  have ec : ((c * 256 : Nat) : Int) = (c : Int) * 256 := by simp
  rw [ec] at ho
  have HO := Lib.hid ho
  clear ho
  go_enter Try.func60, Try.ntmps60
  go_wp2
  go_ret
  refine ⟨ret_int ?_, rfl⟩
  rw [← HO.out]
end Go.Proofs.Ytokbkbchblfcoaa

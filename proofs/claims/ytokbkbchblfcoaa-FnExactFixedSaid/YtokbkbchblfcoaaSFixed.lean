/- The walk of the reference's fixed lengths. -/
import Derived.Test.YtokbkbchblfcoaaBase
namespace Go.Proofs.Ytokbkbchblfcoaa
open Go.RowKit

/-- The fixed lengths. -/
def fixedLen (s : Nat) : Nat := if s < 144 then 8 else if s < 256 then 9 else if s < 280 then 7 else 8
set_option maxHeartbeats 400000 in
set_option maxRecDepth 100000 in
theorem fixed_any (s : Nat) (w : World) :
    Calls Try.prog 17 #[.int .i64 s] w fun e w' => e = .returned (.int .i64 (fixedLen s : Nat)) ∧ w = w' := by
  by_cases h1 : s < 144
  · have e : fixedLen s = 8 := by simp [fixedLen, h1]
    rw [e]; clear e
    go_enter Try.func17, Try.ntmps17
    go_wp2
    go_ret
    exact ⟨rfl, rfl⟩
  · by_cases h2 : s < 256
    · have e : fixedLen s = 9 := by simp [fixedLen, h1, h2]
      rw [e]; clear e
      go_enter Try.func17, Try.ntmps17
      go_wp2
      go_ret
      exact ⟨rfl, rfl⟩
    · by_cases h3 : s < 280
      · have e : fixedLen s = 7 := by simp [fixedLen, h1, h2, h3]
        rw [e]; clear e
        go_enter Try.func17, Try.ntmps17
        go_wp2
        go_ret
        exact ⟨rfl, rfl⟩
      · have e : fixedLen s = 8 := by simp [fixedLen, h1, h2, h3]
        rw [e]; clear e
        go_enter Try.func17, Try.ntmps17
        go_wp2
        go_ret
        exact ⟨rfl, rfl⟩
end Go.Proofs.Ytokbkbchblfcoaa

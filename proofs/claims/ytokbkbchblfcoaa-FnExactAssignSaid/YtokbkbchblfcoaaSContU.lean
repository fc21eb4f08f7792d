/- slices.Contains on rows of uint16. -/
import Derived.Test.YtokbkbchblfcoaaBase
namespace Go.Proofs.Ytokbkbchblfcoaa
open Go.RowKit

set_option maxHeartbeats 1000000 in
theorem indexU_any (v : Value) (l : List Nat) (x : Nat) (w : World) (hr : NRow .u16 w v l) (hlen : l.length < 4294967296) :
    Calls Try.prog 50 #[v, .int .u16 x] w fun e w' => (∃ r : Int, e = .returned (.int .i64 r) ∧ (decide (0 ≤ r) = decide (x ∈ l)) ∧ -1 ≤ r ∧ r < 4294967296) ∧ w = w' := by
  obtain ⟨a, cap, rfl, hn1, hr⟩ := hr
  have HR := Lib.hid hr
  clear hr hn1
  go_enter Try.func50, Try.ntmps50
  go_wp2
  go_loop [5, 8] (fun _ ii => ∃ i : Nat, i ≤ l.length ∧ ii = .int .i64 i ∧ Hid (x ∉ l.take i)) (fun _ ii => l.length - (intOf ii).toNat)
  case atStart => exact ⟨0, Nat.zero_le _, rfl, by show x ∉ _; simp⟩
  case round =>
    obtain ⟨i, hi, rfl, hnot⟩ := hrel
    by_cases hlt : i < l.length
    · obtain ⟨b, o, rfl, hbl, hc⟩ := HR.out (by omega)
      have hck := hc i hlt
      have HT := Lib.hid (take_succ_getD l i hlt)
      have HM := Lib.hid (getD_mem l i hlt)
      clear hc HR
      generalize l.getD i 0 = y at *
      by_cases hxy : x = y
      · subst hxy
        go_wp2
        go_ret
        exact ⟨⟨i, rfl, by simp [HM.out], by omega, by omega⟩, rfl⟩
      · have hb : ((x : Int) == (y : Int)) = false := by simp; omega
        have HXY := Lib.hid hxy
        clear hxy
        go_wp2
        go_round
        case rel =>
          refine ⟨i + 1, by omega, by go_num, ?_⟩
          show x ∉ _
          rw [HT.out, List.mem_append]
          intro h
          rcases h with h | h
          · exact hnot.out h
          · exact HXY.out (by simpa using h)
        case measure => simp [intOf]; omega
    · go_wp2
      go_ret
      have hil : i = l.length := by omega
      subst hil
      have h := hnot.out
      rw [List.take_length] at h
      exact ⟨⟨-1, rfl, by simp [h], by omega, by omega⟩, rfl⟩

set_option maxHeartbeats 1000000 in
theorem containsU_any (v : Value) (l : List Nat) (x : Nat) (w : World) (hr : NRow .u16 w v l) (hlen : l.length < 4294967296) :
    Calls Try.prog 35 #[v, .int .u16 x] w fun e w' => e = .returned (.bool (decide (x ∈ l))) ∧ w = w' := by
  go_enter Try.func35, Try.ntmps35
  go_wp2_with (go_at_call 50; refine (indexU_any v l x _ hr hlen).mono ?_; rintro e w1 ⟨⟨r, rfl, hd, hr1, hr2⟩, rfl⟩)
  go_ret
  exact ⟨rfl, rfl⟩
end Go.Proofs.Ytokbkbchblfcoaa

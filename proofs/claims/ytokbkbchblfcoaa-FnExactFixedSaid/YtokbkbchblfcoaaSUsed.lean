/- The walk of the reference's Used: the frequencies that are not 0, the least one first. -/
import Derived.Test.YtokbkbchblfcoaaSort
namespace Go.Proofs.Ytokbkbchblfcoaa
open Go.RowKit

theorem info_int : (Try.prog.info? 3).map (fun i => (i.zero, i.size, i.bytes)) = some (some (.int .i64 0), 1, 8) := by kernel_rfl

def usedF (l : List Nat) : List Nat := l.filter (fun x => decide (0 < x))
def used (l : List Nat) : List Nat := PM.srt (usedF l)
theorem usedF_succ (l : List Nat) (k : Nat) (h : k < l.length) : usedF (l.take (k + 1)) = usedF (l.take k) ++ (if 0 < l.getD k 0 then [l.getD k 0] else []) := by
  unfold usedF
  rw [take_succ_getD l k h, List.filter_append]
  by_cases hx : 0 < l.getD k 0
  · rw [if_pos hx, List.filter_cons, if_pos (by simpa using hx)]; rfl
  · rw [if_neg hx, List.filter_cons, if_neg (by simpa using hx)]; rfl
theorem used_len (l : List Nat) : (used l).length = (usedF l).length := PM.srt_len _
theorem usedF_le (l : List Nat) : (usedF l).length ≤ l.length := List.length_filter_le _ _

set_option maxHeartbeats 1000000 in
theorem used_any (v : Value) (l : List Nat) (w : World) (hr : NRow .u16 w v l) (hlen : l.length < 4294967296) (h16 : ∀ x ∈ l, x < 65536) :
    Calls Try.prog 28 #[v] w fun e w' => ∃ v', e = .returned v' ∧ w'.ownsRow w.heap.size 3 1 v' (used l).length (nv .i64 (used l)) ∧ Below w.heap.size w w' := by
  obtain ⟨i0, hi, hz0, hz1, hz2⟩ := info_parts info_int
  obtain ⟨a, cap, rfl, _, hr⟩ := hr
  have hr' := Lib.hid hr
  have H16 := Lib.hid h16
  clear hr h16
  go_enter Try.func28, Try.ntmps28
  go_wp2
  go_loopw [3, 5, 8] (fun v _ i wr => ∃ k n : Nat, k ≤ l.length ∧ i = .int .i64 k ∧ n ≤ k ∧ wr.ownsRow w.heap.size 3 1 v n (nv .i64 (usedF (l.take k))) ∧ Below w.heap.size w wr) (fun _ _ i _ => l.length - (intOf i).toNat)
  case atStart => exact ⟨0, 0, Nat.zero_le _, rfl, Nat.le_refl _, World.ownsRow_nil _ _ _ _, Below.refl _ _⟩
  case round =>
    obtain ⟨k, n, hk, rfl, hn, hown, hbel⟩ := hrel
    by_cases hlt : k < l.length
    · obtain ⟨b, o, rfl, hbl, hc⟩ := hr'.out (by omega)
      have hck : wr.cell? ⟨b, o + k, none⟩ = _ := (hbel.cell (by exact hbl)).trans (hc k hlt)
      have H1 := Lib.hid (usedF_succ l k hlt)
      have hx := H16.out _ (getD_mem l k hlt)
      have hsz := hbel.size
      clear hc
      generalize l.getD k 0 = x at *
      have HB := Lib.hid hbel
      have HO := Lib.hid hown
      clear hbel hown
      by_cases hx0 : 0 < x
      · go_wp2_with (at_builtin; refine wpList_app1 wr w rfl (.tmp 14) (.tmp 17) 26 rfl Try.underlying26 hi hz0 hz1 hz2 (by decide) _ n _ x _ rfl HO.out rfl (cell_new _ _ _ _) (by omega) hsz HB.out ?_; intro v' w1 hown1 hbel1 _ _ _)
        go_roundw
        case rel =>
          refine ⟨k + 1, n + 1, by omega, by go_num, by omega, ?_, hbel1⟩
          rw [H1.out, if_pos hx0]
          exact hown1
        case measure => simp [intOf]; omega
      · go_wp2
        go_roundw
        case rel =>
          refine ⟨k + 1, n, by omega, by go_num, by omega, ?_, HB.out⟩
          rw [H1.out, if_neg hx0, List.append_nil]
          exact HO.out
        case measure => simp [intOf]; omega
    · have hkl : k = l.length := by omega
      subst hkl
      rw [List.take_length] at hown
      have hs := sortI_own hown (by omega)
      have hlt := hown.lt
      have hl := owns_len hown
      go_wp2_with (go_at_call 43; refine hs.mono ?_; rintro e w1 ⟨rfl, hown1, hgr⟩)
      go_ret
      refine ⟨_, rfl, ?_, hbel.grown hgr hbel.size (fun j hj => (hlt j hj).1)⟩
      rw [used_len, ← hl]
      exact hown1
end Go.Proofs.Ytokbkbchblfcoaa

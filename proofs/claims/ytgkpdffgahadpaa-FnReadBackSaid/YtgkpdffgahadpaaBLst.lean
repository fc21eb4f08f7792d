/- The reference's Least and Huffman of the frequencies that are not 0; the sum that the laws reckon. -/
import Derived.Test.YtgkpdffgahadpaaBLaw
import Derived.Test.YtgkpdffgahadpaaSHuff
namespace Go.Proofs.Ytgkpdffgahadpaa
open Go.RowKit Go.Shelf Go.Lib

theorem getD_15 {L : List Nat} (h : ∀ x ∈ L, x ≤ 15) (k : Nat) : L.getD k 0 ≤ 15 := by
  rcases Nat.lt_or_ge k L.length with h1 | h1
  · exact h _ (getD_mem L k h1)
  · rw [PM.getD_out h1]; omega
theorem dotK_bd {f L : List Nat} (hf : ∀ s, f.getD s 0 < 65536) (hL : ∀ s, L.getD s 0 ≤ 15) : ∀ k, dotK f L k ≤ 1000000 * k
  | 0 => Nat.le_refl _
  | k + 1 => by
    have ih := dotK_bd hf hL k
    have h1 := hf k
    have h2 := hL k
    have h3 : f.getD k 0 * L.getD k 0 ≤ 65535 * 15 := Nat.mul_le_mul (by omega) h2
    rw [dotK]; omega

set_option maxHeartbeats 2000000 in
theorem least_few (v : Value) (u : List Nat) (bits : Nat) (w : World) (hr : NRow .i64 w v u) (h2 : u.length < 2) (h16 : ∀ x ∈ u, x ≤ 65535) :
    Calls Try.prog 22 #[v, .int .i64 bits] w fun e w' => e = .returned (.int .i64 (u.sum : Nat)) ∧ w = w' := by
  have hs := sum_le_of u 65535 h16
  have HS := Lib.hid (sum_any v u w hr (by omega) (by omega))
  obtain ⟨a, cap, rfl, _, hr⟩ := hr
  clear hr h16
  go_enter Try.func22, Try.ntmps22
  go_wp2_with fail
  refine HS.out.mono ?_
  rintro e w1 ⟨rfl, rfl⟩
  go_wp2
  go_ret
  exact ⟨rfl, rfl⟩

theorem used_small {f : List Nat} (h16 : ∀ x ∈ f, x < 65536) : ∀ x ∈ used f, x ≤ 65535 := fun x hx => by
  have := h16 x (used_mem f x hx); omega

theorem leastG_any (v : Value) (f : List Nat) (bits : Nat) (w : World) (hr : NRow .i64 w v (used f)) (hW : WellF f bits) :
    Calls Try.prog 22 #[v, .int .i64 bits] w fun e w' => e = .returned (.int .i64 (PM.least (used f) bits : Nat)) ∧ Below w.heap.size w w' := by
  have hu := used_le f
  have hm := hW.most
  by_cases h2 : (used f).length < 2
  · refine (least_few v (used f) bits w hr h2 (used_small hW.h16)).mono ?_
    rintro e w' ⟨rfl, rfl⟩
    refine ⟨?_, Below.refl _ _⟩
    unfold PM.least
    rw [if_pos h2]
  · refine (least_any v (used f) bits w hr (by omega) (by omega) (used_srt f) (used_small hW.h16) hW.b1 hW.b15 (PM.lvl_enough' _ _ hW.b1 hW.room)).mono ?_
    rintro e w' ⟨rfl, hb⟩
    refine ⟨?_, hb⟩
    unfold PM.least
    rw [if_neg h2]
theorem huffG_any (v : Value) (f : List Nat) (bits : Nat) (w : World) (hr : NRow .i64 w v (used f)) (hW : WellF f bits) (hb : (used f).length ≤ bits + 1) :
    Calls Try.prog 21 #[v] w fun e w' => e = .returned (.int .i64 (PM.least (used f) bits : Nat)) ∧ Below w.heap.size w w' := by
  have hu := used_le f
  have hm := hW.most
  by_cases h2 : (used f).length < 2
  · refine (huff_few v (used f) w hr h2 (used_small hW.h16)).mono ?_
    rintro e w' ⟨rfl, rfl⟩
    refine ⟨?_, Below.refl _ _⟩
    unfold PM.least
    rw [if_pos h2]
  · refine (huff_two v (used f) w hr (by omega) (by omega) (used_small hW.h16)).mono ?_
    rintro e w' ⟨rfl, hb'⟩
    refine ⟨?_, hb'⟩
    rw [PM.huff_least (used f) (used_srt f) (used_pos f) bits (by omega) hb]
end Go.Proofs.Ytgkpdffgahadpaa

/- No code of the lengths that generate builds begins another: the plain law. -/
import Derived.Test.YtgkpdffgahadpaaBGood
import Derived.Test.YtgkpdffgahadpaaSRead
namespace Go.Proofs.Ytgkpdffgahadpaa
open Go.RowKit Go.Shelf Go.Lib

theorem codeEnd_up (L : List Nat) (a : Nat) : ∀ d, codeEnd L a * 2 ^ d ≤ codeEnd L (a + d)
  | 0 => by simp
  | d + 1 => by
    have ih := codeEnd_up L a d
    rw [← Nat.add_assoc, codeEnd, Nat.pow_succ, ← Nat.mul_assoc]
    generalize codeEnd L a * 2 ^ d = x at *
    omega
theorem canonAt_end (L : List Nat) (s : Nat) (hs : s < L.length) (h : 0 < L.getD s 0) : canonAt L s < codeEnd L (L.getD s 0) ∧ 2 * codeEnd L (L.getD s 0 - 1) ≤ canonAt L s := by
  have h1 := rk_lt L s hs
  rw [canonAt_rk L s _ h rfl]
  generalize L.getD s 0 = k at *
  obtain ⟨j, rfl⟩ : ∃ j, k = j + 1 := ⟨k - 1, by omega⟩
  rw [codeEnd, Nat.add_sub_cancel]
  omega
theorem canon_free (L : List Nat) (s t : Nat) (hs : s < L.length) (ht : t < L.length) (h1 : 1 ≤ L.getD t 0) (h2 : L.getD t 0 ≤ L.getD s 0) (he : canonAt L t = canonAt L s / 2 ^ (L.getD s 0 - L.getD t 0)) : t = s := by
  rcases Nat.lt_or_ge (L.getD t 0) (L.getD s 0) with h | h
  · exfalso
    obtain ⟨a1, _⟩ := canonAt_end L t ht h1
    obtain ⟨_, b2⟩ := canonAt_end L s hs (by omega)
    have hu := codeEnd_up L (L.getD t 0) (L.getD s 0 - 1 - L.getD t 0)
    rw [show L.getD t 0 + (L.getD s 0 - 1 - L.getD t 0) = L.getD s 0 - 1 by omega] at hu
    have e : codeEnd L (L.getD t 0) * 2 ^ (L.getD s 0 - L.getD t 0) = 2 * (codeEnd L (L.getD t 0) * 2 ^ (L.getD s 0 - 1 - L.getD t 0)) := by
      rw [show L.getD s 0 - L.getD t 0 = (L.getD s 0 - 1 - L.getD t 0) + 1 by omega, Nat.pow_succ, ← Nat.mul_assoc, Nat.mul_comm]
    have hd := (Nat.le_div_iff_mul_le (Nat.two_pow_pos (L.getD s 0 - L.getD t 0))).2 (show codeEnd L (L.getD t 0) * 2 ^ (L.getD s 0 - L.getD t 0) ≤ canonAt L s by omega)
    omega
  · have hk : L.getD t 0 = L.getD s 0 := by omega
    rw [hk, Nat.sub_self, Nat.pow_zero, Nat.div_one, canonAt_rk L t _ (by omega) hk, canonAt_rk L s _ (by omega) rfl] at he
    rcases Nat.lt_trichotomy t s with h3 | h3 | h3
    · have := rk_mono L t s h3 hs hk; omega
    · exact h3
    · have := rk_mono L s t h3 ht hk.symm; omega

/-- The shares of the codes of at most n bits. -/
def kr (L : List Nat) (n : Nat) : Nat := (L.map fun x => if 0 < x ∧ x ≤ n then 2 ^ (15 - x) else 0).sum
theorem kr_succ (n : Nat) : ∀ L : List Nat, kr L (n + 1) = kr L n + L.count (n + 1) * 2 ^ (15 - (n + 1))
  | [] => by simp [kr]
  | a :: r => by
    have ih := kr_succ n r
    unfold kr at *
    rw [List.map_cons, List.sum_cons, List.map_cons, List.sum_cons, ih, List.count_cons, Nat.add_mul]
    by_cases h : a = n + 1
    · subst h
      rw [if_pos (by omega), if_neg (by omega), if_pos (by simp), Nat.one_mul]; omega
    · have hb : (a == n + 1) = false := by simpa using h
      rw [hb]
      by_cases h2 : 0 < a ∧ a ≤ n
      · rw [if_pos (by omega), if_pos h2]; simp; omega
      · rw [if_neg (by omega), if_neg h2]; simp
theorem kr_zero : ∀ L : List Nat, kr L 0 = 0
  | [] => rfl
  | a :: r => by
    have ih := kr_zero r
    unfold kr at *
    rw [List.map_cons, List.sum_cons, ih, if_neg (by omega)]
theorem kr_end (L : List Nat) : ∀ n, n ≤ 15 → codeEnd L n * 2 ^ (15 - n) = kr L n
  | 0, _ => by rw [kr_zero, codeEnd, Nat.zero_mul]
  | n + 1, h => by
    have ih := kr_end L n (by omega)
    rw [kr_succ, ← ih, codeEnd, Nat.add_mul, show 15 - n = (15 - (n + 1)) + 1 by omega, Nat.pow_succ, ← Nat.mul_assoc, Nat.mul_comm 2 (codeEnd L n), Nat.mul_assoc, Nat.mul_comm 2, ← Nat.mul_assoc]
theorem kr_le (n : Nat) : ∀ L : List Nat, kr L n ≤ kraft L
  | [] => Nat.le_refl _
  | a :: r => by
    have ih := kr_le n r
    unfold kr kraft at *
    rw [List.map_cons, List.sum_cons, List.map_cons, List.sum_cons]
    have h1 : (if 0 < a ∧ a ≤ n then 2 ^ (15 - a) else 0) ≤ share a := by
      unfold share
      by_cases h2 : 0 < a ∧ a ≤ n
      · rw [if_pos h2, if_pos h2.1]; exact Nat.le_refl _
      · rw [if_neg h2]; exact Nat.zero_le _
    omega
theorem codeEnd_kraft (L : List Nat) (hk : kraft L ≤ 32768) (n : Nat) (hn : n ≤ 15) : codeEnd L n ≤ 2 ^ n := by
  have h1 := kr_end L n hn
  have h2 := kr_le n L
  have h3 : codeEnd L n * 2 ^ (15 - n) ≤ 2 ^ n * 2 ^ (15 - n) := by
    rw [h1, ← Nat.pow_add, show n + (15 - n) = 15 by omega]; exact Nat.le_trans h2 hk
  exact Nat.le_of_mul_le_mul_right h3 (Nat.two_pow_pos _)

theorem canonL_len (L : List Nat) : (canonL L).length = L.length := by simp [canonL]
theorem canonL_get (L : List Nat) (i : Nat) : (canonL L).getD i 0 = if i < L.length then canonAt L i else 0 := by
  by_cases h : i < L.length
  · rw [if_pos h]; simp [canonL, List.getD, h]
  · rw [if_neg h, PM.getD_out (by rw [canonL_len]; omega)]
theorem canonAt_zero (L : List Nat) (i : Nat) (h : L.getD i 0 = 0) : canonAt L i = 0 := by unfold canonAt; rw [if_pos h]
theorem canonAt_pow {L : List Nat} (hk : kraft L ≤ 32768) (h15 : ∀ x ∈ L, x ≤ 15) (s : Nat) (hs : s < L.length) : canonAt L s < 2 ^ L.getD s 0 := by
  rcases Nat.eq_zero_or_pos (L.getD s 0) with h | h
  · rw [canonAt_zero L s h]; exact Nat.two_pow_pos _
  · exact Nat.lt_of_lt_of_le (canonAt_end L s hs h).1 (codeEnd_kraft L hk _ (h15 _ (getD_mem L s hs)))
/-- Turned twice: as it was. -/
theorem turned_at {L : List Nat} (hk : kraft L ≤ 32768) (h15 : ∀ x ∈ L, x ≤ 15) (s : Nat) (hs : s < L.length) : PT.turn (PT.turn (canonAt L s) (L.getD s 0)) (L.getD s 0) = canonAt L s := by
  rw [PT.turn_turn, Nat.mod_eq_of_lt (canonAt_pow hk h15 s hs)]
theorem prefix_of {L list : List Nat} (hk : kraft L ≤ 32768) (h15 : ∀ x ∈ L, x ≤ 15) (hm : ∀ s ∈ list, s < L.length ∧ 0 < L.getD s 0) : Prefix (canonL L) L list := by
  refine ⟨canonL_len L, ?_, ?_⟩
  · intro s hs
    obtain ⟨h1, h2⟩ := hm s hs
    rw [canonL_get, if_pos h1]
    exact ⟨h1, h2, h15 _ (getD_mem L s h1), canonAt_pow hk h15 s h1⟩
  · intro s hs t ht h3 h4 he
    obtain ⟨h1, h2⟩ := hm s hs
    rw [canonL_get, canonL_get, if_pos h1, if_pos ht] at he
    exact canon_free L s t h1 ht h3 h4 he
end Go.Proofs.Ytgkpdffgahadpaa

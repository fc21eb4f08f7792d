/- Codes given out in the order of the symbols: the plain law of the walk of assignEncodingAndSize. -/
import Derived.Test.YtgkpdffgahadpaaSCanon
import Derived.Test.YtgkpdffgahadpaaT1
namespace Go.Proofs.Ytgkpdffgahadpaa
open Go.RowKit

/-- How many symbols ahead have the same length. -/
def rk (L : List Nat) (s : Nat) : Nat := (L.take s).count (L.getD s 0)
/-- A code with its bits in the other order, and its length. -/
def hval (L : List Nat) (s : Nat) : Nat := PT.turn (canonAt L s) (L.getD s 0) * 256 + L.getD s 0
/-- The codes of less than n bits, and the first j of n bits; else the old ones. -/
def csP (L cs0 : List Nat) (n j : Nat) : List Nat := (List.range cs0.length).map fun s => if 0 < L.getD s 0 ∧ (L.getD s 0 < n ∨ (L.getD s 0 = n ∧ rk L s < j)) then hval L s else cs0.getD s 0

theorem csP_len (L cs0 : List Nat) (n j : Nat) : (csP L cs0 n j).length = cs0.length := by simp [csP]
theorem csP_zero (L cs0 : List Nat) : csP L cs0 0 0 = cs0 := by
  apply List.ext_getElem
  · simp [csP]
  · intro i h1 h2
    simp [csP, List.getD, h2]
theorem rk_lt (L : List Nat) (s : Nat) (h : s < L.length) : rk L s < L.count (L.getD s 0) := by
  unfold rk
  have e : L.getD s 0 = L[s] := by simp [List.getD, h]
  have h1 : L = L.take s ++ [L[s]] ++ L.drop (s + 1) := by
    rw [← List.take_succ_eq_append_getElem h, List.take_append_drop]
  rw [e]
  have h2 := congrArg (List.count L[s]) h1
  rw [List.count_append, List.count_append] at h2
  have h3 : List.count L[s] [L[s]] = 1 := by simp
  omega
theorem rk_mono (L : List Nat) (s t : Nat) (hst : s < t) (ht : t < L.length) (he : L.getD s 0 = L.getD t 0) : rk L s < rk L t := by
  unfold rk
  rw [he]
  have e : L.getD t 0 = L[s]'(by omega) := by rw [← he]; simp [List.getD, show s < L.length by omega]
  rw [e]
  have h1 : L.take t = (L.take (s + 1)) ++ ((L.take t).drop (s + 1)) := by
    conv => lhs; rw [← List.take_append_drop (s + 1) (L.take t)]
    rw [List.take_take, Nat.min_eq_left (by omega)]
  rw [h1, List.count_append, List.take_succ_eq_append_getElem (show s < L.length by omega), List.count_append]
  simp
  omega
theorem csP_skip (L cs0 : List Nat) (n : Nat) (hl : L.length = cs0.length) (h : n = 0 ∨ L.count n = 0) : csP L cs0 n 0 = csP L cs0 (n + 1) 0 := by
  apply List.ext_getElem
  · simp [csP]
  · intro s h1 h2
    rw [csP_len] at h1
    have hs : s < L.length := by omega
    simp only [csP, List.getElem_map, List.getElem_range]
    by_cases h3 : L.getD s 0 = n
    · rcases h with h | h
      · rw [if_neg (by omega), if_neg (by omega)]
      · have := rk_lt L s hs
        rw [h3] at this
        omega
    · by_cases h4 : 0 < L.getD s 0 ∧ L.getD s 0 < n
      · rw [if_pos (by omega), if_pos (by omega)]
      · rw [if_neg (by omega), if_neg (by omega)]
theorem csP_next (L cs0 : List Nat) (n c : Nat) (hl : L.length = cs0.length) (hc : L.count n = c) : csP L cs0 n c = csP L cs0 (n + 1) 0 := by
  subst hc
  apply List.ext_getElem
  · simp [csP]
  · intro s h1 h2
    rw [csP_len] at h1
    have hs : s < L.length := by omega
    simp only [csP, List.getElem_map, List.getElem_range]
    have h5 := rk_lt L s hs
    by_cases h3 : L.getD s 0 = n
    · rw [h3] at h5
      by_cases h6 : 0 < L.getD s 0
      · rw [if_pos (by omega), if_pos (by omega)]
      · rw [if_neg (by omega), if_neg (by omega)]
    · by_cases h4 : 0 < L.getD s 0 ∧ L.getD s 0 < n
      · rw [if_pos (by omega), if_pos (by omega)]
      · rw [if_neg (by omega), if_neg (by omega)]
theorem csP_step (L cs0 : List Nat) (n j s : Nat) (hl : L.length = cs0.length) (hn : 0 < n) (hs : s < L.length) (hLs : L.getD s 0 = n) (hr : rk L s = j) :
    csP L cs0 n (j + 1) = (csP L cs0 n j).set s (hval L s) := by
  apply List.ext_getElem
  · simp [csP]
  · intro i h1 h2
    rw [csP_len] at h1
    have hi : i < L.length := by omega
    simp only [csP, List.getElem_map, List.getElem_range, List.getElem_set]
    by_cases hsi : s = i
    · subst hsi
      rw [if_pos rfl, if_pos (by omega)]
    · rw [if_neg hsi]
      by_cases h3 : L.getD i 0 = n
      · have hne : rk L i ≠ j := by
          intro he
          rcases Nat.lt_or_gt_of_ne hsi with h | h
          · have := rk_mono L s i h hi (by omega); omega
          · have := rk_mono L i s h hs (by omega); omega
        by_cases h4 : rk L i < j
        · rw [if_pos (by omega), if_pos (by omega)]
        · rw [if_neg (by omega), if_neg (by omega)]
      · by_cases h4 : 0 < L.getD i 0 ∧ L.getD i 0 < n
        · rw [if_pos (by omega), if_pos (by omega)]
        · rw [if_neg (by omega), if_neg (by omega)]
theorem strict_id (f : Nat → Nat) (c : Nat) (h1 : ∀ i j, i < j → j < c → f i < f j) (h2 : ∀ i, i < c → f i < c) : ∀ i, i < c → f i = i := by
  have h3 : ∀ k i, i + k < c → f i + k ≤ f (i + k) := by
    intro k
    induction k with
    | zero => intro i _; exact Nat.le_refl _
    | succ k ih =>
      intro i hi
      have a := ih i (by omega)
      have b := h1 (i + k) (i + (k + 1)) (by omega) hi
      omega
  intro i hi
  have a := h3 i 0 (by omega)
  have b := h3 (c - 1 - i) i (by omega)
  have e : i + (c - 1 - i) = c - 1 := by omega
  rw [e] at b
  have d := h2 (c - 1) (by omega)
  rw [Nat.zero_add] at a
  omega
theorem chunk_rk (L ch : List Nat) (n : Nat) (hp : ch.Pairwise (· < ·)) (hm : ∀ s ∈ ch, s < L.length ∧ L.getD s 0 = n) (hc : L.count n = ch.length) (j s : Nat) (hj : ch[j]? = some s) : rk L s = j := by
  have hlt := (List.getElem?_eq_some_iff.1 hj).1
  have hs := (List.getElem?_eq_some_iff.1 hj).2
  have h := strict_id (fun i => rk L (ch.getD i 0)) ch.length (by
    intro i k hik hk
    have e1 : ch.getD i 0 = ch[i]'(by omega) := by simp [List.getD, show i < ch.length by omega]
    have e2 : ch.getD k 0 = ch[k] := by simp [List.getD, hk]
    rw [e1, e2]
    have m1 := hm _ (List.getElem_mem (show i < ch.length by omega))
    have m2 := hm _ (List.getElem_mem hk)
    exact rk_mono L _ _ (List.pairwise_iff_getElem.1 hp i k (by omega) hk hik) m2.1 (by rw [m1.2, m2.2])) (by
    intro i hi
    have e1 : ch.getD i 0 = ch[i] := by simp [List.getD, hi]
    rw [e1]
    have m1 := hm _ (List.getElem_mem hi)
    have := rk_lt L _ m1.1
    rw [m1.2, hc] at this
    exact this) j hlt
  have e1 : ch.getD j 0 = s := by simp [List.getD, hj]
  rwa [e1] at h
theorem canonAt_rk (L : List Nat) (s n : Nat) (hn : 0 < n) (h : L.getD s 0 = n) : canonAt L s = 2 * codeEnd L (n - 1) + rk L s := by
  unfold canonAt rk
  rw [if_neg (by omega), h]
end Go.Proofs.Ytgkpdffgahadpaa

/- Lengths that belong to counts: the plain law. -/
import Derived.Test.YtgkpdffgahadpaaBase
namespace Go.Proofs.Ytgkpdffgahadpaa
open Go.RowKit

/-- The lengths that counts tell, the shortest first. -/
def lsq : Nat → List Nat → List Nat
  | _, [] => []
  | k, c :: r => List.replicate c k ++ lsq (k + 1) r
theorem lsq_len : ∀ (l : List Nat) (b : Nat), (lsq b l).length = l.sum
  | [], _ => rfl
  | c :: r, b => by simp [lsq, lsq_len r]
theorem lsq_get : ∀ (l : List Nat) (b k i : Nat), k < l.length → i < l.getD k 0 → (lsq b l)[(l.take k).sum + i]? = some (b + k)
  | [], _, _, _, h, _ => by simp at h
  | c :: r, b, 0, i, _, hi => by
    have hi' : i < c := by simpa using hi
    simp [lsq, List.getElem?_append, hi']
  | c :: r, b, k + 1, i, hk, hi => by
    have h := lsq_get r (b + 1) k i (by simpa using hk) (by simpa using hi)
    simp only [lsq, List.take_succ_cons, List.sum_cons]
    rw [List.getElem?_append_right (by simp; omega)]
    simp only [List.length_replicate]
    rw [show c + (r.take k).sum + i - c = (r.take k).sum + i by omega, h]
    congr 1; omega
theorem lsq_low : ∀ (l : List Nat) (b x : Nat), x < b → (lsq b l).count x = 0
  | [], _, _, _ => rfl
  | c :: r, b, x, h => by
    simp only [lsq, List.count_append, lsq_low r (b + 1) x (by omega), List.count_replicate]
    rw [if_neg (by simp; omega)]
theorem lsq_count : ∀ (l : List Nat) (b k : Nat), (lsq b l).count (b + k) = l.getD k 0
  | [], _, _ => by simp [lsq]
  | c :: r, b, 0 => by
    simp only [lsq, List.count_append, Nat.add_zero, lsq_low r (b + 1) b (by omega), List.count_replicate]
    simp
  | c :: r, b, k + 1 => by
    have h := lsq_count r (b + 1) k
    simp only [lsq, List.count_append, List.count_replicate]
    rw [if_neg (by simp), show b + (k + 1) = b + 1 + k by omega, h]
    simp

/-- The lengths of the symbols when the first t lengths are given out, from the last symbol of an order on. -/
def spr (ord ls : List Nat) (size : Nat) : Nat → List Nat
  | 0 => List.replicate size 0
  | t + 1 => (spr ord ls size t).set (ord.getD (ord.length - 1 - t) 0) (ls.getD t 0)
theorem spr_len (ord ls : List Nat) (size : Nat) : ∀ t, (spr ord ls size t).length = size
  | 0 => by simp [spr]
  | t + 1 => by simp [spr, spr_len ord ls size t]
/-- What is not given a length yet has none. -/
theorem spr_zero (ord ls : List Nat) (size : Nat) : ∀ t s, (∀ i, i < t → ord.getD (ord.length - 1 - i) 0 ≠ s) → (spr ord ls size t).getD s 0 = 0
  | 0, s, _ => by
    simp only [spr, List.getD, List.getElem?_replicate]
    split <;> rfl
  | t + 1, s, h => by
    have h1 := spr_zero ord ls size t s (fun i hi => h i (by omega))
    simp only [spr, List.getD, List.getElem?_set] at *
    rw [if_neg (h t (by omega))]
    exact h1
theorem nodup_getD {ord : List Nat} (hnd : ord.Nodup) {i j : Nat} (hi : i < ord.length) (hj : j < ord.length) (h : ord.getD i 0 = ord.getD j 0) : i = j := by
  have e1 : ord.getD i 0 = ord[i] := by simp [List.getD, hi]
  have e2 : ord.getD j 0 = ord[j] := by simp [List.getD, hj]
  rw [e1, e2] at h
  rcases Nat.lt_trichotomy i j with hl | hl | hl
  · exact absurd h (List.pairwise_iff_getElem.1 hnd i j hi hj hl)
  · exact hl
  · exact absurd h.symm (List.pairwise_iff_getElem.1 hnd j i hj hi hl)
theorem spr_at (ord ls : List Nat) (size : Nat) (hnd : ord.Nodup) (hlt : ∀ x ∈ ord, x < size) : ∀ t, t ≤ ord.length → ∀ i, i < t → (spr ord ls size t).getD (ord.getD (ord.length - 1 - i) 0) 0 = ls.getD i 0
  | 0, _, _, h => by omega
  | t + 1, ht, i, hi => by
    by_cases h : i = t
    · subst h
      have hm : ord.getD (ord.length - 1 - i) 0 < (spr ord ls size i).length := by
        rw [spr_len]; exact hlt _ (getD_mem _ _ (by omega))
      simp only [spr]
      simp only [List.getD_eq_getElem?_getD, List.getElem?_set] at hm ⊢
      rw [if_pos trivial, if_pos hm]
      rfl
    · have h1 := spr_at ord ls size hnd hlt t (by omega) i (by omega)
      have hne : ord.getD (ord.length - 1 - t) 0 ≠ ord.getD (ord.length - 1 - i) 0 := fun he => by
        have := nodup_getD hnd (by omega) (by omega) he
        omega
      rw [← h1]
      simp only [spr]
      simp only [List.getD_eq_getElem?_getD, List.getElem?_set] at hne ⊢
      rw [if_neg hne]
theorem count_set_zero (l : List Nat) (j x k : Nat) (hk : 0 < k) (hj : j < l.length) (h0 : l.getD j 0 = 0) : (l.set j x).count k = l.count k + if x = k then 1 else 0 := by
  have e : l.getD j 0 = l[j] := by simp [List.getD, hj]
  rw [e] at h0
  rw [List.count_set hj, h0]
  rw [if_neg (show ¬ (0 == k) = true by simp; omega)]
  simp
theorem spr_count (ord ls : List Nat) (size : Nat) (hnd : ord.Nodup) (hlt : ∀ x ∈ ord, x < size) (k : Nat) (hk : 0 < k) : ∀ t, t ≤ ord.length → t ≤ ls.length → (spr ord ls size t).count k = (ls.take t).count k
  | 0, _, _ => by
    simp only [spr, List.take_zero, List.count_nil, List.count_replicate]
    rw [if_neg (by simp; omega)]
  | t + 1, ht, htl => by
    have h1 := spr_count ord ls size hnd hlt k hk t (by omega) (by omega)
    rw [spr, count_set_zero _ _ _ _ hk (by rw [spr_len]; exact hlt _ (getD_mem _ _ (by omega))), h1, take_succ_getD ls t (by omega), List.count_append]
    · generalize ls.getD t 0 = x
      by_cases h : x = k
      · subst h; simp
      · simp [h]
    · refine spr_zero ord ls size t _ ?_
      intro i hi he
      have := nodup_getD hnd (by omega) (by omega) he
      omega
end Go.Proofs.Ytgkpdffgahadpaa

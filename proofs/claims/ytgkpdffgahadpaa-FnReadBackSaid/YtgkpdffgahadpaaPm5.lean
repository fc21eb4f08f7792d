/- Plain lists: the worth of the coins with one bit more, and Huffman's own way. No program in sight. -/
import Derived.Test.YtgkpdffgahadpaaPm4
namespace PM

/-- What the reference's Least returns. -/
def least (u : List Nat) (b : Nat) : Nat := if u.length < 2 then u.sum else ((lvl u b).take (2 * u.length - 2)).sum

theorem dom_sum : ∀ (n : Nat) (l m : List Nat), Dom l m → n ≤ m.length → (l.take n).sum ≤ (m.take n).sum
  | 0, l, m, _, _ => by simp
  | n + 1, [], m, h, hn => by have := h.1; simp only [List.length_nil] at this; omega
  | n + 1, a :: l, [], h, hn => by simp at hn
  | n + 1, a :: l, b :: m, h, hn => by
    have h0 := h.2 0 (by simp) (by simp)
    have ih := dom_sum n l m ⟨by have := h.1; simp at this; omega, fun i h1 h2 => by
      have := h.2 (i + 1) (by simp; omega) (by simp; omega)
      simpa using this⟩ (by simp at hn; omega)
    simp only [List.getElem_cons_zero] at h0
    simp only [List.take_succ_cons, List.sum_cons]
    omega
theorem least_more (u : List Nat) (b : Nat) (h : 2 * u.length - 2 ≤ (lvl u b).length) : least u (b + 1) ≤ least u b := by
  unfold least
  split
  · exact Nat.le_refl _
  · exact dom_sum _ _ _ (lvl_dom u b) h

theorem step_dom (g : List Nat) {l m : List Nat} (hl : Srt l) (hm : Srt m) (h : Dom l m) : Dom (srt (pairs l ++ g)) (srt (pairs m ++ g)) := by
  rw [dom_iff (srt_sorted _) (srt_sorted _)]
  intro x
  rw [cle_perm (srt_perm _), cle_perm (srt_perm _), cle_append, cle_append]
  have := (dom_iff (pairs_srt hl) (pairs_srt hm)).1 (pairs_dom h) x
  omega

/-- What is left of a level behind the two least ones. -/
def lv2 (f : List Nat) (k : Nat) : List Nat := (lvl f (k + 1)).drop 2
theorem lv2_srt (f : List Nat) (k : Nat) : Srt (lv2 f k) := (lvl_srt f (k + 1)).drop 2
theorem two_of : ∀ (l : List Nat) (a b : Nat), 2 ≤ l.length → l.getD 0 0 = a → l.getD 1 0 = b → l = a :: b :: l.drop 2
  | x :: y :: t, a, b, _, h0, h1 => by
    simp at h0 h1
    rw [h0, h1]; rfl
  | [x], _, _, hl, _, _ => by simp at hl
  | [], _, _, hl, _, _ => by simp at hl
theorem lvl_two {a b : Nat} {r : List Nat} (hf : Srt (a :: b :: r)) (hp : ∀ x ∈ a :: b :: r, 0 < x) (k : Nat) : lvl (a :: b :: r) (k + 1) = a :: b :: lv2 (a :: b :: r) k := by
  have h := first_two hf hp (by simp) k
  have hl := lvl_len' (a :: b :: r) k
  simp only [List.length_cons] at hl
  exact two_of _ a b (by omega) h.2.1 h.2.2
/-- The list with the two least ones put together. -/
def put2 (a b : Nat) (r : List Nat) : List Nat := srt ((a + b) :: r)
theorem lv2_zero {a b : Nat} {r : List Nat} (hf : Srt (a :: b :: r)) : lv2 (a :: b :: r) 0 = r := by
  unfold lv2
  show (srt ([] ++ (a :: b :: r))).drop 2 = r
  rw [List.nil_append, srt_of_sorted hf]; rfl
theorem lv2_succ {a b : Nat} {r : List Nat} (hf : Srt (a :: b :: r)) (hp : ∀ x ∈ a :: b :: r, 0 < x) (k : Nat) : lv2 (a :: b :: r) (k + 1) = srt (pairs (lv2 (a :: b :: r) k) ++ put2 a b r) := by
  refine eq_of_perm (lv2_srt _ _) (srt_sorted _) ?_
  have h1 := lvl_perm (a :: b :: r) (k + 1)
  unfold prs at h1
  rw [lvl_two hf hp (k + 1), lvl_two hf hp k] at h1
  simp only [pairs] at h1
  have h2 : (a :: b :: lv2 (a :: b :: r) (k + 1)).Perm (a :: b :: ((a + b) :: pairs (lv2 (a :: b :: r) k) ++ r)) := by
    refine h1.trans ?_
    refine (List.perm_middle (l₁ := (a + b) :: pairs (lv2 (a :: b :: r) k))).trans ?_
    exact (List.perm_middle (l₁ := (a + b) :: pairs (lv2 (a :: b :: r) k))).cons a
  have h3 := h2.cons_inv.cons_inv
  refine h3.trans ?_
  refine List.Perm.trans ?_ (srt_perm _).symm
  rw [List.cons_append]
  refine (List.perm_middle (l₁ := pairs (lv2 (a :: b :: r) k)) (l₂ := r) (a := a + b)).symm.trans ?_
  exact List.Perm.append_left _ (srt_perm _).symm
theorem lv2_low {a b : Nat} {r : List Nat} (hf : Srt (a :: b :: r)) (hp : ∀ x ∈ a :: b :: r, 0 < x) : ∀ k, Dom (lv2 (a :: b :: r) k) (lvl (put2 a b r) k)
  | 0 => ⟨Nat.zero_le _, fun _ _ h => by simp [lvl] at h⟩
  | k + 1 => by
    rw [lv2_succ hf hp k]
    exact step_dom _ (lv2_srt _ _) (lvl_srt _ _) (lv2_low hf hp k)
theorem lv2_up {a b : Nat} {r : List Nat} (hf : Srt (a :: b :: r)) (hp : ∀ x ∈ a :: b :: r, 0 < x) : ∀ k, Dom (lvl (put2 a b r) (k + 1)) (lv2 (a :: b :: r) k)
  | 0 => by
    rw [dom_iff (lvl_srt _ _) (lv2_srt _ _), lv2_zero hf]
    intro x
    show _ ≤ cle x (srt ([] ++ put2 a b r))
    rw [List.nil_append, cle_perm (srt_perm _)]
    unfold put2
    rw [cle_perm (srt_perm _)]
    unfold cle
    rw [List.countP_cons]
    omega
  | k + 1 => by
    rw [lv2_succ hf hp k]
    exact step_dom _ (lvl_srt _ _) (lv2_srt _ _) (lv2_up hf hp k)

/-- Huffman's own way: again and again the two least ones are put together. -/
def huff : Nat → List Nat → Nat
  | 0, _ => 0
  | k + 1, l => match srt l with
    | a :: b :: r => a + b + huff k (r ++ [a + b])
    | _ => 0
theorem huff_perm : ∀ (k : Nat) {l m : List Nat}, l.Perm m → huff k l = huff k m
  | 0, _, _, _ => rfl
  | k + 1, l, m, h => by simp only [huff]; rw [srt_eq h]
theorem huff_succ (k : Nat) (l : List Nat) (a b : Nat) (r : List Nat) (h : srt l = a :: b :: r) : huff (k + 1) l = a + b + huff k (r ++ [a + b]) := by
  simp only [huff]; rw [h]
theorem huff_lvl : ∀ (n : Nat) (u : List Nat), u.length = n + 1 → Srt u → (∀ x ∈ u, 0 < x) → ∀ k, n ≤ k → huff n u = ((lvl u k).take (2 * n)).sum
  | 0, _, _, _, _, _, _ => by simp [huff]
  | n + 1, u, hl, hs, hp, k, hk => by
    match u, hl, hs, hp with
    | [x], hl, _, _ => simp at hl
    | a :: b :: r, hl, hs, hp =>
      obtain ⟨j, rfl⟩ : ∃ j, k = j + 1 := ⟨k - 1, by omega⟩
      have hgl : (put2 a b r).length = n + 1 := by unfold put2; rw [srt_len]; simp at hl ⊢; omega
      have hgp : ∀ x ∈ put2 a b r, 0 < x := by
        intro x hx
        rcases List.mem_cons.1 ((srt_perm _).mem_iff.1 hx) with h | h
        · have := hp a (by simp); omega
        · exact hp x (by simp [h])
      have ih := huff_lvl n (put2 a b r) hgl (srt_sorted _) hgp
      rw [huff_succ n (a :: b :: r) a b r (srt_of_sorted hs)]
      have e1 : huff n (r ++ [a + b]) = huff n (put2 a b r) := huff_perm n ((List.perm_append_singleton _ _).trans (srt_perm _).symm)
      rw [e1, lvl_two hs hp j, show 2 * (n + 1) = (2 * n + 1) + 1 by omega, List.take_succ_cons, List.take_succ_cons, List.sum_cons, List.sum_cons]
      have d1 := lv2_low hs hp j
      have d2 := lv2_up hs hp j
      have b1 := lvl_big (put2 a b r) j n (by omega) (by omega)
      have s1 := dom_sum (2 * n) _ _ d1 b1
      have s2 := dom_sum (2 * n) _ _ d2 (by have := d1.1; omega)
      have e2 := ih j (by omega)
      have e3 := ih (j + 1) (by omega)
      omega
theorem huff_least (u : List Nat) (hs : Srt u) (hp : ∀ x ∈ u, 0 < x) (b : Nat) (h2 : 2 ≤ u.length) (hb : u.length ≤ b + 1) : huff (u.length - 1) u = least u b := by
  unfold least
  rw [if_neg (by omega), huff_lvl (u.length - 1) u (by omega) hs hp b (by omega)]
  congr 2; omega
/-- The two least ones alone. -/
theorem least_two (u : List Nat) (hs : Srt u) (hp : ∀ x ∈ u, 0 < x) (b : Nat) (h2 : u.length ≤ 2) (h1 : 1 ≤ b) : least u b = u.sum := by
  unfold least
  split
  · rfl
  · match u, hs, hp with
    | [x, y], hs, hp =>
      obtain ⟨j, rfl⟩ : ∃ j, b = j + 1 := ⟨b - 1, by omega⟩
      rw [lvl_two hs hp j]
      simp
    | [], _, _ => simp at *
    | [x], _, _ => simp at *
    | x :: y :: z :: t, _, _ => simp at h2
end PM

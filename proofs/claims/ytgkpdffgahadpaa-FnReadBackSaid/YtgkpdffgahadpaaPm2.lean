/- Plain lists: how many leaves of each level the package-merge algorithm takes, and what they are worth. No program in sight. -/
import Derived.Test.YtgkpdffgahadpaaPm1
namespace PM

theorem lf_leaf {f Q : List Nat} {c : Nat} (h1 : lf f Q c < f.length) (h2 : c - lf f Q c < Q.length → f.getD (lf f Q c) 0 < Q.getD (c - lf f Q c) 0) : lf f Q (c + 1) = lf f Q c + 1 := by
  simp only [lf]; rw [if_pos ⟨h1, h2⟩]
theorem lf_up (f Q : List Nat) (c : Nat) : lf f Q (c + 1) ≤ lf f Q c + 1 := by
  rw [lf]; split <;> omega
theorem lf_pair {f Q : List Nat} {c : Nat} (h : ¬ (lf f Q c < f.length ∧ (c - lf f Q c < Q.length → f.getD (lf f Q c) 0 < Q.getD (c - lf f Q c) 0))) : lf f Q (c + 1) = lf f Q c := by
  simp only [lf]; rw [if_neg h]

/-- Of the first 'c' of level 'l' so many come from leaves of level 'j'. -/
def AA (f : List Nat) : Nat → Nat → Nat → Nat
  | 0, _, _ => 0
  | l + 1, c, j => if j = l + 1 then lf f (prs f l) c else AA f l (2 * (c - lf f (prs f l) c)) j
theorem AA_top (f : List Nat) (l c : Nat) : AA f (l + 1) c (l + 1) = lf f (prs f l) c := by simp [AA]
theorem AA_low (f : List Nat) (l c j : Nat) (h : j ≠ l + 1) : AA f (l + 1) c j = AA f l (2 * (c - lf f (prs f l) c)) j := by simp [AA, h]
theorem AA_zero (f : List Nat) : ∀ l j, AA f l 0 j = 0
  | 0, _ => rfl
  | l + 1, j => by
    by_cases h : j = l + 1
    · subst h; rw [AA_top]; rfl
    · rw [AA_low f l 0 j h]
      exact AA_zero f l j
theorem AA_above (f : List Nat) : ∀ l c j, l < j → AA f l c j = 0
  | 0, _, _, _ => rfl
  | l + 1, c, j, h => by rw [AA_low f l c j (by omega)]; exact AA_above f l _ j (by omega)
theorem AA_bot (f : List Nat) : ∀ l c, AA f l c 0 = 0
  | 0, _ => rfl
  | l + 1, c => by rw [AA_low f l c 0 (by omega)]; exact AA_bot f l _
theorem AA_len (f : List Nat) : ∀ l c j, AA f l c j ≤ f.length
  | 0, _, _ => Nat.zero_le _
  | l + 1, c, j => by
    by_cases h : j = l + 1
    · subst h; rw [AA_top]; exact lf_len _ _ _
    · rw [AA_low f l c j h]; exact AA_len f l _ j

theorem mem_pairs : ∀ (l : List Nat) (x : Nat), x ∈ pairs l → ∃ a b, a ∈ l ∧ b ∈ l ∧ x = a + b
  | [], x, h => by simp [pairs] at h
  | [_], x, h => by simp [pairs] at h
  | a :: b :: r, x, h => by
    simp only [pairs, List.mem_cons] at h
    rcases h with rfl | h
    · exact ⟨a, b, by simp, by simp, rfl⟩
    · obtain ⟨c, d, hc, hd, rfl⟩ := mem_pairs r x h
      exact ⟨c, d, by simp [hc], by simp [hd], rfl⟩
theorem lvl_pos (f : List Nat) (hp : ∀ x ∈ f, 0 < x) : ∀ k x, x ∈ lvl f k → 0 < x
  | 0, x, h => by simp [lvl] at h
  | k + 1, x, h => by
    rcases List.mem_append.1 ((lvl_perm f k).mem_iff.1 h) with h | h
    · obtain ⟨a, b, ha, _, rfl⟩ := mem_pairs _ _ h
      have := lvl_pos f hp k a ha
      omega
    · exact hp x h
theorem lvl_bd (f : List Nat) (M : Nat) (hM : ∀ x ∈ f, x ≤ M) : ∀ k x, x ∈ lvl f (k + 1) → x ≤ M * 2 ^ k
  | 0, x, h => by
    rcases List.mem_append.1 ((lvl_perm f 0).mem_iff.1 h) with h | h
    · simp [prs, lvl, pairs] at h
    · have := hM x h; omega
  | k + 1, x, h => by
    rcases List.mem_append.1 ((lvl_perm f (k + 1)).mem_iff.1 h) with h | h
    · obtain ⟨a, b, ha, hb, rfl⟩ := mem_pairs _ _ h
      have h1 := lvl_bd f M hM k a ha
      have h2 := lvl_bd f M hM k b hb
      rw [Nat.pow_succ, ← Nat.mul_assoc]; omega
    · have h1 := hM x h
      have h2 : M * 1 ≤ M * 2 ^ (k + 1) := Nat.mul_le_mul_left _ (Nat.two_pow_pos _)
      omega
theorem prs_len (f : List Nat) (k : Nat) : (prs f k).length = (lvl f k).length / 2 := pairs_len _
theorem prs_zero (f : List Nat) : prs f 0 = [] := rfl
theorem lvl_len' (f : List Nat) (k : Nat) : (lvl f (k + 1)).length = f.length + (prs f k).length := by rw [lvl_len, prs_len]; omega

/-- A leaf among the first ones. -/
theorem leaf_in {f : List Nat} (hf : Srt f) (k c i : Nat) (hc : c ≤ (lvl f (k + 1)).length) (hi : i < lf f (prs f k) c) : ∃ t, t < c ∧ (lvl f (k + 1)).getD t 0 = f.getD i 0 := by
  have h1 := lf_len f (prs f k) c
  have h2 := lf_le f (prs f k) c
  have hp := cut_perm hf (prs_srt f k) (lf_cut hf (prs_srt f k) c (by rw [← lvl_len']; exact hc))
  rw [show lf f (prs f k) c + (c - lf f (prs f k) c) = c by omega] at hp
  have hm : f[i]'(by omega) ∈ f.take (lf f (prs f k) c) := by
    rw [List.mem_take_iff_getElem]
    exact ⟨i, by omega, rfl⟩
  have hm2 := hp.mem_iff.2 (List.mem_append_right _ hm)
  obtain ⟨t, ht, he⟩ := List.mem_take_iff_getElem.1 hm2
  have ht' : t < (lvl f (k + 1)).length := by have := Nat.min_le_right c (srt (prs f k ++ f)).length; exact Nat.lt_of_lt_of_le ht this
  refine ⟨t, by omega, ?_⟩
  rw [getD_of ht', getD_of (show i < f.length by omega)]
  exact he

theorem prs_get (f : List Nat) (k p : Nat) (h : p < (prs f k).length) : (prs f k).getD p 0 = (lvl f k).getD (2 * p) 0 + (lvl f k).getD (2 * p + 1) 0 := by
  have h' : p < (lvl f k).length / 2 := by rw [← prs_len]; exact h
  rw [getD_of h, getD_of (show 2 * p < (lvl f k).length by omega), getD_of (show 2 * p + 1 < (lvl f k).length by omega)]
  exact pairs_get _ _ h
theorem getD_srt {l : List Nat} (h : Srt l) {i j : Nat} (hij : i ≤ j) (hj : j < l.length) : l.getD i 0 ≤ l.getD j 0 := by
  rw [getD_of hj, getD_of (show i < l.length by omega)]; exact h.get_le hij hj
theorem getD_pos (f : List Nat) (hp : ∀ x ∈ f, 0 < x) (k t : Nat) (ht : t < (lvl f k).length) : 0 < (lvl f k).getD t 0 := by
  rw [getD_of ht]; exact lvl_pos f hp k _ (List.getElem_mem _)

/-- Of twice 'm' at least 'm + 1' are leaves. -/
theorem many {f : List Nat} (hf : Srt f) (hp : ∀ x ∈ f, 0 < x) : ∀ k m, 1 ≤ m → m + 1 ≤ f.length → 2 * m ≤ (lvl f (k + 1)).length → m + 1 ≤ lf f (prs f k) (2 * m)
  | 0, m, h1, h2, h3 => by
    have h4 := lf_pairs_len f (prs f 0) (2 * m) (by rw [← lvl_len']; exact h3)
    have h5 := lf_le f (prs f 0) (2 * m)
    rw [prs_zero] at h4 h5 ⊢
    simp only [List.length_nil] at h4
    omega
  | k + 1, m, h1, h2, h3 => by
    rcases Nat.lt_or_ge m (lf f (prs f (k + 1)) (2 * m)) with h | h
    · exact h
    · exfalso
      have hC := lf_cut hf (prs_srt f (k + 1)) (2 * m) (by rw [← lvl_len']; exact h3)
      generalize lf f (prs f (k + 1)) (2 * m) = a at *
      have hpl := hC.hp
      have hq : m - 1 < (prs f (k + 1)).length := by omega
      have h6 : 2 * m ≤ (lvl f (k + 1)).length := by rw [prs_len] at hq; omega
      have ih := many hf hp k m h1 h2 h6
      obtain ⟨t, ht, he⟩ := leaf_in hf k (2 * m) m h6 ih
      have h7 := getD_srt (lvl_srt f (k + 1)) (show t ≤ 2 * m - 1 by omega) (by omega)
      have h8 := prs_get f (k + 1) (m - 1) hq
      rw [show 2 * (m - 1) + 1 = 2 * m - 1 by omega] at h8
      have h9 := getD_pos f hp (k + 1) (2 * (m - 1)) (by omega)
      have h10 := hC.l2 a (m - 1) (by omega) hq (Nat.le_refl _) (by omega)
      rw [← getD_of (show a < f.length by omega), ← getD_of hq] at h10
      have h11 := getD_srt hf h (show m < f.length by omega)
      omega

/-- The first two of a level are the two least leaves. -/
theorem first_two {f : List Nat} (hf : Srt f) (hp : ∀ x ∈ f, 0 < x) (h2 : 2 ≤ f.length) (k : Nat) :
    lf f (prs f k) 2 = 2 ∧ (lvl f (k + 1)).getD 0 0 = f.getD 0 0 ∧ (lvl f (k + 1)).getD 1 0 = f.getD 1 0 := by
  have hl := lvl_len' f k
  have hm := many hf hp k 1 (by omega) h2 (by omega)
  have h3 := lf_le f (prs f k) 2
  have e2 : lf f (prs f k) 2 = 2 := by
    have : 2 * 1 = 2 := rfl
    rw [this] at hm; omega
  have e1 : lf f (prs f k) 1 = 1 := by
    have h4 := lf_le f (prs f k) 1
    have h5 : lf f (prs f k) 2 ≤ lf f (prs f k) 1 + 1 := lf_up _ _ 1
    omega
  have hc0 : lf f (prs f k) 0 < f.length ∧ (0 - lf f (prs f k) 0 < (prs f k).length → f.getD (lf f (prs f k) 0) 0 < (prs f k).getD (0 - lf f (prs f k) 0) 0) := by
    rcases Classical.em (lf f (prs f k) 0 < f.length ∧ (0 - lf f (prs f k) 0 < (prs f k).length → f.getD (lf f (prs f k) 0) 0 < (prs f k).getD (0 - lf f (prs f k) 0) 0)) with h | h
    · exact h
    · have := lf_pair h
      have e0 : lf f (prs f k) 0 = 0 := rfl
      rw [e0, show 0 + 1 = 1 from rfl] at this
      omega
  have hc1 : lf f (prs f k) 1 < f.length ∧ (1 - lf f (prs f k) 1 < (prs f k).length → f.getD (lf f (prs f k) 1) 0 < (prs f k).getD (1 - lf f (prs f k) 1) 0) := by
    rcases Classical.em (lf f (prs f k) 1 < f.length ∧ (1 - lf f (prs f k) 1 < (prs f k).length → f.getD (lf f (prs f k) 1) 0 < (prs f k).getD (1 - lf f (prs f k) 1) 0)) with h | h
    · exact h
    · have := lf_pair h
      rw [e1, show 1 + 1 = 2 from rfl] at this
      omega
  have i0 := item hf (prs_srt f k) 0 (by omega)
  have i1 := item hf (prs_srt f k) 1 (by omega)
  rw [if_pos hc0] at i0
  rw [if_pos hc1, e1] at i1
  exact ⟨e2, i0, i1⟩

/-- All leaves are among the first ones that are taken. -/
theorem top_all {f : List Nat} (hf : Srt f) (hp : ∀ x ∈ f, 0 < x) (h2 : 2 ≤ f.length) (k : Nat) (hl : 2 * f.length - 2 ≤ (lvl f (k + 1)).length) : lf f (prs f k) (2 * f.length - 2) = f.length := by
  have h := many hf hp k (f.length - 1) (by omega) (by omega) (by omega)
  rw [show 2 * (f.length - 1) = 2 * f.length - 2 by omega] at h
  have := lf_len f (prs f k) (2 * f.length - 2)
  omega

/-- A level has no fewer leaves than the one below it. -/
theorem lf_step {f : List Nat} (hf : Srt f) (hp : ∀ x ∈ f, 0 < x) (k c : Nat) (hc : c ≤ (lvl f (k + 2)).length) :
    lf f (prs f k) (2 * (c - lf f (prs f (k + 1)) c)) ≤ lf f (prs f (k + 1)) c := by
  have hC := lf_cut hf (prs_srt f (k + 1)) c (by rw [← lvl_len']; exact hc)
  have hpl := hC.hp
  have hb := lf_len f (prs f k) (2 * (c - lf f (prs f (k + 1)) c))
  generalize lf f (prs f (k + 1)) c = a at *
  rcases Nat.lt_or_ge a (lf f (prs f k) (2 * (c - a))) with h | h
  · exfalso
    have hp2 : 2 * (c - a) ≤ (lvl f (k + 1)).length := by rw [prs_len] at hpl; omega
    obtain ⟨t, ht, he⟩ := leaf_in hf k (2 * (c - a)) a hp2 h
    have hq : t / 2 < (prs f (k + 1)).length := by omega
    have h8 := prs_get f (k + 1) (t / 2) hq
    have h10 := hC.l2 a (t / 2) (by omega) hq (Nat.le_refl _) (by omega)
    rw [← getD_of (show a < f.length by omega), ← getD_of hq] at h10
    have h11 := getD_pos f hp (k + 1) (2 * (t / 2)) (by omega)
    have h12 := getD_pos f hp (k + 1) (2 * (t / 2) + 1) (by omega)
    rcases Nat.mod_two_eq_zero_or_one t with h13 | h13
    · rw [show 2 * (t / 2) = t by omega] at h8; rw [show t + 1 = 2 * (t / 2) + 1 by omega] at h8; omega
    · rw [show 2 * (t / 2) + 1 = t by omega] at h8; omega
  · exact h

theorem AA_mono {f : List Nat} (hf : Srt f) (hp : ∀ x ∈ f, 0 < x) : ∀ l c j, c ≤ (lvl f l).length → j + 1 ≤ l → AA f l c j ≤ AA f l c (j + 1)
  | 0, _, _, _, h => by omega
  | 1, c, j, _, h => by
    have : j = 0 := by omega
    subst this; rw [AA_bot]; exact Nat.zero_le _
  | l + 2, c, j, hc, h => by
    have hpl := lf_pairs_len f (prs f (l + 1)) c (by rw [← lvl_len']; exact hc)
    have hp2 : 2 * (c - lf f (prs f (l + 1)) c) ≤ (lvl f (l + 1)).length := by rw [prs_len] at hpl; omega
    by_cases e : j = l + 1
    · subst e
      rw [AA_top, AA_low f (l + 1) c (l + 1) (by omega), AA_top]
      exact lf_step hf hp l c hc
    · rw [AA_low f (l + 1) c j (by omega), AA_low f (l + 1) c (j + 1) (by omega)]
      exact AA_mono hf hp (l + 1) _ j hp2 (by omega)

def sumTo (g : Nat → Nat) : Nat → Nat
  | 0 => 0
  | k + 1 => sumTo g k + g (k + 1)
theorem sumTo_congr {g h : Nat → Nat} : ∀ k, (∀ j, 1 ≤ j → j ≤ k → g j = h j) → sumTo g k = sumTo h k
  | 0, _ => rfl
  | k + 1, H => by simp only [sumTo]; rw [sumTo_congr k fun j h1 h2 => H j h1 (by omega), H (k + 1) (by omega) (by omega)]

theorem take_split {f : List Nat} (hf : Srt f) (k c : Nat) (hc : c ≤ (lvl f (k + 1)).length) :
    ((lvl f (k + 1)).take c).sum = ((lvl f k).take (2 * (c - lf f (prs f k) c))).sum + (f.take (lf f (prs f k) c)).sum := by
  have h2 := lf_le f (prs f k) c
  have hC := lf_cut hf (prs_srt f k) c (by rw [← lvl_len']; exact hc)
  have hp := cut_perm hf (prs_srt f k) hC
  rw [show lf f (prs f k) c + (c - lf f (prs f k) c) = c by omega] at hp
  have hpl := hC.hp
  have e : ((lvl f (k + 1)).take c).sum = ((prs f k).take (c - lf f (prs f k) c) ++ f.take (lf f (prs f k) c)).sum := hp.sum_nat
  rw [e, List.sum_append]
  congr 1
  show ((pairs (lvl f k)).take _).sum = _
  rw [← pairs_take, pairs_sum_even]
  rw [prs_len] at hpl
  rw [List.length_take]
  omega

/-- What the leaves of all levels are worth is what is taken. -/
theorem cost_levels {f : List Nat} (hf : Srt f) : ∀ l c, c ≤ (lvl f l).length → sumTo (fun j => (f.take (AA f l c j)).sum) l = ((lvl f l).take c).sum
  | 0, _, _ => by simp [sumTo, lvl]
  | l + 1, c, hc => by
    have hpl := lf_pairs_len f (prs f l) c (by rw [← lvl_len']; exact hc)
    have hp2 : 2 * (c - lf f (prs f l) c) ≤ (lvl f l).length := by rw [prs_len] at hpl; omega
    have ih := cost_levels hf l _ hp2
    simp only [sumTo]
    rw [take_split hf l c hc, ← ih, AA_top]
    congr 1
    exact sumTo_congr l fun j _ h => by rw [AA_low f l c j (by omega)]

theorem kraft_levels (f : List Nat) : ∀ l c, c ≤ (lvl f l).length → 2 * sumTo (fun j => AA f l c j * 2 ^ (j - 1)) l = c * 2 ^ l
  | 0, c, h => by
    have : c = 0 := by simpa [lvl] using h
    subst this; simp [sumTo]
  | l + 1, c, hc => by
    have hpl := lf_pairs_len f (prs f l) c (by rw [← lvl_len']; exact hc)
    have hp2 : 2 * (c - lf f (prs f l) c) ≤ (lvl f l).length := by rw [prs_len] at hpl; omega
    have ih := kraft_levels f l _ hp2
    have hle := lf_le f (prs f l) c
    simp only [sumTo]
    have e : sumTo (fun j => AA f (l + 1) c j * 2 ^ (j - 1)) l = sumTo (fun j => AA f l (2 * (c - lf f (prs f l) c)) j * 2 ^ (j - 1)) l :=
      sumTo_congr l fun j _ h => by rw [AA_low f l c j (by omega)]
    rw [e, AA_top, Nat.mul_add, ih, Nat.add_sub_cancel, Nat.pow_succ]
    generalize lf f (prs f l) c = a at *
    generalize 2 ^ l = P
    obtain ⟨d, rfl⟩ : ∃ d, c = a + d := ⟨c - a, by omega⟩
    rw [Nat.add_sub_cancel_left, Nat.add_mul, Nat.mul_comm P 2, Nat.mul_assoc 2 d P, Nat.mul_left_comm a 2 P, Nat.mul_left_comm d 2 P]
    omega
end PM

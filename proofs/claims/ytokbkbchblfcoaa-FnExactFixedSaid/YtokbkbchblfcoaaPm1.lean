/- Plain lists: sorted lists told by counting, pairs, the levels of the package-merge algorithm. No program in sight. -/
namespace PM

def Srt (l : List Nat) : Prop := l.Pairwise (· ≤ ·)
def srt (l : List Nat) : List Nat := l.mergeSort (fun a b => decide (a ≤ b))

theorem srt_sorted (l : List Nat) : Srt (srt l) := by
  have h := List.pairwise_mergeSort (le := fun a b : Nat => decide (a ≤ b)) (by intro a b c; simp; omega) (by intro a b; simp; omega) l
  unfold Srt srt
  exact h.imp (by intro a b h; simpa using h)
theorem srt_perm (l : List Nat) : (srt l).Perm l := List.mergeSort_perm _ _
theorem srt_len (l : List Nat) : (srt l).length = l.length := (srt_perm l).length_eq
theorem eq_of_perm {l m : List Nat} (hl : Srt l) (hm : Srt m) (h : l.Perm m) : l = m :=
  List.Perm.eq_of_pairwise (le := (· ≤ ·)) (fun _ _ _ _ h1 h2 => Nat.le_antisymm h1 h2) hl hm h
theorem srt_eq {l m : List Nat} (h : l.Perm m) : srt l = srt m :=
  eq_of_perm (srt_sorted l) (srt_sorted m) ((srt_perm l).trans (h.trans (srt_perm m).symm))
theorem srt_of_sorted {l : List Nat} (h : Srt l) : srt l = l := eq_of_perm (srt_sorted l) h (srt_perm l)

theorem Srt.get_le {l : List Nat} (h : Srt l) {i j : Nat} (hij : i ≤ j) (hj : j < l.length) : l[i]'(by omega) ≤ l[j] := by
  rcases Nat.lt_or_ge i j with h1 | h1
  · exact (List.pairwise_iff_getElem.1 h) i j (by omega) hj h1
  · have : i = j := by omega
    subst this; exact Nat.le_refl _
theorem Srt.take {l : List Nat} (h : Srt l) (k : Nat) : Srt (l.take k) := List.Pairwise.sublist (List.take_sublist k l) h
theorem Srt.drop {l : List Nat} (h : Srt l) (k : Nat) : Srt (l.drop k) := List.Pairwise.sublist (List.drop_sublist k l) h

def cle (x : Nat) (l : List Nat) : Nat := l.countP (fun y => decide (y ≤ x))
theorem cle_append (x : Nat) (l m : List Nat) : cle x (l ++ m) = cle x l + cle x m := List.countP_append
theorem cle_perm {l m : List Nat} (h : l.Perm m) (x : Nat) : cle x l = cle x m := List.Perm.countP_eq _ h
theorem cle_le (x : Nat) (l : List Nat) : cle x l ≤ l.length := List.countP_le_length

theorem lt_cle {l : List Nat} (h : Srt l) (x i : Nat) : i < cle x l ↔ ∃ hi : i < l.length, l[i] ≤ x := by
  induction l generalizing i with
  | nil => simp [cle]
  | cons a r ih =>
    have hr : Srt r := h.of_cons
    have ha : ∀ b ∈ r, a ≤ b := fun _ hb => List.rel_of_pairwise_cons h hb
    by_cases hax : a ≤ x
    · have e : cle x (a :: r) = cle x r + 1 := by simp [cle, hax]
      rw [e]
      cases i with
      | zero => simp [hax]
      | succ i =>
        rw [Nat.succ_lt_succ_iff, ih hr]
        simp
    · have e : cle x (a :: r) = 0 := by
        simp only [cle, List.countP_eq_zero]
        intro b hb
        rcases List.mem_cons.1 hb with rfl | hb
        · simpa using hax
        · have := ha b hb; simp; omega
      rw [e]
      refine ⟨fun h => absurd h (by omega), ?_⟩
      rintro ⟨hi, hle⟩
      cases i with
      | zero => simp at hle; omega
      | succ i =>
        have hi' : i < r.length := by simpa using hi
        have := ha r[i] (List.getElem_mem _)
        simp at hle; omega

/-- 'l' has at least as many elements as 'm', and each is at most the one at the same place. -/
def Dom (l m : List Nat) : Prop := m.length ≤ l.length ∧ ∀ i (hl : i < l.length) (hm : i < m.length), l[i] ≤ m[i]

theorem dom_iff {l m : List Nat} (hl : Srt l) (hm : Srt m) : Dom l m ↔ ∀ x, cle x m ≤ cle x l := by
  constructor
  · rintro ⟨h1, h2⟩ x
    rcases Nat.lt_or_ge (cle x l) (cle x m) with hc | hc
    · obtain ⟨hi, hle⟩ := (lt_cle hm x (cle x l)).1 hc
      have := (lt_cle hl x (cle x l)).2 ⟨by omega, Nat.le_trans (h2 _ (by omega) hi) hle⟩
      omega
    · exact hc
  · intro h
    have key : ∀ i (hm' : i < m.length), ∃ hl' : i < l.length, l[i] ≤ m[i] := by
      intro i hm'
      have h1 := (lt_cle hm m[i] i).2 ⟨hm', Nat.le_refl _⟩
      exact (lt_cle hl m[i] i).1 (Nat.lt_of_lt_of_le h1 (h _))
    refine ⟨?_, fun i _ hi => (key i hi).2⟩
    rcases Nat.lt_or_ge l.length m.length with hlt | hge
    · obtain ⟨h1, _⟩ := key l.length hlt
      omega
    · exact hge

def pairs : List Nat → List Nat
  | a :: b :: r => (a + b) :: pairs r
  | _ => []

theorem pairs_len : ∀ l : List Nat, (pairs l).length = l.length / 2
  | [] => rfl
  | [_] => by simp [pairs]
  | a :: b :: r => by simp [pairs, pairs_len r]; omega

theorem pairs_get : ∀ (l : List Nat) (i : Nat) (h : i < (pairs l).length),
    (pairs l)[i] = l[2 * i]'(by rw [pairs_len] at h; omega) + l[2 * i + 1]'(by rw [pairs_len] at h; omega)
  | [], i, h => by simp [pairs] at h
  | [_], i, h => by simp [pairs] at h
  | a :: b :: r, 0, h => by simp [pairs]
  | a :: b :: r, i + 1, h => by
    have h' : i < (pairs r).length := by simpa [pairs] using h
    have := pairs_get r i h'
    have e1 : 2 * (i + 1) = 2 * i + 1 + 1 := by omega
    simp [pairs, e1, this]

theorem pairs_srt {l : List Nat} (h : Srt l) : Srt (pairs l) := by
  refine List.pairwise_iff_getElem.2 ?_
  intro i j hi hj hij
  rw [pairs_get l i hi, pairs_get l j hj]
  rw [pairs_len] at hi hj
  have h1 := h.get_le (i := 2 * i) (j := 2 * j) (by omega) (by omega)
  have h2 := h.get_le (i := 2 * i + 1) (j := 2 * j + 1) (by omega) (by omega)
  exact Nat.add_le_add h1 h2

theorem pairs_take : ∀ (l : List Nat) (p : Nat), pairs (l.take (2 * p)) = (pairs l).take p
  | l, 0 => by simp [pairs]
  | [], p + 1 => by simp [pairs]
  | [a], p + 1 => by
    have : 2 * (p + 1) = 2 * p + 1 + 1 := by omega
    simp [pairs, this]
  | a :: b :: r, p + 1 => by
    have e : 2 * (p + 1) = 2 * p + 1 + 1 := by omega
    simp [pairs, e, pairs_take r p]

theorem pairs_sum_even : ∀ (l : List Nat), l.length % 2 = 0 → (pairs l).sum = l.sum
  | [], _ => rfl
  | [_], h => by simp at h
  | a :: b :: r, h => by
    have h' : r.length % 2 = 0 := by simp at h; omega
    simp [pairs, pairs_sum_even r h']; omega
theorem pairs_sum_le : ∀ (l : List Nat), (pairs l).sum ≤ l.sum
  | [] => Nat.le_refl _
  | [_] => by simp [pairs]
  | a :: b :: r => by
    have := pairs_sum_le r
    simp [pairs]; omega

theorem pairs_dom {l m : List Nat} (h : Dom l m) : Dom (pairs l) (pairs m) := by
  refine ⟨by rw [pairs_len, pairs_len]; have := h.1; omega, ?_⟩
  intro i h1 h2
  rw [pairs_get l i h1, pairs_get m i h2]
  rw [pairs_len] at h1 h2
  exact Nat.add_le_add (h.2 _ (by omega) (by omega)) (h.2 _ (by omega) (by omega))

/-- The list of a level: the first one is level 1; level 0 has nothing. -/
def lvl (f : List Nat) : Nat → List Nat
  | 0 => []
  | k + 1 => srt (pairs (lvl f k) ++ f)
/-- The pairs that come up to a level. -/
def prs (f : List Nat) (k : Nat) : List Nat := pairs (lvl f k)

theorem lvl_srt (f : List Nat) : ∀ k, Srt (lvl f k)
  | 0 => List.Pairwise.nil
  | _ + 1 => srt_sorted _
theorem prs_srt (f : List Nat) (k : Nat) : Srt (prs f k) := pairs_srt (lvl_srt f k)
theorem lvl_perm (f : List Nat) (k : Nat) : (lvl f (k + 1)).Perm (prs f k ++ f) := srt_perm _
theorem lvl_len (f : List Nat) (k : Nat) : (lvl f (k + 1)).length = (lvl f k).length / 2 + f.length := by
  rw [(lvl_perm f k).length_eq, List.length_append, prs, pairs_len]

theorem lvl_dom (f : List Nat) : ∀ k, Dom (lvl f (k + 1)) (lvl f k)
  | 0 => ⟨Nat.zero_le _, fun i _ h => absurd h (by simp [lvl])⟩
  | k + 1 => by
    rw [dom_iff (lvl_srt _ _) (lvl_srt _ _)]
    intro x
    have ih := pairs_dom (lvl_dom f k)
    rw [dom_iff (pairs_srt (lvl_srt _ _)) (pairs_srt (lvl_srt _ _))] at ih
    rw [cle_perm (lvl_perm f (k + 1)), cle_perm (lvl_perm f k), cle_append, cle_append]
    have := ih x
    simp only [prs]; omega

theorem lvl_dom_le (f : List Nat) {k m : Nat} (h : k ≤ m) : Dom (lvl f m) (lvl f k) := by
  induction m with
  | zero => have : k = 0 := by omega
            subst this; exact ⟨Nat.le_refl _, fun _ _ _ => Nat.le_refl _⟩
  | succ m ih =>
    rcases Nat.lt_or_ge k (m + 1) with h1 | h1
    · have h2 := ih (by omega)
      have h3 := lvl_dom f m
      refine ⟨Nat.le_trans h2.1 h3.1, fun i hl hm => ?_⟩
      have := h2.1
      exact Nat.le_trans (h3.2 i hl (by omega)) (h2.2 i (by omega) hm)
    · have : k = m + 1 := by omega
      subst this; exact ⟨Nat.le_refl _, fun _ _ _ => Nat.le_refl _⟩

/-- There are enough of the last size. -/
theorem lvl_enough (f : List Nat) (K : Nat) (hK : f.length ≤ 2 ^ K) : ∀ j k, k = j + 1 → k ≤ K → 2 * f.length ≤ (lvl f k).length + 2 ^ (K + 1 - k) := by
  intro j
  induction j with
  | zero =>
    rintro k rfl _
    have h0 := lvl_len f 0
    have e0 : (lvl f 0).length = 0 := rfl
    rw [e0] at h0
    have : K + 1 - (0 + 1) = K := by omega
    rw [this, h0]; omega
  | succ j ih =>
    rintro k rfl hk
    have h := ih (j + 1) rfl (by omega)
    rw [lvl_len f (j + 1)]
    have e : K + 1 - (j + 1) = (K + 1 - (j + 1 + 1)) + 1 := by omega
    rw [e, Nat.pow_succ] at h
    generalize 2 ^ (K + 1 - (j + 1 + 1)) = P at *
    omega

theorem lvl_enough' (f : List Nat) (K : Nat) (h1 : 1 ≤ K) (hK : f.length ≤ 2 ^ K) : 2 * f.length - 2 ≤ (lvl f K).length := by
  have h := lvl_enough f K hK (K - 1) K (by omega) (Nat.le_refl _)
  have e : K + 1 - K = 1 := by omega
  rw [e] at h
  omega

/-! ## How many leaves there are among the first ones -/

/-- Of the first 'c' of a level so many are leaves: a leaf is taken if it is less than the next pair. -/
def lf (f Q : List Nat) : Nat → Nat
  | 0 => 0
  | c + 1 => if lf f Q c < f.length ∧ (c - lf f Q c < Q.length → f.getD (lf f Q c) 0 < Q.getD (c - lf f Q c) 0) then lf f Q c + 1 else lf f Q c

theorem lf_le (f Q : List Nat) : ∀ c, lf f Q c ≤ c
  | 0 => Nat.le_refl _
  | c + 1 => by
    have := lf_le f Q c
    simp only [lf]; split <;> omega
theorem lf_len (f Q : List Nat) : ∀ c, lf f Q c ≤ f.length
  | 0 => Nat.zero_le _
  | c + 1 => by
    have := lf_len f Q c
    simp only [lf]; split <;> omega
theorem lf_mono (f Q : List Nat) {c d : Nat} (h : c ≤ d) : lf f Q c ≤ lf f Q d := by
  induction d with
  | zero => have : c = 0 := by omega
            subst this; exact Nat.le_refl _
  | succ d ih =>
    rcases Nat.lt_or_ge c (d + 1) with h1 | h1
    · refine Nat.le_trans (ih (by omega)) ?_
      simp only [lf]; split <;> omega
    · have : c = d + 1 := by omega
      subst this; exact Nat.le_refl _
theorem lf_pairs_len (f Q : List Nat) : ∀ c, c ≤ f.length + Q.length → c - lf f Q c ≤ Q.length
  | 0, _ => Nat.zero_le _
  | c + 1, hc => by
    have h1 := lf_pairs_len f Q c (by omega)
    have h2 := lf_le f Q c
    have h3 := lf_len f Q c
    simp only [lf]; split
    · omega
    · rename_i hn
      rcases Nat.lt_or_ge (lf f Q c) f.length with h4 | h4
      · rcases Nat.lt_or_ge (c - lf f Q c) Q.length with h5 | h5
        · omega
        · exact absurd ⟨h4, fun h => absurd h (by omega)⟩ hn
      · omega

/-- The first 'a' leaves and 'p' pairs stand before all others. -/
structure Cut (f Q : List Nat) (a p : Nat) : Prop where
  ha : a ≤ f.length
  hp : p ≤ Q.length
  l1 : ∀ i j (hi : i < f.length) (hj : j < Q.length), i < a → p ≤ j → f[i] < Q[j]
  l2 : ∀ i j (hi : i < f.length) (hj : j < Q.length), a ≤ i → j < p → Q[j] ≤ f[i]

theorem getD_of {l : List Nat} {i : Nat} (h : i < l.length) : l.getD i 0 = l[i] := by simp [List.getD, h]

theorem lf_cut {f Q : List Nat} (hf : Srt f) (hQ : Srt Q) : ∀ c, c ≤ f.length + Q.length → Cut f Q (lf f Q c) (c - lf f Q c)
  | 0, _ => ⟨Nat.zero_le _, Nat.zero_le _, fun _ _ _ _ h => absurd h (by simp [lf]), fun _ _ _ _ _ h => absurd h (by simp)⟩
  | c + 1, hc => by
    have hC := lf_cut hf hQ c (by omega)
    have hlen := lf_pairs_len f Q (c + 1) hc
    have h2 := lf_le f Q c
    have h3 := lf_len f Q c
    revert hlen
    simp only [lf]
    generalize lf f Q c = a at *
    split
    · rename_i hn
      obtain ⟨h4, h5⟩ := hn
      intro hlen
      have e : c + 1 - (a + 1) = c - a := by omega
      rw [e] at hlen ⊢
      refine ⟨h4, hlen, ?_, ?_⟩
      · intro i j hi hj hia hpj
        rcases Nat.lt_or_ge i a with h6 | h6
        · exact hC.l1 i j hi hj h6 hpj
        · have : i = a := by omega
          subst this
          have h7 := h5 (by omega)
          rw [getD_of hi, getD_of (show c - i < Q.length by omega)] at h7
          exact Nat.lt_of_lt_of_le h7 (hQ.get_le hpj hj)
      · intro i j hi hj hia hpj
        exact hC.l2 i j hi hj (by omega) hpj
    · rename_i hn
      intro hlen
      have e : c + 1 - a = c - a + 1 := by omega
      rw [e] at hlen ⊢
      refine ⟨h3, hlen, ?_, ?_⟩
      · intro i j hi hj hia hpj
        exact hC.l1 i j hi hj hia (by omega)
      · intro i j hi hj hia hpj
        rcases Nat.lt_or_ge j (c - a) with h6 | h6
        · exact hC.l2 i j hi hj hia h6
        · have : j = c - a := by omega
          subst this
          have h8 : a < f.length := by omega
          have h7 : ¬ f.getD a 0 < Q.getD (c - a) 0 := fun h => hn ⟨h8, fun _ => h⟩
          rw [getD_of h8, getD_of hj] at h7
          exact Nat.le_trans (by omega) (hf.get_le hia hi)

theorem perm_take_drop (Q f : List Nat) (a p : Nat) : ((Q.take p ++ f.take a) ++ (Q.drop p ++ f.drop a)).Perm (Q ++ f) := by
  have h1 : Q ++ f = (Q.take p ++ Q.drop p) ++ (f.take a ++ f.drop a) := by simp
  rw [h1, List.append_assoc, List.append_assoc]
  refine List.Perm.append_left _ ?_
  rw [← List.append_assoc, ← List.append_assoc]
  exact List.Perm.append_right _ List.perm_append_comm

/-- The first ones of a level are the leaves and pairs of the cut. -/
theorem cut_take {f Q : List Nat} (hf : Srt f) (hQ : Srt Q) {a p : Nat} (hC : Cut f Q a p) :
    (srt (Q ++ f)).take (a + p) = srt (Q.take p ++ f.take a) := by
  have h1 : srt (Q ++ f) = srt (Q.take p ++ f.take a) ++ srt (Q.drop p ++ f.drop a) := by
    refine eq_of_perm (srt_sorted _) ?_ ?_
    · refine List.pairwise_append.2 ⟨srt_sorted _, srt_sorted _, ?_⟩
      intro x hx y hy
      have hx := (srt_perm _).mem_iff.1 hx
      have hy := (srt_perm _).mem_iff.1 hy
      rw [List.mem_append] at hx hy
      rcases hx with hx | hx <;> rcases hy with hy | hy
      · obtain ⟨i, hi, rfl⟩ := List.mem_iff_getElem.1 hx
        obtain ⟨j, hj, rfl⟩ := List.mem_iff_getElem.1 hy
        rw [List.getElem_take, List.getElem_drop]
        simp at hi hj
        exact hQ.get_le (by omega) (by omega)
      · obtain ⟨i, hi, rfl⟩ := List.mem_iff_getElem.1 hx
        obtain ⟨j, hj, rfl⟩ := List.mem_iff_getElem.1 hy
        rw [List.getElem_take, List.getElem_drop]
        simp at hi hj
        exact hC.l2 _ _ (by omega) (by omega) (by omega) (by omega)
      · obtain ⟨i, hi, rfl⟩ := List.mem_iff_getElem.1 hx
        obtain ⟨j, hj, rfl⟩ := List.mem_iff_getElem.1 hy
        rw [List.getElem_take, List.getElem_drop]
        simp at hi hj
        exact Nat.le_of_lt (hC.l1 _ _ (by omega) (by omega) (by omega) (by omega))
      · obtain ⟨i, hi, rfl⟩ := List.mem_iff_getElem.1 hx
        obtain ⟨j, hj, rfl⟩ := List.mem_iff_getElem.1 hy
        rw [List.getElem_take, List.getElem_drop]
        simp at hi hj
        exact hf.get_le (by omega) (by omega)
    · exact (srt_perm _).trans ((perm_take_drop Q f a p).symm.trans (List.Perm.append (srt_perm _).symm (srt_perm _).symm))
  have hlen : (srt (Q.take p ++ f.take a)).length = a + p := by
    have := hC.ha; have := hC.hp
    rw [srt_len]; simp; omega
  rw [h1, ← hlen, List.take_left]

theorem cut_perm {f Q : List Nat} (hf : Srt f) (hQ : Srt Q) {a p : Nat} (hC : Cut f Q a p) :
    ((srt (Q ++ f)).take (a + p)).Perm (Q.take p ++ f.take a) := by
  rw [cut_take hf hQ hC]; exact srt_perm _

/-- The next one of a level. -/
theorem item {f Q : List Nat} (hf : Srt f) (hQ : Srt Q) (c : Nat) (hc : c < f.length + Q.length) :
    (srt (Q ++ f)).getD c 0 =
      if lf f Q c < f.length ∧ (c - lf f Q c < Q.length → f.getD (lf f Q c) 0 < Q.getD (c - lf f Q c) 0) then f.getD (lf f Q c) 0 else Q.getD (c - lf f Q c) 0 := by
  have h1 := cut_perm hf hQ (lf_cut hf hQ c (by omega))
  have h2 := cut_perm hf hQ (lf_cut hf hQ (c + 1) (by omega))
  have hl := lf_le f Q c
  have hl1 := lf_le f Q (c + 1)
  have hp1 := lf_pairs_len f Q (c + 1) (by omega)
  have e1 : lf f Q c + (c - lf f Q c) = c := by omega
  have e2 : lf f Q (c + 1) + (c + 1 - lf f Q (c + 1)) = c + 1 := by omega
  rw [e1] at h1; rw [e2] at h2
  have hlen : c < (srt (Q ++ f)).length := by rw [srt_len, List.length_append]; omega
  rw [List.take_succ_eq_append_getElem hlen] at h2
  have h3 := (List.Perm.append_right [(srt (Q ++ f))[c]] h1).symm.trans h2
  rw [getD_of hlen]
  revert h3 hp1
  simp only [lf]
  generalize lf f Q c = a at *
  split
  · rename_i hn
    intro hp1 h3
    have e : c + 1 - (a + 1) = c - a := by omega
    rw [e, List.take_succ_eq_append_getElem hn.1, ← List.append_assoc] at h3
    have h4 := (List.perm_append_left_iff _).1 h3
    simp at h4
    rw [h4]; exact (getD_of hn.1).symm
  · intro hp1 h3
    have e : c + 1 - a = c - a + 1 := by omega
    have hq : c - a < Q.length := by omega
    rw [e, List.take_succ_eq_append_getElem hq] at h3
    have h5 : (Q.take (c - a) ++ [Q[c - a]] ++ f.take a).Perm (Q.take (c - a) ++ f.take a ++ [Q[c - a]]) := by
      rw [List.append_assoc, List.append_assoc]
      exact List.Perm.append_left _ List.perm_append_comm
    have h4 := (List.perm_append_left_iff _).1 (h3.trans h5)
    simp at h4
    rw [h4]; exact (getD_of hq).symm
end PM

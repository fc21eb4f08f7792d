/- The lengths of the codes that generate builds, and what they hold: the plain law. -/
import Derived.Test.YtgkpdffgahadpaaBFit
import Derived.Test.YtgkpdffgahadpaaPm5
import Derived.Test.YtgkpdffgahadpaaSKraft
namespace Go.Proofs.Ytgkpdffgahadpaa
open Go.RowKit Go.Shelf Go.Lib

/-- By frequency, then by number. -/
def keyF (f : List Nat) (s : Nat) : Nat := f.getD s 0 * 1024 + s
/-- The symbols with a frequency among the first k. -/
def symsK (f : List Nat) (k : Nat) : List Nat := (List.range k).filter fun s => decide (0 < f.getD s 0)
def ordF (f : List Nat) : List Nat := (symsK f f.length).mergeSort fun a b => decide (keyF f a ≤ keyF f b)

theorem symsK_succ (f : List Nat) (k : Nat) : symsK f (k + 1) = symsK f k ++ if 0 < f.getD k 0 then [k] else [] := by
  unfold symsK
  rw [List.range_succ, List.filter_append]
  by_cases h : 0 < f.getD k 0
  · rw [if_pos h, List.filter_cons, if_pos (by simpa using h)]; rfl
  · rw [if_neg h, List.filter_cons, if_neg (by simpa using h)]; rfl
theorem symsK_mem (f : List Nat) (k s : Nat) : s ∈ symsK f k ↔ s < k ∧ 0 < f.getD s 0 := by
  unfold symsK; rw [List.mem_filter, List.mem_range]; simp
theorem symsK_sorted (f : List Nat) (k : Nat) : (symsK f k).Pairwise (· < ·) := List.Pairwise.sublist List.filter_sublist List.pairwise_lt_range
theorem symsK_nodup (f : List Nat) (k : Nat) : (symsK f k).Nodup := (symsK_sorted f k).imp fun h => by omega
theorem symsK_freq (f : List Nat) : ∀ k, k ≤ f.length → (symsK f k).map (fun s => f.getD s 0) = usedF (f.take k)
  | 0, _ => by simp [symsK, usedF]
  | k + 1, h => by
    rw [symsK_succ, usedF_succ f k (by omega), List.map_append, symsK_freq f k (by omega)]
    split <;> simp
theorem symsK_len (f : List Nat) : (symsK f f.length).length = (used f).length := by
  have h := congrArg List.length (symsK_freq f f.length (Nat.le_refl _))
  rw [List.length_map, List.take_length] at h
  rw [h, used_len]
theorem symsK_lenK (f : List Nat) (k : Nat) (h : k ≤ f.length) : (symsK f k).length = (usedF (f.take k)).length := by
  have h := congrArg List.length (symsK_freq f k h)
  rwa [List.length_map] at h

theorem ordF_perm (f : List Nat) : (ordF f).Perm (symsK f f.length) := List.mergeSort_perm _ _
theorem ordF_sorted (f : List Nat) : (ordF f).Pairwise fun a b => keyF f a ≤ keyF f b := by
  have h := List.pairwise_mergeSort (le := fun a b : Nat => decide (keyF f a ≤ keyF f b)) (by intro a b c; simp; omega) (by intro a b; simp; omega) (symsK f f.length)
  exact h.imp (by intro a b h; simpa using h)
theorem ordF_mem (f : List Nat) (s : Nat) : s ∈ ordF f ↔ s < f.length ∧ 0 < f.getD s 0 := by
  rw [(ordF_perm f).mem_iff, symsK_mem]
theorem ordF_nodup (f : List Nat) : (ordF f).Nodup := (ordF_perm f).nodup_iff.2 (symsK_nodup f _)
theorem ordF_len (f : List Nat) : (ordF f).length = (used f).length := by rw [(ordF_perm f).length_eq, symsK_len]
theorem ordF_eq {f o : List Nat} (hl : f.length ≤ 1000) (hp : o.Perm (symsK f f.length)) (hs : o.Pairwise fun a b => keyF f a ≤ keyF f b) : o = ordF f := by
  refine List.Perm.eq_of_pairwise (le := fun a b => keyF f a ≤ keyF f b) ?_ hs (ordF_sorted f) (hp.trans (ordF_perm f).symm)
  intro a b ha hb h1 h2
  have m1 := (symsK_mem f _ a).1 (hp.mem_iff.1 ha)
  have m2 := (ordF_mem f b).1 hb
  unfold keyF at h1 h2
  omega
theorem ordF_freq (f : List Nat) (hl : f.length ≤ 1000) : (ordF f).map (fun s => f.getD s 0) = used f := by
  refine PM.eq_of_perm ?_ (PM.srt_sorted _) ?_
  · refine List.pairwise_map.2 ?_
    refine List.Pairwise.imp_of_mem ?_ (ordF_sorted f)
    intro a b ha hb h
    have m1 := (ordF_mem f a).1 ha
    have m2 := (ordF_mem f b).1 hb
    unfold keyF at h
    omega
  · refine ((ordF_perm f).map _).trans ?_
    rw [symsK_freq f f.length (Nat.le_refl _), List.take_length]
    exact (PM.srt_perm _).symm
theorem used_pos (f : List Nat) : ∀ x ∈ used f, 0 < x := by
  intro x hx
  have := (PM.srt_perm _).mem_iff.1 hx
  unfold usedF at this
  simpa using (List.mem_filter.1 this).2
theorem used_mem (f : List Nat) : ∀ x ∈ used f, x ∈ f := by
  intro x hx
  have := (PM.srt_perm _).mem_iff.1 hx
  exact (List.mem_filter.1 this).1
theorem used_srt (f : List Nat) : PM.Srt (used f) := PM.srt_sorted _

/-- How many codes have each length. -/
def cntG (f : List Nat) (bits : Nat) : List Nat := PM.bcl (used f) (min bits ((used f).length - 1))
/-- The lengths. -/
def lensG (f : List Nat) (bits : Nat) : List Nat :=
  if (used f).length ≤ 2 then f.map fun x => if 0 < x then 1 else 0 else spr (ordF f) (lsq 0 (cntG f bits)) f.length (ordF f).length
/-- The codes of lengths, as the encoder keeps them. -/
def genH (L : List Nat) : List Nat := csP L (List.replicate L.length 0) 16 0

/-! ## The lengths in rising order -/
theorem lsq_ge : ∀ (l : List Nat) (b x : Nat), x ∈ lsq b l → b ≤ x
  | [], _, _, h => by simp [lsq] at h
  | c :: r, b, x, h => by
    simp only [lsq, List.mem_append, List.mem_replicate] at h
    rcases h with h | h
    · omega
    · have := lsq_ge r (b + 1) x h; omega
theorem lsq_srt : ∀ (l : List Nat) (b : Nat), PM.Srt (lsq b l)
  | [], _ => List.Pairwise.nil
  | c :: r, b => by
    refine List.pairwise_append.2 ⟨?_, lsq_srt r (b + 1), ?_⟩
    · exact List.pairwise_replicate.2 (.inr (Nat.le_refl _))
    · intro x hx y hy
      have h1 := (List.mem_replicate.1 hx).2
      have h2 := lsq_ge r (b + 1) y hy
      omega
theorem lsq_append : ∀ (l : List Nat) (b c : Nat), lsq b (l ++ [c]) = lsq b l ++ List.replicate c (b + l.length)
  | [], b, c => by simp [lsq]
  | a :: r, b, c => by
    rw [List.cons_append, lsq, lsq_append r (b + 1) c, lsq, List.append_assoc]
    simp only [List.length_cons]
    rw [show b + 1 + r.length = b + (r.length + 1) by omega]

/-! ## Shares -/
theorem kraft_append (l m : List Nat) : kraft (l ++ m) = kraft l + kraft m := by simp [kraft]
theorem kraft_rep (c k : Nat) : kraft (List.replicate c k) = c * share k := by simp [kraft]
theorem kraft_lsq (cnt : List Nat) : ∀ k, k ≤ cnt.length → kraft (lsq 0 (cnt.take k)) = PM.shares cnt k
  | 0, _ => by simp [lsq, kraft, PM.shares]
  | k + 1, h => by
    rw [take_succ_getD cnt k (by omega), lsq_append, kraft_append, kraft_lsq cnt k (by omega), kraft_rep, PM.shares, List.length_take, Nat.min_eq_left (by omega), Nat.zero_add]
    unfold share
    split <;> simp
theorem kraft_set (l : List Nat) (j x : Nat) (hj : j < l.length) (h0 : l.getD j 0 = 0) : kraft (l.set j x) = kraft l + share x := by
  induction l generalizing j with
  | nil => simp at hj
  | cons a r ih =>
    cases j with
    | zero =>
      have h0' : a = 0 := by simpa using h0
      subst h0'
      have e : share 0 = 0 := rfl
      simp [kraft, e]; omega
    | succ j =>
      have := ih j (by simpa using hj) (by simpa using h0)
      simp [kraft] at this ⊢
      omega
theorem kraft_zero (n : Nat) : kraft (List.replicate n 0) = 0 := by rw [kraft_rep]; simp [share]
theorem spr_next {ord : List Nat} (hnd : ord.Nodup) (ls : List Nat) (size t : Nat) (h : t < ord.length) : (spr ord ls size t).getD (ord.getD (ord.length - 1 - t) 0) 0 = 0 := by
  refine spr_zero ord ls size t _ ?_
  intro i hi he
  have := nodup_getD hnd (by omega) (by omega) he
  omega
theorem kraft_spr (ord ls : List Nat) (size : Nat) (hnd : ord.Nodup) (hlt : ∀ x ∈ ord, x < size) : ∀ t, t ≤ ord.length → t ≤ ls.length → kraft (spr ord ls size t) = kraft (ls.take t)
  | 0, _, _ => by rw [spr, kraft_zero]; simp [kraft]
  | t + 1, h1, h2 => by
    rw [spr, kraft_set _ _ _ (by rw [spr_len]; exact hlt _ (getD_mem _ _ (by omega))) (spr_next hnd ls size t (by omega)), kraft_spr ord ls size hnd hlt t (by omega) (by omega), kraft_take_succ ls t (by omega)]

/-! ## The bits of frequencies with lengths -/
def dotK (f L : List Nat) : Nat → Nat
  | 0 => 0
  | k + 1 => dotK f L k + f.getD k 0 * L.getD k 0
theorem dotK_set (f L : List Nat) (s x : Nat) (hs : s < L.length) (h0 : L.getD s 0 = 0) : ∀ k, dotK f (L.set s x) k = dotK f L k + if s < k then f.getD s 0 * x else 0
  | 0 => by simp [dotK]
  | k + 1 => by
    have ih := dotK_set f L s x hs h0 k
    by_cases h : s = k
    · subst h
      have e : (L.set s x).getD s 0 = x := by simp [List.getD, hs]
      rw [dotK, ih, e, dotK, h0, if_neg (by omega), if_pos (by omega)]; simp
    · have e : (L.set s x).getD k 0 = L.getD k 0 := by
        simp only [List.getD_eq_getElem?_getD, List.getElem?_set]; rw [if_neg h]
      rw [dotK, ih, e, dotK]
      by_cases h2 : s < k
      · rw [if_pos h2, if_pos (by omega)]; omega
      · rw [if_neg h2, if_neg (by omega)]; omega
theorem dotK_zero (f : List Nat) (n : Nat) : ∀ k, dotK f (List.replicate n 0) k = 0
  | 0 => rfl
  | k + 1 => by
    have e : (List.replicate n 0).getD k 0 = 0 := by
      simp only [List.getD, List.getElem?_replicate]; split <;> rfl
    rw [dotK, dotK_zero f n k, e]; simp
/-- The bits of the last t frequencies with the first t lengths. -/
def costS (u ls : List Nat) : Nat → Nat
  | 0 => 0
  | t + 1 => costS u ls t + u.getD (u.length - 1 - t) 0 * ls.getD t 0
theorem dot_spr (f ord ls : List Nat) (size : Nat) (hnd : ord.Nodup) (hlt : ∀ x ∈ ord, x < size) : ∀ t, t ≤ ord.length → dotK f (spr ord ls size t) size = costS (ord.map fun s => f.getD s 0) ls t
  | 0, _ => by rw [spr, dotK_zero]; rfl
  | t + 1, h => by
    have hm : ord.getD (ord.length - 1 - t) 0 < size := hlt _ (getD_mem _ _ (by omega))
    rw [spr, dotK_set _ _ _ _ (by rw [spr_len]; exact hm) (spr_next hnd ls size t (by omega)), dot_spr f ord ls size hnd hlt t (by omega), if_pos hm, costS, List.length_map]
    congr 2
    have hi : ord.length - 1 - t < ord.length := by omega
    simp [List.getD, hi]
theorem costS_run (u cnt : List Nat) (k : Nat) (hk : k < cnt.length) (hs : (cnt.take (k + 1)).sum ≤ u.length) : ∀ j, j ≤ cnt.getD k 0 →
    costS u (lsq 0 cnt) ((cnt.take k).sum + j) = costS u (lsq 0 cnt) (cnt.take k).sum + k * ((u.take (u.length - (cnt.take k).sum)).sum - (u.take (u.length - ((cnt.take k).sum + j))).sum)
  | 0, _ => by simp
  | j + 1, hj => by
    have ih := costS_run u cnt k hk hs j (by omega)
    have h1 := sum_take_succ cnt k hk
    have hg := lsq_get cnt 0 k j hk (by omega)
    rw [Nat.zero_add] at hg
    have hgd : (lsq 0 cnt).getD ((cnt.take k).sum + j) 0 = k := by simp [List.getD, hg]
    generalize (cnt.take k).sum = a at *
    rw [show a + (j + 1) = (a + j) + 1 by omega, costS, ih, hgd]
    have h2 := sum_take_succ u (u.length - 1 - (a + j)) (by omega)
    rw [show u.length - 1 - (a + j) + 1 = u.length - (a + j) by omega] at h2
    rw [show u.length - (a + j + 1) = u.length - 1 - (a + j) by omega]
    have h3 := PM.take_sum_mono u (show u.length - (a + j) ≤ u.length - a by omega)
    rw [h2]
    rw [h2] at h3
    generalize u.getD (u.length - 1 - (a + j)) 0 = x at *
    generalize (u.take (u.length - 1 - (a + j))).sum = y at *
    generalize (u.take (u.length - a)).sum = z at *
    rw [Nat.add_assoc, Nat.mul_comm x k, ← Nat.mul_add]
    congr 2; omega
theorem costS_worth (u cnt : List Nat) (hs : cnt.sum = u.length) : ∀ k, k ≤ cnt.length → costS u (lsq 0 cnt) (cnt.take k).sum = PM.worth cnt u k
  | 0, _ => rfl
  | k + 1, h => by
    have ih := costS_worth u cnt hs k (by omega)
    have h1 := sum_take_succ cnt k (by omega)
    have h2 := sum_take_le cnt (k + 1)
    have h3 := costS_run u cnt k (by omega) (by omega) (cnt.getD k 0) (Nat.le_refl _)
    rw [← h1, ih] at h3
    rw [h3, PM.worth]
end Go.Proofs.Ytgkpdffgahadpaa

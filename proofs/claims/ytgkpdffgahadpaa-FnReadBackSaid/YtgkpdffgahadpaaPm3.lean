/- Plain numbers: what holds of the levels' table in bitCounts, and how each step keeps it. No program in sight. -/
import Derived.Test.YtgkpdffgahadpaaPm2
namespace PM

/-- The greatest number of 32 bits: 'there is none'. -/
def MX : Int := 2147483647
def aa (f : List Nat) (c : Nat → Nat) (i : Nat) : Nat := lf f (prs f (i - 1)) (c i)
def pp (f : List Nat) (c : Nat → Nat) (i : Nat) : Nat := c i - aa f c i
def upd (g : Nat → Nat → Int) (i k : Nat) (x : Int) : Nat → Nat → Int := fun i' k' => if i' = i ∧ k' = k then x else g i' k'
def inc (c : Nat → Nat) (l : Nat) : Nat → Nat := fun i => if i = l then c l + 1 else c i
theorem upd_same (g : Nat → Nat → Int) (i k : Nat) (x : Int) : upd g i k x i k = x := by simp [upd]
theorem upd_ne (g : Nat → Nat → Int) (i k : Nat) (x : Int) (i' k' : Nat) (h : i' ≠ i ∨ k' ≠ k) : upd g i k x i' k' = g i' k' := by
  unfold upd; rw [if_neg]; rintro ⟨rfl, rfl⟩; rcases h with h | h <;> exact h rfl
theorem inc_same (c : Nat → Nat) (l : Nat) : inc c l l = c l + 1 := by simp [inc]
theorem inc_ne (c : Nat → Nat) (l i : Nat) (h : i ≠ l) : inc c l i = c i := by simp [inc, h]
theorem aa_inc (f : List Nat) (c : Nat → Nat) (l i : Nat) (h : i ≠ l) : aa f (inc c l) i = aa f c i := by unfold aa; rw [inc_ne c l i h]
theorem pp_inc (f : List Nat) (c : Nat → Nat) (l i : Nat) (h : i ≠ l) : pp f (inc c l) i = pp f c i := by unfold pp; rw [aa_inc f c l i h, inc_ne c l i h]

/-- The frequencies: sorted, above 0, and a depth that suffices. -/
structure Freqs (f : List Nat) (L : Nat) : Prop where
  srt : Srt f
  pos : ∀ x ∈ f, 0 < x
  bd : ∀ x ∈ f, x ≤ 65535
  three : 3 ≤ f.length
  few : f.length ≤ 1000
  L1 : 1 ≤ L
  L15 : L ≤ 15
  enough : 2 * f.length - 2 ≤ (lvl f L).length

structure Core (f : List Nat) (L : Nat) (lv : Nat → Nat → Int) (lc : Nat → Nat → Int) (c : Nat → Nat) (ex : Nat) : Prop where
  bd : ∀ i, 1 ≤ i → i ≤ L → 2 ≤ c i ∧ c i ≤ (lvl f i).length
  l0 : ∀ i, 1 ≤ i → i ≤ L → lv i 0 = (i : Int)
  last : ∀ i, 1 ≤ i → i ≤ L → lv i 1 = (((lvl f i).getD (c i - 1) 0 : Nat) : Int)
  nc : ∀ i, 1 ≤ i → i ≤ L → lv i 2 = if aa f c i < f.length then ((f.getD (aa f c i) 0 : Nat) : Int) else MX
  np1 : lv 1 3 = MX
  z04 : lv 0 4 = 0
  nd0 : ∀ i, 1 ≤ i → i ≤ L → 0 ≤ lv i 4
  top : (c L : Int) + lv L 4 = 2 * (f.length : Int) - 2
  link : ∀ i, 1 ≤ i → i < L → (0 < lv i 4 ∨ i = ex) → (c i : Int) + lv i 4 = 2 * ((pp f c (i + 1) : Int) + 1)
  fin : ∀ i, 1 ≤ i → i < L → lv i 4 = 0 → i ≠ ex →
    (c i = 2 * (pp f c (i + 1) + 1) ∧ lv (i + 1) 3 = (((prs f i).getD (pp f c (i + 1)) 0 : Nat) : Int)) ∨ (lv (i + 1) 3 = MX ∧ (prs f i).length ≤ pp f c (i + 1))
  lcI : ∀ i j, 1 ≤ i → i ≤ L → lc i j = (AA f i (c i) j : Nat)

structure Inv (f : List Nat) (L lev : Nat) (lv : Nat → Nat → Int) (lc : Nat → Nat → Int) (c : Nat → Nat) : Prop where
  core : Core f L lv lc c 0
  lev1 : 1 ≤ lev
  levL : lev ≤ L
  need : ∀ i, lev ≤ i → i ≤ L → 0 < lv i 4
  low : lv (lev - 1) 4 = 0

/-- Behind an item. -/
structure Mid (f : List Nat) (L lev : Nat) (lv : Nat → Nat → Int) (lc : Nat → Nat → Int) (c : Nat → Nat) (prev : Int) : Prop where
  core : Core f L lv lc c lev
  lev1 : 1 ≤ lev
  levL : lev ≤ L
  need : ∀ i, lev < i → i ≤ L → 0 < lv i 4
  prev : prev = (((lvl f lev).getD (c lev - 2) 0 : Nat) : Int)

/-- On the way down. -/
structure Down (f : List Nat) (L lev : Nat) (lv : Nat → Nat → Int) (lc : Nat → Nat → Int) (c : Nat → Nat) : Prop where
  core : Core f L lv lc c 0
  lev1 : 1 ≤ lev
  levL : lev ≤ L
  need : ∀ i, lev ≤ i → i ≤ L → 0 < lv i 4

theorem getD_out {l : List Nat} {i : Nat} (h : l.length ≤ i) : l.getD i 0 = 0 := by simp [List.getD, h]
theorem item_bd {f : List Nat} {L : Nat} (hF : Freqs f L) (l t : Nat) (h1 : 1 ≤ l) (hl : l ≤ L) : (lvl f l).getD t 0 ≤ 65535 * 2 ^ (l - 1) := by
  obtain ⟨k, rfl⟩ : ∃ k, l = k + 1 := ⟨l - 1, by omega⟩
  rcases Nat.lt_or_ge t (lvl f (k + 1)).length with h | h
  · rw [getD_of h]; exact lvl_bd f 65535 hF.bd k _ (List.getElem_mem _)
  · rw [getD_out h]; exact Nat.zero_le _
theorem pow_bd (l k : Nat) (h : l ≤ k) : (2 : Nat) ^ l ≤ 2 ^ k := Nat.pow_le_pow_right (by omega) h
theorem item_lt {f : List Nat} {L : Nat} (hF : Freqs f L) (l t : Nat) (h1 : 1 ≤ l) (hl : l ≤ L) : (lvl f l).getD t 0 ≤ 1073725440 := by
  have h := item_bd hF l t h1 hl
  have := hF.L15
  have h2 : (2 : Nat) ^ (l - 1) ≤ 2 ^ 14 := pow_bd _ _ (by omega)
  have h3 : 65535 * 2 ^ (l - 1) ≤ 65535 * 2 ^ 14 := Nat.mul_le_mul_left _ h2
  have h4 : (65535 : Nat) * 2 ^ 14 = 1073725440 := rfl
  omega
theorem pair_lt {f : List Nat} {L : Nat} (hF : Freqs f L) (l p : Nat) (hl : l < L) : (prs f l).getD p 0 ≤ 1073725440 := by
  rcases Nat.lt_or_ge p (prs f l).length with h | h
  · rcases Nat.eq_zero_or_pos l with h0 | h0
    · subst h0; simp [prs_zero] at h
    · have h1 := item_bd hF l (2 * p) h0 (by omega)
      have h2 := item_bd hF l (2 * p + 1) h0 (by omega)
      have := hF.L15
      have h3 : (2 : Nat) ^ (l - 1) ≤ 2 ^ 13 := pow_bd _ _ (by omega)
      have h4 : 65535 * 2 ^ (l - 1) ≤ 65535 * 2 ^ 13 := Nat.mul_le_mul_left _ h3
      have h5 : (65535 : Nat) * 2 ^ 13 = 536862720 := rfl
      rw [prs_get f l p h]; omega
  · rw [getD_out h]; exact Nat.zero_le _
theorem leaf_lt {f : List Nat} {L : Nat} (hF : Freqs f L) (i : Nat) : f.getD i 0 ≤ 65535 := by
  rcases Nat.lt_or_ge i f.length with h | h
  · rw [getD_of h]; exact hF.bd _ (List.getElem_mem _)
  · rw [getD_out h]; exact Nat.zero_le _

/-- What the walk asks of the ranges. -/
theorem Core.rng {f : List Nat} {L ex : Nat} {lv lc : Nat → Nat → Int} {c : Nat → Nat} (hF : Freqs f L) (H : Core f L lv lc c ex) (i : Nat) (h1 : 1 ≤ i) (hL : i ≤ L) :
    lv i 0 = (i : Int) ∧ 0 ≤ lv i 1 ∧ lv i 1 ≤ 1073725440 ∧ 0 ≤ lv i 2 ∧ lv i 2 ≤ MX ∧ 0 ≤ lv i 4 := by
  have e1 := H.last i h1 hL
  have b1 := item_lt hF i (c i - 1) h1 hL
  have e2 := H.nc i h1 hL
  have b2 := leaf_lt hF (aa f c i)
  have hm : MX = 2147483647 := rfl
  refine ⟨H.l0 i h1 hL, by omega, by omega, ?_, ?_, H.nd0 i h1 hL⟩ <;> (rw [e2]; split <;> omega)

/-- Of the pair that comes next: there is one, or there is none. -/
theorem Inv.np {f : List Nat} {L l : Nat} {lv lc : Nat → Nat → Int} {c : Nat → Nat} (hF : Freqs f L) (H : Inv f L l lv lc c) :
    (2 ≤ l ∧ c (l - 1) = 2 * (pp f c l + 1) ∧ pp f c l < (prs f (l - 1)).length ∧ lv l 3 = (((prs f (l - 1)).getD (pp f c l) 0 : Nat) : Int) ∧ lv l 3 ≤ 1073725440 ∧ 0 ≤ lv l 3) ∨
      (lv l 3 = MX ∧ (prs f (l - 1)).length ≤ pp f c l) := by
  have h1 := H.lev1
  have hL := H.levL
  by_cases e : l = 1
  · subst e
    exact .inr ⟨H.core.np1, by rw [show 1 - 1 = 0 from rfl, prs_zero]; exact Nat.zero_le _⟩
  · have h := H.core.fin (l - 1) (by omega) (by omega) H.low (by omega)
    rw [show l - 1 + 1 = l by omega] at h
    rcases h with ⟨h2, h3⟩ | h
    · have h4 := H.core.bd (l - 1) (by omega) (by omega)
      have h5 := pair_lt hF (l - 1) (pp f c l) (by omega)
      refine .inl ⟨by omega, h2, by rw [prs_len]; omega, h3, by omega, by omega⟩
    · exact .inr h

theorem Core.split {f : List Nat} {L ex : Nat} {lv lc : Nat → Nat → Int} {c : Nat → Nat} (H : Core f L lv lc c ex) (i : Nat) (h1 : 1 ≤ i) (hL : i ≤ L) :
    aa f c i + pp f c i = c i ∧ aa f c i ≤ f.length ∧ pp f c i ≤ (prs f (i - 1)).length ∧ (lvl f i).length = f.length + (prs f (i - 1)).length := by
  have h2 := (H.bd i h1 hL).2
  have e := lvl_len' f (i - 1)
  rw [show i - 1 + 1 = i by omega] at e
  have h3 := lf_le f (prs f (i - 1)) (c i)
  have h4 := lf_pairs_len f (prs f (i - 1)) (c i) (by omega)
  have h5 := lf_len f (prs f (i - 1)) (c i)
  unfold pp aa
  exact ⟨by omega, h5, h4, e⟩

/-- Neither a leaf nor a pair is left: the level above goes on alone. -/
theorem Inv.dead {f : List Nat} {L l : Nat} {lv lc : Nat → Nat → Int} {c : Nat → Nat} (hF : Freqs f L) (H : Inv f L l lv lc c) (h2 : lv l 2 = MX) (h3 : lv l 3 = MX) :
    l < L ∧ Inv f L (l + 1) (upd (upd lv l 4 0) (l + 1) 3 MX) lc c := by
  have hl1 := H.lev1
  have hlL := H.levL
  have hm : MX = 2147483647 := rfl
  have hnp := H.np hF
  have hsp := H.core.split l hl1 hlL
  have ha : f.length ≤ aa f c l := by
    have e := H.core.nc l hl1 hlL
    have b := leaf_lt hF (aa f c l)
    rcases Nat.lt_or_ge (aa f c l) f.length with h | h
    · rw [if_pos h] at e; omega
    · exact h
  have hp : (prs f (l - 1)).length ≤ pp f c l := by
    rcases hnp with h | h
    · omega
    · exact h.2
  have hn := H.need l (Nat.le_refl _) hlL
  have hbd := H.core.bd l hl1 hlL
  have hlt : l < L := by
    rcases Nat.lt_or_ge l L with h | h
    · exact h
    · have e : l = L := by omega
      subst e
      have ht := H.core.top
      have he := hF.enough
      have h3 := hF.three
      omega
  refine ⟨hlt, ⟨?_, by omega, by omega, ?_, ?_⟩⟩
  · have K := H.core
    have u : ∀ i k, (i ≠ l ∨ k ≠ 4) → (i ≠ l + 1 ∨ k ≠ 3) → upd (upd lv l 4 0) (l + 1) 3 MX i k = lv i k := fun i k a b => by
      rw [upd_ne _ _ _ _ _ _ b, upd_ne _ _ _ _ _ _ a]
    have u4 : upd (upd lv l 4 0) (l + 1) 3 MX l 4 = 0 := by rw [upd_ne _ _ _ _ _ _ (.inl (by omega)), upd_same]
    refine ⟨K.bd, ?_, ?_, ?_, ?_, ?_, ?_, ?_, ?_, ?_, K.lcI⟩
    · intro i a b; rw [u i 0 (.inr (by omega)) (.inr (by omega))]; exact K.l0 i a b
    · intro i a b; rw [u i 1 (.inr (by omega)) (.inr (by omega))]; exact K.last i a b
    · intro i a b; rw [u i 2 (.inr (by omega)) (.inr (by omega))]; exact K.nc i a b
    · rw [u 1 3 (.inr (by omega)) (.inl (by omega))]; exact K.np1
    · rw [u 0 4 (.inl (by omega)) (.inr (by omega))]; exact K.z04
    · intro i a b
      by_cases e : i = l
      · subst e; rw [u4]; omega
      · rw [u i 4 (.inl e) (.inr (by omega))]; exact K.nd0 i a b
    · rw [u L 4 (.inl (by omega)) (.inr (by omega))]; exact K.top
    · intro i a b h
      by_cases e : i = l
      · subst e; rw [u4] at h; omega
      · rw [u i 4 (.inl e) (.inr (by omega))] at h ⊢; exact K.link i a b h
    · intro i a b h he
      by_cases e : i = l
      · subst e
        refine .inr ⟨upd_same _ _ _ _, ?_⟩
        have := K.link i a b (.inl hn)
        rw [prs_len]; omega
      · rw [u i 4 (.inl e) (.inr (by omega))] at h
        rw [u (i + 1) 3 (.inr (by omega)) (.inl (by omega))]
        exact K.fin i a b h he
  · intro i a b
    rw [upd_ne _ _ _ _ _ _ (.inr (by omega)), upd_ne _ _ _ _ _ _ (.inl (by omega))]
    exact H.need i (by omega) b
  · rw [show l + 1 - 1 = l by omega, upd_ne _ _ _ _ _ _ (.inl (by omega)), upd_same]

/-- The next item is a leaf. -/
theorem Inv.leaf {f : List Nat} {L l : Nat} {lv lc : Nat → Nat → Int} {c : Nat → Nat} (hF : Freqs f L) (H : Inv f L l lv lc c) (h : lv l 2 < lv l 3) :
    lc l l = (aa f c l : Nat) ∧ aa f c l < f.length ∧ c l < (lvl f l).length ∧
      Mid f L l (upd (upd (upd lv l 1 (lv l 2)) l 2 (if aa f c l + 1 < f.length then ((f.getD (aa f c l + 1) 0 : Nat) : Int) else MX)) l 4 (lv l 4 - 1)) (upd lc l l (aa f c l + 1 : Nat)) (inc c l) (lv l 1) := by
  have hl1 := H.lev1
  have hlL := H.levL
  have hm : MX = 2147483647 := rfl
  have hnp := H.np hF
  have K := H.core
  have hsp := K.split l hl1 hlL
  have hnc := K.nc l hl1 hlL
  have hbd := K.bd l hl1 hlL
  have ha : aa f c l < f.length := by
    rcases Nat.lt_or_ge (aa f c l) f.length with h4 | h4
    · exact h4
    · rw [if_neg (by omega)] at hnc
      rcases hnp with h5 | h5 <;> omega
  rw [if_pos ha] at hnc
  obtain ⟨k, rfl⟩ : ∃ k, l = k + 1 := ⟨l - 1, by omega⟩
  rw [show k + 1 - 1 = k by omega] at hnp hsp
  have hcond : lf f (prs f k) (c (k + 1)) < f.length ∧ (c (k + 1) - lf f (prs f k) (c (k + 1)) < (prs f k).length → f.getD (lf f (prs f k) (c (k + 1))) 0 < (prs f k).getD (c (k + 1) - lf f (prs f k) (c (k + 1))) 0) := by
    refine ⟨ha, fun hq => ?_⟩
    rcases hnp with h5 | h5
    · have h6 := h5.2.2.2.1
      show f.getD (aa f c (k + 1)) 0 < (prs f k).getD (pp f c (k + 1)) 0
      omega
    · exact absurd h5.2 (Nat.not_le.2 hq)
  have hlf : lf f (prs f k) (c (k + 1) + 1) = aa f c (k + 1) + 1 := lf_leaf hcond.1 hcond.2
  have hit := item hF.srt (prs_srt f k) (c (k + 1)) (by omega)
  rw [if_pos hcond] at hit
  have hit' : (lvl f (k + 1)).getD (c (k + 1)) 0 = f.getD (aa f c (k + 1)) 0 := hit
  have ea : aa f (inc c (k + 1)) (k + 1) = aa f c (k + 1) + 1 := by
    show lf f (prs f k) (inc c (k + 1) (k + 1)) = _
    rw [inc_same, hlf]
  have ep : pp f (inc c (k + 1)) (k + 1) = pp f c (k + 1) := by unfold pp; rw [ea, inc_same]; omega
  have hlc : lc (k + 1) (k + 1) = (aa f c (k + 1) : Nat) := by rw [K.lcI _ _ hl1 hlL, AA_top]; rfl
  refine ⟨hlc, ha, by omega, ⟨?_, hl1, hlL, ?_, ?_⟩⟩
  · generalize hx : (if aa f c (k + 1) + 1 < f.length then ((f.getD (aa f c (k + 1) + 1) 0 : Nat) : Int) else MX) = x
    have u : ∀ i j, (i ≠ k + 1 ∨ (j ≠ 1 ∧ j ≠ 2 ∧ j ≠ 4)) → upd (upd (upd lv (k + 1) 1 (lv (k + 1) 2)) (k + 1) 2 x) (k + 1) 4 (lv (k + 1) 4 - 1) i j = lv i j := fun i j a => by
      rw [upd_ne _ _ _ _ _ _ (by omega), upd_ne _ _ _ _ _ _ (by omega), upd_ne _ _ _ _ _ _ (by omega)]
    have u1 : upd (upd (upd lv (k + 1) 1 (lv (k + 1) 2)) (k + 1) 2 x) (k + 1) 4 (lv (k + 1) 4 - 1) (k + 1) 1 = lv (k + 1) 2 := by
      rw [upd_ne _ _ _ _ _ _ (by omega), upd_ne _ _ _ _ _ _ (by omega), upd_same]
    have u2 : upd (upd (upd lv (k + 1) 1 (lv (k + 1) 2)) (k + 1) 2 x) (k + 1) 4 (lv (k + 1) 4 - 1) (k + 1) 2 = x := by
      rw [upd_ne _ _ _ _ _ _ (by omega), upd_same]
    have u4 : upd (upd (upd lv (k + 1) 1 (lv (k + 1) 2)) (k + 1) 2 x) (k + 1) 4 (lv (k + 1) 4 - 1) (k + 1) 4 = lv (k + 1) 4 - 1 := upd_same _ _ _ _
    generalize upd (upd (upd lv (k + 1) 1 (lv (k + 1) 2)) (k + 1) 2 x) (k + 1) 4 (lv (k + 1) 4 - 1) = lv' at *
    have hn := H.need (k + 1) (Nat.le_refl _) hlL
    refine ⟨?_, ?_, ?_, ?_, ?_, ?_, ?_, ?_, ?_, ?_, ?_⟩
    · intro i a b
      by_cases e : i = k + 1
      · subst e; rw [inc_same]; omega
      · rw [inc_ne _ _ _ e]; exact K.bd i a b
    · intro i a b; rw [u i 0 (.inr (by omega))]; exact K.l0 i a b
    · intro i a b
      by_cases e : i = k + 1
      · subst e; rw [u1, inc_same, Nat.add_sub_cancel, hit', hnc]
      · rw [inc_ne _ _ _ e, u i 1 (.inl e)]; exact K.last i a b
    · intro i a b
      by_cases e : i = k + 1
      · subst e; rw [u2, ea, ← hx]
      · rw [aa_inc _ _ _ _ e, u i 2 (.inl e)]; exact K.nc i a b
    · rw [u 1 3 (.inr (by omega))]; exact K.np1
    · rw [u 0 4 (.inl (by omega))]; exact K.z04
    · intro i a b
      by_cases e : i = k + 1
      · subst e; rw [u4]; omega
      · rw [u i 4 (.inl e)]; exact K.nd0 i a b
    · have ht := K.top
      by_cases e : L = k + 1
      · subst e; rw [u4, inc_same]; push_cast; omega
      · rw [inc_ne _ _ _ e, u L 4 (.inl e)]; exact ht
    · intro i a b h'
      by_cases e : i = k + 1
      · subst e
        have := K.link _ a b (.inl hn)
        rw [u4, inc_same, pp_inc _ _ _ _ (by omega)]; push_cast; omega
      · rw [u i 4 (.inl e)] at h' ⊢
        rw [inc_ne _ _ _ e]
        have hl := K.link i a b (by omega)
        by_cases e2 : i + 1 = k + 1
        · rw [e2, ep, ← e2]; exact hl
        · rw [pp_inc _ _ _ _ e2]; exact hl
    · intro i a b h' he
      rw [u i 4 (.inl he)] at h'
      rw [inc_ne _ _ _ he, u (i + 1) 3 (.inr (by omega))]
      have hl := K.fin i a b h' (by omega)
      by_cases e2 : i + 1 = k + 1
      · rw [e2, ep, ← e2]; exact hl
      · rw [pp_inc _ _ _ _ e2]; exact hl
    · intro i j a b
      by_cases e : i = k + 1
      · subst e
        rw [inc_same]
        by_cases e2 : j = k + 1
        · subst e2; rw [upd_same, AA_top, hlf]
        · rw [upd_ne _ _ _ _ _ _ (.inr e2), K.lcI _ _ a b, AA_low _ _ _ _ e2, AA_low _ _ _ _ e2, hlf]
          congr 2
          show 2 * (c (k + 1) - aa f c (k + 1)) = _
          omega
      · rw [inc_ne _ _ _ e, upd_ne _ _ _ _ _ _ (.inl e)]; exact K.lcI _ _ a b
  · intro i a b
    rw [upd_ne _ _ _ _ _ _ (.inl (by omega)), upd_ne _ _ _ _ _ _ (.inl (by omega)), upd_ne _ _ _ _ _ _ (.inl (by omega))]
    exact H.need i (by omega) b
  · rw [inc_same, K.last _ hl1 hlL]; congr 2

/-- The row of a level's leaves taken from the level below, but for its own leaves. -/
def rowUp (lc : Nat → Nat → Int) (l : Nat) : Nat → Nat → Int := fun i j => if i = l ∧ j ≠ l then lc (l - 1) j else lc i j

/-- The next item is a pair. -/
theorem Inv.pair {f : List Nat} {L l : Nat} {lv lc : Nat → Nat → Int} {c : Nat → Nat} (hF : Freqs f L) (H : Inv f L l lv lc c) (h : ¬ lv l 2 < lv l 3) (hnd : ¬ (lv l 3 = MX ∧ lv l 2 = MX)) :
    2 ≤ l ∧ c l < (lvl f l).length ∧ 0 ≤ lv l 3 ∧ lv l 3 ≤ 1073725440 ∧
      Mid f L l (upd (upd (upd lv l 1 (lv l 3)) (l - 1) 4 2) l 4 (lv l 4 - 1)) (rowUp lc l) (inc c l) (lv l 1) := by
  have hl1 := H.lev1
  have hlL := H.levL
  have hm : MX = 2147483647 := rfl
  have K := H.core
  have hrg := K.rng hF l hl1 hlL
  have hnp := H.np hF
  rcases hnp with ⟨h2, hc1, hpl, hv, hv1, hv0⟩ | h5
  case inr => omega
  have hsp := K.split l hl1 hlL
  have hnc := K.nc l hl1 hlL
  have hbd := K.bd l hl1 hlL
  have hlow := H.low
  obtain ⟨k, rfl⟩ : ∃ k, l = k + 2 := ⟨l - 2, by omega⟩
  rw [show k + 2 - 1 = k + 1 by omega] at hc1 hpl hv hsp hlow
  have hcond : ¬ (lf f (prs f (k + 1)) (c (k + 2)) < f.length ∧ (c (k + 2) - lf f (prs f (k + 1)) (c (k + 2)) < (prs f (k + 1)).length → f.getD (lf f (prs f (k + 1)) (c (k + 2))) 0 < (prs f (k + 1)).getD (c (k + 2) - lf f (prs f (k + 1)) (c (k + 2))) 0)) := by
    rintro ⟨ha, hq⟩
    have hq' : f.getD (aa f c (k + 2)) 0 < (prs f (k + 1)).getD (pp f c (k + 2)) 0 := hq hpl
    have ha' : aa f c (k + 2) < f.length := ha
    rw [if_pos ha'] at hnc
    omega
  have hlf : lf f (prs f (k + 1)) (c (k + 2) + 1) = aa f c (k + 2) := lf_pair hcond
  have hit := item hF.srt (prs_srt f (k + 1)) (c (k + 2)) (by omega)
  rw [if_neg hcond] at hit
  have hit' : (lvl f (k + 2)).getD (c (k + 2)) 0 = (prs f (k + 1)).getD (pp f c (k + 2)) 0 := hit
  have ea : aa f (inc c (k + 2)) (k + 2) = aa f c (k + 2) := by
    show lf f (prs f (k + 1)) (inc c (k + 2) (k + 2)) = _
    rw [inc_same, hlf]
  have ep : pp f (inc c (k + 2)) (k + 2) = pp f c (k + 2) + 1 := by unfold pp; rw [ea, inc_same]; unfold pp at hsp; omega
  refine ⟨h2, by omega, hv0, hv1, ⟨?_, hl1, hlL, ?_, ?_⟩⟩
  · rw [show k + 2 - 1 = k + 1 by omega]
    have u : ∀ i j, (i ≠ k + 2 ∨ (j ≠ 1 ∧ j ≠ 4)) → (i ≠ k + 1 ∨ j ≠ 4) → upd (upd (upd lv (k + 2) 1 (lv (k + 2) 3)) (k + 1) 4 2) (k + 2) 4 (lv (k + 2) 4 - 1) i j = lv i j := fun i j a b => by
      rw [upd_ne _ _ _ _ _ _ (by omega), upd_ne _ _ _ _ _ _ (by omega), upd_ne _ _ _ _ _ _ (by omega)]
    have u1 : upd (upd (upd lv (k + 2) 1 (lv (k + 2) 3)) (k + 1) 4 2) (k + 2) 4 (lv (k + 2) 4 - 1) (k + 2) 1 = lv (k + 2) 3 := by
      rw [upd_ne _ _ _ _ _ _ (by omega), upd_ne _ _ _ _ _ _ (by omega), upd_same]
    have u2 : upd (upd (upd lv (k + 2) 1 (lv (k + 2) 3)) (k + 1) 4 2) (k + 2) 4 (lv (k + 2) 4 - 1) (k + 1) 4 = 2 := by
      rw [upd_ne _ _ _ _ _ _ (by omega), upd_same]
    have u4 : upd (upd (upd lv (k + 2) 1 (lv (k + 2) 3)) (k + 1) 4 2) (k + 2) 4 (lv (k + 2) 4 - 1) (k + 2) 4 = lv (k + 2) 4 - 1 := upd_same _ _ _ _
    generalize upd (upd (upd lv (k + 2) 1 (lv (k + 2) 3)) (k + 1) 4 2) (k + 2) 4 (lv (k + 2) 4 - 1) = lv' at *
    have hn := H.need (k + 2) (Nat.le_refl _) hlL
    refine ⟨?_, ?_, ?_, ?_, ?_, ?_, ?_, ?_, ?_, ?_, ?_⟩
    · intro i a b
      by_cases e : i = k + 2
      · subst e; rw [inc_same]; omega
      · rw [inc_ne _ _ _ e]; exact K.bd i a b
    · intro i a b; rw [u i 0 (.inr (by omega)) (.inr (by omega))]; exact K.l0 i a b
    · intro i a b
      by_cases e : i = k + 2
      · subst e; rw [u1, inc_same, Nat.add_sub_cancel, hit', hv]
      · rw [inc_ne _ _ _ e, u i 1 (.inl e) (.inr (by omega))]; exact K.last i a b
    · intro i a b
      rw [u i 2 (.inr (by omega)) (.inr (by omega))]
      by_cases e : i = k + 2
      · subst e; rw [ea]; exact K.nc _ a b
      · rw [aa_inc _ _ _ _ e]; exact K.nc i a b
    · rw [u 1 3 (.inr (by omega)) (.inr (by omega))]; exact K.np1
    · rw [u 0 4 (.inl (by omega)) (.inl (by omega))]; exact K.z04
    · intro i a b
      by_cases e : i = k + 2
      · subst e; rw [u4]; omega
      · by_cases e2 : i = k + 1
        · subst e2; rw [u2]; omega
        · rw [u i 4 (.inl e) (.inl e2)]; exact K.nd0 i a b
    · have ht := K.top
      by_cases e : L = k + 2
      · subst e; rw [u4, inc_same]; push_cast; omega
      · rw [inc_ne _ _ _ e, u L 4 (.inl e) (.inl (by omega))]; exact ht
    · intro i a b h'
      by_cases e : i = k + 2
      · subst e
        have := K.link _ a b (.inl hn)
        rw [u4, inc_same, pp_inc _ _ _ _ (by omega)]; push_cast; omega
      · by_cases e2 : i = k + 1
        · subst e2
          rw [u2, inc_ne _ _ _ (by omega), ep, hc1]; push_cast; omega
        · rw [u i 4 (.inl e) (.inl e2)] at h' ⊢
          rw [inc_ne _ _ _ e, pp_inc _ _ _ _ (by omega)]
          exact K.link i a b (by omega)
    · intro i a b h' he
      by_cases e2 : i = k + 1
      · subst e2; rw [u2] at h'; omega
      · rw [u i 4 (.inl he) (.inl e2)] at h'
        rw [inc_ne _ _ _ he, u (i + 1) 3 (.inr (by omega)) (.inr (by omega)), pp_inc _ _ _ _ (by omega)]
        exact K.fin i a b h' (by omega)
    · intro i j a b
      by_cases e : i = k + 2
      · subst e
        rw [inc_same]
        by_cases e2 : j = k + 2
        · subst e2
          rw [AA_top, hlf]
          simp only [rowUp]
          rw [if_neg (by simp), K.lcI _ _ a b, AA_top]; rfl
        · rw [AA_low _ _ _ _ e2, hlf]
          simp only [rowUp]
          rw [if_pos ⟨trivial, e2⟩, show k + 2 - 1 = k + 1 by omega, K.lcI _ _ (by omega) (by omega), hc1]
          congr 2
          unfold pp; unfold pp at hsp; omega
      · simp only [rowUp]
        rw [inc_ne _ _ _ e, if_neg (by simp [e])]
        exact K.lcI _ _ a b
  · intro i a b
    rw [upd_ne _ _ _ _ _ _ (.inl (by omega)), upd_ne _ _ _ _ _ _ (.inl (by omega)), upd_ne _ _ _ _ _ _ (.inl (by omega))]
    exact H.need i (by omega) b
  · rw [inc_same, K.last _ hl1 hlL]; congr 2

/-- A level is done: the one above goes on. -/
theorem Mid.up {f : List Nat} {L l : Nat} {lv lc : Nat → Nat → Int} {c : Nat → Nat} {prev : Int} (H : Mid f L l lv lc c prev) (hl : l < L) (h0 : lv l 4 = 0) :
    Inv f L (l + 1) (upd lv (l + 1) 3 (prev + lv l 1)) lc c := by
  have K := H.core
  have hl1 := H.lev1
  refine ⟨?_, by omega, by omega, ?_, ?_⟩
  · have u : ∀ i j, (i ≠ l + 1 ∨ j ≠ 3) → upd lv (l + 1) 3 (prev + lv l 1) i j = lv i j := fun i j a => upd_ne _ _ _ _ _ _ a
    have u3 := upd_same lv (l + 1) 3 (prev + lv l 1)
    have hk := K.link l hl1 hl (.inr rfl)
    have hbd := K.bd l hl1 (by omega)
    refine ⟨K.bd, ?_, ?_, ?_, ?_, ?_, ?_, ?_, ?_, ?_, K.lcI⟩
    · intro i a b; rw [u i 0 (.inr (by omega))]; exact K.l0 i a b
    · intro i a b; rw [u i 1 (.inr (by omega))]; exact K.last i a b
    · intro i a b; rw [u i 2 (.inr (by omega))]; exact K.nc i a b
    · rw [u 1 3 (.inl (by omega))]; exact K.np1
    · rw [u 0 4 (.inr (by omega))]; exact K.z04
    · intro i a b; rw [u i 4 (.inr (by omega))]; exact K.nd0 i a b
    · rw [u L 4 (.inr (by omega))]; exact K.top
    · intro i a b h
      rw [u i 4 (.inr (by omega))] at h ⊢
      exact K.link i a b (by omega)
    · intro i a b h he
      rw [u i 4 (.inr (by omega))] at h
      by_cases e : i = l
      · subst e
        have hc : c i = 2 * (pp f c (i + 1) + 1) := by omega
        refine .inl ⟨hc, ?_⟩
        rw [u3, H.prev, K.last i a (by omega), prs_get f i _ (by rw [prs_len]; omega), hc]
        rw [show 2 * (pp f c (i + 1) + 1) - 2 = 2 * pp f c (i + 1) by omega, show 2 * (pp f c (i + 1) + 1) - 1 = 2 * pp f c (i + 1) + 1 by omega]
        push_cast; rfl
      · rw [u (i + 1) 3 (.inl (by omega))]
        exact K.fin i a b h e
  · intro i a b; rw [upd_ne _ _ _ _ _ _ (.inr (by omega))]; exact H.need i (by omega) b
  · rw [show l + 1 - 1 = l by omega, upd_ne _ _ _ _ _ _ (.inr (by omega))]; exact h0

theorem Mid.down {f : List Nat} {L l : Nat} {lv lc : Nat → Nat → Int} {c : Nat → Nat} {prev : Int} (H : Mid f L l lv lc c prev) (h0 : 0 < lv l 4) : Down f L l lv lc c := by
  have K := H.core
  refine ⟨⟨K.bd, K.l0, K.last, K.nc, K.np1, K.z04, K.nd0, K.top, ?_, ?_, K.lcI⟩, H.lev1, H.levL, ?_⟩
  · intro i a b h
    exact K.link i a b (.inl (by omega))
  · intro i a b h he
    exact K.fin i a b h (by rintro rfl; omega)
  · intro i a b
    by_cases e : i = l
    · subst e; exact h0
    · exact H.need i (by omega) b
theorem Down.next {f : List Nat} {L l : Nat} {lv lc : Nat → Nat → Int} {c : Nat → Nat} (H : Down f L l lv lc c) (h : 0 < lv (l - 1) 4) : 2 ≤ l ∧ Down f L (l - 1) lv lc c := by
  have h1 := H.lev1
  have h2 := H.levL
  have hl : 2 ≤ l := by
    rcases Nat.lt_or_ge l 2 with h3 | h3
    · have e : l = 1 := by omega
      subst e
      have := H.core.z04
      rw [show 1 - 1 = 0 from rfl] at h; omega
    · exact h3
  refine ⟨hl, H.core, by omega, by omega, ?_⟩
  intro i a b
  by_cases e : i = l - 1
  · subst e; exact h
  · exact H.need i (by omega) b
theorem Down.stop {f : List Nat} {L l : Nat} {lv lc : Nat → Nat → Int} {c : Nat → Nat} (H : Down f L l lv lc c) (h : ¬ 0 < lv (l - 1) 4) : Inv f L l lv lc c := by
  have h1 := H.lev1
  have h2 := H.levL
  refine ⟨H.core, h1, h2, H.need, ?_⟩
  by_cases e : l = 1
  · subst e; exact H.core.z04
  · have := H.core.nd0 (l - 1) (by omega) (by omega)
    omega

/-- What is left to be made. -/
def rem (f : List Nat) (c : Nat → Nat) : Nat → Nat
  | 0 => 0
  | k + 1 => rem f c k + ((lvl f (k + 1)).length - c (k + 1))
theorem rem_above (f : List Nat) (c : Nat → Nat) (l : Nat) : ∀ k, k < l → rem f (inc c l) k = rem f c k
  | 0, _ => rfl
  | k + 1, h => by simp only [rem]; rw [rem_above f c l k (by omega), inc_ne _ _ _ (by omega)]
theorem rem_inc (f : List Nat) (c : Nat → Nat) (l : Nat) (h1 : 1 ≤ l) (hc : c l < (lvl f l).length) : ∀ k, l ≤ k → rem f (inc c l) k + 1 = rem f c k
  | 0, h => by omega
  | k + 1, h => by
    simp only [rem]
    by_cases e : l = k + 1
    · subst e
      rw [rem_above f c (k + 1) k (by omega), inc_same]; omega
    · rw [inc_ne _ _ _ (by omega)]
      have := rem_inc f c l h1 hc k (by omega)
      omega

/-- The end: all leaves are taken. -/
theorem Mid.done {f : List Nat} {L : Nat} {lv lc : Nat → Nat → Int} {c : Nat → Nat} {prev : Int} (hF : Freqs f L) (H : Mid f L L lv lc c prev) (h0 : lv L 4 = 0) :
    c L = 2 * f.length - 2 ∧ lc L L = (f.length : Int) ∧ ∀ j, lc L j = (AA f L (2 * f.length - 2) j : Nat) := by
  have h1 := hF.L1
  have h3 := hF.three
  have ht := H.core.top
  have hc : c L = 2 * f.length - 2 := by omega
  have hl : ∀ j, lc L j = (AA f L (2 * f.length - 2) j : Nat) := fun j => by rw [H.core.lcI L j h1 (Nat.le_refl _), hc]
  refine ⟨hc, ?_, hl⟩
  have he := hF.enough
  obtain ⟨k, rfl⟩ : ∃ k, L = k + 1 := ⟨L - 1, by omega⟩
  rw [hl, AA_top, top_all hF.srt hF.pos (by omega) k he]
theorem lvl_len_le (f : List Nat) : ∀ k, (lvl f k).length ≤ 2 * f.length
  | 0 => Nat.zero_le _
  | k + 1 => by
    have := lvl_len_le f k
    rw [lvl_len]; omega
theorem Inv.nd_le {f : List Nat} {L l : Nat} {lv lc : Nat → Nat → Int} {c : Nat → Nat} (hF : Freqs f L) (H : Inv f L l lv lc c) : 0 < lv l 4 ∧ lv l 4 ≤ 2 * (f.length : Int) + 2 := by
  have h1 := H.lev1
  have hL := H.levL
  have hn := H.need l (Nat.le_refl _) hL
  refine ⟨hn, ?_⟩
  by_cases e : l = L
  · subst e
    have := H.core.top
    omega
  · have hk := H.core.link l h1 (by omega) (.inl hn)
    have hs := (H.core.split (l + 1) (by omega) (by omega)).2.2.1
    rw [show l + 1 - 1 = l by omega, prs_len] at hs
    have := lvl_len_le f l
    omega

/-- The levels' table when the first k - 1 levels are begun. -/
def lvS (f : List Nat) (k i j : Nat) : Int :=
  if 1 ≤ i ∧ i < k then (if j = 0 then (i : Int) else if j = 1 then ((f.getD 1 0 : Nat) : Int) else if j = 2 then ((f.getD 2 0 : Nat) : Int) else if j = 3 then (if i = 1 then MX else ((f.getD 0 0 : Nat) : Int) + ((f.getD 1 0 : Nat) : Int)) else 0) else 0
def lcS (k i j : Nat) : Int := if 1 ≤ i ∧ i < k ∧ i = j then 2 else 0
theorem lvS_one (f : List Nat) (i j : Nat) : lvS f 1 i j = 0 := by unfold lvS; rw [if_neg (by omega)]
theorem lcS_one (i j : Nat) : lcS 1 i j = 0 := by unfold lcS; rw [if_neg (by omega)]
theorem lcS_step (k : Nat) (h1 : 1 ≤ k) (i j : Nat) : upd (lcS k) k k 2 i j = lcS (k + 1) i j := by
  unfold upd lcS
  by_cases h : i = k ∧ j = k
  · rw [if_pos h, if_pos (by omega)]
  · rw [if_neg h]
    by_cases h2 : 1 ≤ i ∧ i < k ∧ i = j
    · rw [if_pos h2, if_pos (by omega)]
    · rw [if_neg h2, if_neg (by omega)]
theorem lvS_step (f : List Nat) (k : Nat) (h1 : 1 ≤ k) (i j : Nat) (hj : j < 5) :
    upd (upd (upd (upd (upd (lvS f k) k 0 k) k 1 (f.getD 1 0 : Nat)) k 2 (f.getD 2 0 : Nat)) k 3 ((f.getD 0 0 : Nat) + (f.getD 1 0 : Nat) : Int)) k 4 0 i j = if k = 1 ∧ i = 1 ∧ j = 3 then ((f.getD 0 0 : Nat) : Int) + ((f.getD 1 0 : Nat) : Int) else lvS f (k + 1) i j := by
  by_cases h : i = k
  · subst h
    have e : lvS f (i + 1) i j = (if j = 0 then (i : Int) else if j = 1 then ((f.getD 1 0 : Nat) : Int) else if j = 2 then ((f.getD 2 0 : Nat) : Int) else if j = 3 then (if i = 1 then MX else ((f.getD 0 0 : Nat) : Int) + ((f.getD 1 0 : Nat) : Int)) else 0) := by
      rw [lvS, if_pos (by omega)]
    rw [e]
    unfold upd
    match j, hj with
    | 0, _ => simp
    | 1, _ => simp
    | 2, _ => simp
    | 3, _ => by_cases hi : i = 1 <;> simp [hi]
    | 4, _ => simp
  · rw [upd_ne _ _ _ _ _ _ (.inl h), upd_ne _ _ _ _ _ _ (.inl h), upd_ne _ _ _ _ _ _ (.inl h), upd_ne _ _ _ _ _ _ (.inl h), upd_ne _ _ _ _ _ _ (.inl h), if_neg (by omega)]
    unfold lvS
    by_cases h2 : 1 ≤ i ∧ i < k
    · have h3 : 1 ≤ i ∧ i < k + 1 := by omega
      simp only [if_pos h2, if_pos h3]
    · have h3 : ¬ (1 ≤ i ∧ i < k + 1) := by omega
      simp only [if_neg h2, if_neg h3]
theorem AA_two {f : List Nat} {L : Nat} (hF : Freqs f L) (l j : Nat) (h1 : 1 ≤ l) : AA f l 2 j = if l = j then 2 else 0 := by
  obtain ⟨k, rfl⟩ : ∃ k, l = k + 1 := ⟨l - 1, by omega⟩
  have h3 := hF.three
  have h2 := (first_two hF.srt hF.pos (by omega) k).1
  by_cases e : j = k + 1
  · subst e; rw [AA_top, h2, if_pos rfl]
  · rw [AA_low f k 2 j e, h2, if_neg (by omega)]; exact AA_zero f k j

/-- The start. -/
theorem inv_start {f : List Nat} {L : Nat} (hF : Freqs f L) : Inv f L L (upd (lvS f (L + 1)) L 4 (2 * (f.length : Int) - 4)) (lcS (L + 1)) (fun _ => 2) := by
  have h3 := hF.three
  have hL1 := hF.L1
  have hft := fun k => first_two hF.srt hF.pos (show 2 ≤ f.length by omega) k
  have ha : ∀ i, 1 ≤ i → aa f (fun _ => 2) i = 2 := fun i h => (hft (i - 1)).1
  have hp : ∀ i, 1 ≤ i → pp f (fun _ => 2) i = 0 := fun i h => by unfold pp; rw [ha i h]; rfl
  have e : ∀ i j, 1 ≤ i → i ≤ L → j ≠ 4 → upd (lvS f (L + 1)) L 4 (2 * (f.length : Int) - 4) i j = (if j = 0 then (i : Int) else if j = 1 then ((f.getD 1 0 : Nat) : Int) else if j = 2 then ((f.getD 2 0 : Nat) : Int) else if j = 3 then (if i = 1 then MX else ((f.getD 0 0 : Nat) : Int) + ((f.getD 1 0 : Nat) : Int)) else 0) := by
    intro i j a b c
    rw [upd_ne _ _ _ _ _ _ (.inr c), lvS, if_pos (by omega)]
  have e4 : ∀ i, i ≠ L → upd (lvS f (L + 1)) L 4 (2 * (f.length : Int) - 4) i 4 = 0 := by
    intro i a
    rw [upd_ne _ _ _ _ _ _ (.inl a), lvS]
    split <;> rfl
  have eL : upd (lvS f (L + 1)) L 4 (2 * (f.length : Int) - 4) L 4 = 2 * (f.length : Int) - 4 := upd_same _ _ _ _
  generalize upd (lvS f (L + 1)) L 4 (2 * (f.length : Int) - 4) = lv at *
  have hlen : ∀ i, 1 ≤ i → 2 ≤ (lvl f i).length := by
    intro i h
    have := lvl_len' f (i - 1)
    rw [show i - 1 + 1 = i by omega] at this; omega
  refine ⟨⟨?_, ?_, ?_, ?_, ?_, ?_, ?_, ?_, ?_, ?_, ?_⟩, hL1, Nat.le_refl _, ?_, ?_⟩
  · intro i a b; exact ⟨Nat.le_refl _, hlen i a⟩
  · intro i a b; rw [e i 0 a b (by omega), if_pos rfl]
  · intro i a b
    rw [e i 1 a b (by omega), if_neg (by omega), if_pos rfl]
    have := (hft (i - 1)).2.2
    rw [show i - 1 + 1 = i by omega] at this
    rw [show 2 - 1 = 1 from rfl, this]
  · intro i a b
    rw [e i 2 a b (by omega), if_neg (by omega), if_neg (by omega), if_pos rfl, ha i a, if_pos (by omega)]
  · rw [e 1 3 (by omega) hL1 (by omega)]; simp
  · rw [e4 0 (by omega)]
  · intro i a b
    by_cases h : i = L
    · subst h; rw [eL]; omega
    · rw [e4 i h]; omega
  · rw [eL]; push_cast; omega
  · intro i a b h
    rw [e4 i (by omega)] at h; omega
  · intro i a b h he
    refine .inl ⟨by rw [hp (i + 1) (by omega)], ?_⟩
    rw [hp (i + 1) (by omega), e (i + 1) 3 (by omega) (by omega) (by omega), if_neg (by omega), if_neg (by omega), if_neg (by omega), if_pos rfl, if_neg (by omega)]
    have h4 := hlen i a
    rw [prs_get f i 0 (by rw [prs_len]; omega)]
    have h5 := hft (i - 1)
    rw [show i - 1 + 1 = i by omega] at h5
    rw [show 2 * 0 + 1 = 1 from rfl, h5.2.2]
    have : (lvl f i).getD (2 * 0) 0 = f.getD 0 0 := h5.2.1
    rw [this]; push_cast; rfl
  · intro i j a b
    rw [AA_two hF i j a, lcS]
    by_cases h : i = j
    · rw [if_pos ⟨a, by omega, h⟩, if_pos h]; rfl
    · rw [if_neg (by omega), if_neg h]; rfl
  · intro i a b
    have : i = L := by omega
    subst this; rw [eL]; omega
  · rw [e4 (L - 1) (by omega)]
end PM

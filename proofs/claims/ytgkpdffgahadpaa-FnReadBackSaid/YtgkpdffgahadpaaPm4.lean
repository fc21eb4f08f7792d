/- Plain lists: the counts that bitCounts leaves. No program in sight. -/
import Derived.Test.YtgkpdffgahadpaaPm3
namespace PM

/-- The counts of the lengths: element b tells how many have b bits. -/
def bcl (f : List Nat) (L : Nat) : List Nat := 0 :: (List.range L).map fun b => AA f L (2 * f.length - 2) (L - b) - AA f L (2 * f.length - 2) (L - b - 1)
theorem bcl_len (f : List Nat) (L : Nat) : (bcl f L).length = L + 1 := by simp [bcl]
theorem bcl_zero (f : List Nat) (L : Nat) : (bcl f L).getD 0 0 = 0 := rfl
theorem bcl_succ (f : List Nat) (L b : Nat) (h : b < L) : (bcl f L).getD (b + 1) 0 = AA f L (2 * f.length - 2) (L - b) - AA f L (2 * f.length - 2) (L - b - 1) := by
  simp [bcl, List.getD, h]
theorem bcl_cast {f : List Nat} {L : Nat} (hF : Freqs f L) (b : Nat) (h1 : 1 ≤ b) (h2 : b ≤ L) :
    ((AA f L (2 * f.length - 2) (L - b + 1) : Nat) - (AA f L (2 * f.length - 2) (L - b) : Nat) : Int) = (((bcl f L).getD b 0 : Nat) : Int) := by
  obtain ⟨c, rfl⟩ : ∃ c, b = c + 1 := ⟨b - 1, by omega⟩
  rw [bcl_succ f L c (by omega)]
  have hm := AA_mono hF.srt hF.pos L (2 * f.length - 2) (L - c - 1) hF.enough (by omega)
  rw [show L - c - 1 + 1 = L - c by omega] at hm
  rw [show L - (c + 1) + 1 = L - c by omega, show L - (c + 1) = L - c - 1 by omega]
  omega

/-- The first k of the counts are the leaves beyond those of the level below. -/
theorem bcl_sum {f : List Nat} {L : Nat} (hF : Freqs f L) : ∀ k, k ≤ L → ((bcl f L).take (k + 1)).sum + AA f L (2 * f.length - 2) (L - k) = f.length
  | 0, _ => by
    have hL1 := hF.L1
    obtain ⟨j, rfl⟩ : ∃ j, L = j + 1 := ⟨L - 1, by omega⟩
    have h3 := hF.three
    have := top_all hF.srt hF.pos (by omega) j hF.enough
    rw [Nat.sub_zero, AA_top, this]
    simp [bcl]
  | k + 1, h => by
    have ih := bcl_sum hF k (by omega)
    have hl : k + 1 < (bcl f L).length := by rw [bcl_len]; omega
    have hm := AA_mono hF.srt hF.pos L (2 * f.length - 2) (L - k - 1) hF.enough (by omega)
    rw [show L - k - 1 + 1 = L - k by omega] at hm
    rw [List.take_succ_eq_append_getElem hl, List.sum_append, ← getD_of hl, bcl_succ f L k (by omega)]
    rw [show L - (k + 1) = L - k - 1 by omega]
    simp only [List.sum_cons, List.sum_nil]
    omega
theorem bcl_total {f : List Nat} {L : Nat} (hF : Freqs f L) : (bcl f L).sum = f.length := by
  have h := bcl_sum hF L (Nat.le_refl _)
  rw [Nat.sub_self, AA_bot, List.take_of_length_le (by rw [bcl_len]; exact Nat.le_refl _)] at h
  exact h
theorem bcl_le {f : List Nat} {L : Nat} (b : Nat) : (bcl f L).getD b 0 ≤ f.length := by
  rcases Nat.eq_zero_or_pos b with h | h
  · subst h; rw [bcl_zero]; exact Nat.zero_le _
  · obtain ⟨c, rfl⟩ : ∃ c, b = c + 1 := ⟨b - 1, by omega⟩
    rcases Nat.lt_or_ge c L with h2 | h2
    · rw [bcl_succ f L c h2]
      have := AA_len f L (2 * f.length - 2) (L - c)
      omega
    · rw [getD_out (by rw [bcl_len]; omega)]; exact Nat.zero_le _

/-- The shares: with the first k lengths. -/
def shares (l : List Nat) : Nat → Nat
  | 0 => 0
  | k + 1 => shares l k + if 0 < k then l.getD k 0 * 2 ^ (15 - k) else 0
theorem sumTo_mul (g : Nat → Nat) (c : Nat) : ∀ k, sumTo g k * c = sumTo (fun j => g j * c) k
  | 0 => by simp [sumTo]
  | k + 1 => by simp only [sumTo]; rw [Nat.add_mul, sumTo_mul g c k]
theorem shares_bcl {f : List Nat} {L : Nat} (hF : Freqs f L) : ∀ k, k ≤ L →
    shares (bcl f L) (k + 1) + AA f L (2 * f.length - 2) (L - k) * 2 ^ (15 - k) + sumTo (fun j => AA f L (2 * f.length - 2) j * 2 ^ (j - 1)) L * 2 ^ (15 - L) =
      f.length * 2 ^ 15 + sumTo (fun j => AA f L (2 * f.length - 2) j * 2 ^ (j - 1)) (L - k) * 2 ^ (15 - L)
  | 0, _ => by
    have h := bcl_sum hF 0 (Nat.zero_le _)
    simp [bcl] at h
    rw [Nat.sub_zero, Nat.sub_zero, h]
    simp [shares]
  | k + 1, h => by
    have ih := shares_bcl hF k (by omega)
    have hm := AA_mono hF.srt hF.pos L (2 * f.length - 2) (L - k - 1) hF.enough (by omega)
    rw [show L - k - 1 + 1 = L - k by omega] at hm
    have hL := hF.L15
    rw [shares, if_pos (by omega), bcl_succ f L k (by omega), show L - (k + 1) = L - k - 1 by omega]
    rw [show L - k = (L - k - 1) + 1 by omega, sumTo] at ih
    rw [show L - k - 1 + 1 = L - k by omega] at ih
    have e1 : 2 ^ (15 - k) = 2 * 2 ^ (15 - (k + 1)) := by rw [show 15 - k = (15 - (k + 1)) + 1 by omega, Nat.pow_succ, Nat.mul_comm]
    have e2 : 2 ^ (L - k - 1) * 2 ^ (15 - L) = 2 ^ (15 - (k + 1)) := by rw [← Nat.pow_add]; congr 1; omega
    rw [e1, Nat.add_mul, Nat.mul_assoc (AA f L (2 * f.length - 2) (L - k)) (2 ^ (L - k - 1)), e2] at ih
    generalize AA f L (2 * f.length - 2) (L - k) = x at *
    generalize AA f L (2 * f.length - 2) (L - k - 1) = y at *
    generalize 2 ^ (15 - (k + 1)) = p at *
    obtain ⟨d, rfl⟩ : ∃ d, x = y + d := ⟨x - y, by omega⟩
    rw [Nat.add_sub_cancel_left]
    have e3 : (y + d) * (2 * p) = 2 * (y * p) + 2 * (d * p) := by rw [Nat.mul_left_comm, Nat.add_mul, Nat.mul_add]
    have e4 : ∀ s q : Nat, (s + (y + d) * p) = s + y * p + d * p := fun s _ => by rw [Nat.add_mul, Nat.add_assoc]
    have e5 : ∀ s z : Nat, (s + (y + d) * p) * z = s * z + (y + d) * p * z := fun s z => Nat.add_mul _ _ _
    simp only [Nat.add_mul] at ih e3
    omega
/-- The codes leave no room. -/
theorem kraft_bcl {f : List Nat} {L : Nat} (hF : Freqs f L) : shares (bcl f L) (L + 1) = 32768 := by
  have h := shares_bcl hF L (Nat.le_refl _)
  have hk := kraft_levels f L (2 * f.length - 2) hF.enough
  have h3 := hF.three
  have hL := hF.L15
  rw [Nat.sub_self, AA_bot, Nat.zero_mul, Nat.add_zero] at h
  simp only [sumTo, Nat.zero_mul, Nat.add_zero] at h
  have e : sumTo (fun j => AA f L (2 * f.length - 2) j * 2 ^ (j - 1)) L = (f.length - 1) * 2 ^ L := by
    have e2 : 2 * f.length - 2 = 2 * (f.length - 1) := by omega
    rw [e2] at hk ⊢
    rw [Nat.mul_assoc] at hk
    omega
  rw [e, Nat.mul_assoc, ← Nat.pow_add, show L + (15 - L) = 15 by omega] at h
  have e3 : (2 : Nat) ^ 15 = 32768 := rfl
  rw [e3] at h
  omega
theorem shares_out (l : List Nat) (k : Nat) : shares l (l.length + k) = shares l l.length := by
  induction k with
  | zero => rfl
  | succ k ih =>
    rw [← Nat.add_assoc, shares, ih, getD_out (by omega)]; simp

/-- The worth: b bits for each of those of b bits, the last of the frequencies first. -/
def worth (cnt f : List Nat) : Nat → Nat
  | 0 => 0
  | k + 1 => worth cnt f k + k * ((f.take (f.length - (cnt.take k).sum)).sum - (f.take (f.length - (cnt.take (k + 1)).sum)).sum)
theorem take_sum_mono (f : List Nat) {a b : Nat} (h : a ≤ b) : (f.take a).sum ≤ (f.take b).sum := by
  have e : f.take a = (f.take b).take a := by rw [List.take_take, Nat.min_eq_left h]
  rw [e]
  conv => rhs; rw [← List.take_append_drop a (f.take b), List.sum_append]
  omega
theorem worth_bcl {f : List Nat} {L : Nat} (hF : Freqs f L) : ∀ k, k ≤ L →
    worth (bcl f L) f (k + 1) + k * (f.take (AA f L (2 * f.length - 2) (L - k))).sum + sumTo (fun j => (f.take (AA f L (2 * f.length - 2) j)).sum) (L - k) = sumTo (fun j => (f.take (AA f L (2 * f.length - 2) j)).sum) L
  | 0, _ => by simp [worth]
  | k + 1, h => by
    have ih := worth_bcl hF k (by omega)
    have s1 := bcl_sum hF k (by omega)
    have s2 := bcl_sum hF (k + 1) h
    have hm := AA_mono hF.srt hF.pos L (2 * f.length - 2) (L - k - 1) hF.enough (by omega)
    rw [show L - k - 1 + 1 = L - k by omega] at hm
    rw [worth, show f.length - ((bcl f L).take (k + 1)).sum = AA f L (2 * f.length - 2) (L - k) by omega, show f.length - ((bcl f L).take (k + 1 + 1)).sum = AA f L (2 * f.length - 2) (L - (k + 1)) by omega]
    rw [show L - (k + 1) = L - k - 1 by omega]
    rw [show L - k = (L - k - 1) + 1 by omega, sumTo] at ih
    rw [show L - k - 1 + 1 = L - k by omega] at ih
    have hs := take_sum_mono f hm
    generalize (f.take (AA f L (2 * f.length - 2) (L - k))).sum = x at *
    generalize (f.take (AA f L (2 * f.length - 2) (L - k - 1))).sum = y at *
    obtain ⟨d, rfl⟩ : ∃ d, x = y + d := ⟨x - y, by omega⟩
    rw [Nat.add_sub_cancel_left]
    rw [Nat.mul_add] at ih
    have e1 : (k + 1) * d = k * d + d := by rw [Nat.add_mul, Nat.one_mul]
    have e2 : (k + 1) * y = k * y + y := by rw [Nat.add_mul, Nat.one_mul]
    rw [e1, e2]
    omega
/-- The codes are worth as much as the coins. -/
theorem worth_least {f : List Nat} {L : Nat} (hF : Freqs f L) : worth (bcl f L) f (L + 1) = ((lvl f L).take (2 * f.length - 2)).sum := by
  have h := worth_bcl hF L (Nat.le_refl _)
  rw [Nat.sub_self, AA_bot] at h
  simp only [sumTo, List.take_zero, List.sum_nil, Nat.mul_zero, Nat.add_zero] at h
  rw [h, cost_levels hF.srt L _ hF.enough]

/-! ## More levels than symbols change nothing -/
theorem lvl_big (f : List Nat) : ∀ k m, m + 1 ≤ f.length → m ≤ k → 2 * m ≤ (lvl f k).length
  | 0, m, _, h => by omega
  | k + 1, m, h1, h2 => by
    have ih := lvl_big f k (m - 1) (by omega) (by omega)
    rw [lvl_len]; omega
theorem take_getD {l r : List Nat} {m i : Nat} (h : l.take m = r.take m) (hi : i < m) : l.getD i 0 = r.getD i 0 := by
  have h1 : (l.take m)[i]? = (r.take m)[i]? := by rw [h]
  rw [List.getElem?_take, List.getElem?_take, if_pos hi, if_pos hi] at h1
  rw [List.getD_eq_getElem?_getD, List.getD_eq_getElem?_getD, h1]
theorem cut_le {f Q R : List Nat} {a p a' p' m : Nat} (hC : Cut f Q a p) (hC' : Cut f R a' p') (hs : a + p = a' + p') (hp' : p' ≤ m) (h : Q.take m = R.take m) (hq : m ≤ Q.length) : p' ≤ p := by
  rcases Nat.lt_or_ge p p' with hlt | hge
  · exfalso
    have ha := hC.ha
    have hpr := hC'.hp
    have h1 := hC.l1 (a - 1) (p' - 1) (by omega) (by omega) (by omega) (by omega)
    have h2 := hC'.l2 (a - 1) (p' - 1) (by omega) (by omega) (by omega) (by omega)
    have h3 := take_getD h (show p' - 1 < m by omega)
    rw [getD_of (show p' - 1 < Q.length by omega), getD_of (show p' - 1 < R.length by omega)] at h3
    omega
  · exact hge
/-- The first 2m of two levels from m on are the same. -/
theorem lvl_same {f : List Nat} (hf : Srt f) (hp : ∀ x ∈ f, 0 < x) : ∀ m k k', m + 1 ≤ f.length → m ≤ k → m ≤ k' → (lvl f k).take (2 * m) = (lvl f k').take (2 * m)
  | 0, _, _, _, _, _ => by simp
  | m + 1, k, k', hm, h1, h2 => by
    obtain ⟨j, rfl⟩ : ∃ j, k = j + 1 := ⟨k - 1, by omega⟩
    obtain ⟨j', rfl⟩ : ∃ j', k' = j' + 1 := ⟨k' - 1, by omega⟩
    have ih := lvl_same hf hp m j j' (by omega) (by omega) (by omega)
    have hpp : (prs f j).take m = (prs f j').take m := by
      show (pairs (lvl f j)).take m = (pairs (lvl f j')).take m
      rw [← pairs_take, ← pairs_take, ih]
    have b1 := lvl_big f (j + 1) (m + 1) hm h1
    have b2 := lvl_big f (j' + 1) (m + 1) hm h2
    have q1 : m ≤ (prs f j).length := by have := lvl_big f j m (by omega) (by omega); rw [prs_len]; omega
    have q2 : m ≤ (prs f j').length := by have := lvl_big f j' m (by omega) (by omega); rw [prs_len]; omega
    have m1 := many hf hp j (m + 1) (by omega) hm b1
    have m2 := many hf hp j' (m + 1) (by omega) hm b2
    have l1 := lf_le f (prs f j) (2 * (m + 1))
    have l2 := lf_le f (prs f j') (2 * (m + 1))
    have c1 := lf_cut hf (prs_srt f j) (2 * (m + 1)) (by rw [← lvl_len']; exact b1)
    have c2 := lf_cut hf (prs_srt f j') (2 * (m + 1)) (by rw [← lvl_len']; exact b2)
    have t1 := cut_take hf (prs_srt f j) c1
    have t2 := cut_take hf (prs_srt f j') c2
    generalize lf f (prs f j) (2 * (m + 1)) = a at *
    generalize lf f (prs f j') (2 * (m + 1)) = a' at *
    have e1 := cut_le c1 c2 (by omega) (by omega) hpp q1
    have e2 := cut_le c2 c1 (by omega) (by omega) hpp.symm q2
    have ea : a = a' := by omega
    subst ea
    rw [show a + (2 * (m + 1) - a) = 2 * (m + 1) by omega] at t1 t2
    show (srt (prs f j ++ f)).take (2 * (m + 1)) = (srt (prs f j' ++ f)).take (2 * (m + 1))
    rw [t1, t2]
    have ep : (prs f j).take (2 * (m + 1) - a) = (prs f j').take (2 * (m + 1) - a) := by
      have e3 : ∀ l : List Nat, l.take (2 * (m + 1) - a) = (l.take m).take (2 * (m + 1) - a) := fun l => by rw [List.take_take, Nat.min_eq_left (by omega)]
      rw [e3, e3 (prs f j'), hpp]
    rw [ep]

theorem freqs_of {f : List Nat} {bits : Nat} (hs : Srt f) (hp : ∀ x ∈ f, 0 < x) (hb : ∀ x ∈ f, x ≤ 65535) (h3 : 3 ≤ f.length) (hl : f.length ≤ 1000) (h1 : 1 ≤ bits) (h15 : bits ≤ 15) (hK : f.length ≤ 2 ^ bits) : Freqs f (min bits (f.length - 1)) := by
  refine ⟨hs, hp, hb, h3, hl, by omega, by omega, ?_⟩
  rcases Nat.le_total bits (f.length - 1) with h | h
  · rw [Nat.min_eq_left h]
    exact lvl_enough' f bits h1 hK
  · rw [Nat.min_eq_right h]
    have := lvl_big f (f.length - 1) (f.length - 1) (by omega) (Nat.le_refl _)
    omega
theorem least_same {f : List Nat} {bits : Nat} (hs : Srt f) (hp : ∀ x ∈ f, 0 < x) (h3 : 3 ≤ f.length) : (lvl f bits).take (2 * f.length - 2) = (lvl f (min bits (f.length - 1))).take (2 * f.length - 2) := by
  rcases Nat.le_total bits (f.length - 1) with h | h
  · rw [Nat.min_eq_left h]
  · rw [Nat.min_eq_right h]
    have := lvl_same hs hp (f.length - 1) bits (f.length - 1) (by omega) h (Nat.le_refl _)
    rw [show 2 * (f.length - 1) = 2 * f.length - 2 by omega] at this
    exact this
end PM

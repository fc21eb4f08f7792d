/- Lengths spread by counts over an order fit: the plain law. -/
import Derived.Test.YtgkpdffgahadpaaBGen
import Derived.Test.YtgkpdffgahadpaaPLen
namespace Go.Proofs.Ytgkpdffgahadpaa
open Go.RowKit Go.Shelf Go.Lib

/-- The room that the first k counts take. -/
def room (l : List Nat) : Nat → Nat
  | 0 => 0
  | k + 1 => room l k + if 0 < k then l.getD k 0 * 2 ^ (15 - k) else 0
theorem room_mono (l : List Nat) {j k : Nat} (h : j ≤ k) : room l j ≤ room l k := by
  induction k with
  | zero => have : j = 0 := by omega
            subst this; exact Nat.le_refl _
  | succ k ih =>
    rcases Nat.lt_or_ge j (k + 1) with h1 | h1
    · refine Nat.le_trans (ih (by omega)) ?_
      simp only [room]; split <;> omega
    · have : j = k + 1 := by omega
      subst this; exact Nat.le_refl _
theorem room_out (l : List Nat) (k : Nat) : room l (l.length + k) = room l l.length := by
  induction k with
  | zero => rfl
  | succ k ih =>
    rw [← Nat.add_assoc, room, ih]
    have : l.getD (l.length + k) 0 = 0 := by simp [List.getD]
    rw [this]; simp
theorem codeEnd_room (L cnt : List Nat) (hc : ∀ k, 1 ≤ k → L.count k = cnt.getD k 0) : ∀ n, n ≤ 15 → codeEnd L n * 2 ^ (15 - n) = room cnt (n + 1)
  | 0, _ => by simp [codeEnd, room]
  | n + 1, h => by
    have ih := codeEnd_room L cnt hc n (by omega)
    rw [room, ← ih, if_pos (by omega), codeEnd, hc (n + 1) (by omega), Nat.add_mul, Nat.mul_comm 2, Nat.mul_assoc, show 15 - n = (15 - (n + 1)) + 1 by omega, Nat.pow_succ, Nat.mul_comm 2]
theorem lsq_lt : ∀ (l : List Nat) (b x : Nat), x ∈ lsq b l → x < b + l.length
  | [], _, _, h => by simp [lsq] at h
  | c :: r, b, x, h => by
    simp only [lsq, List.mem_append, List.mem_replicate] at h
    rcases h with h | h
    · simp only [List.length_cons]; omega
    · have := lsq_lt r (b + 1) x h
      simp only [List.length_cons]; omega
theorem spr_mem (ord ls : List Nat) (size : Nat) : ∀ t x, x ∈ spr ord ls size t → x = 0 ∨ ∃ i, i < t ∧ x = ls.getD i 0
  | 0, x, h => by simp [spr] at h; exact .inl h.2
  | t + 1, x, h => by
    rcases List.mem_or_eq_of_mem_set h with h | h
    · rcases spr_mem ord ls size t x h with h | ⟨i, hi, he⟩
      · exact .inl h
      · exact .inr ⟨i, by omega, he⟩
    · exact .inr ⟨t, by omega, h⟩
theorem fits_of (cnt ord : List Nat) (d : List Lit) (size : Nat) (hd : d.map (fun x => x.1.val) = ord) (hcl : cnt.length ≤ 16) (h0 : cnt.getD 0 0 = 0) (hsum : cnt.sum = ord.length) (hnd : ord.Nodup) (hlt : ∀ x ∈ ord, x < size)
    (hroom : room cnt cnt.length ≤ 32768) : Fits cnt d (spr ord (lsq 0 cnt) size ord.length) := by
  have hdl : d.length = ord.length := by rw [← hd, List.length_map]
  have hll : (lsq 0 cnt).length = ord.length := by rw [lsq_len, hsum]
  have hcount : ∀ k, 1 ≤ k → (spr ord (lsq 0 cnt) size ord.length).count k = cnt.getD k 0 := by
    intro k hk
    rw [spr_count ord (lsq 0 cnt) size hnd hlt k (by omega) ord.length (Nat.le_refl _) (by omega), List.take_of_length_le (by omega)]
    have := lsq_count cnt 0 k
    rwa [Nat.zero_add] at this
  refine ⟨hcl, h0, by rw [hsum, hdl], ?_, fun n h1 _ => hcount n h1, by rw [hd]; exact hnd, ?_, ?_⟩
  · intro n hn p x hx h1 h2
    have hp : p < d.length := (List.getElem?_eq_some_iff.1 hx).1
    have ho : ord.getD p 0 = x.1.val := by
      rw [← hd, List.getD_eq_getElem?_getD, List.getElem?_map, hx]; rfl
    have hs := spr_at ord (lsq 0 cnt) size hnd hlt ord.length (Nat.le_refl _) (ord.length - 1 - p) (by omega)
    rw [show ord.length - 1 - (ord.length - 1 - p) = p by omega, ho] at hs
    rw [hs]
    have h3 := sum_take_succ cnt n hn
    have hg := lsq_get cnt 0 n (ord.length - 1 - p - (cnt.take n).sum) hn (by omega)
    rw [show (cnt.take n).sum + (ord.length - 1 - p - (cnt.take n).sum) = ord.length - 1 - p by omega] at hg
    rw [List.getD_eq_getElem?_getD, hg]
    simp
  · intro x hx
    rw [spr_len]
    exact hlt _ (by rw [← hd]; exact List.mem_map.2 ⟨x, hx, rfl⟩)
  · intro n hn
    have h1 := codeEnd_room _ cnt hcount n hn
    have h2 : room cnt (n + 1) ≤ 32768 := by
      refine Nat.le_trans (room_mono cnt (show n + 1 ≤ cnt.length + 16 by omega)) ?_
      rw [room_out]; exact hroom
    have h3 : codeEnd (spr ord (lsq 0 cnt) size ord.length) n * 2 ^ (15 - n) ≤ 2 ^ n * 2 ^ (15 - n) := by
      rw [h1, ← Nat.pow_add, show n + (15 - n) = 15 by omega]; exact h2
    exact Nat.le_of_mul_le_mul_right h3 (Nat.two_pow_pos _)
theorem nodup_len : ∀ (n : Nat) (l : List Nat), l.Nodup → (∀ x ∈ l, x < n) → l.length ≤ n
  | 0, l, _, h => by
    cases l with
    | nil => exact Nat.le_refl _
    | cons a r => exact absurd (h a (by simp)) (by omega)
  | n + 1, l, hn, h => by
    by_cases hm : n ∈ l
    · have h1 := nodup_len n (l.erase n) (hn.erase n) (fun x hx => by
        have h2 := (List.Nodup.mem_erase_iff hn).1 hx
        have h3 := h x h2.2
        have h4 := h2.1
        omega)
      rw [List.length_erase_of_mem hm] at h1
      omega
    · have h1 := nodup_len n l hn (fun x hx => by
        have h3 := h x hx
        have h4 : x ≠ n := fun e => hm (e ▸ hx)
        omega)
      omega
theorem spr_lt (cnt ord : List Nat) (size : Nat) (hsum : cnt.sum = ord.length) : ∀ x ∈ spr ord (lsq 0 cnt) size ord.length, 0 < x → x < cnt.length := by
  intro x hx h0
  rcases spr_mem ord (lsq 0 cnt) size ord.length x hx with h | ⟨i, hi, he⟩
  · omega
  · have hl : i < (lsq 0 cnt).length := by rw [lsq_len, hsum]; exact hi
    have := lsq_lt cnt 0 x (by rw [he]; exact getD_mem _ _ hl)
    omega
/-- What the codes that are assigned hold. -/
theorem csP_full (L : List Nat) (size n : Nat) (hL : L.length = size) (hn : ∀ x ∈ L, 0 < x → x < n) (h16 : n ≤ 16) :
    lensOf (csP L (List.replicate size 0) n 0) = L ∧ ∀ i, i < size → 0 < L.getD i 0 → (bitsOf (csP L (List.replicate size 0) n 0)).getD i 0 = PT.turn (canonAt L i) (L.getD i 0) := by
  have hget : ∀ i, i < size → (csP L (List.replicate size 0) n 0).getD i 0 = if 0 < L.getD i 0 then hval L i else 0 := by
    intro i hi
    have hm := hn _ (getD_mem L i (by omega))
    simp only [csP, List.length_replicate, List.getD_eq_getElem?_getD, List.getElem?_map, List.getElem?_range hi, Option.map_some, Option.getD_some] at hm ⊢
    by_cases h : 0 < (L[i]?).getD 0
    · rw [if_pos ⟨h, .inl (hm h)⟩, if_pos h]
    · rw [if_neg (by omega), if_neg h]
      simp [hi]
  have hlen : (csP L (List.replicate size 0) n 0).length = size := by rw [csP_len, List.length_replicate]
  refine ⟨?_, ?_⟩
  · apply List.ext_getElem
    · simp [lensOf, hlen, hL]
    · intro i h1 h2
      have hi : i < size := by simpa [lensOf, hlen] using h1
      have hg := hget i hi
      have hm := hn _ (getD_mem L i (by omega))
      have e1 : (csP L (List.replicate size 0) n 0).getD i 0 = (csP L (List.replicate size 0) n 0)[i]'(by omega) := by simp [List.getD, show i < (csP L (List.replicate size 0) n 0).length by omega]
      have e2 : L.getD i 0 = L[i] := by simp [List.getD, h2]
      simp only [lensOf, List.getElem_map]
      rw [← e1, hg, ← e2]
      by_cases h : 0 < L.getD i 0
      · have := hm h; rw [if_pos h]; unfold hval; omega
      · rw [if_neg h]; omega
  · intro i hi h
    have hg := hget i hi
    rw [if_pos h] at hg
    have hm := hn _ (getD_mem L i (by omega))
    have e : (bitsOf (csP L (List.replicate size 0) n 0)).getD i 0 = (csP L (List.replicate size 0) n 0).getD i 0 / 256 := by
      simp only [bitsOf, List.getD_eq_getElem?_getD, List.getElem?_map]
      cases (csP L (List.replicate size 0) n 0)[i]? <;> simp
    have := hm h
    rw [e, hg]; unfold hval; omega
end Go.Proofs.Ytgkpdffgahadpaa

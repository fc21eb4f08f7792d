/- What the lengths of the codes that generate builds are good for: the plain law. -/
import Derived.Test.YtgkpdffgahadpaaBLen
namespace Go.Proofs.Ytgkpdffgahadpaa
open Go.RowKit Go.Shelf Go.Lib

/-- The frequencies and the number of bits that are allowed. -/
structure WellF (f : List Nat) (bits : Nat) : Prop where
  pos : 0 < f.length
  most : f.length ≤ 286
  b1 : 1 ≤ bits
  b15 : bits ≤ 15
  h16 : ∀ x ∈ f, x < 65536
  room : (used f).length ≤ 2 ^ bits

theorem WellF.freqs {f : List Nat} {bits : Nat} (h : WellF f bits) (h3 : 3 ≤ (used f).length) : PM.Freqs (used f) (min bits ((used f).length - 1)) :=
  PM.freqs_of (used_srt f) (used_pos f) (fun x hx => by have := h.h16 x (used_mem f x hx); omega) h3 (by have h1 := usedF_le f; have h2 := used_len f; have := h.most; omega) h.b1 h.b15 h.room
theorem WellF.more {f : List Nat} {bits : Nat} (h : WellF f bits) (h1 : bits < 15) : WellF f (bits + 1) :=
  ⟨h.pos, h.most, by omega, by omega, h.h16, Nat.le_trans h.room (Nat.pow_le_pow_right (by omega) (by omega))⟩
theorem used_le (f : List Nat) : (used f).length ≤ f.length := by rw [used_len]; exact usedF_le f

/-- What is said of the lengths. -/
structure Good (f L : List Nat) (bits : Nat) : Prop where
  len : L.length = f.length
  pos : ∀ i, i < f.length → (0 < L.getD i 0 ↔ 0 < f.getD i 0)
  le : ∀ x ∈ L, x ≤ bits
  kraft : 2 ≤ (used f).length → kraft L = 32768
  order : ∀ i k, i < f.length → k < f.length → f.getD k 0 < f.getD i 0 → 0 < f.getD k 0 → L.getD i 0 ≤ L.getD k 0
  cost : dotK f L f.length = PM.least (used f) bits
  few : (used f).length ≤ 2 → ∀ i, i < f.length → 0 < f.getD i 0 → L.getD i 0 = 1

theorem map_getD0 (f : List Nat) (g : Nat → Nat) (i : Nat) (h : i < f.length) : (f.map g).getD i 0 = g (f.getD i 0) := by
  simp [List.getD, h]
theorem few_kraft : ∀ f : List Nat, kraft (f.map fun x => if 0 < x then 1 else 0) = (usedF f).length * 16384
  | [] => by simp [kraft, usedF]
  | a :: r => by
    have ih := few_kraft r
    unfold kraft usedF at *
    rw [List.map_cons, List.map_cons, List.sum_cons, ih, List.filter_cons]
    have s1 : share 1 = 16384 := rfl
    have s0 : share 0 = 0 := rfl
    by_cases h : 0 < a
    · simp [h, s1]; omega
    · simp [h, s0]
theorem usedF_sum : ∀ f : List Nat, (usedF f).sum = f.sum
  | [] => rfl
  | a :: r => by
    have ih := usedF_sum r
    unfold usedF at *
    rw [List.filter_cons]
    by_cases h : 0 < a
    · simp [h, ih]
    · have h0 : a = 0 := by omega
      subst h0; simp [ih]
theorem perm_sum {l m : List Nat} (h : l.Perm m) : l.sum = m.sum := by
  induction h with
  | nil => rfl
  | cons x _ ih => simp [ih]
  | swap x y l => simp; omega
  | trans _ _ h1 h2 => rw [h1, h2]
theorem used_sum (f : List Nat) : (used f).sum = f.sum := by rw [← usedF_sum f]; exact perm_sum (PM.srt_perm _)
theorem few_dot (f : List Nat) : ∀ k, k ≤ f.length → dotK f (f.map fun x => if 0 < x then 1 else 0) k = (f.take k).sum
  | 0, _ => by simp [dotK]
  | k + 1, h => by
    rw [dotK, few_dot f k (by omega), sum_take_succ f k (by omega), map_getD0 f _ k (by omega)]
    split
    · simp
    · omega

theorem good_few {f : List Nat} {bits : Nat} (h : WellF f bits) (h2 : (used f).length ≤ 2) : Good f (lensG f bits) bits := by
  have e : lensG f bits = f.map fun x => if 0 < x then 1 else 0 := by unfold lensG; rw [if_pos h2]
  rw [e]
  have hb := h.b1
  refine ⟨by simp, ?_, ?_, ?_, ?_, ?_, ?_⟩
  · intro i hi
    rw [map_getD0 f _ i hi]
    split <;> simp_all
  · intro x hx
    obtain ⟨y, _, rfl⟩ := List.mem_map.1 hx
    split <;> omega
  · intro h3
    rw [few_kraft, ← used_len]
    have : (used f).length = 2 := by omega
    rw [this]
  · intro i k hi hk h3 h4
    rw [map_getD0 f _ i hi, map_getD0 f _ k hk, if_pos (by omega), if_pos h4]
    exact Nat.le_refl _
  · rw [few_dot f _ (Nat.le_refl _), List.take_length, PM.least_two (used f) (used_srt f) (used_pos f) bits h2 h.b1, used_sum]
  · intro _ i hi h3
    rw [map_getD0 f _ i hi, if_pos h3]

theorem cntG_len (f : List Nat) (bits : Nat) : (cntG f bits).length = min bits ((used f).length - 1) + 1 := PM.bcl_len _ _
theorem cntG_zero (f : List Nat) (bits : Nat) : (cntG f bits).getD 0 0 = 0 := rfl
theorem cntG_sum {f : List Nat} {bits : Nat} (h : WellF f bits) (h3 : 3 ≤ (used f).length) : (cntG f bits).sum = (ordF f).length := by
  rw [ordF_len]; exact PM.bcl_total (h.freqs h3)
theorem cntG_shares {f : List Nat} {bits : Nat} (h : WellF f bits) (h3 : 3 ≤ (used f).length) : PM.shares (cntG f bits) (cntG f bits).length = 32768 := by
  rw [cntG_len]; exact PM.kraft_bcl (h.freqs h3)
theorem ordF_lt (f : List Nat) : ∀ x ∈ ordF f, x < f.length := fun x hx => ((ordF_mem f x).1 hx).1

theorem good_many {f : List Nat} {bits : Nat} (h : WellF f bits) (h3 : 3 ≤ (used f).length) : Good f (lensG f bits) bits := by
  have e : lensG f bits = spr (ordF f) (lsq 0 (cntG f bits)) f.length (ordF f).length := by unfold lensG; rw [if_neg (by omega)]
  rw [e]
  have hsum := cntG_sum h h3
  have hll : (lsq 0 (cntG f bits)).length = (ordF f).length := by rw [lsq_len, hsum]
  have hnd := ordF_nodup f
  have hlt := ordF_lt f
  have hml := h.most
  have hpos : ∀ t, t < (ordF f).length → 0 < (lsq 0 (cntG f bits)).getD t 0 := by
    intro t ht
    have hm := getD_mem (lsq 0 (cntG f bits)) t (by omega)
    have e2 : lsq 0 (cntG f bits) = lsq 1 (cntG f bits).tail := by
      unfold cntG PM.bcl
      simp [lsq]
    rw [e2] at hm
    have := lsq_ge _ 1 _ hm
    rw [← e2] at this
    omega
  have hat : ∀ p, p < (ordF f).length → (spr (ordF f) (lsq 0 (cntG f bits)) f.length (ordF f).length).getD ((ordF f).getD p 0) 0 = (lsq 0 (cntG f bits)).getD ((ordF f).length - 1 - p) 0 := by
    intro p hp
    have := spr_at (ordF f) (lsq 0 (cntG f bits)) f.length hnd hlt (ordF f).length (Nat.le_refl _) ((ordF f).length - 1 - p) (by omega)
    rwa [show (ordF f).length - 1 - ((ordF f).length - 1 - p) = p by omega] at this
  have hin : ∀ s, s < f.length → 0 < f.getD s 0 → ∃ p, p < (ordF f).length ∧ (ordF f).getD p 0 = s := by
    intro s h1 h2
    obtain ⟨p, hp, he⟩ := List.mem_iff_getElem.1 ((ordF_mem f s).2 ⟨h1, h2⟩)
    exact ⟨p, hp, by simp [List.getD, hp, he]⟩
  refine ⟨spr_len _ _ _ _, ?_, ?_, ?_, ?_, ?_, fun h9 => by omega⟩
  · intro i hi
    by_cases hf : 0 < f.getD i 0
    · obtain ⟨p, hp, rfl⟩ := hin i hi hf
      rw [hat p hp]
      exact ⟨fun _ => hf, fun _ => hpos _ (by omega)⟩
    · have hz := spr_zero (ordF f) (lsq 0 (cntG f bits)) f.length (ordF f).length i (fun t ht he => by
        have := (ordF_mem f _).1 (getD_mem (ordF f) ((ordF f).length - 1 - t) (by omega))
        rw [he] at this
        omega)
      rw [hz]; omega
  · intro x hx
    rcases spr_mem _ _ _ _ x hx with h0 | ⟨t, ht, rfl⟩
    · omega
    · have := lsq_lt (cntG f bits) 0 _ (getD_mem _ t (by omega))
      rw [cntG_len] at this
      omega
  · intro _
    rw [kraft_spr _ _ _ hnd hlt _ (Nat.le_refl _) (by omega), List.take_of_length_le (by omega)]
    have := kraft_lsq (cntG f bits) _ (Nat.le_refl _)
    rw [List.take_length] at this
    rw [this, cntG_shares h h3]
  · intro i k hi hk h4 h5
    obtain ⟨p, hp, rfl⟩ := hin i hi (by omega)
    obtain ⟨q, hq, rfl⟩ := hin k hk h5
    rw [hat p hp, hat q hq]
    refine PM.getD_srt (lsq_srt _ _) ?_ (by omega)
    rcases Nat.lt_or_ge q p with hqp | hqp
    · omega
    · exfalso
      have hpq : p ≠ q := by
        intro he; subst he; omega
      have h6 := List.pairwise_iff_getElem.1 (ordF_sorted f) p q hp hq (by omega)
      have e1 : (ordF f).getD p 0 = (ordF f)[p] := by simp [List.getD, hp]
      have e2 : (ordF f).getD q 0 = (ordF f)[q] := by simp [List.getD, hq]
      rw [← e1, ← e2] at h6
      unfold keyF at h6
      omega
  · rw [dot_spr f (ordF f) _ _ hnd hlt _ (Nat.le_refl _), ordF_freq f (by omega)]
    have h4 := costS_worth (used f) (cntG f bits) (by rw [hsum, ordF_len]) (cntG f bits).length (Nat.le_refl _)
    rw [List.take_length, hsum] at h4
    rw [h4, cntG_len]
    unfold cntG
    rw [PM.worth_least (h.freqs h3)]
    unfold PM.least
    rw [if_neg (by omega), PM.least_same (bits := bits) (used_srt f) (used_pos f) h3]

theorem good {f : List Nat} {bits : Nat} (h : WellF f bits) : Good f (lensG f bits) bits := by
  rcases Nat.lt_or_ge (used f).length 3 with h1 | h1
  · exact good_few h (by omega)
  · exact good_many h h1

/-- The bits are at least one for each. -/
theorem dot_ge {f L : List Nat} (hp : ∀ i, i < f.length → (0 < L.getD i 0 ↔ 0 < f.getD i 0)) : ∀ k, k ≤ f.length → (f.take k).sum ≤ dotK f L k
  | 0, _ => by simp
  | k + 1, h => by
    have ih := dot_ge hp k (by omega)
    rw [sum_take_succ f k (by omega), dotK]
    have := hp k (by omega)
    rcases Nat.eq_zero_or_pos (f.getD k 0) with h0 | h0
    · rw [h0]; omega
    · have h1 := this.2 h0
      have : f.getD k 0 * 1 ≤ f.getD k 0 * L.getD k 0 := Nat.mul_le_mul_left _ h1
      omega
theorem least_ge {f : List Nat} {bits : Nat} (h : WellF f bits) : (used f).sum ≤ PM.least (used f) bits := by
  have hg := good h
  have := dot_ge hg.pos f.length (Nat.le_refl _)
  rw [List.take_length] at this
  rw [used_sum, ← hg.cost]; exact this
theorem least_le {f : List Nat} {bits : Nat} (h : WellF f bits) : PM.least (used f) (bits + 1) ≤ PM.least (used f) bits :=
  PM.least_more _ _ (PM.lvl_enough' _ _ h.b1 h.room)
end Go.Proofs.Ytgkpdffgahadpaa

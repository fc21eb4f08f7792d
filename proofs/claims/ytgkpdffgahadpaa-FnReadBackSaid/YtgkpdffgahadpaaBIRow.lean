/- A slice that reads as a list of numbers, and what the law of reading back wants of them. -/
import Derived.Test.YtgkpdffgahadpaaBLst
import Derived.Test.YtgkpdffgahadpaaBRead
import Derived.Test.YtgkpdffgahadpaaBEnc
import Derived.Test.YtgkpdffgahadpaaSEqI
namespace Go.Proofs.Ytgkpdffgahadpaa
open Go.RowKit Go.Shelf Go.Lib

/-- A slice value that reads as a list of numbers. -/
def IRow (k : IntKind) (w : World) (v : Value) (l : List Int) : Prop :=
  ∃ a cap, v = .slice a l.length cap ∧ ((a = none → cap = 0) ∧ l.length ≤ cap) ∧ (0 < l.length → ∃ b o, a = some ⟨b, o, none⟩ ∧ b < w.heap.size ∧ ∀ i, i < l.length → w.cell? ⟨b, o + i, none⟩ = some (.int k (l.getD i 0)))
theorem IRow.below {k : IntKind} {w w' : World} {v : Value} {l : List Int} (h : IRow k w v l) (hb : Below w.heap.size w w') : IRow k w' v l := by
  obtain ⟨a, cap, rfl, hn, h⟩ := h
  refine ⟨a, cap, rfl, hn, fun h0 => ?_⟩
  obtain ⟨b, o, rfl, hbl, hc⟩ := h h0
  exact ⟨b, o, rfl, Nat.lt_of_lt_of_le hbl hb.size, fun i hi => (hb.cell (by exact hbl)).trans (hc i hi)⟩
theorem IRow.toN {k : IntKind} {w : World} {v : Value} {l : List Int} {m : List Nat} (h : IRow k w v l) (hm : l = m.map fun n => ((n : Nat) : Int)) : NRow k w v m := by
  subst hm
  obtain ⟨a, cap, rfl, hn, hr⟩ := h
  rw [List.length_map] at hn hr ⊢
  refine ⟨a, cap, rfl, hn, fun h0 => ?_⟩
  obtain ⟨b, o, rfl, hb, hc⟩ := hr h0
  refine ⟨b, o, rfl, hb, fun i hi => ?_⟩
  rw [hc i hi]
  simp [List.getD, hi]
theorem irow_of {k : IntKind} {w : World} {a : Option Addr} {len cap : Nat} {zs : List Int}
    (h : (a = none ∧ len = 0 ∧ cap = 0 ∧ zs = []) ∨
      ∃ x, a = some x ∧ len ≤ cap ∧ cap ≤ maxLen ∧ zs.length = cap ∧ (∀ i, i < zs.length → w.cell? (x.add i) = some (.int k (zs.getD i 0))) ∧ ∀ n ∈ zs, (Lit.int k n).wf = true) :
    ∃ l : List Int, l.length = len ∧ IRow k w (.slice a len cap) l ∧ ∀ x ∈ l, (Lit.int k x).wf = true := by
  rcases h with ⟨rfl, rfl, rfl, rfl⟩ | ⟨x, rfl, hlc, _, hz, hc, hwf⟩
  · exact ⟨[], rfl, ⟨none, 0, rfl, ⟨fun _ => rfl, Nat.le_refl _⟩, fun h => absurd h (by simp)⟩, fun x hx => by cases hx⟩
  · have hl : (zs.take len).length = len := by rw [List.length_take]; omega
    refine ⟨zs.take len, hl, ⟨some x, cap, by rw [hl], ⟨fun h => (by cases h), by rw [hl]; exact hlc⟩, fun h0 => ?_⟩, fun y hy => hwf y (List.mem_of_mem_take hy)⟩
    rw [hl] at h0 ⊢
    obtain ⟨b, o, rfl, hc'⟩ := ints_at hc (by omega)
    refine ⟨b, o, rfl, ?_, fun i hi => ?_⟩
    · have := hc' 0 (by omega)
      exact World.block_lt_of_cell? w _ this
    · rw [hc' i (by omega)]
      simp [List.getD, hi]

/-- A symbol that has a frequency. -/
def GoodS (f : List Nat) (z : Int) : Prop := 0 ≤ z ∧ z < (f.length : Int) ∧ 0 < f.getD z.toNat 0
theorem goods_nat {f : List Nat} {zs : List Int} (h : ∀ k, k < zs.length → GoodS f (zs.getD k 0)) :
    zs = (zs.map Int.toNat).map (fun n => ((n : Nat) : Int)) ∧ ∀ s ∈ zs.map Int.toNat, s < f.length ∧ 0 < f.getD s 0 := by
  have hm : ∀ z ∈ zs, GoodS f z := by
    intro z hz
    obtain ⟨k, hk, rfl⟩ := List.mem_iff_getElem.1 hz
    have := h k hk
    simpa [List.getD, hk] using this
  refine ⟨?_, ?_⟩
  · apply List.ext_getElem
    · simp
    · intro i h1 h2
      have := (hm _ (List.getElem_mem h1)).1
      simp only [List.getElem_map]
      omega
  · intro s hs
    obtain ⟨z, hz, rfl⟩ := List.mem_map.1 hs
    obtain ⟨h1, h2, h3⟩ := hm z hz
    exact ⟨by omega, h3⟩

/-- What is handed out of a symbol, turned back. -/
theorem turnG {L : List Nat} (hk : kraft L ≤ 32768) (h15 : ∀ x ∈ L, x ≤ 15) (i : Nat) (hi : i < L.length) : PT.turn ((bitsG L).getD i 0) (L.getD i 0) = (canonL L).getD i 0 := by
  rw [canonL_get, if_pos hi]
  rcases Nat.eq_zero_or_pos (L.getD i 0) with h | h
  · rw [h, canonAt_zero L i h]; rfl
  · have hb : (bitsG L).getD i 0 = PT.turn (canonAt L i) (L.getD i 0) := (genH_full h15).2 i hi h
    rw [hb, turned_at hk h15 i hi]
theorem canonL_lt {L : List Nat} (hk : kraft L ≤ 32768) (h15 : ∀ x ∈ L, x ≤ 15) (s : Nat) : (canonL L).getD s 0 < 65536 := by
  rw [canonL_get]
  split
  · rename_i h
    have h1 := canonAt_pow hk h15 s h
    have h2 : 2 ^ L.getD s 0 ≤ 2 ^ 15 := Nat.pow_le_pow_right (by omega) (h15 _ (getD_mem L s h))
    have h3 : (2 : Nat) ^ 15 = 32768 := rfl
    omega
  · omega
theorem eqI_same (v1 v2 : Value) (l : List Nat) (w : World) (h1 : NRow .i64 w v1 l) (h2 : NRow .i64 w v2 l) (hlen : l.length < 4294967296) :
    Calls Try.prog 25 #[v1, v2] w fun e w' => e = .returned (.bool true) ∧ ∃ n, w' = w.drewN n :=
  (equalI_any v1 v2 l l w h1 h2 hlen hlen).mono fun e w' ⟨he, hw⟩ => ⟨by rw [he, decide_eq_true rfl], hw⟩
end Go.Proofs.Ytgkpdffgahadpaa

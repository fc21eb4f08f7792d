/- The walk of the reference's Counted. -/
import Derived.Test.YtokbkbchblfcoaaSContU
namespace Go.Proofs.Ytokbkbchblfcoaa
open Go.RowKit

/-- A slice value that reads as a list of numbers. -/
def IRow (k : IntKind) (w : World) (v : Value) (l : List Int) : Prop :=
  ∃ a cap, v = .slice a l.length cap ∧ ((a = none → cap = 0) ∧ l.length ≤ cap) ∧ (0 < l.length → ∃ b o, a = some ⟨b, o, none⟩ ∧ b < w.heap.size ∧ ∀ i, i < l.length → w.cell? ⟨b, o + i, none⟩ = some (.int k (l.getD i 0)))

theorem IRow.toN {k : IntKind} {w : World} {v : Value} {l : List Int} {m : List Nat} (h : IRow k w v l) (hm : l = m.map fun n => ((n : Nat) : Int)) : NRow k w v m := by
  subst hm
  obtain ⟨a, cap, rfl, hn, hr⟩ := h
  rw [List.length_map] at hn hr ⊢
  refine ⟨a, cap, rfl, hn, fun h0 => ?_⟩
  obtain ⟨b, o, rfl, hb, hc⟩ := hr h0
  refine ⟨b, o, rfl, hb, fun i hi => ?_⟩
  rw [hc i hi]
  simp [List.getD, hi]

theorem irow_of {k : IntKind} {w : World} {a : Option Addr} {len cap : Nat} {zs : List Int}
    (h : (a = none ∧ len = 0 ∧ cap = 0 ∧ zs = []) ∨
      ∃ x, a = some x ∧ len ≤ cap ∧ cap ≤ maxLen ∧ zs.length = cap ∧ (∀ i, i < zs.length → w.cell? (x.add i) = some (.int k (zs.getD i 0))) ∧ ∀ n ∈ zs, (Lit.int k n).wf = true) :
    ∃ l : List Int, l.length = len ∧ IRow k w (.slice a len cap) l ∧ ∀ x ∈ l, (Lit.int k x).wf = true := by
  rcases h with ⟨rfl, rfl, rfl, rfl⟩ | ⟨x, rfl, hlc, _, hz, hc, hwf⟩
  · exact ⟨[], rfl, ⟨none, 0, rfl, ⟨fun _ => rfl, Nat.le_refl _⟩, fun h => absurd h (by simp)⟩, fun x hx => by cases hx⟩
  · have hl : (zs.take len).length = len := by rw [List.length_take]; omega
    refine ⟨zs.take len, hl, ⟨some x, cap, by rw [hl], ⟨fun h => (by cases h), by rw [hl]; exact hlc⟩, fun h0 => ?_⟩, fun y hy => hwf y (List.mem_of_mem_take hy)⟩
    rw [hl] at h0 ⊢
    obtain ⟨b, o, rfl, hc'⟩ := ints_at hc (by omega)
    refine ⟨b, o, rfl, ?_, fun i hi => ?_⟩
    · have := hc' 0 (by omega)
      exact World.block_lt_of_cell? w _ this
    · rw [hc' i (by omega)]
      simp [List.getD, hi]

/-- The room that the first k counts take. -/
def room (l : List Nat) : Nat → Nat
  | 0 => 0
  | k + 1 => room l k + if 0 < k then l.getD k 0 * 2 ^ (15 - k) else 0
theorem room_le (l : List Nat) (h : ∀ k, l.getD k 0 ≤ 286) : ∀ k, room l k ≤ 286 * 32768 * k
  | 0 => Nat.le_refl _
  | k + 1 => by
    have h1 := room_le l h k
    have h2 := h k
    have h3 : 2 ^ (15 - k) ≤ 32768 := Nat.le_trans (Nat.pow_le_pow_right (by omega) (show 15 - k ≤ 15 by omega)) (by decide)
    have h4 : l.getD k 0 * 2 ^ (15 - k) ≤ 286 * 32768 := Nat.mul_le_mul h2 h3
    simp only [room]
    split <;> omega

/-- What Counted reports. -/
structure CountedP (zs : List Int) (ord : List Nat) (size : Int) : Prop where
  len : zs.length ≤ 16
  pos : ∀ k, k < zs.length → 0 ≤ zs.getD k 0 ∧ zs.getD k 0 ≤ 286
  zero : zs.getD 0 0 = 0
  sum : (zs.map Int.toNat).sum = ord.length
  room : room (zs.map Int.toNat) zs.length ≤ 32768
  nodup : ord.Nodup
  lt : ∀ x ∈ ord, ((x : Nat) : Int) < size
  size : size ≤ 1000
end Go.Proofs.Ytokbkbchblfcoaa

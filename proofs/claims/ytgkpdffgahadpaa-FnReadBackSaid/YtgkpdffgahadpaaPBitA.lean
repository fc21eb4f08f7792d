/- Words for the walk of bitCounts: a table of numbers in a block of its own. -/
import Derived.Test.YtgkpdffgahadpaaOwn
import Derived.Test.YtgkpdffgahadpaaPm3
import Derived.Deep.RegionHeld3
import Derived.Deep.DeepCutAuto
import Derived.Deep.CutRange
namespace Go.Proofs.Ytgkpdffgahadpaa
open Go.RowKit

/-- The cells of a table of m rows of k numbers. -/
def GridA (cur : Array Value) (m k : Nat) (g : Nat → Nat → Int) : Prop := cur.size = m * k ∧ ∀ i j, i < m → j < k → cur[i * k + j]? = some (.int .i32 (g i j))

theorem int_eq {k : IntKind} {a b : Int} (h : a = b) : Value.int k a = .int k b := by rw [h]
theorem grid_at {m k i j : Nat} (hi : i < m) (hj : j < k) : i * k + j < m * k := by
  have : (i + 1) * k ≤ m * k := Nat.mul_le_mul_right _ hi
  rw [Nat.add_mul] at this; omega
theorem grid_inj {k i j i' j' : Nat} (hj : j < k) (hj' : j' < k) (h : i * k + j = i' * k + j') : i = i' ∧ j = j' := by
  have h1 : (i * k + j) / k = i := by rw [Nat.mul_comm, Nat.mul_add_div (by omega), Nat.div_eq_of_lt hj]; rfl
  have h2 : (i' * k + j') / k = i' := by rw [Nat.mul_comm, Nat.mul_add_div (by omega), Nat.div_eq_of_lt hj']; rfl
  have e : i = i' := by rw [← h1, h, h2]
  subst e
  exact ⟨rfl, by omega⟩
theorem GridA.set {cur : Array Value} {m k : Nat} {g : Nat → Nat → Int} (h : GridA cur m k g) (i j : Nat) (hi : i < m) (hj : j < k) (x : Int) :
    GridA (cur.setIfInBounds (i * k + j) (.int .i32 x)) m k (PM.upd g i j x) := by
  refine ⟨by simpa using h.1, fun i' j' hi' hj' => ?_⟩
  rw [Array.getElem?_setIfInBounds]
  by_cases e : i * k + j = i' * k + j'
  · obtain ⟨rfl, rfl⟩ := grid_inj hj hj' e
    rw [if_pos rfl, if_pos (by rw [h.1]; exact grid_at hi hj), PM.upd_same]
  · rw [if_neg e, PM.upd_ne _ _ _ _ _ _ (by
      rcases Classical.em (i' = i ∧ j' = j) with ⟨rfl, rfl⟩ | h
      · exact absurd rfl e
      · omega)]
    exact h.2 i' j' hi' hj'

/-- The two tables of bitCounts, all else as it was. -/
structure BSt (W0 wr : World) (tl tc lvb lcb : Nat) (lv lc : Nat → Nat → Int) : Prop where
  os : wr.os = W0.os
  tape : wr.tape = W0.tape
  output : wr.output = W0.output
  size : W0.heap.size ≤ wr.heap.size
  other : ∀ q, q < W0.heap.size → q ≠ lvb → q ≠ lcb → wr.heap[q]? = W0.heap[q]?
  ne : lvb ≠ lcb
  lvB : ∃ cur, wr.heap[lvb]? = some (.cells cur tl (0, 0)) ∧ GridA cur 16 5 lv
  lcB : ∃ cur, wr.heap[lcb]? = some (.cells cur tc (0, 0)) ∧ GridA cur 16 16 lc

section
variable {W0 wr : World} {tl tc lvb lcb : Nat} {lv lc : Nat → Nat → Int}
theorem heap_setAt {w : World} {b : Nat} {cl : Array Value} {t : TypeId} (h : w.heap[b]? = some (.cells cl t (0, 0))) (j : Nat) (v : Value) :
    (w.setCell ⟨b, j, none⟩ v).heap[b]? = some (.cells (cl.setIfInBounds j v) t (0, 0)) := by
  simp only [World.setCell]
  simp [Array.getElem?_modify, h]
theorem BSt.cellL (h : BSt W0 wr tl tc lvb lcb lv lc) (i k : Nat) (hi : i < 16) (hk : k < 5) : wr.cell? ⟨lvb, i * 5 + k, none⟩ = some (.int .i32 (lv i k)) := by
  obtain ⟨cur, h1, h2⟩ := h.lvB
  simp only [World.cell?, h1]; exact h2.2 i k hi hk
theorem BSt.cellC (h : BSt W0 wr tl tc lvb lcb lv lc) (i k : Nat) (hi : i < 16) (hk : k < 16) : wr.cell? ⟨lcb, i * 16 + k, none⟩ = some (.int .i32 (lc i k)) := by
  obtain ⟨cur, h1, h2⟩ := h.lcB
  simp only [World.cell?, h1]; exact h2.2 i k hi hk
theorem BSt.frL (h : BSt W0 wr tl tc lvb lcb lv lc) (o : Nat) : wr.frozen? ⟨lvb, o, none⟩ = false := by
  obtain ⟨cur, h1, h2⟩ := h.lvB
  simp [World.frozen?, h1]
theorem BSt.frC (h : BSt W0 wr tl tc lvb lcb lv lc) (o : Nat) : wr.frozen? ⟨lcb, o, none⟩ = false := by
  obtain ⟨cur, h1, h2⟩ := h.lcB
  simp [World.frozen?, h1]
theorem BSt.ltL (h : BSt W0 wr tl tc lvb lcb lv lc) : lvb < wr.heap.size := by obtain ⟨cur, h1, h2⟩ := h.lvB; exact (Array.getElem?_eq_some_iff.1 h1).1
theorem BSt.ltC (h : BSt W0 wr tl tc lvb lcb lv lc) : lcb < wr.heap.size := by obtain ⟨cur, h1, h2⟩ := h.lcB; exact (Array.getElem?_eq_some_iff.1 h1).1
theorem BSt.cellO (h : BSt W0 wr tl tc lvb lcb lv lc) (q o : Nat) (hq : q < W0.heap.size) (h1 : q ≠ lvb) (h2 : q ≠ lcb) : wr.cell? ⟨q, o, none⟩ = W0.cell? ⟨q, o, none⟩ := by
  simp only [World.cell?, h.other q hq h1 h2]
theorem GridA.congr {cur : Array Value} {m k : Nat} {g g' : Nat → Nat → Int} (h : GridA cur m k g) (he : ∀ i j, i < m → j < k → g i j = g' i j) : GridA cur m k g' :=
  ⟨h.1, fun i j hi hj => by rw [← he i j hi hj]; exact h.2 i j hi hj⟩
theorem BSt.congr (h : BSt W0 wr tl tc lvb lcb lv lc) {lv' lc' : Nat → Nat → Int} (hl : ∀ i j, i < 16 → j < 5 → lv i j = lv' i j) (hc : ∀ i j, i < 16 → j < 16 → lc i j = lc' i j) : BSt W0 wr tl tc lvb lcb lv' lc' := by
  obtain ⟨cl, h1, h2⟩ := h.lvB
  obtain ⟨cc, h3, h4⟩ := h.lcB
  exact ⟨h.os, h.tape, h.output, h.size, h.other, h.ne, ⟨cl, h1, h2.congr hl⟩, ⟨cc, h3, h4.congr hc⟩⟩
theorem BSt.drew (h : BSt W0 wr tl tc lvb lcb lv lc) : BSt W0 wr.drew tl tc lvb lcb lv lc := ⟨h.os, h.tape, h.output, h.size, h.other, h.ne, h.lvB, h.lcB⟩
theorem BSt.drewN (h : BSt W0 wr tl tc lvb lcb lv lc) (m : Nat) : BSt W0 (wr.drewN m) tl tc lvb lcb lv lc := ⟨h.os, h.tape, h.output, h.size, h.other, h.ne, h.lvB, h.lcB⟩
theorem BSt.alloc (h : BSt W0 wr tl tc lvb lcb lv lc) (o : Obj) : BSt W0 (wr.alloc o) tl tc lvb lcb lv lc := by
  have e : ∀ q, q < wr.heap.size → (wr.alloc o).heap[q]? = wr.heap[q]? := fun q hq => by
    unfold World.alloc; simp [Array.getElem?_push, Nat.ne_of_lt hq]
  refine ⟨h.os, h.tape, h.output, Nat.le_trans h.size (by unfold World.alloc; simp), fun q hq h1 h2 => ?_, h.ne, ?_, ?_⟩
  · rw [e q (by have := h.size; omega)]; exact h.other q hq h1 h2
  · rw [e _ h.ltL]; exact h.lvB
  · rw [e _ h.ltC]; exact h.lcB
theorem BSt.setL (h : BSt W0 wr tl tc lvb lcb lv lc) (i k : Nat) (hi : i < 16) (hk : k < 5) (x : Int) : BSt W0 (wr.setCell ⟨lvb, i * 5 + k, none⟩ (.int .i32 x)) tl tc lvb lcb (PM.upd lv i k x) lc := by
  obtain ⟨cur, h1, h2⟩ := h.lvB
  refine ⟨h.os, h.tape, h.output, Nat.le_trans h.size (by simp [World.setCell]), fun q hq a b => ?_, h.ne, ⟨_, heap_setAt h1 _ _, h2.set i k hi hk x⟩, ?_⟩
  · rw [Below.heap_setCell _ _ _ _ a]; exact h.other q hq a b
  · rw [Below.heap_setCell _ _ _ _ h.ne.symm]; exact h.lcB
theorem BSt.setC (h : BSt W0 wr tl tc lvb lcb lv lc) (i k : Nat) (hi : i < 16) (hk : k < 16) (x : Int) : BSt W0 (wr.setCell ⟨lcb, i * 16 + k, none⟩ (.int .i32 x)) tl tc lvb lcb lv (PM.upd lc i k x) := by
  obtain ⟨cur, h1, h2⟩ := h.lcB
  refine ⟨h.os, h.tape, h.output, Nat.le_trans h.size (by simp [World.setCell]), fun q hq a b => ?_, h.ne, ?_, ⟨_, heap_setAt h1 _ _, h2.set i k hi hk x⟩⟩
  · rw [Below.heap_setCell _ _ _ _ b]; exact h.other q hq a b
  · rw [Below.heap_setCell _ _ _ _ h.ne]; exact h.lvB
end
end Go.Proofs.Ytgkpdffgahadpaa

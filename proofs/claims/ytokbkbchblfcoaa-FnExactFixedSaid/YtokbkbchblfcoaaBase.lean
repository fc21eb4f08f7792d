/- What all walks use: a slice that reads as a list of natural numbers; small facts on lists. -/
import Derived.Test.YtokbkbchblfcoaaRows
import Derived.WalkKit
import Derived.WalkSpells
import Derived.WalkLawsBesides
import Derived.Lib.Hide
import Derived.Lib.Tables
import Derived.BigQuiet
import Derived.Deep.QuietTactic
import Derived.OpenShut
namespace Go.Proofs.Ytokbkbchblfcoaa
open Go.RowKit

theorem ret_int {k : IntKind} {a b : Int} (h : a = b) : Ending.returned (.int k a) = .returned (.int k b) := by rw [h]
theorem ret_bool {a b : Bool} (h : a = b) : Ending.returned (.bool a) = .returned (.bool b) := by rw [h]

theorem drewN_add (w : World) (a b : Nat) : (w.drewN a).drewN b = w.drewN (a + b) := by simp [World.drewN, Nat.add_assoc]

/-- A slice value that reads as a list of natural numbers. -/
def NRow (k : IntKind) (w : World) (v : Value) (l : List Nat) : Prop :=
  ∃ a cap, v = .slice a l.length cap ∧ ((a = none → cap = 0) ∧ l.length ≤ cap) ∧ (0 < l.length → ∃ b o, a = some ⟨b, o, none⟩ ∧ b < w.heap.size ∧ ∀ i, i < l.length → w.cell? ⟨b, o + i, none⟩ = some (.int k ((l.getD i 0 : Nat) : Int)))

theorem NRow.below {k : IntKind} {w w' : World} {v : Value} {l : List Nat} (h : NRow k w v l) (hb : Below w.heap.size w w') : NRow k w' v l := by
  obtain ⟨a, cap, rfl, hn, h⟩ := h
  refine ⟨a, cap, rfl, hn, fun h0 => ?_⟩
  obtain ⟨b, o, rfl, hbl, hc⟩ := h h0
  exact ⟨b, o, rfl, Nat.lt_of_lt_of_le hbl hb.size, fun i hi => (hb.cell (by exact hbl)).trans (hc i hi)⟩

theorem NRow.drewN {k : IntKind} {w : World} {v : Value} {l : List Nat} (h : NRow k w v l) (m : Nat) : NRow k (w.drewN m) v l := h
theorem below_up {B : Nat} {a b c : World} (h : Below B a b) (h2 : Below b.heap.size b c) (hB : B ≤ b.heap.size) : Below B a c := h.trans (h2.mono hB)
theorem below_dN {B : Nat} {a w : World} (h : Below B a w) (m : Nat) : Below B a (w.drewN m) := ⟨h.os, h.tape, h.output, h.size, h.block⟩

/-- The values of a list of natural numbers. -/
def nv (k : IntKind) (l : List Nat) : List Value := l.map fun n => .int k ((n : Nat) : Int)
theorem nv_len (k : IntKind) (l : List Nat) : (nv k l).length = l.length := by simp [nv]
theorem nv_append (k : IntKind) (l m : List Nat) : nv k (l ++ m) = nv k l ++ nv k m := by simp [nv]
theorem nv_get (k : IntKind) (l : List Nat) (i : Nat) (h : i < l.length) : (nv k l)[i]? = some (.int k ((l.getD i 0 : Nat) : Int)) := by
  simp [nv, List.getD, h]

theorem NRow.of_owns {k : IntKind} {w : World} {base e n : Nat} {v : Value} {l : List Nat} (hn : n = l.length) (h : w.ownsRow base e 1 v n (nv k l)) : NRow k w v l := by
  subst hn
  rcases h.2 with ⟨rfl, h0⟩ | ⟨g, cap, cur, rfl, hb, hg, h1, h2, h3, h4⟩
  · exact ⟨none, 0, by rw [h0], ⟨fun _ => rfl, by omega⟩, fun h => absurd h (by omega)⟩
  · refine ⟨_, cap, rfl, ⟨(fun h => by cases h), h1⟩, fun _ => ⟨g, 0, rfl, (Array.getElem?_eq_some_iff.1 hg).1, fun i hi => ?_⟩⟩
    have hh : w.ownsRow base e 1 (.slice (some ⟨g, 0, none⟩) l.length cap) l.length (nv k l) := ⟨by rw [nv_len]; omega, .inr ⟨g, cap, cur, rfl, hb, hg, h1, h2, h3, h4⟩⟩
    rw [Nat.zero_add, hh.cellAt i (by omega), nv_get k l i hi]

theorem sum_take_succ (l : List Nat) (k : Nat) (h : k < l.length) : (l.take (k + 1)).sum = (l.take k).sum + l.getD k 0 := by
  rw [List.take_succ_eq_append_getElem h, List.sum_append]; simp [List.getD, h]
theorem sum_take_le (l : List Nat) (k : Nat) : (l.take k).sum ≤ l.sum := by
  conv => rhs; rw [← List.take_append_drop k l, List.sum_append]
  omega
theorem take_succ_getD (l : List Nat) (k : Nat) (h : k < l.length) : l.take (k + 1) = l.take k ++ [l.getD k 0] := by
  rw [List.take_succ_eq_append_getElem h]; simp [List.getD, h]
theorem getD_mem (l : List Nat) (k : Nat) (h : k < l.length) : l.getD k 0 ∈ l := by
  simp [List.getD, h]

/-- A row of unsigned numbers that came in, as the shells of the statements have it. -/
theorem nrow_of {k : IntKind} {B : Nat} (hk : ∀ n, (Lit.int k n).wf = true → 0 ≤ n ∧ n < (B : Int)) {w : World} {a : Option Addr} {len cap : Nat} {zs : List Int}
    (h : (a = none ∧ len = 0 ∧ cap = 0 ∧ zs = []) ∨
      ∃ x, a = some x ∧ len ≤ cap ∧ cap ≤ maxLen ∧ zs.length = cap ∧ (∀ i, i < zs.length → w.cell? (x.add i) = some (.int k (zs.getD i 0))) ∧ ∀ n ∈ zs, (Lit.int k n).wf = true) :
    ∃ l : List Nat, l.length = len ∧ NRow k w (.slice a len cap) l ∧ ∀ x ∈ l, x < B := by
  rcases h with ⟨rfl, rfl, rfl, rfl⟩ | ⟨x, rfl, hlc, _, hz, hc, hwf⟩
  · exact ⟨[], rfl, ⟨none, 0, rfl, ⟨fun _ => rfl, Nat.le_refl _⟩, fun h => absurd h (by simp)⟩, fun x hx => by cases hx⟩
  · have hl : ((zs.take len).map Int.toNat).length = len := by rw [List.length_map, List.length_take]; omega
    refine ⟨(zs.take len).map Int.toNat, hl, ⟨some x, cap, by rw [hl], ⟨fun h => (by cases h), by rw [hl]; exact hlc⟩, fun h0 => ?_⟩, ?_⟩
    · rw [hl] at h0 ⊢
      obtain ⟨b, o, rfl, hc'⟩ := ints_at hc (by omega)
      refine ⟨b, o, rfl, ?_, fun i hi => ?_⟩
      · have := hc' 0 (by omega)
        exact World.block_lt_of_cell? w _ this
      · rw [hc' i (by omega)]
        have hi' : i < zs.length := by omega
        have h1 : zs.getD i 0 = zs[i] := by simp [List.getD, hi']
        have h2 : ((zs.take len).map Int.toNat).getD i 0 = zs[i].toNat := by simp [List.getD, hi, hi']
        rw [h1, h2]
        have := (hk _ (hwf _ (List.getElem_mem hi'))).1
        congr 3; omega
    · intro y hy
      obtain ⟨n, hn, rfl⟩ := List.mem_map.1 hy
      have := hk _ (hwf _ (List.mem_of_mem_take hn))
      omega

end Go.Proofs.Ytokbkbchblfcoaa

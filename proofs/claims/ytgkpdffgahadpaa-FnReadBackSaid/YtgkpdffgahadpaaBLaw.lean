/- What the laws over generate share. -/
import Derived.Test.YtgkpdffgahadpaaBCodes
import Derived.Test.YtgkpdffgahadpaaSWell
namespace Go.Proofs.Ytgkpdffgahadpaa
open Go.RowKit Go.Shelf Go.Lib

theorem owns_slice {w : World} {base e n size : Nat} {v : Value} {xs : List Value} (h : w.ownsRow base e size v n xs) (hn : 0 < n) : ∃ g cap, v = .slice (some ⟨g, 0, none⟩) n cap := by
  rcases h.2 with ⟨_, h0⟩ | ⟨g, cap, cur, rfl, _⟩
  · omega
  · exact ⟨g, cap, rfl⟩
theorem nrow_slice {k : IntKind} {w : World} {a : Option Addr} {n cap : Nat} {l : List Nat} (h : NRow k w (.slice a n cap) l) (hn : 0 < l.length) : ∃ b o, a = some ⟨b, o, none⟩ ∧ b < w.heap.size ∧ ∀ i, i < l.length → w.cell? ⟨b, o + i, none⟩ = some (.int k ((l.getD i 0 : Nat) : Int)) := by
  obtain ⟨a', c', he, _, hc⟩ := h
  cases he
  exact hc hn
/-- Cells of two slices that Codes has made. -/
theorem owns_cells {w w' : World} {base e g n cap : Nat} {k : IntKind} {l : List Nat} (h : w.ownsRow base e 1 (.slice (some ⟨g, 0, none⟩) n cap) n (nv k l)) (hn : n = l.length) (hb : Below w.heap.size w w') :
    ∀ i, i < n → w'.cell? ⟨g, i, none⟩ = some (.int k ((l.getD i 0 : Nat) : Int)) := fun i hi => (hb.cell (p := ⟨g, i, none⟩) (h.lt g rfl).2).trans (owns_cell h i hi hn)
end Go.Proofs.Ytgkpdffgahadpaa

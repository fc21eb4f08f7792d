/- slices.Sort on a slice of numbers of the call's own, in the words of the walks. -/
import Derived.Test.YtokbkbchblfcoaaOwn
import Derived.Test.YtokbkbchblfcoaaPm1
import Derived.Test.YtokbkbchblfcoaaShelf
import Derived.Sort.OwnSortedInts
namespace Go.Proofs.Ytokbkbchblfcoaa
open Go.RowKit Go.Sort

theorem sort_casts (l : List Nat) : ((l.map fun n => ((n : Nat) : Int)).mergeSort fun x y => decide (x ≤ y)) = (PM.srt l).map fun n => ((n : Nat) : Int) := by
  refine List.Perm.eq_of_pairwise (le := (· ≤ ·)) (fun _ _ _ _ h1 h2 => Int.le_antisymm h1 h2) ?_ ?_ ?_
  · exact (List.pairwise_mergeSort (le := fun a b : Int => decide (a ≤ b)) (by intro a b c; simp; omega) (by intro a b; simp; omega) _).imp (by intro a b h; simpa using h)
  · refine List.pairwise_map.2 ((PM.srt_sorted l).imp ?_)
    intro a b h; omega
  · exact (List.mergeSort_perm _ _).trans ((PM.srt_perm l).symm.map _)

theorem sortI_own {base n : Nat} {v : Value} {l : List Nat} {w : World} (hown : w.ownsRow base 3 1 v n (nv .i64 l)) (hlen : n < 1099511627776) :
    Calls Try.prog 43 #[v] w fun e w' => e = .returned (.tuple #[]) ∧ w'.ownsRow base 3 1 v n (nv .i64 (PM.srt l)) ∧ w.grownBy w' v.ownBlock := by
  have hl := owns_len hown
  subst hl
  rcases hown.2 with ⟨rfl, h0⟩ | ⟨g, cap, cur, rfl, hb, hg, h1, h2, h3, h4⟩
  · have hnil : l = [] := List.eq_nil_of_length_eq_zero h0
    subst hnil
    refine (Try.slices_Sort_int_none none 0 w).mono ?_
    rintro e w' ⟨rfl, rfl⟩
    exact ⟨rfl, by simpa [PM.srt, nv] using World.ownsRow_nil w' base 3 1, World.grownBy.refl _ _⟩
  · have e1 : nv .i64 l = (l.map fun n => ((n : Nat) : Int)).map (Value.int .i64) := by simp [nv]
    have e2 : nv .i64 (PM.srt l) = ((PM.srt l).map fun n => ((n : Nat) : Int)).map (Value.int .i64) := by simp [nv]
    have h4' : cur.toList.take ((l.map fun n => ((n : Nat) : Int)).length) = (l.map fun n => ((n : Nat) : Int)).map (Value.int .i64) := by
      rw [← e1, List.length_map]
      simpa using h4
    have hH := holds_of_blockI hg h4'
    have hc := Try.slices_Sort_int g 0 cap (l.map fun n => ((n : Nat) : Int)) w hH (Array.getElem?_eq_some_iff.1 hg).1 (by rw [List.length_map]; omega)
    rw [List.length_map, sort_casts] at hc
    refine hc.mono ?_
    rintro e w' ⟨rfl, m, os, rfl⟩
    refine ⟨rfl, ?_, grownBy_sortedI _⟩
    have hlen2 : (PM.srt l).length = l.length := PM.srt_len l
    have h := ownsRow_sortedI (n := m) (os := os) (ss := l.map fun n => ((n : Nat) : Int)) (ts := (PM.srt l).map fun n => ((n : Nat) : Int)) (by simp [hlen2]) hb hg (by simpa using h1) h2 (by simpa using h3)
    rw [e2]
    simpa [hlen2] using h
end Go.Proofs.Ytokbkbchblfcoaa

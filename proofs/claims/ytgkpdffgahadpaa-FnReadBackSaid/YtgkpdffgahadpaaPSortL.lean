/- slices.SortFunc on rows of literals (two cells each), and the two closures. -/
import Derived.Test.YtgkpdffgahadpaaOwn
import Derived.Test.YtgkpdffgahadpaaShelf
import Derived.Test.YtgkpdffgahadpaaShelfF
namespace Go.Proofs.Ytgkpdffgahadpaa
open Go.RowKit Go.Shelf Go.Lib

/-- A literal and its frequency. -/
abbrev Lit := Fin 65536 × Fin 65536
def encL (x : Lit) : List Value := [.int .u16 ((x.1.val : Nat) : Int), .int .u16 ((x.2.val : Nat) : Int)]
/-- The cells of a block hold literals. -/
def LRow (cur : Array Value) (off : Nat) (d : List Lit) : Prop := ∀ j x, d[j]? = some x →
  cur[off + j * 2]? = some (.int .u16 ((x.1.val : Nat) : Int)) ∧ cur[off + j * 2 + 1]? = some (.int .u16 ((x.2.val : Nat) : Int))
theorem holdsL {w : World} {blk off : Nat} {cur : Array Value} {t : TypeId} {d : List Lit} (hblk : w.heap[blk]? = some (.cells cur t (0, 0))) (hrow : LRow cur off d) :
    Go.Sort.HoldsK encL 2 w blk off d.toArray := by
  intro j hj
  rw [Go.Sort.size_flatK] at hj
  have hj' : j < d.length * 2 := by simpa using hj
  have hlt : j / 2 < d.length := by omega
  have hx : d[j / 2]? = some d[j / 2] := List.getElem?_eq_getElem hlt
  obtain ⟨h1, h2⟩ := hrow _ _ hx
  refine ⟨?_, by simp [World.frozen?, hblk]⟩
  rw [Go.Sort.get_flatK _ _ _ _ hj]
  have e : d.toArray[j / 2]! = d[j / 2] := by
    rw [getElem!_pos d.toArray (j / 2) (by simpa using hlt)]; rfl
  rw [e]
  simp only [World.cell?, hblk, id]
  rcases Nat.mod_two_eq_zero_or_one j with h | h
  · rw [h, show off + j = off + j / 2 * 2 by omega]; simpa [encL] using h1
  · rw [h, show off + j = off + j / 2 * 2 + 1 by omega]; simpa [encL] using h2

theorem ofHoldsL {w : World} {blk off : Nat} {cur : Array Value} {t : TypeId} {d : Array Lit} (hblk : w.heap[blk]? = some (.cells cur t (0, 0))) (h : Go.Sort.HoldsK encL 2 w blk off d) :
    LRow cur off d.toList := by
  intro j x hx
  have hj : j < d.size := by
    have := (List.getElem?_eq_some_iff.1 hx).1; simpa using this
  have e : d[j]! = x := by
    rw [getElem!_pos d j hj]
    have := (List.getElem?_eq_some_iff.1 hx).2; simpa using this
  have h0 := (h.cell (i := j) (c := 0) hj (by omega)).1
  have h1 := (h.cell (i := j) (c := 1) hj (by omega)).1
  rw [e] at h0 h1
  simp only [World.cell?, hblk] at h0 h1
  exact ⟨by simpa [encL] using h0, by simpa [encL] using h1⟩

theorem sortL_any (g : Nat) (cf : Lit → Lit → Int) (hO : Go.Sort.SWO (ltOf cf)) (eg : ∀ args w, (callFunc g args).run Try.prog w = .ok (.enter g args) w)
    (hcl : ∀ (x y : Lit) (W : World), Calls Try.prog g #[.agg #[.int .u16 ((x.1.val : Nat) : Int), .int .u16 ((x.2.val : Nat) : Int)], .agg #[.int .u16 ((y.1.val : Nat) : Int), .int .u16 ((y.2.val : Nat) : Int)]] W
      fun e w' => e = .returned (.int .i64 (cf x y)) ∧ ∃ q os', w' = Go.Sort.grow (W.drewN q) os')
    (blk off cap : Nat) (t : TypeId) (cur : Array Value) (d : List Lit) (w : World) (hblk : w.heap[blk]? = some (.cells cur t (0, 0))) (hrow : LRow cur off d) (hsz : d.length < 1000000) :
    Calls Try.prog 60 #[.slice (some ⟨blk, off, none⟩) d.length cap, .func (.func g) #[] #[]] w fun e w' => e = .returned (.tuple #[]) ∧ ∃ d' cur', d'.Perm d ∧ d'.Pairwise (fun x y => ¬ cf y x < 0) ∧
      w'.heap[blk]? = some (.cells cur' t (0, 0)) ∧ LRow cur' off d' ∧ cur'.size = cur.size ∧ (∀ i, i < off ∨ off + 2 * d.length ≤ i → cur'[i]? = cur[i]?) ∧ LFr w w' blk := by
  have hb : blk < w.heap.size := (Array.getElem?_eq_some_iff.1 hblk).1
  have hH := holdsL hblk hrow
  have h := AnyQ.slices_SortFunc Try.sortFn 2 Try.isAgg78 Try.sizeOf78 encL (fun _ => rfl)
    (fun x v hv => by simp [encL] at hv; rcases hv with rfl | rfl <;> rfl) cf hO g #[] blk off cap d.toArray w eg
    (fun m os dk _ x y => hcl x y _) hH hb (by simpa using (by omega : d.length < 4611686018427387904))
  refine Calls.mono h ?_
  rintro e w' ⟨rfl, d', n, os, hp, hs, rfl⟩
  have hps : d'.size = d.length := by simpa using hp.1
  have hperm : d'.toList.Perm d := by
    have h3 := hp.2.2
    have e1 : d'.extract 0 d.toArray.size = d' := by
      rw [show d.toArray.size = d'.size by simp [hps]]; simp
    have e2 : d.toArray.extract 0 d.toArray.size = d.toArray := by simp
    rw [e1, e2] at h3
    simpa using h3
  have hhb : (sortWorldK encL 2 w blk off n d' os).heap[blk]? = some (.cells (Go.Sort.putCells id off (Go.Sort.flatK encL 2 d') cur) t (0, 0)) := by
    unfold sortWorldK
    rw [Go.Sort.heap_grow_old _ _ (by rw [Go.Sort.size_putRowK]; exact hb)]
    simp [Go.Sort.putRowK, Go.Sort.putRow, Go.Sort.mapBlock, Array.getElem?_modify, Go.Sort.ahead, hblk, Go.Sort.onCells]
  refine ⟨rfl, d'.toList, _, hperm, ?_, hhb, ?_, by simp [Go.Sort.putCells], ?_, ?_⟩
  · rw [List.pairwise_iff_getElem]
    intro i j hi hj hij
    have hj' : j < d'.size := by simpa using hj
    have := hs i j (Nat.zero_le _) hij (by simpa [← hps] using hj)
    rw [getElem!_pos d' i (by omega), getElem!_pos d' j hj'] at this
    simpa [ltOf] using this
  · refine ofHoldsL hhb ?_
    exact holdsK_sortWorldK_c encL 2 w blk off d.toArray d' n os hH hb (by simpa using hps)
  · intro i hi
    simp only [Go.Sort.putCells, Array.getElem?_mapIdx, Go.Sort.size_flatK, hps]
    cases cur[i]? with
    | none => rfl
    | some y =>
      simp only [Option.map_some]
      rw [if_neg (by omega)]
  · refine ⟨rfl, rfl, rfl, ?_, ?_⟩
    · exact size_sortWorldK_c encL 2 w blk off n d' os
    · intro q hq hne
      unfold sortWorldK
      rw [Go.Sort.heap_grow_old _ _ (by rw [Go.Sort.size_putRowK]; exact hq)]
      simp [Go.Sort.putRowK, Go.Sort.putRow, Go.Sort.mapBlock, Array.getElem?_modify, Go.Sort.ahead, Ne.symm hne]

theorem swo_of_int (f : Lit → Int) : Go.Sort.SWO (ltOf fun x y => f x - f y) where
  irrefl x := by simp [ltOf]
  trans x y z h1 h2 := by simp [ltOf] at *; omega
  ntrans x y z h1 h2 := by simp [ltOf] at *; omega

set_option maxHeartbeats 1000000 in
theorem cmpA_any (x y : Lit) (W : World) : Calls Try.prog 76 #[.agg #[.int .u16 ((x.1.val : Nat) : Int), .int .u16 ((x.2.val : Nat) : Int)], .agg #[.int .u16 ((y.1.val : Nat) : Int), .int .u16 ((y.2.val : Nat) : Int)]] W
    fun e w' => e = .returned (.int .i64 (((x.1.val : Nat) : Int) - ((y.1.val : Nat) : Int))) ∧ ∃ q os', w' = Go.Sort.grow (W.drewN q) os' := by
  obtain ⟨⟨x1, hx1⟩, ⟨x2, hx2⟩⟩ := x
  obtain ⟨⟨y1, hy1⟩, ⟨y2, hy2⟩⟩ := y
  dsimp only
  go_enter Try.func76, Try.ntmps76
  go_wp2
  go_ret
  exact ⟨rfl, 0, _, by rw [Go.Sort.alloc_eq_grow, Go.Sort.alloc_eq_grow, Go.Sort.grow_grow]; rfl⟩

theorem sortA_any (blk off cap : Nat) (t : TypeId) (cur : Array Value) (d : List Lit) (w : World) (hblk : w.heap[blk]? = some (.cells cur t (0, 0))) (hrow : LRow cur off d) (hsz : d.length < 1000000) :
    Calls Try.prog 60 #[.slice (some ⟨blk, off, none⟩) d.length cap, .func (.func 76) #[] #[]] w fun e w' => e = .returned (.tuple #[]) ∧ ∃ d' cur', d'.Perm d ∧ d'.Pairwise (fun x y => x.1.val ≤ y.1.val) ∧
      w'.heap[blk]? = some (.cells cur' t (0, 0)) ∧ LRow cur' off d' ∧ cur'.size = cur.size ∧ (∀ i, i < off ∨ off + 2 * d.length ≤ i → cur'[i]? = cur[i]?) ∧ LFr w w' blk := by
  refine (sortL_any 76 _ (swo_of_int fun x => ((x.1.val : Nat) : Int)) (enters_of Try.func76 (by kernel_rfl) rfl) cmpA_any blk off cap t cur d w hblk hrow hsz).mono ?_
  rintro e w' ⟨he, d', cur', h1, h2, h3⟩
  exact ⟨he, d', cur', h1, h2.imp (by intro a b h; omega), h3⟩
end Go.Proofs.Ytgkpdffgahadpaa

/- slices.SortFunc with the closure of generate: by frequency, then by number. -/
import Derived.Test.YtgkpdffgahadpaaPSortL
namespace Go.Proofs.Ytgkpdffgahadpaa
open Go.RowKit Go.Shelf Go.Lib

/-- By frequency, then by number. -/
def keyL (x : Lit) : Int := ((x.2.val : Nat) : Int) * 1024 + ((x.1.val : Nat) : Int)

set_option maxHeartbeats 1000000 in
theorem cmpG_any (x y : Lit) (W : World) : Calls Try.prog 61 #[.agg #[.int .u16 ((x.1.val : Nat) : Int), .int .u16 ((x.2.val : Nat) : Int)], .agg #[.int .u16 ((y.1.val : Nat) : Int), .int .u16 ((y.2.val : Nat) : Int)]] W
    fun e w' => e = .returned (.int .i64 (keyL x - keyL y)) ∧ ∃ q os', w' = Go.Sort.grow (W.drewN q) os' := by
  obtain ⟨⟨x1, hx1⟩, ⟨x2, hx2⟩⟩ := x
  obtain ⟨⟨y1, hy1⟩, ⟨y2, hy2⟩⟩ := y
  unfold keyL
  dsimp only
  go_enter Try.func61, Try.ntmps61
  go_wp2
  go_ret
  exact ⟨rfl, 0, _, by rw [Go.Sort.alloc_eq_grow, Go.Sort.alloc_eq_grow, Go.Sort.grow_grow]; rfl⟩

theorem sortG_any (blk off cap n : Nat) (t : TypeId) (cur : Array Value) (d : List Lit) (w : World) (hn : n = d.length) (hblk : w.heap[blk]? = some (.cells cur t (0, 0))) (hrow : LRow cur off d) (hsz : d.length < 1000000) :
    Calls Try.prog 60 #[.slice (some ⟨blk, off, none⟩) n cap, .func (.func 61) #[] #[]] w fun e w' => e = .returned (.tuple #[]) ∧ ∃ d' cur', d'.Perm d ∧ d'.Pairwise (fun x y => keyL x ≤ keyL y) ∧
      w'.heap[blk]? = some (.cells cur' t (0, 0)) ∧ LRow cur' off d' ∧ cur'.size = cur.size ∧ (∀ i, i < off ∨ off + 2 * d.length ≤ i → cur'[i]? = cur[i]?) ∧ LFr w w' blk := by
  subst hn
  refine (sortL_any 61 _ (swo_of_int keyL) (enters_of Try.func61 (by kernel_rfl) rfl) cmpG_any blk off cap t cur d w hblk hrow hsz).mono ?_
  rintro e w' ⟨he, d', cur', h1, h2, h3⟩
  exact ⟨he, d', cur', h1, h2.imp (by intro a b h; omega), h3⟩
end Go.Proofs.Ytgkpdffgahadpaa

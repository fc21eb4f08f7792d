/- The walk of plain: codes as two lists of numbers. -/
import Derived.Test.YtokbkbchblfcoaaPCodes
namespace Go.Proofs.Ytokbkbchblfcoaa
open Go.RowKit

/-- A slice value that reads as codes. -/
def CRow (w : World) (v : Value) (l : List (Nat × Nat)) : Prop :=
  ∃ a cap, v = .slice a l.length cap ∧ (0 < l.length → ∃ b, a = some ⟨b, 0, none⟩ ∧ b < w.heap.size ∧ ∀ i (h : i < l.length), w.cell? ⟨b, i * 2, none⟩ = some (.int .u16 ((l[i]).1 : Int)) ∧ w.cell? ⟨b, i * 2 + 1, none⟩ = some (.int .u8 ((l[i]).2 : Int)))

theorem CRow.of_owns {w : World} {base n e : Nat} {v : Value} {l : List (Nat × Nat)} (hn : n = l.length) (h : w.ownsRow base e 2 v n (cvs l)) : CRow w v l := by
  subst hn
  rcases h.2 with ⟨rfl, h0⟩ | ⟨g, cap, cur, rfl, hb, hg, h1, h2, h3, h4⟩
  · exact ⟨none, 0, by rw [h0], fun h => absurd h (by omega)⟩
  · refine ⟨_, cap, rfl, fun _ => ⟨g, rfl, (Array.getElem?_eq_some_iff.1 hg).1, fun i hi => ?_⟩⟩
    have hh : w.ownsRow base e 2 (.slice (some ⟨g, 0, none⟩) l.length cap) l.length (cvs l) := ⟨cvs_len l, .inr ⟨g, cap, cur, rfl, hb, hg, h1, h2, h3, h4⟩⟩
    have hc := cvs_get l i hi
    rw [Nat.mul_comm 2 i] at hc
    exact ⟨by rw [hh.cellAt (i * 2) (by omega)]; exact hc.1, by rw [hh.cellAt (i * 2 + 1) (by omega)]; exact hc.2⟩

/-- What one append leaves of another slice of the call's own, and of a new block. -/
theorem two_rows {wr w1 : World} {A : Obj} {B e n m sz sz2 : Nat} {v1 v2 v1' : Value} {xs1 xs2 : List Value} (hO1 : wr.ownsRow B e sz v1 n xs1) (hO2 : wr.ownsRow B e sz2 v2 m xs2)
    (hD : ∀ j, v1.ownBlock = some j → v2.ownBlock ≠ some j) (hgr : (wr.alloc A).grownBy w1 v1.ownBlock) (hfr : ∀ j, v1'.ownBlock = some j → v1.ownBlock = some j ∨ (wr.alloc A).heap.size ≤ j) :
    w1.ownsRow B e sz2 v2 m xs2 ∧ (∀ j, v1'.ownBlock = some j → v2.ownBlock ≠ some j) ∧ (∀ o, w1.cell? ⟨wr.heap.size, o, none⟩ = (wr.alloc A).cell? ⟨wr.heap.size, o, none⟩) ∧ wr.heap.size < w1.heap.size := by
  have hs := hgr.size
  simp at hs
  refine ⟨(hO2.alloc A).kept hgr ?_, ?_, ?_, by omega⟩
  · cases h2 : v2.ownBlock with
    | none => exact .inl rfl
    | some j => exact .inr fun h => hD j h.symm h2
  · intro j hj h2
    rcases hfr j hj with h | h
    · exact hD j h h2
    · have := (hO2.lt j h2).2
      simp at h; omega
  · intro o
    refine World.cell?_of_block (hgr.block _ (by simp) ?_)
    intro h
    have := (hO1.lt _ h.symm).2
    simp at this

theorem one_row {wr w1 : World} {B e n m sz sz2 : Nat} {v1 v2 v1' : Value} {xs1 xs2 : List Value} (hO1 : wr.ownsRow B e sz v1 n xs1) (hO2 : wr.ownsRow B e sz2 v2 m xs2)
    (hD : ∀ j, v2.ownBlock = some j → v1.ownBlock ≠ some j) (hgr : wr.grownBy w1 v1.ownBlock) (hfr : ∀ j, v1'.ownBlock = some j → v1.ownBlock = some j ∨ wr.heap.size ≤ j) :
    w1.ownsRow B e sz2 v2 m xs2 ∧ (∀ j, v2.ownBlock = some j → v1'.ownBlock ≠ some j) := by
  have hs := hgr.size
  have _h := hO1.1
  refine ⟨hO2.kept hgr ?_, ?_⟩
  · cases h2 : v2.ownBlock with
    | none => exact .inl rfl
    | some j => exact .inr fun h => hD j h2 h.symm
  · intro j h2 hj
    rcases hfr j hj with h | h
    · exact hD j h2 h
    · have := (hO2.lt j h2).2
      omega

set_option maxHeartbeats 1000000 in
set_option maxRecDepth 100000 in
theorem plain_any (v : Value) (l : List (Nat × Nat)) (w : World) (hr : CRow w v l) (hlen : l.length < 65536) (h1 : ∀ x ∈ l, x.1 < 65536 ∧ x.2 < 256) :
    Calls Try.prog 30 #[v] w fun e w' => ∃ v1 v2, e = .returned (.tuple #[v1, v2]) ∧ w'.ownsRow w.heap.size 3 1 v1 l.length (nv .i64 (l.map (·.1))) ∧ w'.ownsRow w.heap.size 3 1 v2 l.length (nv .i64 (l.map (·.2))) ∧ Below w.heap.size w w' := by
  obtain ⟨i0, hi, hz0, hz1, hz2⟩ := info_parts info_int
  obtain ⟨a, cap, rfl, hr⟩ := hr
  have hr' := Lib.hid hr
  have H1 := Lib.hid h1
  clear hr h1
  go_enter Try.func30, Try.ntmps30
  go_wp2
  go_loopw [4, 5, 10] (fun v1 v2 i wr => ∃ k : Nat, k ≤ l.length ∧ i = .int .i64 k ∧ wr.ownsRow w.heap.size 3 1 v1 k (nv .i64 ((l.take k).map (·.1))) ∧ wr.ownsRow w.heap.size 3 1 v2 k (nv .i64 ((l.take k).map (·.2))) ∧ (∀ j, v1.ownBlock = some j → v2.ownBlock ≠ some j) ∧ Below w.heap.size w wr) (fun _ _ i _ => l.length - (intOf i).toNat)
  case atStart => exact ⟨0, Nat.zero_le _, rfl, World.ownsRow_nil _ _ _ _, World.ownsRow_nil _ _ _ _, fun j hj => by simp [Value.ownBlock] at hj, Below.refl _ _⟩
  case round =>
    obtain ⟨k, hk, rfl, hown1, hown2, hdis, hbel⟩ := hrel
    by_cases hlt : k < l.length
    · obtain ⟨b, rfl, hbl, hc⟩ := hr'.out (by omega)
      obtain ⟨hc1, hc2⟩ := hc k hlt
      have hck1 : wr.cell? ⟨b, k * 2, none⟩ = _ := (hbel.cell (by exact hbl)).trans hc1
      have hck2 : wr.cell? ⟨b, k * 2 + 1, none⟩ = _ := (hbel.cell (by exact hbl)).trans hc2
      have hx := H1.out _ (List.getElem_mem hlt)
      have HT := Lib.hid (List.take_succ_eq_append_getElem hlt)
      have hsz := hbel.size
      clear hc hc1 hc2 H1 hr'
      generalize l[k] = x at *
      obtain ⟨x1, x2⟩ := x
      obtain ⟨hx1, hx2⟩ := hx
      have HB := Lib.hid hbel
      have HO1 := Lib.hid hown1
      have HO2 := Lib.hid hown2
      have HD := Lib.hid hdis
      clear hbel hown1 hown2 hdis
      dsimp only at hck1 hck2 hx1 hx2
      have hsz' : w.heap.size ≤ (wr.alloc (.cells #[.int .u16 (x1 : Int), .int .u8 (x2 : Int)] 58)).heap.size := by simp; omega
      have hb' := Lib.hid (HB.out.alloc hsz (.cells #[.int .u16 (x1 : Int), .int .u8 (x2 : Int)] 58))
      have HS := Lib.hid (show wr.heap.size + 1 = (wr.alloc (.cells #[.int .u16 (x1 : Int), .int .u8 (x2 : Int)] 58)).heap.size by simp)
      go_wp2_with (first
        | (at_builtin; refine wpList_app1 (wr.alloc (.cells #[.int .u16 (x1 : Int), .int .u8 (x2 : Int)] 58)) w rfl (.tmp 14) (.tmp 18) 26 rfl Try.underlying26 hi hz0 hz1 hz2 (by decide) _ k _ x1 _ rfl (HO1.out.alloc _) (slice_at HS.out) (cell_new _ _ _ _) (by omega) hsz' hb'.out ?_; intro v1' w1 hn1 hbel1 hgr1 hfr1 _; obtain ⟨hO2', hD', hcl, hs1⟩ := two_rows HO1.out HO2.out HD.out hgr1 hfr1; have hcl1 : w1.cell? ⟨wr.heap.size, 1, none⟩ = some (.int .u8 (x2 : Int)) := (hcl 1).trans (cells_new wr [.int .u16 (x1 : Int), .int .u8 (x2 : Int)] _ _ 1 _ rfl); have hN1 := Lib.hid hn1; have hB1 := Lib.hid hbel1; have hO2h := Lib.hid hO2'; have hDh := Lib.hid hD'; have hsw := hbel1.size; clear hn1 hbel1 hgr1 hfr1 hcl hO2' hD' hck1 hck2)
        | (at_builtin; refine wpList_app1 w1 w rfl (.tmp 20) (.tmp 24) 26 rfl Try.underlying26 hi hz0 hz1 hz2 (by decide) _ k _ x2 _ rfl hO2h.out rfl (cell_new _ _ _ _) (by omega) hsw hB1.out ?_; intro v2' w2 hn2 hbel2 hgr2 hfr2 _))
      go_roundw
      case rel =>
        obtain ⟨hk1, hd1⟩ := one_row hO2h.out hN1.out hDh.out hgr2 hfr2
        refine ⟨k + 1, by omega, by go_num, ?_, ?_, hd1, hbel2⟩
        · rw [HT.out, List.map_append]; exact hk1
        · rw [HT.out, List.map_append]; exact hn2
      case measure => simp [intOf]; omega
    · go_wp2
      go_ret2
      have hkl : k = l.length := by omega
      subst hkl
      rw [List.take_length] at hown1 hown2
      exact ⟨_, _, rfl, hown1, hown2, hbel⟩
end Go.Proofs.Ytokbkbchblfcoaa

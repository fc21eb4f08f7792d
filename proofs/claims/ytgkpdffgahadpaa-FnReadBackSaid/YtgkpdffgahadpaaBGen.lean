/- General pieces for the walk of generate: encoders, codes as bits and lengths. -/
import Derived.Test.YtgkpdffgahadpaaPAsg
import Derived.Test.YtgkpdffgahadpaaPBitB
import Derived.Test.YtgkpdffgahadpaaPPlain
import Derived.Test.YtgkpdffgahadpaaPm4
namespace Go.Proofs.Ytgkpdffgahadpaa
open Go.RowKit Go.Shelf Go.Lib

/-- What the thin package hands out of codes. -/
def bitsOf (cs : List Nat) : List Nat := cs.map (· / 256)
def lensOf (cs : List Nat) : List Nat := cs.map (· % 256)
theorem info_lit : (Try.prog.info? 78).map (fun i => (i.zero, i.size, i.bytes)) = some (some (.agg #[.int .u16 0, .int .u16 0]), 2, 4) := by kernel_rfl
theorem encOf {w1 w3 : World} {base hb cb C lb off n : Nat} {cur cl cl' : Array Value} {cs cs3 : List Nat} {t : TypeId} (hE : EncB w1 base hb cb C cur cs) (hfr : AFr w1 w3 cb lb off n cl cl' t) (hlb : lb ≠ hb)
    (hown : w3.ownsRow base 83 1 (.slice (some ⟨cb, 0, none⟩) cs.length C) cs.length (nv .u32 cs3)) (hl : cs3.length = cs.length) : EncB w3 base hb cb C cur cs3 :=
  ⟨hE.ge, by rw [hfr.other hb hE.hb_lt hE.ne.symm hlb.symm]; exact hE.blk, by rw [hl]; exact hE.c0, by rw [hl]; exact hown, hE.ne⟩
theorem AFr.below {w0 w W : World} {B cb blk off n : Nat} {cur cur' : Array Value} {t : TypeId} (h : AFr w W cb blk off n cur cur' t) (h0 : Below B w0 w) (hB : B ≤ w0.heap.size) (hc : B ≤ cb) (hl : B ≤ blk) : Below B w0 W :=
  ⟨h.os.trans h0.os, h.tape.trans h0.tape, h.output.trans h0.output, Nat.le_trans h0.size h.size, fun k hk => by rw [h.other k (by have := h0.size; omega) (by omega) (by omega)]; exact h0.block k hk⟩
theorem heap_set {w : World} {b : Nat} {cl : Array Value} {t : TypeId} (h : w.heap[b]? = some (.cells cl t (0, 0))) (j : Nat) (v : Value) :
    (w.setCell ⟨b, j, none⟩ v).heap[b]? = some (.cells (cl.setIfInBounds j v) t (0, 0)) := by
  rw [Go.Sort.setCell_eq]
  simp [Go.Sort.mapBlock, Array.getElem?_modify, h, Go.Sort.onCells]
theorem EncB.setOther {w : World} {base hb cb cap : Nat} {cur : Array Value} {cs : List Nat} (h : EncB w base hb cb cap cur cs) (q j : Nat) (x : Value) (h1 : q ≠ hb) (h2 : q ≠ cb) : EncB (w.setCell ⟨q, j, none⟩ x) base hb cb cap cur cs :=
  ⟨h.ge, by rw [Below.heap_setCell _ _ _ _ (show hb ≠ q from h1.symm)]; exact h.blk, h.c0, owns_heap h.own (Below.heap_setCell _ _ _ _ (show cb ≠ q from h2.symm)), h.ne⟩
theorem csP_lt (L cs0 : List Nat) (n : Nat) (hn : n ≤ 16) (h0 : ∀ x ∈ cs0, x < 16777216) : ∀ x ∈ csP L cs0 n 0, x < 16777216 := by
  intro x hx
  obtain ⟨s, hs, rfl⟩ := List.mem_map.1 hx
  split
  · rename_i h
    have h1 := PT.turn_lt (canonAt L s) (L.getD s 0)
    have h2 : 2 ^ L.getD s 0 ≤ 2 ^ 15 := Nat.pow_le_pow_right (by omega) (by omega)
    unfold hval
    omega
  · exact h0 _ (getD_mem _ _ (by simpa using hs))
theorem info_i32c : (Try.prog.info? 21).map (fun i => (i.zero, i.size, i.bytes)) = some (some (.int .i32 0), 1, 4) := by kernel_rfl
theorem codes_ok (cs : List Nat) (h : ∀ x ∈ cs, x < 16777216) : ∀ x ∈ cs.map codeOf, x.1 < 65536 ∧ x.2 < 256 := by
  intro x hx
  obtain ⟨y, hy, rfl⟩ := List.mem_map.1 hx
  have := h y hy
  exact ⟨by unfold codeOf; dsimp only; omega, by unfold codeOf; dsimp only; omega⟩
theorem BFr.below {w0 w W : World} {B hb lb off n : Nat} {cur cur' : Array Value} {t : TypeId} (h : BFr w W hb lb off n cur cur' t) (h0 : Below B w0 w) (hB : B ≤ w0.heap.size) (h1 : B ≤ hb) (h2 : B ≤ lb) : Below B w0 W :=
  ⟨h.os.trans h0.os, h.tape.trans h0.tape, h.output.trans h0.output, Nat.le_trans h0.size h.size, fun q hq => by rw [h.other q (by have := h0.size; omega) (by omega) (by omega)]; exact h0.block q hq⟩
theorem zh_size : Try.zeroCells81.size = 592 := by kernel_rfl
theorem zh_one : Try.zeroCells81[1]? = some (.int .i32 0) := by kernel_rfl
theorem zc_size (cb n C : Nat) (cur : Array Value) (h : ZC cur cb n C) : cur.size = 592 ∧ cur[1]? = some (.int .i32 0) := by
  unfold ZC at h
  have hs := zh_size
  have ho := zh_one
  generalize Try.zeroCells81 = z at *
  rw [h]
  exact ⟨by rw [Array.size_setIfInBounds]; exact hs, by rw [Array.getElem?_setIfInBounds, if_neg (by omega)]; exact ho⟩
end Go.Proofs.Ytgkpdffgahadpaa

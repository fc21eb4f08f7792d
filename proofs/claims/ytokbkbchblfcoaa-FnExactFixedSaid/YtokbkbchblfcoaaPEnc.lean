/- The walk of newHuffmanEncoder. -/
import Derived.Test.YtokbkbchblfcoaaSort
namespace Go.Proofs.Ytokbkbchblfcoaa
open Go.RowKit

theorem info_hcode : (Try.prog.info? 81).map (fun i => (i.zero, i.size, i.bytes)) = some (some (.int .u32 0), 1, 4) := by kernel_rfl

theorem bitLen_fits : ∀ i : Fin 1001, i.val ≤ 2 ^ Lib.bitLen (i.val - 1) ∧ Lib.bitLen (i.val - 1) ≤ 10 := by decide +kernel

/-- An encoder: its block, its codes in a block of their own. -/
structure EncB (w : World) (base hb cb cap : Nat) (cur : Array Value) (cs : List Nat) : Prop where
  ge : base ≤ hb
  blk : w.heap[hb]? = some (.cells cur 79 (0, 0))
  c0 : cur[0]? = some (.slice (some ⟨cb, 0, none⟩) cs.length cap)
  own : w.ownsRow base 81 1 (.slice (some ⟨cb, 0, none⟩) cs.length cap) cs.length (nv .u32 cs)
  ne : cb ≠ hb

theorem EncB.cell {w : World} {base hb cb cap : Nat} {cur : Array Value} {cs : List Nat} (h : EncB w base hb cb cap cur cs) : w.cell? ⟨hb, 0, none⟩ = some (.slice (some ⟨cb, 0, none⟩) cs.length cap) := by
  simp [World.cell?, h.blk, h.c0]
theorem EncB.cb_lt {w : World} {base hb cb cap : Nat} {cur : Array Value} {cs : List Nat} (h : EncB w base hb cb cap cur cs) : base ≤ cb ∧ cb < w.heap.size := h.own.lt cb rfl
theorem EncB.hb_lt {w : World} {base hb cb cap : Nat} {cur : Array Value} {cs : List Nat} (h : EncB w base hb cb cap cur cs) : hb < w.heap.size := (Array.getElem?_eq_some_iff.1 h.blk).1
theorem EncB.below {w w' : World} {base hb cb cap : Nat} {cur : Array Value} {cs : List Nat} (h : EncB w base hb cb cap cur cs) (hb' : Below w.heap.size w w') : EncB w' base hb cb cap cur cs :=
  ⟨h.ge, by rw [hb'.block hb h.hb_lt]; exact h.blk, h.c0, owns_below h.own hb', h.ne⟩
theorem EncB.mono {w : World} {base base' hb cb cap : Nat} {cur : Array Value} {cs : List Nat} (h : EncB w base hb cb cap cur cs) (hb' : base' ≤ base) : EncB w base' hb cb cap cur cs :=
  ⟨Nat.le_trans hb' h.ge, h.blk, h.c0, owns_mono h.own hb', h.ne⟩
/-- A code stored. -/
theorem EncB.set {w : World} {base hb cb cap : Nat} {cur : Array Value} {cs : List Nat} (h : EncB w base hb cb cap cur cs) (j x : Nat) :
    EncB (w.setCell ⟨cb, j, none⟩ (.int .u32 (x : Int))) base hb cb cap cur (cs.set j x) := by
  refine ⟨h.ge, ?_, ?_, ?_, h.ne⟩
  · rw [Below.heap_setCell _ _ _ _ (show hb ≠ cb from fun e => h.ne e.symm)]; exact h.blk
  · rw [List.length_set]; exact h.c0
  · rw [List.length_set]; exact owns_set h.own j x

set_option maxHeartbeats 400000 in
theorem newEnc_any (n : Nat) (h1 : 1 ≤ n) (h2 : n ≤ 1000) (w : World) :
    Calls Try.prog 51 #[.int .i64 n] w fun e w' => ∃ C, e = .returned (.pointer (some ⟨w.heap.size + 1, 0, none⟩)) ∧
      EncB w' w.heap.size (w.heap.size + 1) w.heap.size C (Try.zeroCells79.setIfInBounds 0 (.slice (some ⟨w.heap.size, 0, none⟩) n C)) (List.replicate n 0) ∧ Below w.heap.size w w' := by
  obtain ⟨i0, hi, hz0, hz1, hz2⟩ := info_parts info_hcode
  obtain ⟨c, hc⟩ : ∃ c, c = Lib.bitLen (n - 1) := ⟨_, rfl⟩
  have hf := bitLen_fits ⟨n, by omega⟩
  have hl : ∀ w, Calls Try.prog 61 #[.int .u32 ((n : Int) - 1)] w fun e w' => e = .returned (.int .i64 c) ∧ w' = w := by
    intro w
    have h := Try.bits_Len32 ((n : Int) - 1) w (by omega) (by omega)
    have e : ((n : Int) - 1).toNat = n - 1 := by omega
    rw [e, ← hc] at h
    exact h
  have hc10 : c ≤ 10 := by rw [hc]; exact hf.2
  have hnc : n ≤ 2 ^ c := by rw [hc]; exact hf.1
  have hC1 : 2 ^ c ≤ 1024 := Nat.le_trans (Nat.pow_le_pow_right (by omega) hc10) (by decide)
  clear hc hf
  obtain ⟨C, hC⟩ : ∃ C, C = 2 ^ c := ⟨_, rfl⟩
  have hw : wrap64 (2 ^ c) = (C : Int) := by
    have e : ((2 : Int) ^ c) = ((2 ^ c : Nat) : Int) := by simp
    rw [e, ← hC]; exact IntWalk.wrap64_in _ (by omega)
  rw [← hC] at hnc hC1
  clear hC
  have hmk : ∀ w, (Instr.makeSlice 75 (.int .i64 n) (.int .i64 C)).run Try.prog w = .ok (.slice (some ⟨w.heap.size, 0, none⟩) n C) (w.alloc (.cells (madeCells #[.int .u32 0] C) 81)) := by
    intro w
    have h := run_make (P := Try.prog) w 75 81 i0 (.int .u32 0) Try.underlying75 hi hz0 .i64 .i64 n C (by omega) (by omega) (by rw [hz2]; omega) (by omega)
    rw [hz1] at h
    simpa [Value.cells] using h
  go_enter Try.func51, Try.ntmps51
  go_wp2_with (go_at_call 61; refine (hl _).mono ?_; rintro e w' ⟨rfl, rfl⟩)
  go_ret
  refine ⟨C, rfl, ?_, ((Below.refl _ _).alloc (Nat.le_refl _) _).alloc (by simp) _⟩
  refine ⟨by omega, ?_, ?_, ?_, by omega⟩
  · have h := heap_alloc_new (w'.alloc (.cells (madeCells #[.int .u32 0] C) 81)) (.cells (Try.zeroCells79.setIfInBounds 0 (.slice (some ⟨w'.heap.size, 0, none⟩) n C)) 79)
    simpa using h
  · rw [List.length_replicate]; kernel_rfl
  · rw [List.length_replicate]
    refine World.ownsRow.alloc ?_ _
    refine ⟨by rw [nv_len]; simp, .inr ⟨w'.heap.size, C, _, rfl, Nat.le_refl _, heap_alloc_new _ _, hnc, by unfold maxLen; omega, by rw [size_madeCells]; omega, ?_⟩⟩
    rw [toList_madeCells_one]
    simp [nv, List.take_replicate, Nat.min_eq_left hnc]
/-- A new encoder's block: zeros but for the codes. -/
def ZC (cur : Array Value) (cb n cap : Nat) : Prop := cur = Try.zeroCells79.setIfInBounds 0 (.slice (some ⟨cb, 0, none⟩) n cap)

theorem newEnc2_any (n : Nat) (h1 : 1 ≤ n) (h2 : n ≤ 1000) (w : World) :
    Calls Try.prog 51 #[.int .i64 n] w fun e w' => ∃ hb cb C cur, e = .returned (.pointer (some ⟨hb, 0, none⟩)) ∧
      EncB w' w.heap.size hb cb C cur (List.replicate n 0) ∧ Below w.heap.size w w' ∧ ZC cur cb n C :=
  (newEnc_any n h1 h2 w).mono fun _ _ ⟨C, he, hE, hb⟩ => ⟨_, _, C, _, he, hE, hb, rfl⟩
end Go.Proofs.Ytokbkbchblfcoaa

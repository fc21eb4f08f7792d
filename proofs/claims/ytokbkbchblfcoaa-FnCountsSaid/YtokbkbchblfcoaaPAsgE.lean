/- The walk of the package's and the thin package's Assign. -/
import Derived.Test.YtokbkbchblfcoaaPAsg
import Derived.Test.YtokbkbchblfcoaaPFixOff
import Derived.Test.YtokbkbchblfcoaaPLen
namespace Go.Proofs.Ytokbkbchblfcoaa
open Go.RowKit Go.Shelf Go.Lib

/-- The literals of an order, as Assign lays them. -/
def litOf (ord : List Nat) : List Lit := (List.range ord.length).map fun i => (⟨ord.getD i 0 % 65536, Nat.mod_lt _ (by omega)⟩, ⟨(i + 1) % 65536, Nat.mod_lt _ (by omega)⟩)
theorem litOf_len (ord : List Nat) : (litOf ord).length = ord.length := by simp [litOf]
theorem litOf_get (ord : List Nat) (i : Nat) (h : i < ord.length) : (litOf ord)[i]? = some (⟨ord.getD i 0 % 65536, Nat.mod_lt _ (by omega)⟩, ⟨(i + 1) % 65536, Nat.mod_lt _ (by omega)⟩) := by
  simp [litOf, h]
theorem info_lit : (Try.prog.info? 67).map (fun i => (i.zero, i.size, i.bytes)) = some (some (.agg #[.int .u16 0, .int .u16 0]), 2, 4) := by kernel_rfl

theorem encOf {w1 w3 : World} {base hb cb C lb off n : Nat} {cur cl cl' : Array Value} {cs cs3 : List Nat} {t : TypeId} (hE : EncB w1 base hb cb C cur cs) (hfr : AFr w1 w3 cb lb off n cl cl' t) (hlb : lb ≠ hb)
    (hown : w3.ownsRow base 81 1 (.slice (some ⟨cb, 0, none⟩) cs.length C) cs.length (nv .u32 cs3)) (hl : cs3.length = cs.length) : EncB w3 base hb cb C cur cs3 :=
  ⟨hE.ge, by rw [hfr.other hb hE.hb_lt hE.ne.symm hlb.symm]; exact hE.blk, by rw [hl]; exact hE.c0, by rw [hl]; exact hown, hE.ne⟩
theorem AFr.below {w0 w W : World} {B cb blk off n : Nat} {cur cur' : Array Value} {t : TypeId} (h : AFr w W cb blk off n cur cur' t) (h0 : Below B w0 w) (hB : B ≤ w0.heap.size) (hc : B ≤ cb) (hl : B ≤ blk) : Below B w0 W :=
  ⟨h.os.trans h0.os, h.tape.trans h0.tape, h.output.trans h0.output, Nat.le_trans h0.size h.size, fun k hk => by rw [h.other k (by have := h0.size; omega) (by omega) (by omega)]; exact h0.block k hk⟩
theorem heap_set {w : World} {b : Nat} {cl : Array Value} {t : TypeId} (h : w.heap[b]? = some (.cells cl t (0, 0))) (j : Nat) (v : Value) :
    (w.setCell ⟨b, j, none⟩ v).heap[b]? = some (.cells (cl.setIfInBounds j v) t (0, 0)) := by
  rw [Go.Sort.setCell_eq]
  simp [Go.Sort.mapBlock, Array.getElem?_modify, h, Go.Sort.onCells]
theorem EncB.setOther {w : World} {base hb cb cap : Nat} {cur : Array Value} {cs : List Nat} (h : EncB w base hb cb cap cur cs) (q j : Nat) (x : Value) (h1 : q ≠ hb) (h2 : q ≠ cb) : EncB (w.setCell ⟨q, j, none⟩ x) base hb cb cap cur cs :=
  ⟨h.ge, by rw [Below.heap_setCell _ _ _ _ (show hb ≠ q from h1.symm)]; exact h.blk, h.c0, owns_heap h.own (Below.heap_setCell _ _ _ _ (show cb ≠ q from h2.symm)), h.ne⟩
theorem LRow.put {cl : Array Value} {d : List Lit} {i : Nat} {x : Lit} (h : LRow cl 0 (d.take i)) (hx : d[i]? = some x) (hs : i * 2 + 1 < cl.size) :
    LRow ((cl.setIfInBounds (i * 2) (.int .u16 ((x.1.val : Nat) : Int))).setIfInBounds (i * 2 + 1) (.int .u16 ((x.2.val : Nat) : Int))) 0 (d.take (i + 1)) := by
  intro j y hy
  rw [List.getElem?_take] at hy
  split at hy
  · rename_i hj
    simp only [Nat.zero_add, Array.getElem?_setIfInBounds, Array.size_setIfInBounds]
    by_cases hji : j = i
    · subst hji
      rw [hx] at hy
      cases hy
      refine ⟨?_, ?_⟩
      · rw [if_neg (by omega), if_pos rfl, if_pos (by omega)]
      · rw [if_pos rfl, if_pos (by omega)]
    · have h2 := h j y (by rw [List.getElem?_take, if_pos (by omega)]; exact hy)
      rw [Nat.zero_add] at h2
      refine ⟨?_, ?_⟩
      · rw [if_neg (by omega), if_neg (by omega)]; exact h2.1
      · rw [if_neg (by omega), if_neg (by omega)]; exact h2.2
  · cases hy
theorem csP_lt (L cs0 : List Nat) (n : Nat) (hn : n ≤ 16) (h0 : ∀ x ∈ cs0, x < 16777216) : ∀ x ∈ csP L cs0 n 0, x < 16777216 := by
  intro x hx
  obtain ⟨s, hs, rfl⟩ := List.mem_map.1 hx
  split
  · rename_i h
    have h1 := PT.turn_lt (canonAt L s) (L.getD s 0)
    have h2 : 2 ^ L.getD s 0 ≤ 2 ^ 15 := Nat.pow_le_pow_right (by omega) (by omega)
    unfold hval
    omega
  · exact h0 _ (getD_mem _ _ (by simpa using hs))

set_option maxHeartbeats 2000000 in
set_option maxRecDepth 100000 in
theorem pAssign_any (vc vo : Value) (cnt ord L : List Nat) (size : Nat) (w : World) (hc : NRow .i32 w vc cnt) (ho : NRow .u16 w vo ord) (h1 : 1 ≤ size) (h2 : size ≤ 1000) (hol : ord.length ≤ 1000)
    (h16 : ∀ x ∈ ord, x < 65536) (hL : L.length = size) (hF : Fits cnt (litOf ord) L) :
    Calls Try.prog 36 #[vc, vo, .int .i64 size] w fun e w' => ∃ v, e = .returned v ∧ w'.ownsRow w.heap.size 58 2 v size (cvs ((csP L (List.replicate size 0) cnt.length 0).map codeOf)) ∧ Below w.heap.size w w' := by
  obtain ⟨i0, hi, hz0, hz1, hz2⟩ := info_parts info_lit
  have hmk : ∀ (n : Nat) (w : World), n ≤ 1000 → (Instr.makeSlice 65 (.int .i64 n) (.int .i64 n)).run Try.prog w = .ok (.slice (some ⟨w.heap.size, 0, none⟩) n n) (w.alloc (.cells (madeCells #[.int .u16 0, .int .u16 0] (n * 2)) 67)) := by
    intro n w hn
    have h := run_make (P := Try.prog) w 65 67 i0 (.agg #[.int .u16 0, .int .u16 0]) Try.underlying65 hi hz0 .i64 .i64 n n (by omega) (by omega) (by rw [hz2]; omega) (by omega)
    rw [hz1] at h
    simpa [Value.cells] using h
  have hmk2 := fun w => hmk ord.length w hol
  have hnc := hc
  obtain ⟨ao, capo, rfl, hn2, ho⟩ := ho
  have HO := Lib.hid ho
  have HC := Lib.hid hc
  have HF := Lib.hid hF
  have H16 := Lib.hid h16
  clear ho hc hF h16 hmk hn2 hi hz0 hz1 hz2
  go_enter Try.func36, Try.ntmps36
  go_wp2_with (go_at_call 51; refine (newEnc2_any size h1 h2 _).mono ?_; rintro e w1 ⟨hb, cb, C, cur, rfl, hE0, hbel0, _⟩; have HE0 := Lib.hid hE0; have HB0 := Lib.hid hbel0; clear hE0 hbel0)
  have hlb := HB0.out.size
  have hE1 := HE0.out.below (w' := w1.alloc (.cells (madeCells #[Value.int IntKind.u16 0, Value.int IntKind.u16 0] (ord.length * 2)) 67)) ((Below.refl _ _).alloc (Nat.le_refl _) _)
  have HE1 := Lib.hid hE1
  have HB1 : Hid (Below w.heap.size w (w1.alloc (.cells (madeCells #[Value.int IntKind.u16 0, Value.int IntKind.u16 0] (ord.length * 2)) 67))) := HB0.out.alloc hlb _
  have HN1 : Hid ((w1.alloc (.cells (madeCells #[Value.int IntKind.u16 0, Value.int IntKind.u16 0] (ord.length * 2)) 67)).heap[w1.heap.size]? = some (.cells (madeCells #[Value.int IntKind.u16 0, Value.int IntKind.u16 0] (ord.length * 2)) 67 (0, 0))) := heap_alloc_new _ _
  have hcbl := HE0.out.cb_lt.2
  have hhbl := HE0.out.hb_lt
  clear hE1 hmk2 HE0 HB0
  generalize hlbv : w1.heap.size = lb at *
  go_loopw [9, 10, 18] (fun _ _ ii wr => ∃ (i : Nat) (cl : Array Value), i ≤ ord.length ∧ ii = .int .i64 i ∧ wr.heap[lb]? = some (.cells cl 67 (0, 0)) ∧ cl.size = ord.length * 2 ∧ LRow cl 0 ((litOf ord).take i) ∧
    EncB wr w.heap.size hb cb C cur (List.replicate size 0) ∧ Below w.heap.size w wr) (fun _ _ ii _ => ord.length - (intOf ii).toNat)
  case atStart => exact ⟨0, _, Nat.zero_le _, rfl, HN1.out, size_madeCells _ _, by intro j x hx; simp at hx, HE1.out, HB1.out⟩
  case round =>
    obtain ⟨i, cl, hi, rfl, hcl, hcs, hlr, hE, hbel⟩ := hrel
    clear HE1 HB1 HN1
    by_cases hlt : i < ord.length
    · obtain ⟨b, o, rfl, hbl, hcc⟩ := HO.out (by omega)
      have hck : wr.cell? ⟨b, o + i, none⟩ = _ := (hbel.cell (by exact hbl)).trans (hcc i hlt)
      have hx16 := H16.out _ (getD_mem ord i hlt)
      obtain ⟨y1, hs1⟩ : ∃ y, wr.cell? ⟨lb, i * 2, none⟩ = some y := ⟨cl[i * 2]'(by omega), by simp [World.cell?, hcl, show i * 2 < cl.size by omega]⟩
      obtain ⟨y2, hs2⟩ : ∃ y, wr.cell? ⟨lb, i * 2 + 1, none⟩ = some y := ⟨cl[i * 2 + 1]'(by omega), by simp [World.cell?, hcl, show i * 2 + 1 < cl.size by omega]⟩
      have hf1 : wr.frozen? ⟨lb, i * 2, none⟩ = false := by simp [World.frozen?, hcl]
      have hf2 : wr.frozen? ⟨lb, i * 2 + 1, none⟩ = false := by simp [World.frozen?, hcl]
      have hwi : IntKind.u16.wrap ((i : Int) + 1) = (i : Int) + 1 := by simp [IntKind.wrap, IntKind.bits, IntKind.signed]; omega
      have HLR := Lib.hid hlr
      have HE := Lib.hid hE
      have HB := Lib.hid hbel
      have HCL := Lib.hid hcl
      have HCS := Lib.hid hcs
      clear hlr hE hbel hcl hcs hcc
      generalize hxv : ord.getD i 0 = x at *
      have HXV := Lib.hid hxv
      clear hxv
      go_wp2
      go_roundw
      case rel =>
        have hxi := litOf_get ord i hlt
        have hsz : i * 2 + 1 < cl.size := by have := HCS.out; omega
        have hput := HLR.out.put hxi hsz
        have ex : ord.getD i 0 % 65536 = x := by rw [HXV.out]; omega
        have ei : (i + 1) % 65536 = i + 1 := by omega
        dsimp only at hput
        rw [ex, ei] at hput
        refine ⟨i + 1, _, by omega, by go_num, heap_set (heap_set HCL.out (i * 2) _) (i * 2 + 1) _, by simpa using HCS.out, ?_, (HE.out.setOther lb _ _ (by omega) (by omega)).setOther lb _ _ (by omega) (by omega), (HB.out.setCell hlb _).setCell hlb _⟩
        have e3 : ((i + 1 : Nat) : Int) = (i : Int) + 1 := by push_cast; rfl
        rw [e3] at hput
        exact hput
      case measure => simp [intOf]; omega
    · have hil : i = ord.length := by omega
      subst hil
      rw [List.take_of_length_le (by rw [litOf_len]; exact Nat.le_refl _)] at hlr
      have hlen0 : (List.replicate size 0).length = size := List.length_replicate
      have hA := assign_any w.heap.size hb cb C (List.replicate size 0) wr hE.cell hE.own hE.ne.symm hE.hb_lt lb 0 ord.length 67 cl (litOf ord) hcl hlr (by omega) (.inl (by omega)) vc cnt (hnc.below hbel)
        (by
          intro h0 b o n cp hv
          obtain ⟨a, c2, hv2, _, hr⟩ := hnc
          obtain ⟨b', o', rfl, hb', _⟩ := hr h0
          rw [hv] at hv2
          cases hv2
          have h9 := hE.cb_lt.1
          exact ⟨by omega, .inl (by omega)⟩) L (by rw [hL, hlen0]) (by rw [litOf_len]; omega) (by rw [litOf_len]; exact Nat.le_refl _) (by omega) HF.out
      rw [litOf_len, hlen0] at hA
      have HA := Lib.hid hA
      have HE := Lib.hid hE
      have HB := Lib.hid hbel
      have HCN := Lib.hid hnc
      clear hA hE hbel hnc hlr hcl hcs hlen0
      go_wp2_with (first
        | (go_at_call 52; refine HA.out.mono ?_; rintro e w3 ⟨rfl, cur3, hfr, hown3⟩; have HFR := Lib.hid hfr; have HO3 := Lib.hid hown3; clear hfr hown3)
        | (go_at_call 45; refine (codesOf_any (csP L (List.replicate size 0) cnt.length 0) w3 (encOf HE.out HFR.out (by omega) (by simpa using HO3.out) (by rw [csP_len])) (by rw [csP_len]; simp; omega) (csP_lt _ _ _ HF.out.cl (by simp))).mono ?_; rintro e w4 ⟨v, rfl, hown4, hbel4⟩; have HO4 := Lib.hid hown4; have HB4 := Lib.hid hbel4; clear hown4 hbel4))
      go_ret
      have hB3 := HFR.out.below HB.out (Nat.le_refl _) HE.out.cb_lt.1 hlb
      have h9 := HO4.out
      rw [csP_len, List.length_replicate] at h9
      exact ⟨v, rfl, owns_mono h9 hB3.size, hB3.trans (HB4.out.mono hB3.size)⟩
end Go.Proofs.Ytokbkbchblfcoaa

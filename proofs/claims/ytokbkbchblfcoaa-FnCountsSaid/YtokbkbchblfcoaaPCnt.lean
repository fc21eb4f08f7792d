/- The walk of the package's BitCounts. -/
import Derived.Test.YtokbkbchblfcoaaPBitB
import Derived.Test.YtokbkbchblfcoaaPm4
import Derived.Test.YtokbkbchblfcoaaPAsgI
namespace Go.Proofs.Ytokbkbchblfcoaa
open Go.RowKit

theorem BFr.below {w0 w W : World} {B hb lb off n : Nat} {cur cur' : Array Value} {t : TypeId} (h : BFr w W hb lb off n cur cur' t) (h0 : Below B w0 w) (hB : B ≤ w0.heap.size) (h1 : B ≤ hb) (h2 : B ≤ lb) : Below B w0 W :=
  ⟨h.os.trans h0.os, h.tape.trans h0.tape, h.output.trans h0.output, Nat.le_trans h0.size h.size, fun q hq => by rw [h.other q (by have := h0.size; omega) (by omega) (by omega)]; exact h0.block q hq⟩
theorem zh_size : Try.zeroCells79.size = 592 := by kernel_rfl
theorem zh_one : Try.zeroCells79[1]? = some (.int .i32 0) := by kernel_rfl
theorem zc_size (cb n C : Nat) (cur : Array Value) (h : ZC cur cb n C) : cur.size = 592 ∧ cur[1]? = some (.int .i32 0) := by
  unfold ZC at h
  have hs := zh_size
  have ho := zh_one
  generalize Try.zeroCells79 = z at *
  rw [h]
  exact ⟨by rw [Array.size_setIfInBounds]; exact hs, by rw [Array.getElem?_setIfInBounds, if_neg (by omega)]; exact ho⟩

/-- The list's first i nodes. -/
def NodesA (cl : Array Value) (f : List Nat) (i : Nat) : Prop := ∀ j, j < i → cl[j * 2]? = some (.int .u16 ((j : Nat) : Int)) ∧ cl[j * 2 + 1]? = some (.int .u16 ((f.getD j 0 : Nat) : Int))
theorem NodesA.put {cl : Array Value} {f : List Nat} {i : Nat} (h : NodesA cl f i) (hs : i * 2 + 1 < cl.size) :
    NodesA ((cl.setIfInBounds (i * 2) (.int .u16 ((i : Nat) : Int))).setIfInBounds (i * 2 + 1) (.int .u16 ((f.getD i 0 : Nat) : Int))) f (i + 1) := by
  intro j hj
  simp only [Array.getElem?_setIfInBounds, Array.size_setIfInBounds]
  by_cases e : j = i
  · subst e
    exact ⟨by rw [if_neg (by omega), if_pos rfl, if_pos (by omega)], by rw [if_pos rfl, if_pos (by omega)]⟩
  · obtain ⟨h1, h2⟩ := h j (by omega)
    exact ⟨by rw [if_neg (by omega), if_neg (by omega)]; exact h1, by rw [if_neg (by omega), if_neg (by omega)]; exact h2⟩

set_option maxHeartbeats 2000000 in
set_option maxRecDepth 100000 in
theorem pCnt_any (v : Value) (f : List Nat) (mb : Nat) (w : World) (hr : NRow .u16 w v f) (hF : PM.Freqs f (min mb (f.length - 1))) (h1 : 1 ≤ mb) (h15 : mb ≤ 15) :
    Calls Try.prog 39 #[v, .int .i64 mb] w fun e w' => ∃ v', e = .returned v' ∧ w'.ownsRow w.heap.size 21 1 v' (min mb (f.length - 1) + 1) (nv .i32 (PM.bcl f (min mb (f.length - 1)))) ∧ Below w.heap.size w w' := by
  obtain ⟨i0, hi, hz0, hz1, hz2⟩ := info_parts info_lit
  obtain ⟨i1, gi, gz0, gz1, gz2⟩ := info_parts info_i32c
  have hfew := hF.few
  have h3 := hF.three
  obtain ⟨L, hL⟩ : ∃ L, L = min mb (f.length - 1) := ⟨_, rfl⟩
  rw [← hL] at hF ⊢
  obtain ⟨n, hn⟩ : ∃ n, n = f.length := ⟨_, rfl⟩
  rw [← hn] at hfew h3 hL
  have hmk : ∀ (w : World), (Instr.makeSlice 65 (.int .i64 n) (.int .i64 ((n : Int) + 1))).run Try.prog w = .ok (.slice (some ⟨w.heap.size, 0, none⟩) n (n + 1)) (w.alloc (.cells (madeCells #[.int .u16 0, .int .u16 0] ((n + 1) * 2)) 67)) := by
    intro w
    have h := run_make (P := Try.prog) w 65 67 i0 (.agg #[.int .u16 0, .int .u16 0]) Try.underlying65 hi hz0 .i64 .i64 n (n + 1 : Nat) (by omega) (by omega) (by rw [hz2]; omega) (by omega)
    rw [hz1] at h
    simpa [Value.cells] using h
  have hnr := hr
  obtain ⟨ao, capo, rfl, hn2, ho⟩ := hr
  have HO := Lib.hid ho
  have HNR := Lib.hid hnr
  have HF := Lib.hid hF
  have HL := Lib.hid hL
  have HN := Lib.hid hn
  clear ho hn2 hi hz0 hz1 hz2 hnr hF hL
  rw [← hn]
  clear hn
  go_enter Try.func39, Try.ntmps39
  go_wp2_with (go_at_call 51; refine (newEnc2_any n (by omega) (by omega) _).mono ?_; rintro e w1 ⟨hb, cb, C, cur, rfl, hE0, hbel0, hzc⟩; have HE0 := Lib.hid hE0; have HB0 := Lib.hid hbel0; have HZ := Lib.hid (zc_size _ _ _ _ hzc); clear hE0 hbel0 hzc)
  have hlb := HB0.out.size
  have HE1 : Hid (EncB (w1.alloc (.cells (madeCells #[.int .u16 0, .int .u16 0] ((n + 1) * 2)) 67)) w.heap.size hb cb C cur (List.replicate n 0)) := HE0.out.below ((Below.refl _ _).alloc (Nat.le_refl _) _)
  have HB1 : Hid (Below w.heap.size w (w1.alloc (.cells (madeCells #[.int .u16 0, .int .u16 0] ((n + 1) * 2)) 67))) := HB0.out.alloc hlb _
  have HN1 : Hid ((w1.alloc (.cells (madeCells #[.int .u16 0, .int .u16 0] ((n + 1) * 2)) 67)).heap[w1.heap.size]? = some (.cells (madeCells #[.int .u16 0, .int .u16 0] ((n + 1) * 2)) 67 (0, 0))) := heap_alloc_new _ _
  have hcbl := HE0.out.cb_lt.2
  have hhbl := HE0.out.hb_lt
  clear hmk HE0 HB0
  generalize hlbv : w1.heap.size = lb at *
  go_loopw [7, 8, 20] (fun _ _ ii wr => ∃ (i : Nat) (cl : Array Value), i ≤ n ∧ ii = .int .i64 i ∧ wr.heap[lb]? = some (.cells cl 67 (0, 0)) ∧ cl.size = (n + 1) * 2 ∧ NodesA cl f i ∧
    EncB wr w.heap.size hb cb C cur (List.replicate n 0) ∧ Below w.heap.size w wr) (fun _ _ ii _ => n - (intOf ii).toNat)
  case atStart => exact ⟨0, _, Nat.zero_le _, rfl, HN1.out, size_madeCells _ _, fun j hj => by omega, HE1.out, HB1.out⟩
  case round =>
    obtain ⟨i, cl, hi, rfl, hcl, hcs, hlr, hE, hbel⟩ := hrel
    clear HE1 HB1 HN1
    by_cases hlt : i < n
    · obtain ⟨b, o, rfl, hbl, hcc⟩ := HO.out (by have := HN.out; omega)
      have hck : wr.cell? ⟨b, o + i, none⟩ = _ := (hbel.cell (by exact hbl)).trans (hcc i (by have := HN.out; omega))
      have hx16 : f.getD i 0 ≤ 65535 := PM.leaf_lt HF.out i
      obtain ⟨y1, hs1⟩ : ∃ y, wr.cell? ⟨lb, i * 2, none⟩ = some y := ⟨cl[i * 2]'(by omega), by simp [World.cell?, hcl, show i * 2 < cl.size by omega]⟩
      obtain ⟨y2, hs2⟩ : ∃ y, wr.cell? ⟨lb, i * 2 + 1, none⟩ = some y := ⟨cl[i * 2 + 1]'(by omega), by simp [World.cell?, hcl, show i * 2 + 1 < cl.size by omega]⟩
      have hf1 : wr.frozen? ⟨lb, i * 2, none⟩ = false := by simp [World.frozen?, hcl]
      have hf2 : wr.frozen? ⟨lb, i * 2 + 1, none⟩ = false := by simp [World.frozen?, hcl]
      have hwi : IntKind.u16.wrap (i : Int) = (i : Int) := by simp [IntKind.wrap, IntKind.bits, IntKind.signed]; omega
      have HLR := Lib.hid (hlr.put (show i * 2 + 1 < cl.size by omega))
      have HE := Lib.hid hE
      have HB := Lib.hid hbel
      have HCL := Lib.hid hcl
      have HCS := Lib.hid hcs
      have HX := Lib.hid hx16
      clear hlr hE hbel hcl hcs hcc hx16
      generalize f.getD i 0 = x at *
      go_wp2
      go_roundw
      case rel =>
        exact ⟨i + 1, _, by omega, by go_num, heap_set (heap_set HCL.out (i * 2) _) (i * 2 + 1) _, by simpa using HCS.out, HLR.out, (HE.out.setOther lb _ _ (by omega) (by omega)).setOther lb _ _ (by omega) (by omega), (HB.out.setCell hlb _).setCell hlb _⟩
      case measure => simp [intOf]; omega
    · have hin : i = n := by omega
      subst hin
      have hwm : IntKind.i32.wrap (mb : Int) = (mb : Int) := by simp [IntKind.wrap, IntKind.bits, IntKind.signed]; omega
      have hBC := bitCounts_any hb lb 0 i (i + 1) mb L f (fun j => j) wr 79 cur HN.out HF.out h15 h1 HL.out (Nat.le_refl _) (fun j hj => by omega)
        (fun j hj => by
          obtain ⟨q1, q2⟩ := hlr j hj
          rw [Nat.zero_add]
          exact ⟨by simp only [World.cell?, hcl]; exact q1, by simp only [World.cell?, hcl]; exact q2⟩)
        (cl[i * 2]'(by omega)) (cl[i * 2 + 1]'(by omega)) (by rw [Nat.zero_add]; simp [World.cell?, hcl, show i * 2 < cl.size by omega]) (by rw [Nat.zero_add]; simp [World.cell?, hcl, show i * 2 + 1 < cl.size by omega]) (fun o => by simp [World.frozen?, hcl]) hE.blk (by have := HZ.out.1; omega)
      have HBC := Lib.hid hBC
      have HE := Lib.hid hE
      have HB := Lib.hid hbel
      have hcbB := hE.cb_lt.1
      have hhbB := hE.ge
      clear hBC hE hbel hlr hcl hcs
      go_wp2_with fail
      refine HBC.out.mono ?_
      rintro e w3 ⟨rfl, cur3, hfr, hbits⟩
      have hb3 := hfr.below HB.out (Nat.le_refl _) hhbB hlb
      have hNR : NRow .i32 w3 (.slice (some ⟨hb, 1, none⟩) (L + 1) 17) (PM.bcl f L) := by
        have hL15 := HF.out.L15
        refine ⟨some ⟨hb, 1, none⟩, 17, by rw [PM.bcl_len], ⟨(fun h => by cases h), by rw [PM.bcl_len]; omega⟩, fun _ => ⟨hb, 1, rfl, (Array.getElem?_eq_some_iff.1 hfr.blk).1, fun j hj => ?_⟩⟩
        rw [PM.bcl_len] at hj
        simp only [World.cell?, hfr.blk]
        rcases Nat.eq_zero_or_pos j with h0 | h0
        · subst h0
          rw [Nat.add_zero, hfr.out 1 (by omega) (by omega), HZ.out.2]
          rfl
        · rw [hbits j h0 (by omega), HN.out, PM.bcl_cast HF.out j h0 (by omega)]; rfl
      have HNB := Lib.hid hNR
      have HB3 := Lib.hid hb3
      have hlen : (PM.bcl f L).length = L + 1 := PM.bcl_len f L
      have HLN := Lib.hid hlen
      have hLs : 0 + (PM.bcl f L).length < 1099511627776 := by rw [hlen]; have := HF.out.L15; omega
      have HLS := Lib.hid hLs
      clear hfr hbits hb3 hNR hlen hLs HBC HB
      go_wp2_with (at_builtin; refine wpList_appRow w3 w rfl _ (.tmp 37) 37 rfl Try.underlying37 gi gz0 gz1 gz2 (by decide) _ 0 [] _ (PM.bcl f L) rfl (World.ownsRow_nil _ _ _ _) rfl HNB.out HLS.out HB3.out.size HB3.out ?_; intro v' w4 ho4 hb4 _)
      go_ret
      rw [Nat.zero_add, HLN.out] at ho4
      exact ⟨v', rfl, ho4, hb4⟩
end Go.Proofs.Ytokbkbchblfcoaa

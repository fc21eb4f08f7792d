/- The walk of bitCounts. -/
import Derived.Test.YtgkpdffgahadpaaPBitC
import Derived.BigRegion
namespace Go.Proofs.Ytgkpdffgahadpaa
open Go.RowKit

set_option maxHeartbeats 400000 in
theorem maxNode_any (w : World) : Calls Try.prog 75 #[] w fun e w' => e = .returned (.agg #[.int .u16 65535, .int .u16 65535]) ∧ Below w.heap.size w w' := by
  go_enter Try.func75, Try.ntmps75
  go_wp2
  exact bodyPost_ret (v := .agg #[.int .u16 65535, .int .u16 65535]) (by simp [results, Try.results75, go_sem]) rfl ⟨rfl, (Below.refl _ _).alloc (Nat.le_refl _) _⟩

theorem cell_set_off (w : World) (b o o' : Nat) (v : Value) (h : o' ≠ o) : (w.setCell ⟨b, o, none⟩ v).cell? ⟨b, o', none⟩ = w.cell? ⟨b, o', none⟩ := by
  simp only [World.cell?, World.setCell, Array.getElem?_modify]
  cases w.heap[b]? with
  | none => rfl
  | some x => cases x <;> simp [h.symm]
theorem cell_set_at (w : World) (b o : Nat) (v : Value) {y : Value} (h : w.cell? ⟨b, o, none⟩ = some y) : (w.setCell ⟨b, o, none⟩ v).cell? ⟨b, o, none⟩ = some v := by
  simp only [World.cell?, World.setCell, Array.getElem?_modify] at h ⊢
  cases hx : w.heap[b]? with
  | none => simp [hx] at h
  | some x =>
    simp only [hx] at h ⊢
    cases x with
    | cells c t fr =>
      have := (Array.getElem?_eq_some_iff.1 h).1
      simp [this]
    | _ => simp at h

/-- All as it was but the encoder's counts and the place behind the list. -/
structure BFr (w W : World) (hb lb off n : Nat) (cur cur' : Array Value) (t : TypeId) : Prop where
  os : W.os = w.os
  tape : W.tape = w.tape
  output : W.output = w.output
  size : w.heap.size ≤ W.heap.size
  other : ∀ q, q < w.heap.size → q ≠ hb → q ≠ lb → W.heap[q]? = w.heap[q]?
  blk : W.heap[hb]? = some (.cells cur' t (0, 0))
  sz : cur'.size = cur.size
  out : ∀ i, i < 2 ∨ 18 ≤ i → (hb = lb → i ≠ off + n * 2 ∧ i ≠ off + n * 2 + 1) → cur'[i]? = cur[i]?
theorem cell_alloc_old (w : World) (o : Obj) (b j : Nat) (h : b < w.heap.size) : (w.alloc o).cell? ⟨b, j, none⟩ = w.cell? ⟨b, j, none⟩ := by
  simp only [World.cell?, Below.heap_alloc _ _ _ h]

theorem zerosL_eq : Try.zeroCells105 = Array.replicate 80 (.int .i32 0) := by kernel_rfl
theorem zeroL (f : List Nat) : GridA Try.zeroCells105 16 5 (PM.lvS f 1) := by
  rw [zerosL_eq]
  refine ⟨by simp, fun i j hi hj => ?_⟩
  rw [PM.lvS_one, Array.getElem?_replicate, if_pos (by omega)]
theorem zerosC_eq : Try.zeroCells107 = Array.replicate 256 (.int .i32 0) := by kernel_rfl
theorem zeroC : GridA Try.zeroCells107 16 16 (PM.lcS 1) := by
  rw [zerosC_eq]
  refine ⟨by simp, fun i j hi hj => ?_⟩
  rw [PM.lcS_one, Array.getElem?_replicate, if_pos (by omega)]

set_option maxHeartbeats 4000000 in
set_option maxRecDepth 100000 in
theorem bitCounts_any (hb lb off n cap mb L : Nat) (f : List Nat) (li : Nat → Nat) (w : World) (t : TypeId) (cur : Array Value) (hn : n = f.length) (hF : PM.Freqs f L) (hmb : mb ≤ 15) (hmb1 : 1 ≤ mb) (hL : L = min mb (n - 1)) (hcap : n + 1 ≤ cap)
    (hl0 : ∀ i, i < n → li i < 65535)
    (hlc : ∀ i, i < n → w.cell? ⟨lb, off + i * 2, none⟩ = some (.int .u16 (li i : Nat)) ∧ w.cell? ⟨lb, off + i * 2 + 1, none⟩ = some (.int .u16 (f.getD i 0 : Nat)))
    (y1 y2 : Value) (hy1 : w.cell? ⟨lb, off + n * 2, none⟩ = some y1) (hy2 : w.cell? ⟨lb, off + n * 2 + 1, none⟩ = some y2) (hfl : ∀ o, w.frozen? ⟨lb, o, none⟩ = false)
    (hH : w.heap[hb]? = some (.cells cur t (0, 0))) (hsz : 18 ≤ cur.size) :
    Calls Try.prog 62 #[.pointer (some ⟨hb, 0, none⟩), .slice (some ⟨lb, off, none⟩) n cap, .int .i32 mb] w fun e w' => e = .returned (.slice (some ⟨hb, 1, none⟩) (L + 1) 17) ∧
      ∃ cur', BFr w w' hb lb off n cur cur' t ∧ ∀ b, 1 ≤ b → b ≤ L → cur'[1 + b]? = some (.int .i32 ((PM.AA f L (2 * n - 2) (L - b + 1) : Nat) - (PM.AA f L (2 * n - 2) (L - b) : Nat) : Int)) := by
  have hlbl : lb < w.heap.size := World.block_lt_of_cell? w _ hy1
  have hfl1 := hfl (off + n * 2)
  have hfl2 := hfl (off + n * 2 + 1)
  have h3 := hF.three
  have hfew := hF.few
  rw [← hn] at h3 hfew
  have HF := Lib.hid hF
  have HL := Lib.hid hL
  have HN := Lib.hid hn
  have HLC := Lib.hid hlc
  have HL0 := Lib.hid hl0
  have HH := Lib.hid hH
  clear hF hL hn hlc hl0 hfl hH
  go_enter Try.func62, Try.ntmps62
  go_upto_region 6 with (go_at_call 75; refine (maxNode_any _).mono ?_; rintro e w1 ⟨rfl, hbm⟩; have hz1 : w1.cell? ⟨lb, off + n * 2, none⟩ = some y1 := (hbm.cell (by exact hlbl)).trans hy1; have hz2 : w1.cell? ⟨lb, off + n * 2 + 1, none⟩ = some y2 := (hbm.cell (by exact hlbl)).trans hy2; have hg1 : w1.frozen? ⟨lb, off + n * 2, none⟩ = false := (hbm.frozen (by exact hlbl)).trans hfl1; have hg2 : w1.frozen? ⟨lb, off + n * 2 + 1, none⟩ = false := (hbm.frozen (by exact hlbl)).trans hfl2; have HBM := Lib.hid hbm; clear hbm hy1 hy2 hfl1 hfl2)
  have HI : Hid (∀ i, i ≤ n → ((w1.setCell ⟨lb, off + n * 2, none⟩ (.int .u16 65535)).setCell ⟨lb, off + n * 2 + 1, none⟩ (.int .u16 65535)).cell? ⟨lb, off + i * 2, none⟩ = some (.int .u16 ((if i < n then li i else 65535 : Nat) : Int)) ∧
      ((w1.setCell ⟨lb, off + n * 2, none⟩ (.int .u16 65535)).setCell ⟨lb, off + n * 2 + 1, none⟩ (.int .u16 65535)).cell? ⟨lb, off + i * 2 + 1, none⟩ = some (.int .u16 ((if i < n then f.getD i 0 else 65535 : Nat) : Int))) := by
    refine Lib.hid fun i hi => ?_
    by_cases h : i < n
    · obtain ⟨c1, c2⟩ := HLC.out i h
      rw [if_pos h, if_pos h]
      refine ⟨?_, ?_⟩
      · rw [cell_set_off _ _ _ _ _ (by omega), cell_set_off _ _ _ _ _ (by omega), HBM.out.cell (by exact hlbl)]; exact c1
      · rw [cell_set_off _ _ _ _ _ (by omega), cell_set_off _ _ _ _ _ (by omega), HBM.out.cell (by exact hlbl)]; exact c2
    · have e : i = n := by omega
      subst e
      rw [if_neg h, if_neg h]
      refine ⟨?_, ?_⟩
      · rw [cell_set_off _ _ _ _ _ (by omega), cell_set_at _ _ _ _ hz1]; rfl
      · rw [cell_set_at _ _ _ (.int .u16 65535) (by rw [cell_set_off _ _ _ _ _ (by omega)]; exact hz2)]; rfl
  have HFB : Hid (∀ q, q < w.heap.size → q ≠ lb → ((w1.setCell ⟨lb, off + n * 2, none⟩ (.int .u16 65535)).setCell ⟨lb, off + n * 2 + 1, none⟩ (.int .u16 65535)).heap[q]? = w.heap[q]?) := by
    refine Lib.hid fun q hq hne => ?_
    rw [Below.heap_setCell _ _ _ _ hne, Below.heap_setCell _ _ _ _ hne]
    exact HBM.out.block q hq
  have hsz2 : w.heap.size ≤ ((w1.setCell ⟨lb, off + n * 2, none⟩ (.int .u16 65535)).setCell ⟨lb, off + n * 2 + 1, none⟩ (.int .u16 65535)).heap.size := by
    have := HBM.out.size; simpa [World.setCell] using this
  have HC0 : Hid (∃ cur0, ((w1.setCell ⟨lb, off + n * 2, none⟩ (.int .u16 65535)).setCell ⟨lb, off + n * 2 + 1, none⟩ (.int .u16 65535)).heap[hb]? = some (.cells cur0 t (0, 0)) ∧ cur0.size = cur.size ∧ ∀ i, (hb = lb → i ≠ off + n * 2 ∧ i ≠ off + n * 2 + 1) → cur0[i]? = cur[i]?) := by
    refine Lib.hid ?_
    have hH1 : w1.heap[hb]? = some (.cells cur t (0, 0)) := by rw [HBM.out.block hb (Array.getElem?_eq_some_iff.1 HH.out).1]; exact HH.out
    by_cases hbl : hb = lb
    · subst hbl
      refine ⟨_, heap_setAt (heap_setAt hH1 _ _) _ _, by simp, fun i hi => ?_⟩
      obtain ⟨e1, e2⟩ := hi rfl
      rw [Array.getElem?_setIfInBounds, if_neg (by omega), Array.getElem?_setIfInBounds, if_neg (by omega)]
    · exact ⟨cur, by rw [Below.heap_setCell _ _ _ _ hbl, Below.heap_setCell _ _ _ _ hbl]; exact hH1, rfl, fun _ _ => rfl⟩
  have HOS : Hid (((w1.setCell ⟨lb, off + n * 2, none⟩ (.int .u16 65535)).setCell ⟨lb, off + n * 2 + 1, none⟩ (.int .u16 65535)).os = w.os ∧ ((w1.setCell ⟨lb, off + n * 2, none⟩ (.int .u16 65535)).setCell ⟨lb, off + n * 2 + 1, none⟩ (.int .u16 65535)).tape = w.tape ∧
      ((w1.setCell ⟨lb, off + n * 2, none⟩ (.int .u16 65535)).setCell ⟨lb, off + n * 2 + 1, none⟩ (.int .u16 65535)).output = w.output) := Lib.hid ⟨HBM.out.os, HBM.out.tape, HBM.out.output⟩
  clear hz1 hz2 hg1 hg2 HLC
  generalize ((w1.setCell ⟨lb, off + n * 2, none⟩ (.int .u16 65535)).setCell ⟨lb, off + n * 2 + 1, none⟩ (.int .u16 65535)) = W2 at *
  go_upto_if 38 with (fail)
  go_cut [2] (fun v wx => v = .int .i32 (L : Nat) ∧ wx = W2)
  case first =>
    go_wp2
    all_goals
      go_meet
      have := HL.out
      exact ⟨int_eq (by omega), rfl⟩
  case rest =>
    obtain ⟨rfl, rfl⟩ := hcut
    go_upto_region 10 with (fail)
    have hl2 : lb < wc.heap.size := Nat.lt_of_lt_of_le hlbl hsz2
    have HI0 : Hid (∀ i, i ≤ n → ((wc.alloc (.cells Try.zeroCells105 105)).alloc (.cells Try.zeroCells107 107)).cell? ⟨lb, off + i * 2, none⟩ = some (.int .u16 ((if i < n then li i else 65535 : Nat) : Int)) ∧
        ((wc.alloc (.cells Try.zeroCells105 105)).alloc (.cells Try.zeroCells107 107)).cell? ⟨lb, off + i * 2 + 1, none⟩ = some (.int .u16 ((if i < n then f.getD i 0 else 65535 : Nat) : Int))) := by
      refine Lib.hid fun i hi => ?_
      obtain ⟨c1, c2⟩ := HI.out i hi
      exact ⟨by rw [cell_alloc_old _ _ _ _ (by simp; omega), cell_alloc_old _ _ _ _ hl2]; exact c1, by rw [cell_alloc_old _ _ _ _ (by simp; omega), cell_alloc_old _ _ _ _ hl2]; exact c2⟩
    have HB0 : Hid (BSt ((wc.alloc (.cells Try.zeroCells105 105)).alloc (.cells Try.zeroCells107 107)) ((wc.alloc (.cells Try.zeroCells105 105)).alloc (.cells Try.zeroCells107 107)) 105 107 wc.heap.size (wc.heap.size + 1) (PM.lvS f 1) (PM.lcS 1)) := by
      refine Lib.hid ⟨rfl, rfl, rfl, Nat.le_refl _, fun _ _ _ _ => rfl, by omega, ⟨Try.zeroCells105, ?_, zeroL f⟩, ⟨Try.zeroCells107, ?_, zeroC⟩⟩
      · rw [Below.heap_alloc _ _ _ (by simp)]; exact heap_alloc_new _ _
      · have := heap_alloc_new (wc.alloc (.cells Try.zeroCells105 105)) (.cells Try.zeroCells107 107)
        simpa using this
    have HFB0 : Hid (∀ q, q < w.heap.size → q ≠ lb → ((wc.alloc (.cells Try.zeroCells105 105)).alloc (.cells Try.zeroCells107 107)).heap[q]? = w.heap[q]?) := by
      refine Lib.hid fun q hq hne => ?_
      rw [Below.heap_alloc _ _ _ (by simp; omega), Below.heap_alloc _ _ _ (by omega)]
      exact HFB.out q hq hne
    have HBE : Hid (Below wc.heap.size wc ((wc.alloc (.cells Try.zeroCells105 105)).alloc (.cells Try.zeroCells107 107))) := Lib.hid (((Below.refl _ _).alloc (Nat.le_refl _) _).alloc (by simp) _)
    have HTB : Hid (wc.heap.size = wc.heap.size) := rfl
    have hsz0 : w.heap.size ≤ wc.heap.size := hsz2
    have hsz1 : ((wc.alloc (.cells Try.zeroCells105 105)).alloc (.cells Try.zeroCells107 107)).heap.size = wc.heap.size + 2 := by simp
    have HSZ1 := Lib.hid hsz1
    clear HI hsz2 hsz1
    generalize ((wc.alloc (.cells Try.zeroCells105 105)).alloc (.cells Try.zeroCells107 107)) = W0 at *
    generalize htb : wc.heap.size = tb at *
    have HT := Lib.hid htb
    clear htb HTB HFB0
    obtain ⟨i00, i01⟩ := HI0.out 0 (by omega)
    obtain ⟨i10, i11⟩ := HI0.out 1 (by omega)
    obtain ⟨i20, i21⟩ := HI0.out 2 (by omega)
    rw [if_pos (by omega)] at i00 i01 i10 i11 i20 i21
    rw [Nat.zero_mul, Nat.add_zero] at i00 i01
    rw [Nat.one_mul] at i10 i11
    rw [show 2 * 2 = 4 from rfl] at i20 i21
    go_wp2
    go_loopw [10] (fun ii wr => ∃ k : Nat, 1 ≤ k ∧ k ≤ L + 1 ∧ ii = .int .i32 k ∧ BSt W0 wr 105 107 tb (tb + 1) (PM.lvS f k) (PM.lcS k)) (fun ii _ => L + 1 - (intOf ii).toNat)
    case atStart => exact ⟨1, Nat.le_refl _, by omega, rfl, HB0.out⟩
    case round =>
      obtain ⟨k, hk1, hk2, rfl, hB⟩ := hrel
      by_cases hlt : k ≤ L
      · have hL15 : L ≤ 15 := by have := HL.out; omega
        have hlb1 : lb ≠ tb := by omega
        have hlb2 : lb ≠ tb + 1 := by omega
        have hlb3 : lb < W0.heap.size := by have := HSZ1.out; omega
        have j01 := (hB.cellO lb _ hlb3 hlb1 hlb2).trans i01
        have j11 := (hB.cellO lb _ hlb3 hlb1 hlb2).trans i11
        have j21 := (hB.cellO lb _ hlb3 hlb1 hlb2).trans i21
        have l0 := hB.cellL k 0 (by omega) (by omega)
        have l1 := hB.cellL k 1 (by omega) (by omega)
        have l2 := hB.cellL k 2 (by omega) (by omega)
        have l3 := hB.cellL k 3 (by omega) (by omega)
        have l4 := hB.cellL k 4 (by omega) (by omega)
        have f0 := hB.frL (k * 5 + 0)
        have f1 := hB.frL (k * 5 + 1)
        have f2 := hB.frL (k * 5 + 2)
        have f3 := hB.frL (k * 5 + 3)
        have f4 := hB.frL (k * 5 + 4)
        have c0 := hB.cellC k k (by omega) (by omega)
        have g0 := hB.frC (k * 16 + k)
        rw [Nat.add_zero] at l0 f0
        have hx0 := PM.leaf_lt HF.out 0
        have hx1 := PM.leaf_lt HF.out 1
        have hx2 := PM.leaf_lt HF.out 2
        clear i00 i01 i10 i11 i20 i21
        have HSTP := Lib.hid (fun i j (hj : j < 5) => PM.lvS_step f k hk1 i j hj)
        generalize f.getD 0 0 = x0 at *
        generalize f.getD 1 0 = x1 at *
        generalize f.getD 2 0 = x2 at *
        have HB := Lib.hid hB
        clear hB HI0 HB0
        go_wp2
        have hw0 : IntKind.i32.wrap (x0 : Int) = x0 := by simp [IntKind.wrap, IntKind.bits, IntKind.signed]; omega
        have hw1 : IntKind.i32.wrap (x1 : Int) = x1 := by simp [IntKind.wrap, IntKind.bits, IntKind.signed]; omega
        have hw2 : IntKind.i32.wrap (x2 : Int) = x2 := by simp [IntKind.wrap, IntKind.bits, IntKind.signed]; omega
        have hw01 : IntKind.i32.wrap ((x0 : Int) + (x1 : Int)) = (x0 : Int) + (x1 : Int) := by simp [IntKind.wrap, IntKind.bits, IntKind.signed]; omega
        go_cut [] from 49 to 73 (fun wx => BSt W0 wx 105 107 tb (tb + 1) (PM.upd (PM.upd (PM.upd (PM.upd (PM.upd (PM.lvS f k) k 0 k) k 1 x1) k 2 x2) k 3 (x0 + x1)) k 4 0) (PM.lcS k))
        case first =>
          have HG : Hid (BSt W0 (((((wr.setCell ⟨tb, k * 5, none⟩ (.int .i32 (k : Int))).setCell ⟨tb, k * 5 + 1, none⟩ (.int .i32 (x1 : Int))).setCell ⟨tb, k * 5 + 2, none⟩ (.int .i32 (x2 : Int))).setCell ⟨tb, k * 5 + 3, none⟩ (.int .i32 ((x0 : Int) + (x1 : Int)))).setCell ⟨tb, k * 5 + 4, none⟩ (.int .i32 0)).drew
              105 107 tb (tb + 1) (PM.upd (PM.upd (PM.upd (PM.upd (PM.upd (PM.lvS f k) k 0 k) k 1 x1) k 2 x2) k 3 (x0 + x1)) k 4 0) (PM.lcS k)) :=
            (((((HB.out.setL k 0 (by omega) (by omega) k).setL k 1 (by omega) (by omega) x1).setL k 2 (by omega) (by omega) x2).setL k 3 (by omega) (by omega) _).setL k 4 (by omega) (by omega) 0).drew
          go_region
          all_goals
            go_wp2_with fail
            go_meet
            exact HG.out
        case rest =>
          have HB3 := Lib.hid hcut
          clear HB hcut l0 l1 l2 l3 l4 f0 f1 f2 f3 f4 c0 g0
          have c0 := HB3.out.cellC k k (by omega) (by omega)
          have g0 := HB3.out.frC (k * 16 + k)
          have l3 := HB3.out.cellL k 3 (by omega) (by omega)
          have f3 := HB3.out.frL (k * 5 + 3)
          generalize PM.lcS k k k = z at *
          by_cases hk : k = 1
          · have hkt : ((k : Int) == 1) = true := beq_iff_eq.2 (by omega)
            have HBX : Hid (BSt W0 ((wc.setCell ⟨tb + 1, k * 16 + k, none⟩ (.int .i32 2)).setCell ⟨tb, k * 5 + 3, none⟩ (.int .i32 2147483647)) 105 107 tb (tb + 1) (PM.lvS f (k + 1)) (PM.lcS (k + 1))) := by
              refine Lib.hid (((HB3.out.setC k k (by omega) (by omega) 2).setL k 3 (by omega) (by omega) PM.MX).congr ?_ (fun i j _ _ => PM.lcS_step k hk1 i j))
              intro i j hi hj
              by_cases h : i = k ∧ j = 3
              · obtain ⟨rfl, rfl⟩ := h
                rw [PM.upd_same, PM.lvS, if_pos (by omega), if_neg (by omega), if_neg (by omega), if_neg (by omega), if_pos rfl, if_pos hk]
              · rw [PM.upd_ne _ _ _ _ _ _ (by omega), HSTP.out i j hj, if_neg (by omega)]
            have HK := Lib.hid hk
            clear HB3 hk
            go_wp2
            go_roundw
            case rel => exact ⟨k + 1, by omega, by omega, by go_num, HBX.out⟩
            case measure => simp [intOf]; omega
          · have hkt : ((k : Int) == 1) = false := beq_eq_false_iff_ne.2 (by omega)
            have HBX : Hid (BSt W0 (wc.setCell ⟨tb + 1, k * 16 + k, none⟩ (.int .i32 2)) 105 107 tb (tb + 1) (PM.lvS f (k + 1)) (PM.lcS (k + 1))) := by
              refine Lib.hid ((HB3.out.setC k k (by omega) (by omega) 2).congr ?_ (fun i j _ _ => PM.lcS_step k hk1 i j))
              intro i j hi hj
              rw [HSTP.out i j hj, if_neg (by omega)]
            clear HB3
            go_wp2
            go_roundw
            case rel => exact ⟨k + 1, by omega, by omega, by go_num, HBX.out⟩
            case measure => simp [intOf]; omega
      · have hkL : k = L + 1 := by omega
        subst hkL
        go_upto_if 46 with (fail)
        refine wp_cond_false (show Value.bool (decide ((L : Int) + 1 ≤ (L : Int))) = .bool false by rw [decide_eq_false (by omega)]) (wp_exit ?_)
        simp +zetaDelta only [Exit.inBlock, Exit.then]
        simp only [↓reduceIte]
        apply_assumption
        obtain ⟨cur0, h1, h2, h3c⟩ := HC0.out
        have hhb : hb < tb := by
          have := (Array.getElem?_eq_some_iff.1 h1).1
          have := HT.out; omega
        have hLn : L ≤ n - 1 := by have := HL.out; omega
        have HBEl := HBE.out
        refine bits_mid hb lb off n cap L tb f li t wc W0 wr cur0 HN.out HF.out hLn HL0.out HI0.out HBEl HT.out HSZ1.out hl2 hhb h1 (by omega) hB _ ?_ _ _ _ _ _ _ _ _ _ _ _ _ _ _ _ _ _ _ _ _ _ _ _ _ _ _ _ _ _ _ _ _ _ _ _ _ _ _ _ _ _ _ _ _ _ _ _ _ _ _ _ _ _ _ _ _ _ _ _ _ _ _ _ _ _ _ _ _ _ _ _ _ _ _ _ _ _ _ _ _ _ _ _ _ _ _ _ _ _ _ _ _ _ _ _ _ _ _ _ _ _ _ _ _ _ _ _ _ _ _ _ _ _ _ _ _ _ _ _ _ _ _ _ _ _ _ _ _ _ _ _ _ _ _ _ _ _ _ _ _ _ _ _ _ _ _ _ _ _ _ _ _ _ _ _ _ _ _ _ _ _ _ _ _ _ _ _ _ _ _ _ _ _ _ _ _ _ _ _ _ _ _ _ _ _ _ _ _ _ _ _ _ _ _ _ _ _ _ _ _ _ _ _ _ _ _ _ _ _ _ _ _ _ _ _ _ _ _ _ _ _ _ _ _ _ _ _ _ _ _ _ _ _ _ _ _ _ _ _ _ _ _ _ _ _ _ _ _ _ _ _ _ _ _ _ _ _ _ _ _ _ _ _ _ _ _
        rintro a w'' h6 hdf ⟨cur', hA, hC⟩
        obtain ⟨o1, o2, o3⟩ := HOS.out
        have hv : a.tmps.getD 6 undef = .slice (some ⟨hb, 1, none⟩) (L + 1) 17 := by
          rw [Array.getD_eq_getD_getElem?, h6]; rfl
        refine bodyPost_ret (results_tmp rfl _ _ _) hdf ⟨by rw [hv], cur', ⟨hA.os.trans o1, hA.tape.trans o2, hA.output.trans o3, Nat.le_trans (by rw [HT.out]; exact hsz0) hA.size, ?_, hA.blk, hA.sz.trans h2, ?_⟩, hC⟩
        · intro q hq e1 e2
          rw [hA.other q (by rw [HT.out]; omega) e1, HFB.out q hq e2]
        · intro i hi hne
          rw [hA.out i hi, h3c i hne]
end Go.Proofs.Ytgkpdffgahadpaa

/- The walk of assignEncodingAndSize. -/
import Derived.Test.YtgkpdffgahadpaaPSortL
import Derived.Test.YtgkpdffgahadpaaPAsgM
import Derived.Test.YtgkpdffgahadpaaPEnc
import Derived.Test.YtgkpdffgahadpaaPHcode
import Derived.Deep.RegionHeld3
import Derived.Deep.DeepCutAuto
import Derived.Deep.CutRange
import Derived.Deep.Light
namespace Go.Proofs.Ytgkpdffgahadpaa
open Go.RowKit Go.Shelf Go.Lib

/-- All as it was but the codes' block and a part of the list's block. -/
structure AFr (w W : World) (cb blk off n : Nat) (cur cur' : Array Value) (t : TypeId) : Prop where
  os : W.os = w.os
  tape : W.tape = w.tape
  output : W.output = w.output
  size : w.heap.size ≤ W.heap.size
  other : ∀ q, q < w.heap.size → q ≠ cb → q ≠ blk → W.heap[q]? = w.heap[q]?
  lblk : W.heap[blk]? = some (.cells cur' t (0, 0))
  sz : cur'.size = cur.size
  out : ∀ i, (i < off ∨ off + n ≤ i) → cur'[i]? = cur[i]?

theorem AFr.start {w : World} {blk : Nat} {cur : Array Value} {t : TypeId} (h : w.heap[blk]? = some (.cells cur t (0, 0))) (cb off n : Nat) : AFr w w cb blk off n cur cur t :=
  ⟨rfl, rfl, rfl, Nat.le_refl _, fun _ _ _ _ => rfl, h, rfl, fun _ _ => rfl⟩
theorem AFr.drewN {w W : World} {cb blk off n : Nat} {cur cur' : Array Value} {t : TypeId} (h : AFr w W cb blk off n cur cur' t) (m : Nat) : AFr w (W.drewN m) cb blk off n cur cur' t :=
  ⟨h.os, h.tape, h.output, h.size, h.other, h.lblk, h.sz, h.out⟩
theorem AFr.drew {w W : World} {cb blk off n : Nat} {cur cur' : Array Value} {t : TypeId} (h : AFr w W cb blk off n cur cur' t) : AFr w W.drew cb blk off n cur cur' t :=
  ⟨h.os, h.tape, h.output, h.size, h.other, h.lblk, h.sz, h.out⟩
theorem AFr.alloc {w W : World} {cb blk off n : Nat} {cur cur' : Array Value} {t : TypeId} (h : AFr w W cb blk off n cur cur' t) (o : Obj) : AFr w (W.alloc o) cb blk off n cur cur' t := by
  have e : ∀ q, q < W.heap.size → (W.alloc o).heap[q]? = W.heap[q]? := fun q hq => by
    unfold World.alloc; simp [Array.getElem?_push, Nat.ne_of_lt hq]
  have hb : blk < W.heap.size := (Array.getElem?_eq_some_iff.1 h.lblk).1
  refine ⟨h.os, h.tape, h.output, Nat.le_trans h.size (by unfold World.alloc; simp), fun q hq h1 h2 => ?_, by rw [e _ hb]; exact h.lblk, h.sz, h.out⟩
  rw [e q (by have := h.size; omega)]
  exact h.other q hq h1 h2
theorem AFr.setOwn {w W : World} {cb blk off n : Nat} {cur cur' : Array Value} {t : TypeId} (h : AFr w W cb blk off n cur cur' t) (hbc : blk ≠ cb) (q j : Nat) (hq : q = cb ∨ (w.heap.size ≤ q ∧ q ≠ blk)) (x : Value) : AFr w (W.setCell ⟨q, j, none⟩ x) cb blk off n cur cur' t := by
  refine ⟨h.os, h.tape, h.output, Nat.le_trans h.size (by simp [World.setCell]), fun k hk h1 h2 => ?_, ?_, h.sz, h.out⟩
  · rw [Below.heap_setCell _ _ _ _ (show k ≠ q by rcases hq with h | h <;> omega)]; exact h.other k hk h1 h2
  · rw [Below.heap_setCell _ _ _ _ (show blk ≠ q by rcases hq with h | h <;> omega)]; exact h.lblk
theorem AFr.sorted {w W W' : World} {cb blk off n o2 n2 : Nat} {cur cur' cur2 : Array Value} {t : TypeId} (h : AFr w W cb blk off n cur cur' t) (hf : LFr W W' blk)
    (hb : W'.heap[blk]? = some (.cells cur2 t (0, 0))) (hs : cur2.size = cur'.size) (ho : ∀ i, i < o2 ∨ o2 + n2 ≤ i → cur2[i]? = cur'[i]?) (h1 : off ≤ o2) (h2 : o2 + n2 ≤ off + n) : AFr w W' cb blk off n cur cur2 t :=
  ⟨hf.os.trans h.os, hf.tape.trans h.tape, hf.output.trans h.output, Nat.le_trans h.size hf.size, fun q hq a b => by rw [hf.block q (by have := h.size; omega) b]; exact h.other q hq a b, hb, hs.trans h.sz,
    fun i hi => by rw [ho i (by omega)]; exact h.out i hi⟩
theorem AFr.cell {w W : World} {cb blk off n : Nat} {cur cur' : Array Value} {t : TypeId} (h : AFr w W cb blk off n cur cur' t) (h0 : w.heap[blk]? = some (.cells cur t (0, 0))) (q i : Nat) (hq : q < w.heap.size) (hqc : q ≠ cb)
    (ho : q ≠ blk ∨ i < off ∨ off + n ≤ i) : W.cell? ⟨q, i, none⟩ = w.cell? ⟨q, i, none⟩ := by
  by_cases hb : q = blk
  · subst hb
    simp only [World.cell?, h.lblk, h0]
    exact h.out i (by omega)
  · simp only [World.cell?, h.other q hq hqc hb]

theorem owns_heap {w W : World} {base e size n C g : Nat} {xs : List Value} (h : w.ownsRow base e size (.slice (some ⟨g, 0, none⟩) n C) n xs) (hh : W.heap[g]? = w.heap[g]?) : W.ownsRow base e size (.slice (some ⟨g, 0, none⟩) n C) n xs := by
  refine ⟨h.1, ?_⟩
  rcases h.2 with ⟨h0, _⟩ | ⟨g', cap, cur, he, hb, hg, h1⟩
  · cases h0
  · cases he
    exact .inr ⟨g, _, cur, rfl, hb, by rw [hh]; exact hg, h1⟩

theorem LRow.take {cur : Array Value} {off : Nat} {d : List Lit} (h : LRow cur off d) (m : Nat) : LRow cur off (d.take m) := fun j x hx => by
  refine h j x ?_
  rw [List.getElem?_take] at hx
  split at hx
  · exact hx
  · cases hx
theorem LRow.drop {cur : Array Value} {off : Nat} {d : List Lit} (h : LRow cur off d) (m : Nat) : LRow cur (off + m * 2) (d.drop m) := fun j x hx => by
  rw [List.getElem?_drop] at hx
  obtain ⟨h1, h2⟩ := h _ x hx
  rw [show off + m * 2 + j * 2 = off + (m + j) * 2 by omega]
  exact ⟨h1, h2⟩
theorem LRow.same {cur cur' : Array Value} {off : Nat} {d : List Lit} (h : LRow cur off d) (hc : ∀ i, i < off + d.length * 2 → cur'[i]? = cur[i]?) : LRow cur' off d := fun j x hx => by
  obtain ⟨h1, h2⟩ := h j x hx
  have hj := (List.getElem?_eq_some_iff.1 hx).1
  rw [hc _ (by omega), hc _ (by omega)]
  exact ⟨h1, h2⟩

theorem sortA_len (blk off cap n : Nat) (t : TypeId) (cur : Array Value) (d : List Lit) (w : World) (hn : n = d.length) (hblk : w.heap[blk]? = some (.cells cur t (0, 0))) (hrow : LRow cur off d) (hsz : d.length < 1000000) :
    Calls Try.prog 60 #[.slice (some ⟨blk, off, none⟩) n cap, .func (.func 76) #[] #[]] w fun e w' => e = .returned (.tuple #[]) ∧ ∃ d' cur', d'.Perm d ∧ d'.Pairwise (fun x y => x.1.val ≤ y.1.val) ∧
      w'.heap[blk]? = some (.cells cur' t (0, 0)) ∧ LRow cur' off d' ∧ cur'.size = cur.size ∧ (∀ i, i < off ∨ off + 2 * d.length ≤ i → cur'[i]? = cur[i]?) ∧ LFr w w' blk := by
  subst hn
  exact sortA_any blk off cap t cur d w hblk hrow hsz

/-- What is asked of lengths that belong to counts and an order. -/
structure Fits (cnt : List Nat) (d : List Lit) (L : List Nat) : Prop where
  cl : cnt.length ≤ 16
  c0 : cnt.getD 0 0 = 0
  sum : cnt.sum = d.length
  at_ : ∀ n, n < cnt.length → ∀ p x, d[p]? = some x → d.length ≤ p + (cnt.take (n + 1)).sum → p + (cnt.take n).sum < d.length → L.getD x.1.val 0 = n
  count : ∀ n, 1 ≤ n → n < cnt.length → L.count n = cnt.getD n 0
  nodup : (d.map fun x => x.1.val).Nodup
  lt : ∀ x ∈ d, x.1.val < L.length
  room : ∀ n, n ≤ 15 → codeEnd L n ≤ 2 ^ n

set_option maxHeartbeats 8000000 in
set_option maxRecDepth 100000 in
theorem assign_any (base hb cb C : Nat) (cs0 : List Nat) (w : World) (hhb : w.cell? ⟨hb, 0, none⟩ = some (.slice (some ⟨cb, 0, none⟩) cs0.length C))
    (hown : w.ownsRow base 83 1 (.slice (some ⟨cb, 0, none⟩) cs0.length C) cs0.length (nv .u32 cs0)) (hne : hb ≠ cb) (hhl : hb < w.heap.size)
    (blk off cap : Nat) (t : TypeId) (cur : Array Value) (d : List Lit) (hblk : w.heap[blk]? = some (.cells cur t (0, 0))) (hrow : LRow cur off d) (hbc : blk ≠ cb) (hho : hb ≠ blk ∨ 0 < off)
    (vc : Value) (cnt : List Nat) (hcn : NRow .i32 w vc cnt) (hco : 0 < cnt.length → ∀ b o n cp, vc = .slice (some ⟨b, o, none⟩) n cp → b ≠ cb ∧ (b ≠ blk ∨ o + cnt.length ≤ off ∨ off + 2 * d.length ≤ o))
    (L : List Nat) (hL : L.length = cs0.length) (hdl : d.length ≤ 1000) (hcap : d.length ≤ cap) (hoff : off ≤ 100000) (hF : Fits cnt d L) :
    Calls Try.prog 63 #[.pointer (some ⟨hb, 0, none⟩), vc, .slice (some ⟨blk, off, none⟩) d.length cap] w fun e w' => e = .returned (.tuple #[]) ∧ ∃ cur',
      AFr w w' cb blk off (2 * d.length) cur cur' t ∧ w'.ownsRow base 83 1 (.slice (some ⟨cb, 0, none⟩) cs0.length C) cs0.length (nv .u32 (csP L cs0 cnt.length 0)) := by
  obtain ⟨ac, capc, rfl, hcw, hcn⟩ := hcn
  have HF := Lib.hid hF
  have HCN := Lib.hid hcn
  have HCO := Lib.hid hco
  have HR := Lib.hid hrow
  have HO := Lib.hid hown
  have HO0 := Lib.hid hown
  have HBK := Lib.hid hblk
  have HHO := Lib.hid hho
  have hcl16 := hF.cl
  clear hF hcn hco hrow hown hblk hho
  go_enter Try.func63, Try.ntmps63
  go_wp2
  go_loopw [2, 6, 14] (fun lst code i wr => ∃ (n m : Nat) (cur' : Array Value), n ≤ cnt.length ∧ i = .int .i64 n ∧ m + (cnt.take n).sum = d.length ∧ lst = .slice (some ⟨blk, off, none⟩) m cap ∧ code = .int .u16 (codeEnd L (n - 1) : Nat) ∧
    LRow cur' off (d.take m) ∧ AFr w wr cb blk off (2 * d.length) cur cur' t ∧ wr.ownsRow base 83 1 (.slice (some ⟨cb, 0, none⟩) cs0.length C) cs0.length (nv .u32 (csP L cs0 n 0))) (fun _ _ i _ => cnt.length - (intOf i).toNat)
  case atStart => exact ⟨0, d.length, cur, Nat.zero_le _, rfl, by simp, rfl, rfl, HR.out.take _, AFr.start HBK.out _ _ _, by rw [csP_zero]; exact HO.out⟩
  case round =>
    obtain ⟨n, m, cur', hn, rfl, hm, rfl, rfl, hlr, hA, hown⟩ := hrel
    by_cases hlt : n < cnt.length
    · obtain ⟨b, o, rfl, hbl, hc⟩ := HCN.out (by omega)
      obtain ⟨hk1, hk2⟩ := HCO.out (by omega) b o _ _ rfl
      have hck := (hA.cell HBK.out b (o + n) hbl hk1 (by omega)).trans (hc n hlt)
      have hS := sum_take_succ cnt n hlt
      have hSle := sum_take_le cnt (n + 1)
      have hroom := HF.out.room (n - 1) (by omega)
      have hroomN := HF.out.room n (by omega)
      have hpow : (2 : Nat) ^ (n - 1) ≤ 2 ^ 14 := Nat.pow_le_pow_right (by omega) (by omega)
      have hcnt := HF.out.count n
      have hsum := HF.out.sum
      have hz := HF.out.c0
      have HLR := Lib.hid hlr
      have HA := Lib.hid hA
      have HOW := Lib.hid hown
      clear hlr hA hown hc HR HO
      have hcode : codeEnd L (n - 1) < 32768 := by omega
      have hsucc : 0 < n → codeEnd L n = 2 * codeEnd L (n - 1) + cnt.getD n 0 := by
        intro h0
        rw [← hcnt h0 hlt]
        conv => lhs; rw [show n = (n - 1) + 1 by omega]
        rw [codeEnd, show n - 1 + 1 = n by omega]
      have hn0 : n = 0 → codeEnd L (n - 1) = 0 := by intro h; subst h; rfl
      generalize hcd : codeEnd L (n - 1) = cd at *
      have HCD := Lib.hid hcd
      clear hcd
      generalize hcv : cnt.getD n 0 = c at *
      have HX := Lib.hid (And.intro hS (And.intro hSle (And.intro hroom (And.intro hroomN (And.intro hpow (And.intro hcnt (And.intro hsum (And.intro hz (And.intro hsucc hm)))))))))
      clear hS hSle hroom hroomN hpow hcnt hsum hz hsucc hm
      rcases Nat.eq_zero_or_pos n with h0 | h0
      · have t1 : decide ((n : Int) = 0) = true := by simp [h0]
        have H0 := Lib.hid h0
        have HN0 := Lib.hid hn0
        clear h0 hn0
        go_wp2
        go_roundw
        case rel =>
          have hn00 := H0.out
          subst hn00
          obtain ⟨x1, x2, x3, x4, x5, x6, x7, x8, x9, x10⟩ := HX.out
          refine ⟨1, m, cur', by omega, by go_num, ?_, rfl, ?_, HLR.out, HA.out, ?_⟩
          · rw [show (1 : Nat) = 0 + 1 from rfl]; omega
          · rw [HN0.out rfl]; rfl
          · rw [← csP_skip L cs0 0 hL (.inl rfl)]; exact HOW.out
        case measure => simp [intOf]; omega
      · clear hn0
        rcases Nat.eq_zero_or_pos c with hc0 | hc0
        · go_wp2
          go_roundw
          case rel =>
            obtain ⟨x1, x2, x3, x4, x5, x6, x7, x8, x9, x10⟩ := HX.out
            refine ⟨n + 1, m, cur', by omega, by go_num, by omega, rfl, ?_, HLR.out, HA.out, ?_⟩
            · rw [show n + 1 - 1 = n from rfl, x9 h0, hc0]; go_num
            · rw [← csP_skip L cs0 n hL (.inr (by rw [x6 h0 hlt]; exact hc0))]; exact HOW.out
          case measure => simp [intOf]; omega
        · obtain ⟨q, hq⟩ : ∃ q, m = q + c := ⟨m - c, by have := HX.out; omega⟩
          subst hq
          have hqc : q + c ≤ 1000 := by have := HX.out; omega
          have hqcap : q + c ≤ cap := by have := HX.out; omega
          have hmN : q + c + (cnt.take n).sum = d.length := by have := HX.out; omega
          have hlc : ((d.take (q + c)).drop q).length = c := by simp; omega
          have HCH := Lib.hid (HLR.out.drop q)
          have HNR := Lib.hid (fun (cp : Nat) => sortA_len blk (off + q * 2) cp c t cur' ((d.take (q + c)).drop q) wr hlc.symm HA.out.lblk HCH.out (by omega))
          have HLC := Lib.hid hlc
          have HMN := Lib.hid hmN
          clear hlc hmN
          go_upto_region 7 with (fail)
          · exfalso
            rename_i h2
            simp at h2
            omega
          · go_upto_region 8 with (go_at_call 60; refine (HNR.out _).mono ?_; rintro e w2 ⟨rfl, ch, cur2, hperm, hpw, hb2, hl2, hs2, ho2, hf2⟩)
            have hA2 := HA.out.sorted hf2 hb2 hs2 ho2 (by omega) (by have := HLC.out; have := HMN.out; omega)
            have hown2 := owns_heap HOW.out (hf2.block cb (HOW.out.lt cb rfl).2 hbc.symm)
            have hf2q : LRow cur2 off (d.take q) := by
              refine LRow.same (cur := cur') (d := d.take q) ?_ ?_
              · have h := HLR.out.take q
                rw [List.take_take, Nat.min_eq_left (by omega)] at h
                exact h
              · intro i hi
                have : (d.take q).length ≤ q := List.length_take_le _ _
                exact ho2 i (by omega)
            have hRk : ∀ j x, ch[j]? = some x → x.1.val < L.length ∧ L.getD x.1.val 0 = n ∧ rk L x.1.val = j := by
              have hmem : ∀ x ∈ ch, x.1.val < L.length ∧ L.getD x.1.val 0 = n := by
                intro x hx
                have h1 := hperm.mem_iff.1 hx
                obtain ⟨i, hi⟩ := List.mem_iff_getElem?.1 h1
                rw [List.getElem?_drop, List.getElem?_take] at hi
                split at hi
                · rename_i h2
                  have := HMN.out
                  have := HX.out
                  exact ⟨HF.out.lt x (List.mem_of_getElem? hi), HF.out.at_ n hlt _ x hi (by omega) (by omega)⟩
                · cases hi
              have hnd : (ch.map fun x => x.1.val).Nodup := by
                refine (hperm.map fun x => x.1.val).nodup_iff.2 ?_
                exact List.Nodup.sublist (((List.drop_sublist _ _).trans (List.take_sublist _ _)).map _) HF.out.nodup
              have hst : (ch.map fun x => x.1.val).Pairwise (· < ·) := by
                have h1 : (ch.map fun x => x.1.val).Pairwise (· ≤ ·) := List.pairwise_map.2 hpw
                exact (h1.and hnd).imp (by intro a b h; omega)
              intro j x hx
              obtain ⟨h1, h2⟩ := hmem x (List.mem_of_getElem? hx)
              refine ⟨h1, h2, chunk_rk L _ n hst ?_ ?_ j _ (by rw [List.getElem?_map, hx]; rfl)⟩
              · intro s hs
                obtain ⟨y, hy, rfl⟩ := List.mem_map.1 hs
                exact hmem y hy
              · rw [List.length_map, hperm.length_eq, HLC.out]
                exact HX.out.2.2.2.2.2.1 h0 hlt
            have HRK := Lib.hid hRk
            have HL2 := Lib.hid hl2
            have HLQ := Lib.hid hf2q
            have hchl : ch.length = c := by rw [hperm.length_eq, HLC.out]
            have HCHL := Lib.hid hchl
            have hroom2 : 2 * cd + c ≤ 32768 := by
              have h1 := HX.out
              have h2 : (2 : Nat) ^ n ≤ 2 ^ 15 := Nat.pow_le_pow_right (by omega) (by omega)
              omega
            have HA2 := Lib.hid hA2
            have HOW2 := Lib.hid hown2
            clear hRk hl2 hf2q hchl hA2 hown2 hperm hpw hb2 hs2 ho2 hf2 HA HOW HLR HCH HNR
            go_wp2
            go_loopw [6, 38] (fun code i wr => ∃ j : Nat, j ≤ c ∧ i = .int .i64 j ∧ code = .int .u16 ((2 * cd + j : Nat) : Int) ∧ AFr w wr cb blk off (2 * d.length) cur cur2 t ∧
              wr.ownsRow base 83 1 (.slice (some ⟨cb, 0, none⟩) cs0.length C) cs0.length (nv .u32 (csP L cs0 n j))) (fun _ i _ => c - (intOf i).toNat)
            case atStart => exact ⟨0, Nat.zero_le _, rfl, by go_num, HA2.out, HOW2.out⟩
            case round =>
              obtain ⟨j, hj, rfl, rfl, hA3, hown3⟩ := hrel
              clear HA2 HOW2
              by_cases hjl : j < c
              · obtain ⟨x, hx⟩ : ∃ x, ch[j]? = some x := ⟨ch[j]'(by have := HCHL.out; omega), List.getElem?_eq_getElem _⟩
                obtain ⟨hr1, hr2, hr3⟩ := HRK.out j x hx
                obtain ⟨hl3, hl4⟩ := HL2.out j x hx
                have hc1 : wr.cell? ⟨blk, off + q * 2 + j * 2, none⟩ = some (.int .u16 ((x.1.val : Nat) : Int)) := by
                  simp only [World.cell?, hA3.lblk]; exact hl3
                have hc2 : wr.cell? ⟨blk, off + q * 2 + j * 2 + 1, none⟩ = some (.int .u16 ((x.2.val : Nat) : Int)) := by
                  simp only [World.cell?, hA3.lblk]; exact hl4
                have hs1 := (hA3.cell HBK.out hb 0 hhl hne (by have := HHO.out; omega)).trans hhb
                have hs3 := owns_cell hown3 x.1.val (by omega) (by rw [csP_len])
                have hs4 := hown3.frozenAt x.1.val
                have hcbl := (hown3.lt cb rfl).2
                have hcbl2 := (HO0.out.lt cb rfl).2
                have hhl2 := Nat.lt_of_lt_of_le hhl hA3.size
                have hblk2 : blk < wr.heap.size := (Array.getElem?_eq_some_iff.1 hA3.lblk).1
                have hsz3 := hA3.size
                have HST := Lib.hid (csP_step L cs0 n j x.1.val hL h0 hr1 hr2 hr3)
                have HV : Hid (hval L x.1.val = PT.turn (2 * cd + j) n * 256 + n) := by
                  show hval L x.1.val = _
                  unfold hval
                  rw [canonAt_rk L _ n h0 hr2, HCD.out, hr2, hr3]
                have hT := PT.turn_lt (2 * cd + j) n
                have hT2 : 2 ^ n ≤ 2 ^ 15 := Nat.pow_le_pow_right (by omega) (by omega)
                have hT3 : PT.turn (2 * cd + j) n < 65536 := by omega
                have hx1 := x.1.isLt
                have hx2 := x.2.isLt
                have HA3 := Lib.hid hA3
                have HO3 := Lib.hid hown3
                have hcs : x.1.val < cs0.length := by omega
                clear hT hT2 hl3 hl4 hr1 hr2 hr3 hA3 hown3 hcw hck
                go_upto_region 11 with (fail)
                generalize hxx : x.1.val = s at *
                generalize x.2.val = f at *
                generalize (csP L cs0 n j).getD s 0 = y at *
                generalize hW : World.alloc wr _ = W
                have hq1 : W.cell? ⟨hb, 0, none⟩ = some (.slice (some ⟨cb, 0, none⟩) cs0.length C) := by
                  rw [← hW, World.cell?_alloc_old _ _ _ (Nat.ne_of_lt hhl2)]; exact hs1
                have hq2 : W.cell? ⟨wr.heap.size, 0, none⟩ = some (.int .u16 (s : Int)) := by rw [← hW]; exact cells_new wr [_, _] _ _ 0 _ rfl
                have hq3 : W.cell? ⟨cb, s, none⟩ = some (.int .u32 (y : Int)) := by
                  rw [← hW, World.cell?_alloc_old _ _ _ (Nat.ne_of_lt hcbl)]; exact hs3
                have hq4 : W.frozen? ⟨cb, s, none⟩ = false := by rw [← hW]; exact (HO3.out.alloc _).frozenAt s
                have HAW : Hid (AFr w W cb blk off (2 * d.length) cur cur2 t) := by rw [← hW]; exact HA3.out.alloc _
                have HOWn : Hid (W.ownsRow base 83 1 (.slice (some ⟨cb, 0, none⟩) cs0.length C) cs0.length (nv .u32 (csP L cs0 n j))) := by rw [← hW]; exact HO3.out.alloc _
                clear hW hs1 hs3 hs4 hc1 hc2
                generalize wr.heap.size = lb at *
                have HS1 : Hid (∀ (W' : World) (v : Value), W'.cell? ⟨hb, 0, none⟩ = some (.slice (some ⟨cb, 0, none⟩) cs0.length C) → (W'.setCell ⟨cb, s, none⟩ v).cell? ⟨hb, 0, none⟩ = some (.slice (some ⟨cb, 0, none⟩) cs0.length C)) :=
                  Lib.hid fun W' v h => by rw [World.cell?_setCell_far W' _ _ v (by exact hne.symm)]; exact h
                have HS2 : Hid (∀ (W' : World) (v : Value), W'.cell? ⟨lb, 0, none⟩ = some (.int .u16 (s : Int)) → (W'.setCell ⟨cb, s, none⟩ v).cell? ⟨lb, 0, none⟩ = some (.int .u16 (s : Int))) :=
                  Lib.hid fun W' v h => by rw [World.cell?_setCell_far W' _ _ v (by dsimp only; omega)]; exact h
                have hd1 : W.drew.cell? ⟨hb, 0, none⟩ = some (.slice (some ⟨cb, 0, none⟩) cs0.length C) := hq1
                have hd2 : W.drew.cell? ⟨lb, 0, none⟩ = some (.int .u16 (s : Int)) := hq2
                have hd3 : W.drew.cell? ⟨cb, s, none⟩ = some (.int .u32 (y : Int)) := hq3
                have hd4 : W.drew.frozen? ⟨cb, s, none⟩ = false := hq4
                clear hq1 hq2 hq3 hq4
                have hwn : IntKind.u8.wrap (n : Int) = n := by simp [IntKind.wrap, IntKind.bits, IntKind.signed]; omega
                go_cut [] from 42 to 55 (fun wx => ∃ m, wx = (World.drewN W m).setCell ⟨cb, s, none⟩ (.int .u32 ((PT.turn (2 * cd + j) n * 256 + n : Nat) : Int)))
                case first =>
                  clear HF HCN HCO HO0 HBK HHO HX HCD HCHL HLC HMN HRK HL2 HLQ HST HV HA3 HO3 HAW HOWn
                  go_region_held3 (fun W' : World => W'.cell? ⟨hb, 0, none⟩ = some (.slice (some ⟨cb, 0, none⟩) cs0.length C) ∧ W'.cell? ⟨lb, 0, none⟩ = some (.int .u16 (s : Int)))
                    (first | (with_reducible exact ⟨by assumption, by assumption⟩) | (with_reducible exact ⟨HS1.out _ _ (by assumption), HS2.out _ _ (by assumption)⟩))
                    (first
                      | (go_at_call 77; refine (reverseBits_any (2 * cd + j) n (by omega) (by omega) _).mono ?_; rintro e w3 ⟨rfl, m, hm3⟩; have hr1 : w3.cell? ⟨hb, 0, none⟩ = some (.slice (some ⟨cb, 0, none⟩) cs0.length C) := (by rw [hm3]; exact hd1); have hr2 : w3.cell? ⟨lb, 0, none⟩ = some (.int .u16 (s : Int)) := (by rw [hm3]; exact hd2); have hr3 : w3.cell? ⟨cb, s, none⟩ = some (.int .u32 (y : Int)) := (by rw [hm3]; exact hd3); have hr4 : w3.frozen? ⟨cb, s, none⟩ = false := (by rw [hm3]; exact hd4); have HM3 := Lib.hid hm3; clear hm3)
                      | (go_at_call 66; refine (newhcode_any (PT.turn (2 * cd + j) n) n (by omega) (by omega) _).mono ?_; rintro e w4 ⟨rfl, rfl⟩))
                  all_goals
                    go_wp2_with fail
                    go_meet
                    refine ⟨1 + m, ?_⟩
                    have e1 : W.drew.drewN m = W.drewN (1 + m) := drewN_add W 1 m
                    have e2 : ((PT.turn (2 * cd + j) n * 256 + n : Nat) : Int) = (PT.turn (2 * cd + j) n : Nat) * 256 + (n : Nat) := by push_cast; rfl
                    rw [HM3.out, e1, e2]
                case rest =>
                  obtain ⟨m, rfl⟩ := hcut
                  go_wp2
                  go_roundw
                  case rel =>
                    refine ⟨j + 1, by omega, by go_num, by go_num, (HAW.out.drewN m).setOwn hbc cb s (.inl rfl) _, ?_⟩
                    have e2 : ((PT.turn (2 * cd + j) n * 256 + n : Nat) : Int) = (PT.turn (2 * cd + j) n : Nat) * 256 + (n : Nat) := by push_cast; rfl
                    have h0 : (W.drewN m).ownsRow base 83 1 (.slice (some ⟨cb, 0, none⟩) cs0.length C) cs0.length (nv .u32 (csP L cs0 n j)) := HOWn.out
                    have h1 := owns_set h0 s (PT.turn (2 * cd + j) n * 256 + n)
                    rw [HST.out, HV.out]
                    rw [e2] at h1
                    exact h1
                  case measure => simp [intOf]; omega
              · have hjc : j = c := by omega
                subst hjc
                go_wp2
                go_roundw
                case rel =>
                  obtain ⟨x1, x2, x3, x4, x5, x6, x7, x8, x9, x10⟩ := HX.out
                  have y1 := HMN.out
                  refine ⟨n + 1, q, cur2, by omega, by go_num, by omega, rfl, ?_, HLQ.out, hA3, ?_⟩
                  · rw [show n + 1 - 1 = n from rfl, x9 h0]
                  · rw [← csP_next L cs0 n j hL (x6 h0 hlt)]; exact hown3
                case measure => simp [intOf]; omega
    · go_wp2
      go_end0
      have hnl : n = cnt.length := by omega
      subst hnl
      exact ⟨rfl, cur', hA, hown⟩
end Go.Proofs.Ytgkpdffgahadpaa

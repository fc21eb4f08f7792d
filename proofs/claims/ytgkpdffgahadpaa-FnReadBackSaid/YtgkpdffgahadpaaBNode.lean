/- What the walk of generate holds: the list of literals inside the encoder, the codes, and all else as it was. -/
import Derived.Test.YtgkpdffgahadpaaBSortG
import Derived.Test.YtgkpdffgahadpaaBGood
namespace Go.Proofs.Ytgkpdffgahadpaa
open Go.RowKit Go.Shelf Go.Lib

/-- A symbol and its frequency. -/
def mkL (f : List Nat) (s : Nat) : Lit := (⟨s % 65536, Nat.mod_lt _ (by omega)⟩, ⟨f.getD s 0 % 65536, Nat.mod_lt _ (by omega)⟩)
/-- The symbols with a frequency among the first k. -/
def nodes (f : List Nat) (k : Nat) : List Lit := (symsK f k).map (mkL f)
theorem nodes_len (f : List Nat) (k : Nat) : (nodes f k).length = (symsK f k).length := by simp [nodes]
theorem nodes_succ (f : List Nat) (k : Nat) : nodes f (k + 1) = nodes f k ++ if 0 < f.getD k 0 then [mkL f k] else [] := by
  unfold nodes; rw [symsK_succ, List.map_append]; split <;> simp
theorem nodes_le (f : List Nat) (k : Nat) : (nodes f k).length ≤ k := by
  rw [nodes_len]
  refine Nat.le_trans (List.length_filter_le _ _) ?_
  simp
theorem nodes_full (f : List Nat) : (nodes f f.length).length = (used f).length := by rw [nodes_len, symsK_len]
theorem nodes_get (f : List Nat) (k j : Nat) (h : j < (nodes f k).length) : (nodes f k)[j]? = some (mkL f ((symsK f k).getD j 0)) := by
  rw [nodes_len] at h
  simp [nodes, List.getD, h]
theorem getD_bd {f : List Nat} (h16 : ∀ x ∈ f, x < 65536) (s : Nat) : f.getD s 0 < 65536 := by
  rcases Nat.lt_or_ge s f.length with h | h
  · exact h16 _ (getD_mem f s h)
  · rw [PM.getD_out h]; omega
theorem mkL_fst {f : List Nat} (s : Nat) (hs : s < 65536) : (mkL f s).1.val = s := Nat.mod_eq_of_lt hs
theorem mkL_snd {f : List Nat} (h16 : ∀ x ∈ f, x < 65536) (s : Nat) : (mkL f s).2.val = f.getD s 0 := Nat.mod_eq_of_lt (getD_bd h16 s)

/-- The sorted list. -/
theorem sorted_nodes {f : List Nat} (hl : f.length ≤ 1000) (h16 : ∀ x ∈ f, x < 65536) {d : List Lit} (hp : d.Perm (nodes f f.length)) (hs : d.Pairwise fun x y => keyL x ≤ keyL y) :
    d = (ordF f).map (mkL f) := by
  have hm : ∀ x ∈ d, x = mkL f x.1.val ∧ x.1.val < f.length := by
    intro x hx
    obtain ⟨s, h1, rfl⟩ := List.mem_map.1 (hp.mem_iff.1 hx)
    have h2 := (symsK_mem f _ s).1 h1
    rw [mkL_fst s (by omega)]
    exact ⟨rfl, h2.1⟩
  have ho : d.map (fun x => x.1.val) = ordF f := by
    refine ordF_eq hl ?_ ?_
    · refine (hp.map _).trans ?_
      unfold nodes
      rw [List.map_map]
      refine List.Perm.of_eq ?_
      refine (List.map_congr_left (g := id) ?_).trans (List.map_id _)
      intro s hs
      have := ((symsK_mem f _ s).1 hs).1
      exact mkL_fst s (by omega)
    · refine List.pairwise_map.2 (List.Pairwise.imp_of_mem ?_ hs)
      intro a b ha hb h
      obtain ⟨e1, l1⟩ := hm a ha
      obtain ⟨e2, l2⟩ := hm b hb
      have s1 := mkL_snd h16 a.1.val
      have s2 := mkL_snd h16 b.1.val
      rw [← e1] at s1
      rw [← e2] at s2
      unfold keyL at h
      unfold keyF
      omega
  rw [← ho, List.map_map]
  refine (List.map_id d).symm.trans (List.map_congr_left ?_)
  intro x hx
  exact (hm x hx).1

/-- All as it was but the encoder's block and its codes'. -/
structure GFr (w W : World) (hb cb : Nat) : Prop where
  os : W.os = w.os
  tape : W.tape = w.tape
  output : W.output = w.output
  size : w.heap.size ≤ W.heap.size
  other : ∀ q, q < w.heap.size → q ≠ hb → q ≠ cb → W.heap[q]? = w.heap[q]?

theorem GFr.refl (w : World) (hb cb : Nat) : GFr w w hb cb := ⟨rfl, rfl, rfl, Nat.le_refl _, fun _ _ _ _ => rfl⟩
theorem GFr.set {w W : World} {hb cb : Nat} (h : GFr w W hb cb) (q j : Nat) (hq : q = hb ∨ q = cb) (x : Value) : GFr w (W.setCell ⟨q, j, none⟩ x) hb cb :=
  ⟨h.os, h.tape, h.output, Nat.le_trans h.size (by simp [World.setCell]), fun k hk h1 h2 => by
    rw [Below.heap_setCell _ _ _ _ (show k ≠ q by rcases hq with h | h <;> omega)]; exact h.other k hk h1 h2⟩
theorem GFr.alloc {w W : World} {hb cb : Nat} (h : GFr w W hb cb) (o : Obj) : GFr w (W.alloc o) hb cb :=
  ⟨h.os, h.tape, h.output, Nat.le_trans h.size (by unfold World.alloc; simp), fun k hk h1 h2 => by
    rw [Below.heap_alloc _ _ _ (by have := h.size; omega)]; exact h.other k hk h1 h2⟩
theorem GFr.drewN {w W : World} {hb cb : Nat} (h : GFr w W hb cb) (m : Nat) : GFr w (W.drewN m) hb cb := ⟨h.os, h.tape, h.output, h.size, h.other⟩
theorem GFr.cell {w W : World} {hb cb : Nat} (h : GFr w W hb cb) (q i : Nat) (hq : q < w.heap.size) (h1 : q ≠ hb) (h2 : q ≠ cb) : W.cell? ⟨q, i, none⟩ = w.cell? ⟨q, i, none⟩ := by
  simp only [World.cell?, h.other q hq h1 h2]
theorem GFr.below {w0 w W : World} {B hb cb : Nat} (h : GFr w W hb cb) (h0 : Below B w0 w) (hB : B ≤ w0.heap.size) (hh : B ≤ hb) (hc : B ≤ cb) : Below B w0 W :=
  ⟨h.os.trans h0.os, h.tape.trans h0.tape, h.output.trans h0.output, Nat.le_trans h0.size h.size, fun k hk => by rw [h.other k (by have := h0.size; omega) (by omega) (by omega)]; exact h0.block k hk⟩
theorem GFr.sorted {w W W' : World} {hb cb : Nat} (h : GFr w W hb cb) (hf : LFr W W' hb) : GFr w W' hb cb :=
  ⟨hf.os.trans h.os, hf.tape.trans h.tape, hf.output.trans h.output, Nat.le_trans h.size hf.size, fun k hk h1 h2 => by rw [hf.block k (by have := h.size; omega) h1]; exact h.other k hk h1 h2⟩
theorem GFr.counts {w W W' : World} {hb cb off n : Nat} {cur cur' : Array Value} {t : TypeId} (h : GFr w W hb cb) (hf : BFr W W' hb hb off n cur cur' t) : GFr w W' hb cb :=
  ⟨hf.os.trans h.os, hf.tape.trans h.tape, hf.output.trans h.output, Nat.le_trans h.size hf.size, fun k hk h1 h2 => by rw [hf.other k (by have := h.size; omega) h1 h1]; exact h.other k hk h1 h2⟩
theorem GFr.assigned {w W W' : World} {hb cb off n : Nat} {cur cur' : Array Value} {t : TypeId} (h : GFr w W hb cb) (hf : AFr W W' cb hb off n cur cur' t) : GFr w W' hb cb :=
  ⟨hf.os.trans h.os, hf.tape.trans h.tape, hf.output.trans h.output, Nat.le_trans h.size hf.size, fun k hk h1 h2 => by rw [hf.other k (by have := h.size; omega) h2 h1]; exact h.other k hk h1 h2⟩

theorem LRow.push {cur : Array Value} {off : Nat} {d : List Lit} (h : LRow cur off d) (x : Lit) (hs : off + d.length * 2 + 1 < cur.size) :
    LRow ((cur.setIfInBounds (off + d.length * 2) (.int .u16 ((x.1.val : Nat) : Int))).setIfInBounds (off + d.length * 2 + 1) (.int .u16 ((x.2.val : Nat) : Int))) off (d ++ [x]) := by
  intro j y hy
  simp only [Array.getElem?_setIfInBounds, Array.size_setIfInBounds]
  rcases Nat.lt_or_ge j d.length with hj | hj
  · rw [List.getElem?_append_left hj] at hy
    obtain ⟨h1, h2⟩ := h j y hy
    rw [if_neg (by omega), if_neg (by omega), if_neg (by omega), if_neg (by omega)]
    exact ⟨h1, h2⟩
  · rw [List.getElem?_append_right hj] at hy
    have hj2 : j = d.length := by
      have := (List.getElem?_eq_some_iff.1 hy).1
      simp at this; omega
    subst hj2
    simp at hy
    subst hy
    rw [if_neg (by omega), if_pos rfl, if_pos (by omega), if_pos rfl, if_pos (by omega)]
    exact ⟨rfl, rfl⟩

/-- The walk's state. -/
structure GSt (w W : World) (base hb cb C : Nat) (cur : Array Value) (cs : List Nat) (d : List Lit) : Prop where
  enc : EncB W base hb cb C cur cs
  sz : cur.size = 592
  one : cur[1]? = some (.int .i32 0)
  row : LRow cur 18 d
  fr : GFr w W hb cb

theorem EncB.setIn {w : World} {base hb cb cap : Nat} {cur : Array Value} {cs : List Nat} (h : EncB w base hb cb cap cur cs) (j : Nat) (x : Value) (hj : 0 < j) : EncB (w.setCell ⟨hb, j, none⟩ x) base hb cb cap (cur.setIfInBounds j x) cs :=
  ⟨h.ge, heap_set h.blk j x, by rw [Array.getElem?_setIfInBounds, if_neg (by omega)]; exact h.c0, owns_heap h.own (Below.heap_setCell _ _ _ _ h.ne), h.ne⟩
theorem GSt.put {w W : World} {base hb cb C : Nat} {cur : Array Value} {cs : List Nat} {d : List Lit} (h : GSt w W base hb cb C cur cs d) (x : Lit) (hd : d.length ≤ 286) :
    GSt w ((W.setCell ⟨hb, 18 + d.length * 2, none⟩ (.int .u16 ((x.1.val : Nat) : Int))).setCell ⟨hb, 18 + d.length * 2 + 1, none⟩ (.int .u16 ((x.2.val : Nat) : Int))) base hb cb C
      ((cur.setIfInBounds (18 + d.length * 2) (.int .u16 ((x.1.val : Nat) : Int))).setIfInBounds (18 + d.length * 2 + 1) (.int .u16 ((x.2.val : Nat) : Int))) cs (d ++ [x]) :=
  ⟨(h.enc.setIn _ _ (by omega)).setIn _ _ (by omega), by simpa using h.sz, by
    rw [Array.getElem?_setIfInBounds, if_neg (by omega), Array.getElem?_setIfInBounds, if_neg (by omega)]; exact h.one,
    h.row.push x (by have := h.sz; omega), (h.fr.set _ _ (.inl rfl) _).set _ _ (.inl rfl) _⟩
theorem GSt.over {w W : World} {base hb cb C : Nat} {cur : Array Value} {cs : List Nat} {d : List Lit} (h : GSt w W base hb cb C cur cs d) (x y : Value) :
    GSt w ((W.setCell ⟨hb, 18 + d.length * 2, none⟩ x).setCell ⟨hb, 18 + d.length * 2 + 1, none⟩ y) base hb cb C ((cur.setIfInBounds (18 + d.length * 2) x).setIfInBounds (18 + d.length * 2 + 1) y) cs d :=
  ⟨(h.enc.setIn _ _ (by omega)).setIn _ _ (by omega), by simpa using h.sz, by
    rw [Array.getElem?_setIfInBounds, if_neg (by omega), Array.getElem?_setIfInBounds, if_neg (by omega)]; exact h.one,
    h.row.same fun i hi => by rw [Array.getElem?_setIfInBounds, if_neg (by omega), Array.getElem?_setIfInBounds, if_neg (by omega)], (h.fr.set _ _ (.inl rfl) _).set _ _ (.inl rfl) _⟩
theorem GSt.code {w W : World} {base hb cb C : Nat} {cur : Array Value} {cs : List Nat} {d : List Lit} (h : GSt w W base hb cb C cur cs d) (j x : Nat) :
    GSt w (W.setCell ⟨cb, j, none⟩ (.int .u32 (x : Int))) base hb cb C cur (cs.set j x) d :=
  ⟨h.enc.set j x, h.sz, h.one, h.row, h.fr.set _ _ (.inr rfl) _⟩
theorem GSt.at_ {w W : World} {base hb cb C : Nat} {cur : Array Value} {cs : List Nat} {d : List Lit} (h : GSt w W base hb cb C cur cs d) (i : Nat) (hi : i < 592) : (∃ y, W.cell? ⟨hb, i, none⟩ = some y) ∧ W.frozen? ⟨hb, i, none⟩ = false := by
  have hs := h.sz
  exact ⟨⟨cur[i]'(by omega), by simp [World.cell?, h.enc.blk, show i < cur.size by omega]⟩, by simp [World.frozen?, h.enc.blk]⟩

theorem GSt.alloc {w W : World} {base hb cb C : Nat} {cur : Array Value} {cs : List Nat} {d : List Lit} (h : GSt w W base hb cb C cur cs d) (o : Obj) : GSt w (W.alloc o) base hb cb C cur cs d :=
  ⟨h.enc.below ((Below.refl _ _).alloc (Nat.le_refl _) o), h.sz, h.one, h.row, h.fr.alloc o⟩
theorem GSt.drew {w W : World} {base hb cb C : Nat} {cur : Array Value} {cs : List Nat} {d : List Lit} (h : GSt w W base hb cb C cur cs d) : GSt w W.drew base hb cb C cur cs d :=
  ⟨h.enc.below (Below.refl _ _).drew, h.sz, h.one, h.row, ⟨h.fr.os, h.fr.tape, h.fr.output, h.fr.size, h.fr.other⟩⟩
theorem GSt.drewN {w W : World} {base hb cb C : Nat} {cur : Array Value} {cs : List Nat} {d : List Lit} (h : GSt w W base hb cb C cur cs d) (m : Nat) : GSt w (W.drewN m) base hb cb C cur cs d :=
  ⟨h.enc.below (below_dN (Below.refl _ _) m), h.sz, h.one, h.row, h.fr.drewN m⟩

theorem csP_top (L cs0 : List Nat) (n : Nat) (hl : L.length = cs0.length) (hn : ∀ x ∈ L, 0 < x → x < n) (h16 : n ≤ 16) : csP L cs0 n 0 = csP L cs0 16 0 := by
  apply List.ext_getElem
  · simp [csP]
  · intro s h1 h2
    rw [csP_len] at h1
    have hm := hn _ (getD_mem L s (by omega))
    simp only [csP, List.getElem_map, List.getElem_range]
    by_cases h : 0 < L.getD s 0
    · have := hm h
      rw [if_pos (by omega), if_pos (by omega)]
    · rw [if_neg (by omega), if_neg (by omega)]

/-! ## Two symbols or fewer -/
theorem few_eq {f : List Nat} {bits : Nat} (h2 : (used f).length ≤ 2) : lensG f bits = f.map fun x => if 0 < x then 1 else 0 := by unfold lensG; rw [if_pos h2]
theorem few_at {f : List Nat} {bits : Nat} (h2 : (used f).length ≤ 2) (s : Nat) (h : s ∈ symsK f f.length) : s < (lensG f bits).length ∧ (lensG f bits).getD s 0 = 1 := by
  have hm := (symsK_mem f _ s).1 h
  rw [few_eq h2]
  exact ⟨by simpa using hm.1, by rw [map_getD0 f _ s hm.1, if_pos hm.2]⟩
theorem few_count : ∀ f : List Nat, (f.map fun x => if 0 < x then 1 else 0).count 1 = (usedF f).length
  | [] => rfl
  | a :: r => by
    have ih := few_count r
    unfold usedF at *
    rw [List.map_cons, List.count_cons, ih, List.filter_cons]
    by_cases h : 0 < a
    · simp [h]
    · simp [h]
theorem few_zero (f : List Nat) (bits : Nat) (hl : (lensG f bits).length = f.length) : csP (lensG f bits) (List.replicate f.length 0) 1 0 = List.replicate f.length 0 := by
  have h := csP_skip (lensG f bits) (List.replicate f.length 0) 0 (by rw [hl]; simp) (.inl rfl)
  rw [csP_zero] at h
  exact h.symm
theorem few_step {f : List Nat} {bits : Nat} (h2 : (used f).length ≤ 2) (hl : (lensG f bits).length = f.length) (i : Nat) (hi : i < (symsK f f.length).length) :
    csP (lensG f bits) (List.replicate f.length 0) 1 (i + 1) = (csP (lensG f bits) (List.replicate f.length 0) 1 i).set ((symsK f f.length).getD i 0) (i * 256 + 1) := by
  have hm := few_at (bits := bits) h2 _ (getD_mem (symsK f f.length) i hi)
  have hc : (lensG f bits).count 1 = (symsK f f.length).length := by rw [few_eq h2, few_count, symsK_len, used_len]
  have hr := chunk_rk (lensG f bits) (symsK f f.length) 1 (symsK_sorted f _) (fun s hs => few_at h2 s hs) hc i ((symsK f f.length).getD i 0) (by simp [List.getD, hi])
  rw [csP_step (lensG f bits) (List.replicate f.length 0) 1 i _ (by rw [hl]; simp) (by omega) hm.1 hm.2 hr]
  refine congrArg _ ?_
  unfold hval
  rw [canonAt_rk _ _ 1 (by omega) hm.2, hr, hm.2]
  have hi2 : i < 2 := by rw [symsK_len] at hi; omega
  have e0 : codeEnd (lensG f bits) (1 - 1) = 0 := rfl
  have e1 : PT.turn i 1 = i := by
    rw [PT.turn_succ]
    simp [PT.turn, PT.turnA]; omega
  rw [e0, Nat.mul_zero, Nat.zero_add, e1]
theorem few_end {f : List Nat} {bits : Nat} (h2 : (used f).length ≤ 2) (hl : (lensG f bits).length = f.length) : csP (lensG f bits) (List.replicate f.length 0) 1 (symsK f f.length).length = genH (lensG f bits) := by
  have hc : (lensG f bits).count 1 = (symsK f f.length).length := by rw [few_eq h2, few_count, symsK_len, used_len]
  unfold genH
  rw [hl, csP_next _ _ 1 _ (by rw [hl]; simp) hc, csP_top _ _ 2 (by rw [hl]; simp) ?_ (by omega)]
  intro x hx _
  rw [few_eq h2] at hx
  obtain ⟨y, _, rfl⟩ := List.mem_map.1 hx
  split <;> omega
/-- More than two. -/
theorem many_end {f : List Nat} {bits : Nat} (h : WellF f bits) (h3 : 3 ≤ (used f).length) (hl : (lensG f bits).length = f.length) : csP (lensG f bits) (List.replicate f.length 0) (cntG f bits).length 0 = genH (lensG f bits) := by
  have hcl := cntG_len f bits
  have hb := h.b15
  unfold genH
  rw [hl, csP_top _ _ _ (by rw [hl]; simp) ?_ (by omega)]
  intro x hx h0
  have e : lensG f bits = spr (ordF f) (lsq 0 (cntG f bits)) f.length (ordF f).length := by unfold lensG; rw [if_neg (by omega)]
  rw [e] at hx
  exact spr_lt _ _ _ (cntG_sum h h3) x hx h0
theorem many_fits {f : List Nat} {bits : Nat} (h : WellF f bits) (h3 : 3 ≤ (used f).length) : Fits (cntG f bits) ((ordF f).map (mkL f)) (lensG f bits) := by
  have hcl := cntG_len f bits
  have hb := h.b15
  have hm := h.most
  have e : lensG f bits = spr (ordF f) (lsq 0 (cntG f bits)) f.length (ordF f).length := by unfold lensG; rw [if_neg (by omega)]
  rw [e]
  refine fits_of (cntG f bits) (ordF f) _ f.length ?_ (by omega) (cntG_zero f bits) (cntG_sum h h3) (ordF_nodup f) (ordF_lt f) ?_
  · rw [List.map_map]
    refine (List.map_congr_left (g := id) ?_).trans (List.map_id _)
    intro s hs
    have := ordF_lt f s hs
    exact mkL_fst s (by omega)
  · have hs := cntG_shares h h3
    have er : ∀ (l : List Nat) k, room l k = PM.shares l k := by
      intro l k
      induction k with
      | zero => rfl
      | succ k ih => rw [room, PM.shares, ih]
    rw [er, hs]; exact Nat.le_refl _

theorem GSt.sorted {w W W' : World} {base hb cb C n : Nat} {cur cur' : Array Value} {cs : List Nat} {d d' : List Lit} (h : GSt w W base hb cb C cur cs d) (hf : LFr W W' hb)
    (hb' : W'.heap[hb]? = some (.cells cur' 81 (0, 0))) (hs : cur'.size = cur.size) (ho : ∀ i, i < 18 ∨ 18 + n ≤ i → cur'[i]? = cur[i]?) (hr : LRow cur' 18 d') : GSt w W' base hb cb C cur' cs d' :=
  ⟨⟨h.enc.ge, hb', by rw [ho 0 (.inl (by omega))]; exact h.enc.c0, owns_heap h.enc.own (hf.block cb h.enc.cb_lt.2 h.enc.ne), h.enc.ne⟩, by rw [hs]; exact h.sz, by rw [ho 1 (.inl (by omega))]; exact h.one, hr, h.fr.sorted hf⟩
theorem GSt.counts {w W W' : World} {base hb cb C : Nat} {cur cur' : Array Value} {cs : List Nat} {d : List Lit} (h : GSt w W base hb cb C cur cs d) (hf : BFr W W' hb hb 18 d.length cur cur' 81) : GSt w W' base hb cb C cur' cs d :=
  ⟨⟨h.enc.ge, hf.blk, by rw [hf.out 0 (.inl (by omega)) (fun _ => by omega)]; exact h.enc.c0, owns_heap h.enc.own (hf.other cb h.enc.cb_lt.2 h.enc.ne h.enc.ne), h.enc.ne⟩, by rw [hf.sz]; exact h.sz,
    by rw [hf.out 1 (.inl (by omega)) (fun _ => by omega)]; exact h.one, by
      intro j x hx
      have hj := (List.getElem?_eq_some_iff.1 hx).1
      rw [hf.out _ (.inr (by omega)) (fun _ => by omega), hf.out _ (.inr (by omega)) (fun _ => by omega)]
      exact h.row j x hx, h.fr.counts hf⟩
end Go.Proofs.Ytgkpdffgahadpaa

/- The walk of the reference's Huffman: again and again the two least ones are put together. -/
import Derived.Test.YtgkpdffgahadpaaSLeast
import Derived.Test.YtgkpdffgahadpaaPm5
import Derived.Test.YtgkpdffgahadpaaS1
import Derived.ArgAppend
namespace Go.Proofs.Ytgkpdffgahadpaa
open Go.RowKit Go.Sort

/-- A row of numbers somewhere inside a block of the call's own. -/
def ORow (w : World) (base g o cap : Nat) (l : List Nat) : Prop :=
  ∃ cur, base ≤ g ∧ w.heap[g]? = some (.cells cur 3 (0, 0)) ∧ l.length ≤ cap ∧ cap ≤ maxLen ∧ o + cap ≤ cur.size ∧ ∀ j, j < l.length → cur[o + j]? = some (.int .i64 ((l.getD j 0 : Nat) : Int))

theorem ORow.of_owns {w : World} {base n : Nat} {v : Value} {l : List Nat} (hn : n = l.length) (h0 : 0 < n) (h : w.ownsRow base 3 1 v n (nv .i64 l)) : ∃ g cap, v = .slice (some ⟨g, 0, none⟩) l.length cap ∧ ORow w base g 0 cap l := by
  subst hn
  rcases h.2 with ⟨_, h1⟩ | ⟨g, cap, cur, rfl, hb, hg, h1, h2, h3, h4⟩
  · omega
  · refine ⟨g, cap, rfl, cur, hb, hg, h1, h2, by omega, fun j hj => ?_⟩
    have h5 : (cur.toList.take (l.length * 1))[j]? = (nv .i64 l)[j]? := by rw [h4]
    rw [List.getElem?_take, if_pos (by omega), nv_get _ _ _ hj] at h5
    rw [Nat.zero_add, ← Array.getElem?_toList]; exact h5
theorem ORow.cell {w : World} {base g o cap : Nat} {l : List Nat} (h : ORow w base g o cap l) (j : Nat) (hj : j < l.length) : w.cell? ⟨g, o + j, none⟩ = some (.int .i64 ((l.getD j 0 : Nat) : Int)) := by
  obtain ⟨cur, _, hg, _, _, _, hc⟩ := h
  simp only [World.cell?, hg]
  simpa using hc j hj
theorem ORow.lt {w : World} {base g o cap : Nat} {l : List Nat} (h : ORow w base g o cap l) : base ≤ g ∧ g < w.heap.size := by
  obtain ⟨cur, hb, hg, _⟩ := h
  exact ⟨hb, (Array.getElem?_eq_some_iff.1 hg).1⟩
theorem ORow.spare {w : World} {base g o cap : Nat} {l : List Nat} (h : ORow w base g o cap l) (j : Nat) (hj : j < cap) : (w.cell? ⟨g, o + j, none⟩).isSome = true ∧ w.frozen? ⟨g, o + j, none⟩ = false := by
  obtain ⟨cur, _, hg, _, _, hs, _⟩ := h
  refine ⟨?_, by simp [World.frozen?, hg]⟩
  simp [World.cell?, hg, show o + j < cur.size by omega]
theorem ORow.alloc {w : World} {base g o cap : Nat} {l : List Nat} (h : ORow w base g o cap l) (ob : Obj) : ORow (w.alloc ob) base g o cap l := by
  obtain ⟨cur, hb, hg, rest⟩ := h
  exact ⟨cur, hb, by rw [Below.heap_alloc _ _ _ (Array.getElem?_eq_some_iff.1 hg).1]; exact hg, rest⟩
/-- The row behind its first two. -/
theorem ORow.drop2 {w : World} {base g o cap : Nat} {l : List Nat} (h : ORow w base g o cap l) (h2 : 2 ≤ l.length) : ORow w base g (o + 2) (cap - 2) (l.drop 2) := by
  obtain ⟨cur, hb, hg, h3, h4, h5, h6⟩ := h
  refine ⟨cur, hb, hg, by rw [List.length_drop]; omega, by omega, by omega, fun j hj => ?_⟩
  rw [List.length_drop] at hj
  have := h6 (j + 2) (by omega)
  rw [show o + 2 + j = o + (j + 2) by omega, this]
  simp [List.getD, List.getElem?_drop, Nat.add_comm]
/-- One more where there is room. -/
theorem ORow.put {w : World} {base g o cap x : Nat} {l : List Nat} (h : ORow w base g o cap l) (hr : l.length + 1 ≤ cap) : ORow (w.setCell ⟨g, o + l.length, none⟩ (.int .i64 (x : Int))) base g o cap (l ++ [x]) := by
  obtain ⟨cur, hb, hg, h3, h4, h5, h6⟩ := h
  have hh : (w.setCell ⟨g, o + l.length, none⟩ (.int .i64 (x : Int))).heap[g]? = some (.cells (cur.setIfInBounds (o + l.length) (.int .i64 (x : Int))) 3 (0, 0)) := by
    rw [Go.Sort.setCell_eq]
    simp [Go.Sort.mapBlock, Array.getElem?_modify, hg, Go.Sort.onCells]
  refine ⟨_, hb, hh, by simp; omega, h4, by simpa using h5, fun j hj => ?_⟩
  rw [List.length_append, List.length_singleton] at hj
  rw [Array.getElem?_setIfInBounds]
  by_cases e : j = l.length
  · subst e
    rw [if_pos rfl, if_pos (by omega)]
    simp [List.getD]
  · rw [if_neg (by omega), h6 j (by omega)]
    simp [List.getD, List.getElem?_append, show j < l.length by omega]

/-- The library's sort, on such a row. -/
theorem sortO_any {base g o cap : Nat} {l : List Nat} {w : World} (h : ORow w base g o cap l) (hlen : l.length < 1000000) :
    Calls Try.prog 30 #[.slice (some ⟨g, o, none⟩) l.length cap] w fun e w' => e = .returned (.tuple #[]) ∧ ORow w' base g o cap (PM.srt l) ∧ LFr w w' g := by
  have hlt := h.lt
  obtain ⟨cur, hb, hg, h3, h4, h5, h6⟩ := h
  have hH : Holds (Value.int .i64) w g o (l.map fun n => ((n : Nat) : Int)).toArray := by
    intro j hj
    have hj' : j < l.length := by simpa using hj
    refine ⟨?_, by simp [World.frozen?, hg]⟩
    simp only [World.cell?, hg]
    have := h6 j hj'
    simpa [List.getD, hj'] using this
  have hc := Try.slices_Sort_int g o cap (l.map fun n => ((n : Nat) : Int)) w hH hlt.2 (by rw [List.length_map]; omega)
  rw [List.length_map, sort_casts] at hc
  refine hc.mono ?_
  rintro e w' ⟨rfl, m, os, rfl⟩
  have hlen2 : (PM.srt l).length = l.length := PM.srt_len l
  refine ⟨rfl, ⟨putCells (Value.int .i64) o ((PM.srt l).map fun n => ((n : Nat) : Int)).toArray cur, hb, ?_, by omega, h4, by simpa [putCells] using h5, fun j hj => ?_⟩, ⟨rfl, rfl, rfl, by simp, fun q hq hne => ?_⟩⟩
  · rw [heap_grow_old _ _ (by simpa using hlt.2)]
    simp [putRow, mapBlock, Sort.ahead, Array.getElem?_modify, hg, onCells]
  · simp only [putCells, Array.getElem?_mapIdx]
    have hs : o + j < cur.size := by omega
    simp [hs, hj, List.getD]
  · rw [heap_grow_old _ _ (by simpa using hq)]
    simp [putRow, mapBlock, Sort.ahead, Array.getElem?_modify, Ne.symm hne]

/-- One more number, behind the block that it was laid in: where there is room, or in a new row. -/
theorem wpList_appO {ops : Array Oper} {rest : List Oper} {o : Oper} {a : Act} {Q : Exit → Act → World → Prop} (wr W : World) (hgd : o.guard = none) (s x : Operand)
    (hop : o.op = .call { callee := .builtin .append, args := #[s, x], argTypes := #[24, 24] })
    (base g off cap z : Nat) (r : List Nat) (ob : Obj) (hs : a.eval s = .slice (some ⟨g, off, none⟩) r.length cap) (hO : ORow wr base g off cap r)
    (hx : a.eval x = .slice (some ⟨wr.heap.size, 0, none⟩) 1 1) (hob : (wr.alloc ob).cell? ⟨wr.heap.size, 0, none⟩ = some (.int .i64 (z : Int))) (hbel : Below base W wr) (hb0 : base ≤ W.heap.size) (hlen : r.length < 1000000)
    (h : ∀ g' o' cap' w', ORow w' base g' o' cap' (r ++ [z]) → Below base W w' → wpList Try.prog ops Q rest (a.put o.dst (.slice (some ⟨g', o', none⟩) (r.length + 1) cap')) w') :
    wpList Try.prog ops Q (o :: rest) a (wr.alloc ob) := by
  obtain ⟨i0, hi, hz0, hz1, hz2⟩ := info_parts info_int
  have hlt := hO.lt
  have hsz := hbel.size
  have hO1 := hO.alloc ob
  have hB1 := hbel.alloc (Nat.le_trans hb0 hsz) ob
  refine wpList_append_arg (wr.alloc ob) hgd s x 24 hop 3 i0 (.int .i64 0) 1 8 Try.underlying24 hi hz0 hz1 hz2 rfl (by decide) g off r.length cap (nv .i64 r) hs (by rw [nv_len]; omega) ?_ ⟨wr.heap.size, 0, none⟩ 1 1 [.int .i64 (z : Int)] hx rfl ?_ ?_ ?_ (by unfold maxLen; omega) (by omega) ?_ ?_
  · intro j u hj
    have hjl : j < r.length := by
      rcases Nat.lt_or_ge j r.length with h1 | h1
      · exact h1
      · rw [List.getElem?_eq_none (by rw [nv_len]; exact h1)] at hj; cases hj
    rw [nv_get _ _ _ hjl] at hj
    cases hj
    exact hO1.cell j hjl
  · intro j u hj
    match j, hj with
    | 0, hj => simp at hj; subst hj; exact hob
    | j + 1, hj => simp at hj
  · intro u hu; simp at hu; subst hu; rfl
  · intro hr j hj
    have : j = 0 := by simpa using hj
    subst this
    rw [Nat.mul_one, Nat.add_zero]
    exact hO1.spare r.length (by omega)
  · intro hr
    rw [Nat.mul_one]
    have hp := hO1.put (x := z) (by omega)
    exact h g off cap _ hp (hB1.setCell hlt.1 _)
  · intro _ v' w' ho hg
    have e : nv .i64 r ++ [Value.int .i64 (z : Int)] = nv .i64 (r ++ [z]) := by rw [nv_append]; rfl
    rw [e] at ho
    obtain ⟨g', cap', rfl, hO'⟩ := ORow.of_owns (by simp) (by omega) ho
    obtain ⟨cur, hb, rest'⟩ := hO'
    have hsz2 : (wr.alloc ob).heap.size = wr.heap.size + 1 := by simp
    have := h g' 0 cap' w' ⟨cur, by omega, rest'⟩ (hB1.grown hg (Nat.le_trans hb0 hB1.size) (fun j hj => by cases hj))
    rw [show (r ++ [z]).length = r.length + 1 by simp]
    exact this

set_option maxRecDepth 100000 in
/-- 'list[2:]' of a list with more room than two. -/
theorem wpList_slice2 {ops : Array Oper} {rest : List Oper} {o : Oper} {a : Act} {Q : Exit → Act → World → Prop} (w : World) (hgd : o.guard = none) (s : Operand)
    (hop : o.op = .slice 24 s (some (.const (.int .i64 2))) none none) (g off n cap : Nat) (hs : a.eval s = .slice (some ⟨g, off, none⟩) n cap) (h2 : 2 ≤ n) (hc : cap ≠ 2) (m : Nat) (hm : n - 2 = m)
    (h : wpList Try.prog ops Q rest (a.put o.dst (.slice (some ⟨g, off + 2, none⟩) m (cap - 2))) w) : wpList Try.prog ops Q (o :: rest) a w := by
  subst hm
  have hr := run_slice_l (P := Try.prog) (w := w) 24 (some ⟨g, off, none⟩) n cap (by kernel_rfl) .i64 2 (by omega) (by omega)
  have hz : (sizeOf (Try.prog.elem 24)).run Try.prog w = .ok 1 w := by kernel_rfl
  rw [hz] at hr
  have hv : sliced (some (⟨g, off, none⟩ : Addr)) (2 : Int).toNat n cap 1 = .slice (some ⟨g, off + 2, none⟩) (n - 2) (cap - 2) := by
    have e : (2 : Int).toNat = 2 := rfl
    rw [e]
    unfold sliced
    rw [if_neg hc]; rfl
  rw [Result.andThen_ok, hv] at hr
  refine wpList_plain hgd fun K hK => ?_
  have hr2 := (run_sliceAt_slice (P := Try.prog) (w := w) 24 (.slice (some ⟨g, off, none⟩) n cap) (some (.int .i64 2)) none none (by kernel_rfl)).trans hr
  unfold Oper.wp execOp
  have hc1 : a.eval (.const (.int .i64 2)) = .int .i64 2 := rfl
  simp only [hop, hs, Option.map_some, Option.map_none, hc1, Sem.run_bind, Sem.run_pure, hr2, Result.andThen_ok]
  exact hK _ _ h

theorem owns_list {w : World} {base e n : Nat} {v : Value} {u : List Nat} (h : w.ownsRow base e 1 v n ((( u.map fun n => ((n : Nat) : Int)).take n).map (Value.int .i64))) (hn : n = u.length) : w.ownsRow base e 1 v n (nv .i64 u) := by
  have e1 : ((u.map fun n => ((n : Nat) : Int)).take n).map (Value.int .i64) = nv .i64 u := by
    rw [List.take_of_length_le (by simp; omega)]; simp [nv]
  rw [← e1]; exact h

def hLen : Value → Nat
  | .slice _ n _ => n
  | _ => 0
theorem perm_sumH {l m : List Nat} (h : l.Perm m) : l.sum = m.sum := by
  induction h with
  | nil => rfl
  | cons x _ ih => simp [ih]
  | swap x y l => simp; omega
  | trans _ _ h1 h2 => rw [h1, h2]

set_option maxHeartbeats 4000000 in
set_option maxRecDepth 100000 in
theorem huff_two (v : Value) (u : List Nat) (w : World) (hr : NRow .i64 w v u) (h2 : 2 ≤ u.length) (hl : u.length ≤ 1000) (h16 : ∀ x ∈ u, x ≤ 65535) :
    Calls Try.prog 21 #[v] w fun e w' => e = .returned (.int .i64 (PM.huff (u.length - 1) u : Nat)) ∧ Below w.heap.size w w' := by
  obtain ⟨i0, hi, hz0, hz1, hz2⟩ := info_parts info_int
  obtain ⟨a, cap, rfl, _, hr⟩ := hr
  obtain ⟨b, o, rfl, hbl, hc⟩ := hr (by omega)
  have hsum : u.sum ≤ 65535000 := by
    have := sum_le_of u 65535 h16
    omega
  have HCL := Lib.hid (Try.slices_Clone_int b o u.length cap (u.map fun n => ((n : Nat) : Int)) w (by simp) (by omega) (fun j hj => by
    rw [List.length_map] at hj
    rw [hc j hj]
    simp [List.getD, hj]))
  clear hc h16 hr
  have HS := Lib.hid hsum
  clear hsum
  go_enter Try.func21, Try.ntmps21
  go_wp2_with fail
  refine HCL.out.mono ?_
  rintro e w1 ⟨v1, rfl, ho1, _, hb1⟩
  obtain ⟨g1, c1, rfl, hO1⟩ := ORow.of_owns rfl (by omega) (owns_list ho1 rfl)
  have HO1 := Lib.hid hO1
  have HB1 := Lib.hid hb1
  clear ho1 hb1 hO1
  go_wp2
  go_loopw [3, 4] (fun lv nn wr => ∃ (l : List Nat) (g o cap N : Nat), lv = .slice (some ⟨g, o, none⟩) l.length cap ∧ nn = .int .i64 (N : Nat) ∧ 1 ≤ l.length ∧ l.length ≤ u.length ∧ l.sum ≤ 65535000 ∧ N + 100000000 * l.length ≤ 100000000000 ∧
    ORow wr w.heap.size g o cap l ∧ Below w.heap.size w wr ∧ Hid (N + PM.huff (l.length - 1) l = PM.huff (u.length - 1) u)) (fun lv _ _ => hLen lv)
  case atStart => exact ⟨u, g1, 0, c1, 0, rfl, rfl, by omega, Nat.le_refl _, HS.out, by omega, HO1.out, HB1.out, Lib.hid (Nat.zero_add _)⟩
  case round =>
    obtain ⟨l, g, o, cap, N, rfl, rfl, hl1, hlu, hls, hN, hO, hbel, hH⟩ := hrel
    clear HO1 HB1 HS HCL
    by_cases hgt : 1 < l.length
    · have HS := Lib.hid (sortO_any hO (by omega))
      have HB := Lib.hid hbel
      have hgb := hO.lt
      clear hO hbel
      go_wp2_with fail
      refine HS.out.mono ?_
      rintro e w2 ⟨rfl, hO2, hfr2⟩
      have hlen2 := PM.srt_len l
      obtain ⟨x, y, r, hxy⟩ : ∃ x y r, PM.srt l = x :: y :: r := by
        match hm : PM.srt l, hlen2 with
        | x :: y :: r, _ => exact ⟨x, y, r, rfl⟩
        | [x], h => simp at h; omega
        | [], h => simp at h; omega
      have HB2 := Lib.hid (hfr2.below HB.out (Nat.le_refl _) hgb.1)
      have hsm : (PM.srt l).sum = l.sum := perm_sumH (PM.srt_perm l)
      rw [hxy] at hO2 hlen2 hsm
      simp only [List.length_cons, List.sum_cons] at hlen2 hsm
      have k0 : w2.cell? ⟨g, o, none⟩ = some (.int .i64 (x : Int)) := hO2.cell 0 (by simp)
      have k1 : w2.cell? ⟨g, o + 1, none⟩ = some (.int .i64 (y : Int)) := hO2.cell 1 (by simp)
      have HO2 := Lib.hid hO2
      have HX := Lib.hid hxy
      have HH := Lib.hid (hH.out)
      have hcap : l.length ≤ cap := by
        obtain ⟨cur, _, _, h3, _⟩ := hO2
        simp at h3; omega
      clear hO2 hfr2 hxy hH HS HB
      have hxy2 : x + y ≤ 65535000 := by omega
      have hN2 : N ≤ 100000000000 := by omega
      have HSM := Lib.hid hsm
      have HLS := Lib.hid hls
      have HNB := Lib.hid hN
      clear hsm hls hN
      go_wp2_with fail
      go_quiet (fail)
      generalize hW : World.drewN w2 nq = W at *
      have HO4 : Hid (ORow W w.heap.size g o cap (x :: y :: r)) := by rw [← hW]; exact HO2.out
      have HB4 : Hid (Below w.heap.size w W) := by rw [← hW]; exact below_dN HB2.out nq
      clear HO2 HB2 hW k0 k1
      have hl2 : l.length = r.length + 2 := by omega
      have HN1 : Hid ((r ++ [x + y]).length = r.length + 1 ∧ (r ++ [x + y]).sum ≤ 65535000 ∧ N + (x + y) + 100000000 * (r.length + 1) ≤ 100000000000 ∧ N + (x + y) + PM.huff r.length (r ++ [x + y]) = PM.huff (u.length - 1) u) := by
        have h1 := HSM.out
        have h2 := HH.out
        have h3 := HLS.out
        have h4 := HNB.out
        rw [show l.length - 1 = r.length + 1 by omega, PM.huff_succ _ _ _ _ _ HX.out] at h2
        refine ⟨by simp, by simp; omega, by omega, by omega⟩
      clear HSM HH HLS HNB HX
      by_cases hc2 : cap = 2
      · subst hc2
        have hr0 : r = [] := List.eq_nil_of_length_eq_zero (by omega)
        subst hr0
        have HO5 : Hid (ORow W w.heap.size g o 0 []) := by
          obtain ⟨cur, q1, q2, q3, q4, q5, q6⟩ := HO4.out
          exact ⟨cur, q1, q2, Nat.le_refl _, by omega, by omega, fun j hj => by simp at hj⟩
        clear HO4
        go_wp2_with (at_builtin; refine wpList_appO W w rfl (.tmp 29) (.tmp 31) rfl w.heap.size g o 0 (x + y) [] _ (by rfl) HO5.out rfl (cell_new _ _ _ _) HB4.out (Nat.le_refl _) (by simp) ?_; intro g' o' cap' w3 hO6 hB6)
        all_goals
          go_roundw
          case rel =>
            obtain ⟨n1, n2, n3, n4⟩ := HN1.out
            refine ⟨[] ++ [x + y], g', o', cap', N + (x + y), by first | rfl | rw [n1], by go_num, by omega, by omega, n2, by rw [n1]; exact n3, hO6, hB6, ?_⟩
            rw [n1]; exact n4
          case measure => simp [hLen]; omega
      · have HO5 : Hid (ORow W w.heap.size g (o + 2) (cap - 2) r) := HO4.out.drop2 (by simp)
        clear HO4
        have p1 : (2 : Int) ≤ (l.length : Int) := by omega
        have HQL : Hid (l.length - 2 = r.length) := Lib.hid (by omega)
        have hr9 : r.length < 1000000 := by omega
        clear hl2 hlen2
        go_wp2_with (first | ((with_reducible show wpList _ _ _ (⟨some 29, _, _, _, _, _⟩ :: _) _ _); refine wpList_slice2 _ rfl (.tmp 28) rfl g o l.length cap rfl (by omega) hc2 r.length HQL.out ?_) | (at_builtin; refine wpList_appO W w rfl (.tmp 29) (.tmp 31) rfl w.heap.size g (o + 2) (cap - 2) (x + y) r _ (by rfl) HO5.out rfl (cell_new _ _ _ _) HB4.out (Nat.le_refl _) hr9 ?_; intro g' o' cap' w3 hO6 hB6))
        all_goals
          go_roundw
          case rel =>
            obtain ⟨n1, n2, n3, n4⟩ := HN1.out
            have q := HQL.out
            refine ⟨r ++ [x + y], g', o', cap', N + (x + y), by rw [n1], by go_num, by omega, by omega, n2, by rw [n1]; exact n3, hO6, hB6, ?_⟩
            rw [n1]; exact n4
          case measure =>
            have q := HQL.out
            simp [hLen]; omega
    · have hl0 : l.length - 1 = 0 := by omega
      have h0 : N = PM.huff (u.length - 1) u := by
        have h1 := hH.out
        rw [hl0] at h1
        simpa [PM.huff] using h1
      have H0 := Lib.hid h0
      have HB := Lib.hid hbel
      clear hO hbel hH h0
      go_wp2
      go_ret
      exact ⟨ret_int (congrArg (fun n : Nat => (n : Int)) H0.out), HB.out⟩

/-- One symbol alone, or none. -/
theorem huff_few (v : Value) (u : List Nat) (w : World) (hr : NRow .i64 w v u) (h2 : u.length < 2) (h16 : ∀ x ∈ u, x ≤ 65535) :
    Calls Try.prog 21 #[v] w fun e w' => e = .returned (.int .i64 (u.sum : Nat)) ∧ w = w' := by
  have hs := sum_le_of u 65535 h16
  have HS := Lib.hid (sum_any v u w hr (by omega) (by omega))
  obtain ⟨a, cap, rfl, _, hr⟩ := hr
  clear hr h16
  go_enter Try.func21, Try.ntmps21
  go_wp2_with fail
  refine HS.out.mono ?_
  rintro e w1 ⟨rfl, rfl⟩
  go_wp2
  go_ret
  exact ⟨rfl, rfl⟩
end Go.Proofs.Ytgkpdffgahadpaa

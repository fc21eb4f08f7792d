/- The walk of bitCounts: the next item is a pair. -/
import Derived.Test.YtgkpdffgahadpaaPBitE
import Derived.Laws.CopyRow
namespace Go.Proofs.Ytgkpdffgahadpaa
open Go.RowKit

section
variable {P : Program} {ops : Array Oper} {rest : List Oper} {o : Oper} {a : Act} {w : World} {Q : Exit → Act → World → Prop}
/-- A part of a block read as an array. -/
theorem wpList_loadSub (hgd : o.guard = none) (ty : TypeId) (x : Operand) (ho : o.op = .load ty x) (g off : Nat) (hx : a.eval x = .pointer (some ⟨g, off, none⟩)) (vs : List Value) (d : TypeDesc)
    (hc : ∀ j v, vs[j]? = some v → w.cell? ⟨g, off + j, none⟩ = some v) (hu : P.underlying ty = some d) (hd : (match d with | .struct _ | .array _ _ => true | _ => false) = true) (hi : (P.info? ty).map (·.size) = some vs.length)
    (h : wpList P ops Q rest (a.put o.dst (.agg vs.toArray)) w) : wpList P ops Q (o :: rest) a w := by
  refine wpList_plain hgd fun K hK => ?_
  have hl : (loadCells ⟨g, off, none⟩ vs.length).run P w = .ok vs.toArray w :=
    run_loadCells_list (P := P) w ⟨g, off, none⟩ vs (fun j v hv => by
      have hadd : (⟨g, off, none⟩ : Addr).add j = ⟨g, off + j, none⟩ := by unfold Addr.add; split <;> simp_all
      rw [hadd]; exact hc j v hv)
  have hr : (loadVar ty ⟨g, off, none⟩).run P w = .ok (.agg vs.toArray) w := by
    cases hq : P.info? ty with
    | none => simp [hq] at hi
    | some i =>
      have hs : i.size = vs.length := by simpa [hq] using hi
      have hagg : (isAgg ty).run P w = .ok true w := by
        unfold isAgg
        rw [Sem.run_bind, run_underlying hu w]
        cases d <;> simp_all
      simp [loadVar, Sem.run_bind, hagg, sizeOf, typeInfo, hq, hs, hl]
  unfold Oper.wp execOp
  simp only [ho, hx, Instr.loadAt, Instr.sureAddr, Sem.run_bind, Sem.run_pure, Result.andThen_ok, hr]
  exact hK _ _ h

/-- An array laid into a part of a block. -/
theorem wpList_storeSub (hgd : o.guard = none) (ty : TypeId) (x y : Operand) (ho : o.op = .store ty x y) (g off : Nat) (hx : a.eval x = .pointer (some ⟨g, off, none⟩)) (vs : List Value) (hy : a.eval y = .agg vs.toArray) (cur : Array Value) (t : TypeId)
    (hg : w.heap[g]? = some (.cells cur t (0, 0))) (hfit : off + vs.length ≤ cur.size) (h1 : ∀ v ∈ vs, v.oneCell' = true) (hi : (P.info? ty).map (·.size) = some vs.length) (hdst : o.dst = none)
    (h : wpList P ops Q rest a (w.setRow g (cur.toList.take off ++ vs ++ cur.toList.drop (off + vs.length)).toArray)) : wpList P ops Q (o :: rest) a w := by
  refine wpList_plain hgd fun K hK => ?_
  have hst := run_storeCells_at (P := P) g off t vs 0 cur w hg (by omega) h1
  rw [Nat.add_zero] at hst
  have hr : (storeVar ty ⟨g, off, none⟩ (.agg vs.toArray)).run P w = .ok () (w.setRow g (cur.toList.take off ++ vs ++ cur.toList.drop (off + vs.length)).toArray) := by
    cases hq : P.info? ty with
    | none => simp [hq] at hi
    | some i =>
      have hs : i.size = vs.length := by simpa [hq] using hi
      simp [storeVar, Sem.run_bind, sizeOf, typeInfo, hq, hs, Value.cells, hst]
  unfold Oper.wp execOp
  simp only [ho, hx, hy, Instr.storeAt, Instr.sureAddr, Sem.run_bind, Sem.run_pure, Result.andThen_ok, hr]
  have e : a.put o.dst undef = a := by rw [hdst]; rfl
  first
    | exact hK _ _ h
    | (show K (a.put o.dst undef) _; rw [e]; exact hK _ _ h)
end

theorem GridA.row {cur : Array Value} {m k : Nat} {g : Nat → Nat → Int} (h : GridA cur m k g) (i : Nat) (hi : i < m) (z : Nat → Int) (vs : List Value) (hv : vs = (List.range k).map fun j => .int .i32 (z j)) :
    GridA (cur.toList.take (i * k) ++ vs ++ cur.toList.drop (i * k + vs.length)).toArray m k (fun i' j => if i' = i then z j else g i' j) := by
  have hvl : vs.length = k := by rw [hv]; simp
  have hik : (i + 1) * k ≤ m * k := Nat.mul_le_mul_right _ hi
  rw [Nat.add_mul, Nat.one_mul] at hik
  have hsz := h.1
  have htl : (cur.toList.take (i * k)).length = i * k := by simp; omega
  refine ⟨by simp [hvl]; omega, fun i' j hi' hj => ?_⟩
  have hat := grid_at hi' hj
  have h2 := h.2 i' j hi' hj
  show _ = some (Value.int .i32 (if i' = i then z j else g i' j))
  rw [List.getElem?_toArray, List.append_assoc]
  rcases Nat.lt_trichotomy i' i with hl | hl | hl
  · rw [if_neg (by omega)]
    have : (i' + 1) * k ≤ i * k := Nat.mul_le_mul_right _ hl
    rw [Nat.add_mul, Nat.one_mul] at this
    rw [List.getElem?_append_left (by omega), List.getElem?_take, if_pos (by omega)]
    simpa using h2
  · subst hl
    rw [if_pos rfl, List.getElem?_append_right (by omega), htl, List.getElem?_append_left (by omega), Nat.add_sub_cancel_left, hv]
    simp [hj]
  · rw [if_neg (by omega)]
    have : (i + 1) * k ≤ i' * k := Nat.mul_le_mul_right _ hl
    rw [Nat.add_mul, Nat.one_mul] at this
    rw [List.getElem?_append_right (by omega), htl, List.getElem?_append_right (by omega), List.getElem?_drop, hvl]
    rw [show i * k + k + (i' * k + j - i * k - k) = i' * k + j by omega]
    simpa using h2

theorem heap_setRow_other {w : World} {g q : Nat} {c : Array Value} (h : q ≠ g) : (w.setRow g c).heap[q]? = w.heap[q]? := by
  simp [World.setRow, Array.getElem?_modify, h.symm]
theorem heap_setRow_same {w : World} {g : Nat} {c cur : Array Value} {t : TypeId} (h : w.heap[g]? = some (.cells cur t (0, 0))) : (w.setRow g c).heap[g]? = some (.cells c t (0, 0)) := by
  simp [World.setRow, Array.getElem?_modify, h]
theorem BSt.setRowC {W0 wr : World} {tl tc : TypeId} {lvb lcb : Nat} {lv lc : Nat → Nat → Int} (h : BSt W0 wr tl tc lvb lcb lv lc) {cur : Array Value} (hc : wr.heap[lcb]? = some (.cells cur tc (0, 0))) (hg : GridA cur 16 16 lc)
    (i : Nat) (hi : i < 16) (z : Nat → Int) (vs : List Value) (hv : vs = (List.range 16).map fun j => .int .i32 (z j)) :
    BSt W0 (wr.setRow lcb (cur.toList.take (i * 16) ++ vs ++ cur.toList.drop (i * 16 + vs.length)).toArray) tl tc lvb lcb lv (fun i' j => if i' = i then z j else lc i' j) := by
  obtain ⟨cl, h1, h2⟩ := h.lvB
  refine ⟨h.os, h.tape, h.output, Nat.le_trans h.size (by simp [World.setRow]), fun q hq a b => ?_, h.ne, ⟨cl, ?_, h2⟩, ⟨_, heap_setRow_same hc, hg.row i hi z vs hv⟩⟩
  · rw [heap_setRow_other b]; exact h.other q hq a b
  · rw [heap_setRow_other h.ne]; exact h1

theorem info_row : (Try.prog.info? 106).map (·.size) = some 16 := by kernel_rfl

set_option maxHeartbeats 1000000 in
set_option maxRecDepth 1000000 in
theorem item_pair (hb lb off n cap L tb m : Nat) (W0 wd : World) (tl : TypeId) (lv lc : Nat → Nat → Int) (hB : BSt W0 wd tl 107 tb (tb + 1) lv lc) (h1 : 1 ≤ m) (h15 : m + 1 ≤ 15) (hl0 : lv (m + 1) 0 = ((m + 1 : Nat) : Int))
    (Q : Exit → Act → World → Prop) (v13 : Value) (u3 u4 u5 u10 u14 u15 u16 u17 u18 u19 u20 u21 u22 u23 u24 u25 u26 u27 u28 u29 u30 u31 u32 u33 u34 u35 u36 u37 u38 u39 u40 u41 u42 u43 u44 u45 u46 u47 u48 u49 u50 u51 u52 u53 u54 u55 u56 u57 u58 u59 u60 u61 u62 u63 u64 u65 u66 u67 u68 u69 u70 u71 u72 u73 u74 u75 u76 u77 u78 u79 u80 u81 u82 u83 u84 u85 u86 u87 u88 u89 u90 u91 u92 u93 u94 u95 u96 u97 u98 u99 u100 u101 u102 u103 u104 u105 u106 u107 u108 u109 u110 u111 u112 u113 u114 u115 u116 u117 u118 u119 u120 u121 u122 u123 u124 u125 u126 u127 u129 u130 u131 u132 u133 u134 u135 u136 u137 u138 u139 u140 u141 u142 u143 u144 u145 u146 u147 u148 u149 u150 u151 u152 u153 u154 u155 u156 u157 u158 u159 u160 u161 u162 u163 u164 u165 u166 u167 u168 u169 u170 u171 u172 u173 u174 u175 u176 u177 u178 u179 u180 u181 u182 u183 u184 u185 u186 u187 u188 u189 u190 u191 u192 u193 u194 u195 u196 u197 u198 u199 u200 u201 u202 u203 u204 u205 u206 u207 u208 u209 u210 u211 u212 u213 u214 u215 u216 u217 u218 u219 u220 u221 u222 u223 u224 u225 u226 u227 u228 u229 u230 u231 u232 u233 u234 u235 u236 u237 u238 u239 u240 u241 u242 u243 u244 u245 u246 u247 u248 u249 u250 u251 u252 u253 u254 u255 u256 u257 u258 u259 u260 u261 u262 u263 u264 u265 u266 u267 u268 u269 u270 u271 u272 : Value)
    (hQ : ∀ (u14 u15 u16 u129 u130 u131 u132 u133 u134 u135 u136 u137 u138 u139 u140 u141 u142 u143 u144 u145 u146 u147 u148 u149 u150 u151 u152 u153 u154 u155 u156 u157 u158 u159 u160 u161 u162 u163 u164 u165 u166 u167 u168 u169 u170 u171 u172 u173 u174 u175 u176 u177 u178 u179 u180 u181 u182 u183 u184 u185 u186 u187 u188 u189 u190 u191 u192 : Value) w', BSt W0 w' tl 107 tb (tb + 1) (PM.upd (PM.upd lv (m + 1) 1 (lv (m + 1) 3)) m 4 2) (PM.rowUp lc (m + 1)) →
      Q .normal ⟨#[.pointer (some ⟨hb, 0, none⟩), .slice (some ⟨lb, off, none⟩) (n + 1) cap, .int .i32 (L : Nat), u3, u4, u5, .slice none 0 0, .int .i32 (n : Nat), .pointer (some ⟨tb, 0, none⟩), .pointer (some ⟨tb + 1, 0, none⟩), u10, .int .u32 ((m + 1 : Nat) : Int), .pointer (some ⟨tb, (m + 1) * 5, none⟩), v13, u14, u15, u16, u17, u18, u19, u20, u21, u22, u23, u24, u25, u26, u27, u28, u29, u30, u31, u32, u33, u34, u35, u36, u37, u38, u39, u40, u41, u42, u43, u44, u45, u46, u47, u48, u49, u50, u51, u52, u53, u54, u55, u56, u57, u58, u59, u60, u61, u62, u63, u64, u65, u66, u67, u68, u69, u70, u71, u72, u73, u74, u75, u76, u77, u78, u79, u80, u81, u82, u83, u84, u85, u86, u87, u88, u89, u90, u91, u92, u93, u94, u95, u96, u97, u98, u99, u100, u101, u102, u103, u104, u105, u106, u107, u108, u109, u110, u111, u112, u113, u114, u115, u116, u117, u118, u119, u120, u121, u122, u123, u124, u125, u126, u127, .bool false, u129, u130, u131, u132, u133, u134, u135, u136, u137, u138, u139, u140, u141, u142, u143, u144, u145, u146, u147, u148, u149, u150, u151, u152, u153, u154, u155, u156, u157, u158, u159, u160, u161, u162, u163, u164, u165, u166, u167, u168, u169, u170, u171, u172, u173, u174, u175, u176, u177, u178, u179, u180, u181, u182, u183, u184, u185, u186, u187, u188, u189, u190, u191, u192, u193, u194, u195, u196, u197, u198, u199, u200, u201, u202, u203, u204, u205, u206, u207, u208, u209, u210, u211, u212, u213, u214, u215, u216, u217, u218, u219, u220, u221, u222, u223, u224, u225, u226, u227, u228, u229, u230, u231, u232, u233, u234, u235, u236, u237, u238, u239, u240, u241, u242, u243, u244, u245, u246, u247, u248, u249, u250, u251, u252, u253, u254, u255, u256, u257, u258, u259, u260, u261, u262, u263, u264, u265, u266, u267, u268, u269, u270, u271, u272], []⟩ w') :
    Code.wp Try.prog (bitsIf 28) Q ⟨#[.pointer (some ⟨hb, 0, none⟩), .slice (some ⟨lb, off, none⟩) (n + 1) cap, .int .i32 (L : Nat), u3, u4, u5, .slice none 0 0, .int .i32 (n : Nat), .pointer (some ⟨tb, 0, none⟩), .pointer (some ⟨tb + 1, 0, none⟩), u10, .int .u32 ((m + 1 : Nat) : Int), .pointer (some ⟨tb, (m + 1) * 5, none⟩), v13, u14, u15, u16, u17, u18, u19, u20, u21, u22, u23, u24, u25, u26, u27, u28, u29, u30, u31, u32, u33, u34, u35, u36, u37, u38, u39, u40, u41, u42, u43, u44, u45, u46, u47, u48, u49, u50, u51, u52, u53, u54, u55, u56, u57, u58, u59, u60, u61, u62, u63, u64, u65, u66, u67, u68, u69, u70, u71, u72, u73, u74, u75, u76, u77, u78, u79, u80, u81, u82, u83, u84, u85, u86, u87, u88, u89, u90, u91, u92, u93, u94, u95, u96, u97, u98, u99, u100, u101, u102, u103, u104, u105, u106, u107, u108, u109, u110, u111, u112, u113, u114, u115, u116, u117, u118, u119, u120, u121, u122, u123, u124, u125, u126, u127, .bool false, u129, u130, u131, u132, u133, u134, u135, u136, u137, u138, u139, u140, u141, u142, u143, u144, u145, u146, u147, u148, u149, u150, u151, u152, u153, u154, u155, u156, u157, u158, u159, u160, u161, u162, u163, u164, u165, u166, u167, u168, u169, u170, u171, u172, u173, u174, u175, u176, u177, u178, u179, u180, u181, u182, u183, u184, u185, u186, u187, u188, u189, u190, u191, u192, u193, u194, u195, u196, u197, u198, u199, u200, u201, u202, u203, u204, u205, u206, u207, u208, u209, u210, u211, u212, u213, u214, u215, u216, u217, u218, u219, u220, u221, u222, u223, u224, u225, u226, u227, u228, u229, u230, u231, u232, u233, u234, u235, u236, u237, u238, u239, u240, u241, u242, u243, u244, u245, u246, u247, u248, u249, u250, u251, u252, u253, u254, u255, u256, u257, u258, u259, u260, u261, u262, u263, u264, u265, u266, u267, u268, u269, u270, u271, u272], []⟩ wd := by
  conv => arg 2; whnf
  have c0 := hB.cellL (m + 1) 0 (by omega) (by omega)
  have c1 := hB.cellL (m + 1) 1 (by omega) (by omega)
  have c3 := hB.cellL (m + 1) 3 (by omega) (by omega)
  have s4 := hB.cellL m 4 (by omega) (by omega)
  have f1 := hB.frL ((m + 1) * 5 + 1)
  have f4 := hB.frL (m * 5 + 4)
  rw [hl0, show ((m + 1 : Nat) : Int) = (m : Int) + 1 by omega, Nat.add_zero] at c0
  have g0 := hB.cellC (m + 1) (m + 1) (by omega) (by omega)
  have gf := hB.frC ((m + 1) * 16 + (m + 1))
  have HB2 := Lib.hid (hB.setL (m + 1) 1 (by omega) (by omega) (lv (m + 1) 3))
  have HQ := Lib.hid hQ
  have HL0 := Lib.hid hl0
  clear hQ hl0
  generalize lv (m + 1) 1 = a1 at *
  generalize lv (m + 1) 3 = a3 at *
  generalize lv m 4 = b4 at *
  rw [show ((m + 1 : Nat) : Int) = (m : Int) + 1 by omega] at HQ
  go_upto_region 37 with (fail)
  clear c0 c1 c3 s4 f1 f4 g0 gf hB
  generalize wd.setCell ⟨tb, (m + 1) * 5 + 1, none⟩ (.int .i32 a3) = wd1 at *
  obtain ⟨cur, hcur, hgr⟩ := HB2.out.lcB
  have HR : Hid (∀ j v, ((List.range 16).map fun j => Value.int .i32 (lc m j))[j]? = some v → wd1.cell? ⟨tb + 1, m * 16 + j, none⟩ = some v) := by
    refine Lib.hid fun j v hv => ?_
    have hj : j < 16 := by have := (List.getElem?_eq_some_iff.1 hv).1; simpa using this
    rw [List.getElem?_map, List.getElem?_range hj] at hv
    cases hv
    exact HB2.out.cellC m j (by omega) hj
  have HCU := Lib.hid hcur
  have HGR := Lib.hid hgr
  have hfit : (m + 1) * 16 + ((List.range 16).map fun j => Value.int .i32 (lc m j)).length ≤ cur.size := by rw [hgr.1]; simp; omega
  have HFT := Lib.hid hfit
  have HVL : Hid ((Try.prog.info? 106).map (·.size) = some ((List.range 16).map fun j => Value.int .i32 (lc m j)).length) := by
    refine Lib.hid ?_
    rw [info_row]; simp
  have HV1 : Hid (∀ v ∈ (List.range 16).map fun j => Value.int .i32 (lc m j), v.oneCell' = true) := by
    refine Lib.hid fun v hv => ?_
    obtain ⟨j, _, rfl⟩ := List.mem_map.1 hv
    rfl
  have HB3 := Lib.hid (HB2.out.setRowC hcur hgr (m + 1) (by omega) (lc m) _ rfl)
  clear hcur hgr hfit
  generalize ((List.range 16).map fun j => Value.int .i32 (lc m j)) = vs at *
  go_upto_region 38 with (first
    | ((with_reducible show wpList _ _ _ (⟨some 179, _, _, _, _, _⟩ :: _) _ _); refine wpList_loadSub rfl 106 (.tmp 178) rfl (tb + 1) (m * 16) rfl vs _ HR.out Try.underlying106 rfl HVL.out ?_)
    | ((with_reducible show wpList _ _ _ (⟨none, _, _, _, _, _⟩ :: _) _ _); refine wpList_storeSub rfl 106 (.tmp 180) (.tmp 179) rfl (tb + 1) ((m + 1) * 16) rfl vs rfl cur 107 HCU.out HFT.out HV1.out HVL.out rfl ?_))
  generalize wd1.setRow (tb + 1) (cur.toList.take ((m + 1) * 16) ++ vs ++ cur.toList.drop ((m + 1) * 16 + vs.length)).toArray = wd2 at *
  have c0 := HB3.out.cellL (m + 1) 0 (by omega) (by omega)
  have s4 := HB3.out.cellL m 4 (by omega) (by omega)
  have f4 := HB3.out.frL (m * 5 + 4)
  have e0 : PM.upd lv (m + 1) 1 a3 (m + 1) 0 = (m : Int) + 1 := by rw [PM.upd_ne _ _ _ _ _ _ (.inr (by omega)), HL0.out]; omega
  rw [e0, Nat.add_zero] at c0
  have g0 := HB3.out.cellC (m + 1) (m + 1) (by omega) (by omega)
  have gf := HB3.out.frC ((m + 1) * 16 + (m + 1))
  have HE : Hid (BSt W0 ((wd2.setCell ⟨tb + 1, (m + 1) * 16 + (m + 1), none⟩ (.int .i32 (lc (m + 1) (m + 1)))).setCell ⟨tb, m * 5 + 4, none⟩ (.int .i32 2)) tl 107 tb (tb + 1)
      (PM.upd (PM.upd lv (m + 1) 1 a3) m 4 2) (PM.rowUp lc (m + 1))) := by
    refine Lib.hid (((HB3.out.setC (m + 1) (m + 1) (by omega) (by omega) (lc (m + 1) (m + 1))).setL m 4 (by omega) (by omega) 2).congr (fun _ _ _ _ => rfl) ?_)
    intro i j hi hj
    unfold PM.upd PM.rowUp
    by_cases h2 : i = m + 1
    · subst h2
      by_cases h3 : j = m + 1
      · subst h3; simp
      · simp [h3]
    · simp [h2]
  clear e0
  generalize PM.upd lv (m + 1) 1 a3 m 4 = b4 at *
  clear HB3 HCU HGR HFT HVL HV1 HR HB2
  go_wp2
  exact HQ.out _ _ _ _ _ _ _ _ _ _ _ _ _ _ _ _ _ _ _ _ _ _ _ _ _ _ _ _ _ _ _ _ _ _ _ _ _ _ _ _ _ _ _ _ _ _ _ _ _ _ _ _ _ _ _ _ _ _ _ _ _ _ _ _ _ _ _ _ HE.out
end Go.Proofs.Ytgkpdffgahadpaa

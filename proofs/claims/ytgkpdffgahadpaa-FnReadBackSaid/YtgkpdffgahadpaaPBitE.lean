/- The walk of bitCounts: one item of a level: a leaf or a pair. -/
import Derived.Test.YtgkpdffgahadpaaPBitD
namespace Go.Proofs.Ytgkpdffgahadpaa
open Go.RowKit

def condIn (k : Nat) : Code → Option Code
  | .seq a b => match condIn k a with
    | some c => some c
    | none => condIn k b
  | .block _ c => condIn k c
  | .scope c => condIn k c
  | .loop c => condIn k c
  | .cond x a b => if fstReg a = k then some (.cond x a b) else match condIn k a with
    | some c => some c
    | none => condIn k b
  | _ => none
/-- bitCounts' 'if' whose first arm begins at a region. -/
noncomputable def bitsIf (k : Nat) : Code := ((Try.f62.body.bind (condIn k)).getD .skip)

set_option maxHeartbeats 1000000 in
set_option maxRecDepth 1000000 in
theorem item_leaf (hb lb off n cap L tb l q : Nat) (f : List Nat) (li : Nat → Nat) (W0 wd : World) (tl tc : TypeId) (lv lc : Nat → Nat → Int) (hB : BSt W0 wd tl tc tb (tb + 1) lv lc) (h1 : 1 ≤ l) (h15 : l ≤ 15) (hlc : lc l l = (q : Int)) (hq : q < n) (hn : n ≤ 1000)
    (hlb : lb < tb) (hl0 : ∀ i, i < n → li i < 65535) (hf16 : ∀ i, f.getD i 0 ≤ 65535) (hs1 : W0.heap.size = tb + 2)
    (hls : ∀ i, i ≤ n → W0.cell? ⟨lb, off + i * 2, none⟩ = some (.int .u16 ((if i < n then li i else 65535 : Nat) : Int)) ∧ W0.cell? ⟨lb, off + i * 2 + 1, none⟩ = some (.int .u16 ((if i < n then f.getD i 0 else 65535 : Nat) : Int)))
    (Q : Exit → Act → World → Prop) (v13 : Value) (u3 u4 u5 u10 u14 u15 u16 u17 u18 u19 u20 u21 u22 u23 u24 u25 u26 u27 u28 u29 u30 u31 u32 u33 u34 u35 u36 u37 u38 u39 u40 u41 u42 u43 u44 u45 u46 u47 u48 u49 u50 u51 u52 u53 u54 u55 u56 u57 u58 u59 u60 u61 u62 u63 u64 u65 u66 u67 u68 u69 u70 u71 u72 u73 u74 u75 u76 u77 u78 u79 u80 u81 u82 u83 u84 u85 u86 u87 u88 u89 u90 u91 u92 u93 u94 u95 u96 u97 u98 u99 u100 u101 u102 u103 u104 u105 u106 u107 u108 u109 u110 u111 u112 u113 u114 u115 u116 u117 u118 u119 u120 u121 u122 u123 u124 u125 u126 u127 u129 u130 u131 u132 u133 u134 u135 u136 u137 u138 u139 u140 u141 u142 u143 u144 u145 u146 u147 u148 u149 u150 u151 u152 u153 u154 u155 u156 u157 u158 u159 u160 u161 u162 u163 u164 u165 u166 u167 u168 u169 u170 u171 u172 u173 u174 u175 u176 u177 u178 u179 u180 u181 u182 u183 u184 u185 u186 u187 u188 u189 u190 u191 u192 u193 u194 u195 u196 u197 u198 u199 u200 u201 u202 u203 u204 u205 u206 u207 u208 u209 u210 u211 u212 u213 u214 u215 u216 u217 u218 u219 u220 u221 u222 u223 u224 u225 u226 u227 u228 u229 u230 u231 u232 u233 u234 u235 u236 u237 u238 u239 u240 u241 u242 u243 u244 u245 u246 u247 u248 u249 u250 u251 u252 u253 u254 u255 u256 u257 u258 u259 u260 u261 u262 u263 u264 u265 u266 u267 u268 u269 u270 u271 u272 : Value)
    (hQ : ∀ (u14 u15 u16 u129 u130 u131 u132 u133 u134 u135 u136 u137 u138 u139 u140 u141 u142 u143 u144 u145 u146 u147 u148 u149 u150 u151 u152 u153 u154 u155 u156 u157 u158 u159 u160 u161 u162 u163 u164 u165 u166 u167 u168 u169 u170 u171 u172 u173 u174 u175 u176 u177 u178 u179 u180 u181 u182 u183 u184 u185 u186 u187 u188 u189 u190 u191 u192 : Value) w', BSt W0 w' tl tc tb (tb + 1) (PM.upd (PM.upd lv l 1 (lv l 2)) l 2 (if q + 1 < n then ((f.getD (q + 1) 0 : Nat) : Int) else PM.MX)) (PM.upd lc l l ((q + 1 : Nat) : Int)) →
      Q .normal ⟨#[.pointer (some ⟨hb, 0, none⟩), .slice (some ⟨lb, off, none⟩) (n + 1) cap, .int .i32 (L : Nat), u3, u4, u5, .slice none 0 0, .int .i32 (n : Nat), .pointer (some ⟨tb, 0, none⟩), .pointer (some ⟨tb + 1, 0, none⟩), u10, .int .u32 (l : Nat), .pointer (some ⟨tb, l * 5, none⟩), v13, u14, u15, u16, u17, u18, u19, u20, u21, u22, u23, u24, u25, u26, u27, u28, u29, u30, u31, u32, u33, u34, u35, u36, u37, u38, u39, u40, u41, u42, u43, u44, u45, u46, u47, u48, u49, u50, u51, u52, u53, u54, u55, u56, u57, u58, u59, u60, u61, u62, u63, u64, u65, u66, u67, u68, u69, u70, u71, u72, u73, u74, u75, u76, u77, u78, u79, u80, u81, u82, u83, u84, u85, u86, u87, u88, u89, u90, u91, u92, u93, u94, u95, u96, u97, u98, u99, u100, u101, u102, u103, u104, u105, u106, u107, u108, u109, u110, u111, u112, u113, u114, u115, u116, u117, u118, u119, u120, u121, u122, u123, u124, u125, u126, u127, .bool true, u129, u130, u131, u132, u133, u134, u135, u136, u137, u138, u139, u140, u141, u142, u143, u144, u145, u146, u147, u148, u149, u150, u151, u152, u153, u154, u155, u156, u157, u158, u159, u160, u161, u162, u163, u164, u165, u166, u167, u168, u169, u170, u171, u172, u173, u174, u175, u176, u177, u178, u179, u180, u181, u182, u183, u184, u185, u186, u187, u188, u189, u190, u191, u192, u193, u194, u195, u196, u197, u198, u199, u200, u201, u202, u203, u204, u205, u206, u207, u208, u209, u210, u211, u212, u213, u214, u215, u216, u217, u218, u219, u220, u221, u222, u223, u224, u225, u226, u227, u228, u229, u230, u231, u232, u233, u234, u235, u236, u237, u238, u239, u240, u241, u242, u243, u244, u245, u246, u247, u248, u249, u250, u251, u252, u253, u254, u255, u256, u257, u258, u259, u260, u261, u262, u263, u264, u265, u266, u267, u268, u269, u270, u271, u272], []⟩ w') :
    Code.wp Try.prog (bitsIf 28) Q ⟨#[.pointer (some ⟨hb, 0, none⟩), .slice (some ⟨lb, off, none⟩) (n + 1) cap, .int .i32 (L : Nat), u3, u4, u5, .slice none 0 0, .int .i32 (n : Nat), .pointer (some ⟨tb, 0, none⟩), .pointer (some ⟨tb + 1, 0, none⟩), u10, .int .u32 (l : Nat), .pointer (some ⟨tb, l * 5, none⟩), v13, u14, u15, u16, u17, u18, u19, u20, u21, u22, u23, u24, u25, u26, u27, u28, u29, u30, u31, u32, u33, u34, u35, u36, u37, u38, u39, u40, u41, u42, u43, u44, u45, u46, u47, u48, u49, u50, u51, u52, u53, u54, u55, u56, u57, u58, u59, u60, u61, u62, u63, u64, u65, u66, u67, u68, u69, u70, u71, u72, u73, u74, u75, u76, u77, u78, u79, u80, u81, u82, u83, u84, u85, u86, u87, u88, u89, u90, u91, u92, u93, u94, u95, u96, u97, u98, u99, u100, u101, u102, u103, u104, u105, u106, u107, u108, u109, u110, u111, u112, u113, u114, u115, u116, u117, u118, u119, u120, u121, u122, u123, u124, u125, u126, u127, .bool true, u129, u130, u131, u132, u133, u134, u135, u136, u137, u138, u139, u140, u141, u142, u143, u144, u145, u146, u147, u148, u149, u150, u151, u152, u153, u154, u155, u156, u157, u158, u159, u160, u161, u162, u163, u164, u165, u166, u167, u168, u169, u170, u171, u172, u173, u174, u175, u176, u177, u178, u179, u180, u181, u182, u183, u184, u185, u186, u187, u188, u189, u190, u191, u192, u193, u194, u195, u196, u197, u198, u199, u200, u201, u202, u203, u204, u205, u206, u207, u208, u209, u210, u211, u212, u213, u214, u215, u216, u217, u218, u219, u220, u221, u222, u223, u224, u225, u226, u227, u228, u229, u230, u231, u232, u233, u234, u235, u236, u237, u238, u239, u240, u241, u242, u243, u244, u245, u246, u247, u248, u249, u250, u251, u252, u253, u254, u255, u256, u257, u258, u259, u260, u261, u262, u263, u264, u265, u266, u267, u268, u269, u270, u271, u272], []⟩ wd := by
  conv => arg 2; whnf
  have c1 := hB.cellL l 1 (by omega) (by omega)
  have c2 := hB.cellL l 2 (by omega) (by omega)
  have f1 := hB.frL (l * 5 + 1)
  have f2 := hB.frL (l * 5 + 2)
  have g0 := hB.cellC l l (by omega) (by omega)
  have gf := hB.frC (l * 16 + l)
  rw [hlc] at g0
  have hltL := hB.ltL
  have hltC := hB.ltC
  obtain ⟨i1, i2⟩ := hls (q + 1) (by omega)
  have j1 := (hB.cellO lb (off + (q + 1) * 2) (by omega) (by omega) (by omega)).trans i1
  have j2 := (hB.cellO lb (off + (q + 1) * 2 + 1) (by omega) (by omega) (by omega)).trans i2
  have hlbd : lb < wd.heap.size := by omega
  have HB2 := Lib.hid (hB.setL l 1 (by omega) (by omega) (lv l 2))
  have HQ := Lib.hid hQ
  have hx1 := hf16 (q + 1)
  clear i1 i2 hls hQ hlc hf16
  generalize lv l 1 = a1 at *
  generalize lv l 2 = a2 at *
  by_cases hqn : q + 1 < n
  · have hx0 := hl0 (q + 1) hqn
    rw [if_pos hqn] at j1 j2 HQ
    clear hl0
    generalize li (q + 1) = x0 at *
    generalize f.getD (q + 1) 0 = x1 at *
    have ht : decide ((x0 : Int) < 65535) = true := decide_eq_true (by omega)
    have hw : IntKind.i32.wrap (x1 : Int) = x1 := IntWalk.i32_in _ (by omega)
    have HX0 := Lib.hid hx0
    have HX1 := Lib.hid hx1
    clear hx0 hx1
    have HR : Hid (BSt W0 ((((wd.setCell ⟨tb, l * 5 + 1, none⟩ (.int .i32 a2)).setCell ⟨tb + 1, l * 16 + l, none⟩ (.int .i32 ((q : Int) + 1))).setCell ⟨tb, l * 5 + 2, none⟩ (.int .i32 (x1 : Int))).alloc (.cells #[.int .u16 (x0 : Int), .int .u16 (x1 : Int)] 78)) tl tc tb (tb + 1)
        (PM.upd (PM.upd lv l 1 a2) l 2 (x1 : Int)) (PM.upd lc l l ((q : Int) + 1))) :=
      ((HB2.out.setC l l (by omega) (by omega) _).setL l 2 (by omega) (by omega) _).alloc _
    rw [show ((q + 1 : Nat) : Int) = (q : Int) + 1 by omega] at HQ
    go_wp2
    exact HQ.out _ _ _ _ _ _ _ _ _ _ _ _ _ _ _ _ _ _ _ _ _ _ _ _ _ _ _ _ _ _ _ _ _ _ _ _ _ _ _ _ _ _ _ _ _ _ _ _ _ _ _ _ _ _ _ _ _ _ _ _ _ _ _ _ _ _ _ _ HR.out
  · have hqe : q + 1 = n := by omega
    rw [if_neg hqn] at j1 j2 HQ
    clear hl0 hx1
    have HR : Hid (BSt W0 ((((wd.setCell ⟨tb, l * 5 + 1, none⟩ (.int .i32 a2)).setCell ⟨tb + 1, l * 16 + l, none⟩ (.int .i32 ((q : Int) + 1))).setCell ⟨tb, l * 5 + 2, none⟩ (.int .i32 2147483647)).alloc (.cells #[.int .u16 65535, .int .u16 65535] 78)) tl tc tb (tb + 1)
        (PM.upd (PM.upd lv l 1 a2) l 2 PM.MX) (PM.upd lc l l ((q : Int) + 1))) :=
      ((HB2.out.setC l l (by omega) (by omega) _).setL l 2 (by omega) (by omega) _).alloc _
    rw [show ((q + 1 : Nat) : Int) = (q : Int) + 1 by omega] at HQ
    clear hqn hqe
    go_wp2
    exact HQ.out _ _ _ _ _ _ _ _ _ _ _ _ _ _ _ _ _ _ _ _ _ _ _ _ _ _ _ _ _ _ _ _ _ _ _ _ _ _ _ _ _ _ _ _ _ _ _ _ _ _ _ _ _ _ _ _ _ _ _ _ _ _ _ _ _ _ _ _ HR.out
end Go.Proofs.Ytgkpdffgahadpaa

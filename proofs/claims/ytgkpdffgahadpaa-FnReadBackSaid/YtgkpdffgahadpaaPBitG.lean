/- The walk of bitCounts: behind an item: done, one level up, or down. -/
import Derived.Test.YtgkpdffgahadpaaPBitD
import Derived.StillTailTactics
namespace Go.Proofs.Ytgkpdffgahadpaa
open Go.RowKit

set_option maxHeartbeats 1000000 in
set_option maxRecDepth 1000000 in
theorem rest_done (hb lb off n cap L tb : Nat) (W0 wd : World) (tl tc : TypeId) (lv lc : Nat → Nat → Int) (hB : BSt W0 wd tl tc tb (tb + 1) lv lc) (h1 : 1 ≤ L) (h15 : L ≤ 15) (hl0 : lv L 0 = (L : Int)) (h4 : lv L 4 = 1)
    (Q : Exit → Act → World → Prop) (v13 : Value) (u3 u4 u5 u10 u14 u15 u16 u17 u18 u19 u20 u21 u22 u23 u24 u25 u26 u27 u28 u29 u30 u31 u32 u33 u34 u35 u36 u37 u38 u39 u40 u41 u42 u43 u44 u45 u46 u47 u48 u49 u50 u51 u52 u53 u54 u55 u56 u57 u58 u59 u60 u61 u62 u63 u64 u65 u66 u67 u68 u69 u70 u71 u72 u73 u74 u75 u76 u77 u78 u79 u80 u81 u82 u83 u84 u85 u86 u87 u88 u89 u90 u91 u92 u93 u94 u95 u96 u97 u98 u99 u100 u101 u102 u103 u104 u105 u106 u107 u108 u109 u110 u111 u112 u113 u114 u115 u116 u117 u118 u119 u120 u121 u122 u123 u124 u125 u126 u127 u128 u129 u130 u131 u132 u133 u134 u135 u136 u137 u138 u139 u140 u141 u142 u143 u144 u145 u146 u147 u148 u149 u150 u151 u152 u153 u154 u155 u156 u157 u158 u159 u160 u161 u162 u163 u164 u165 u166 u167 u168 u169 u170 u171 u172 u173 u174 u175 u176 u177 u178 u179 u180 u181 u182 u183 u184 u185 u186 u187 u188 u189 u190 u191 u192 u193 u194 u195 u196 u197 u198 u199 u200 u201 u202 u203 u204 u205 u206 u207 u208 u209 u210 u211 u212 u213 u214 u215 u216 u217 u218 u219 u220 u221 u222 u223 u224 u225 u226 u227 u228 u229 u230 u231 u232 u233 u234 u235 u236 u237 u238 u239 u240 u241 u242 u243 u244 u245 u246 u247 u248 u249 u250 u251 u252 u253 u254 u255 u256 u257 u258 u259 u260 u261 u262 u263 u264 u265 u266 u267 u268 u269 u270 u271 u272 : Value)
    (hQ : ∀ (u193 u194 u195 u196 u197 u198 u199 u200 u201 u202 u203 u204 u205 u206 u207 u208 u209 u210 u211 u212 u213 u214 u215 u216 u217 u218 u219 u220 u221 u222 u223 u224 u225 u226 u227 u228 u229 u230 u231 u232 u233 : Value) w', BSt W0 w' tl tc tb (tb + 1) (PM.upd lv L 4 0) lc →
      Q (.exit 2) ⟨#[.pointer (some ⟨hb, 0, none⟩), .slice (some ⟨lb, off, none⟩) (n + 1) cap, .int .i32 (L : Nat), u3, u4, u5, .slice none 0 0, .int .i32 (n : Nat), .pointer (some ⟨tb, 0, none⟩), .pointer (some ⟨tb + 1, 0, none⟩), u10, .int .u32 (L : Nat), .pointer (some ⟨tb, L * 5, none⟩), v13, u14, u15, u16, u17, u18, u19, u20, u21, u22, u23, u24, u25, u26, u27, u28, u29, u30, u31, u32, u33, u34, u35, u36, u37, u38, u39, u40, u41, u42, u43, u44, u45, u46, u47, u48, u49, u50, u51, u52, u53, u54, u55, u56, u57, u58, u59, u60, u61, u62, u63, u64, u65, u66, u67, u68, u69, u70, u71, u72, u73, u74, u75, u76, u77, u78, u79, u80, u81, u82, u83, u84, u85, u86, u87, u88, u89, u90, u91, u92, u93, u94, u95, u96, u97, u98, u99, u100, u101, u102, u103, u104, u105, u106, u107, u108, u109, u110, u111, u112, u113, u114, u115, u116, u117, u118, u119, u120, u121, u122, u123, u124, u125, u126, u127, u128, u129, u130, u131, u132, u133, u134, u135, u136, u137, u138, u139, u140, u141, u142, u143, u144, u145, u146, u147, u148, u149, u150, u151, u152, u153, u154, u155, u156, u157, u158, u159, u160, u161, u162, u163, u164, u165, u166, u167, u168, u169, u170, u171, u172, u173, u174, u175, u176, u177, u178, u179, u180, u181, u182, u183, u184, u185, u186, u187, u188, u189, u190, u191, u192, u193, u194, u195, u196, u197, u198, u199, u200, u201, u202, u203, u204, u205, u206, u207, u208, u209, u210, u211, u212, u213, u214, u215, u216, u217, u218, u219, u220, u221, u222, u223, u224, u225, u226, u227, u228, u229, u230, u231, u232, u233, u234, u235, u236, u237, u238, u239, u240, u241, u242, u243, u244, u245, u246, u247, u248, u249, u250, u251, u252, u253, u254, u255, u256, u257, u258, u259, u260, u261, u262, u263, u264, u265, u266, u267, u268, u269, u270, u271, u272], []⟩ w') :
    Code.wp Try.prog (bitsAt 40) Q ⟨#[.pointer (some ⟨hb, 0, none⟩), .slice (some ⟨lb, off, none⟩) (n + 1) cap, .int .i32 (L : Nat), u3, u4, u5, .slice none 0 0, .int .i32 (n : Nat), .pointer (some ⟨tb, 0, none⟩), .pointer (some ⟨tb + 1, 0, none⟩), u10, .int .u32 (L : Nat), .pointer (some ⟨tb, L * 5, none⟩), v13, u14, u15, u16, u17, u18, u19, u20, u21, u22, u23, u24, u25, u26, u27, u28, u29, u30, u31, u32, u33, u34, u35, u36, u37, u38, u39, u40, u41, u42, u43, u44, u45, u46, u47, u48, u49, u50, u51, u52, u53, u54, u55, u56, u57, u58, u59, u60, u61, u62, u63, u64, u65, u66, u67, u68, u69, u70, u71, u72, u73, u74, u75, u76, u77, u78, u79, u80, u81, u82, u83, u84, u85, u86, u87, u88, u89, u90, u91, u92, u93, u94, u95, u96, u97, u98, u99, u100, u101, u102, u103, u104, u105, u106, u107, u108, u109, u110, u111, u112, u113, u114, u115, u116, u117, u118, u119, u120, u121, u122, u123, u124, u125, u126, u127, u128, u129, u130, u131, u132, u133, u134, u135, u136, u137, u138, u139, u140, u141, u142, u143, u144, u145, u146, u147, u148, u149, u150, u151, u152, u153, u154, u155, u156, u157, u158, u159, u160, u161, u162, u163, u164, u165, u166, u167, u168, u169, u170, u171, u172, u173, u174, u175, u176, u177, u178, u179, u180, u181, u182, u183, u184, u185, u186, u187, u188, u189, u190, u191, u192, u193, u194, u195, u196, u197, u198, u199, u200, u201, u202, u203, u204, u205, u206, u207, u208, u209, u210, u211, u212, u213, u214, u215, u216, u217, u218, u219, u220, u221, u222, u223, u224, u225, u226, u227, u228, u229, u230, u231, u232, u233, u234, u235, u236, u237, u238, u239, u240, u241, u242, u243, u244, u245, u246, u247, u248, u249, u250, u251, u252, u253, u254, u255, u256, u257, u258, u259, u260, u261, u262, u263, u264, u265, u266, u267, u268, u269, u270, u271, u272], []⟩ wd := by
  conv => arg 2; whnf
  have c0 := hB.cellL L 0 (by omega) (by omega)
  have c4 := hB.cellL L 4 (by omega) (by omega)
  have f4 := hB.frL (L * 5 + 4)
  rw [hl0, Nat.add_zero] at c0
  rw [h4] at c4
  have HE := Lib.hid (hB.setL L 4 (by omega) (by omega) 0)
  have HQ := Lib.hid hQ
  clear hQ hl0 h4 hB
  go_wp2
  exact HQ.out _ _ _ _ _ _ _ _ _ _ _ _ _ _ _ _ _ _ _ _ _ _ _ _ _ _ _ _ _ _ _ _ _ _ _ _ _ _ _ _ _ _ HE.out

set_option maxHeartbeats 1000000 in
set_option maxRecDepth 1000000 in
theorem rest_up (hb lb off n cap L tb l : Nat) (W0 wd : World) (tl tc : TypeId) (lv lc : Nat → Nat → Int) (hB : BSt W0 wd tl tc tb (tb + 1) lv lc) (h1 : 1 ≤ l) (hlL : l < L) (h15 : L ≤ 15) (hl0 : lv l 0 = (l : Int)) (h4 : lv l 4 = 1)
    (a1 : Int) (ha : 0 ≤ a1) (hb1 : 0 ≤ lv l 1) (hs : a1 + lv l 1 ≤ 2147483647)
    (Q : Exit → Act → World → Prop) (u3 u4 u5 u10 u14 u15 u16 u17 u18 u19 u20 u21 u22 u23 u24 u25 u26 u27 u28 u29 u30 u31 u32 u33 u34 u35 u36 u37 u38 u39 u40 u41 u42 u43 u44 u45 u46 u47 u48 u49 u50 u51 u52 u53 u54 u55 u56 u57 u58 u59 u60 u61 u62 u63 u64 u65 u66 u67 u68 u69 u70 u71 u72 u73 u74 u75 u76 u77 u78 u79 u80 u81 u82 u83 u84 u85 u86 u87 u88 u89 u90 u91 u92 u93 u94 u95 u96 u97 u98 u99 u100 u101 u102 u103 u104 u105 u106 u107 u108 u109 u110 u111 u112 u113 u114 u115 u116 u117 u118 u119 u120 u121 u122 u123 u124 u125 u126 u127 u128 u129 u130 u131 u132 u133 u134 u135 u136 u137 u138 u139 u140 u141 u142 u143 u144 u145 u146 u147 u148 u149 u150 u151 u152 u153 u154 u155 u156 u157 u158 u159 u160 u161 u162 u163 u164 u165 u166 u167 u168 u169 u170 u171 u172 u173 u174 u175 u176 u177 u178 u179 u180 u181 u182 u183 u184 u185 u186 u187 u188 u189 u190 u191 u192 u193 u194 u195 u196 u197 u198 u199 u200 u201 u202 u203 u204 u205 u206 u207 u208 u209 u210 u211 u212 u213 u214 u215 u216 u217 u218 u219 u220 u221 u222 u223 u224 u225 u226 u227 u228 u229 u230 u231 u232 u233 u234 u235 u236 u237 u238 u239 u240 u241 u242 u243 u244 u245 u246 u247 u248 u249 u250 u251 u252 u253 u254 u255 u256 u257 u258 u259 u260 u261 u262 u263 u264 u265 u266 u267 u268 u269 u270 u271 u272 : Value)
    (hQ : ∀ (u193 u194 u195 u196 u197 u198 u199 u200 u201 u202 u203 u204 u205 u206 u207 u208 u209 u210 u211 u212 u213 u214 u215 u216 u217 u218 u219 u220 u221 u222 u223 u224 u225 u226 u227 u228 u229 u230 u231 u232 u233 : Value) w', BSt W0 w' tl tc tb (tb + 1) (PM.upd (PM.upd lv l 4 0) (l + 1) 3 (a1 + lv l 1)) lc →
      Q .normal ⟨#[.pointer (some ⟨hb, 0, none⟩), .slice (some ⟨lb, off, none⟩) (n + 1) cap, .int .i32 (L : Nat), u3, u4, u5, .slice none 0 0, .int .i32 (n : Nat), .pointer (some ⟨tb, 0, none⟩), .pointer (some ⟨tb + 1, 0, none⟩), u10, .int .u32 ((l + 1 : Nat) : Int), .pointer (some ⟨tb, l * 5, none⟩), .int .i32 a1, u14, u15, u16, u17, u18, u19, u20, u21, u22, u23, u24, u25, u26, u27, u28, u29, u30, u31, u32, u33, u34, u35, u36, u37, u38, u39, u40, u41, u42, u43, u44, u45, u46, u47, u48, u49, u50, u51, u52, u53, u54, u55, u56, u57, u58, u59, u60, u61, u62, u63, u64, u65, u66, u67, u68, u69, u70, u71, u72, u73, u74, u75, u76, u77, u78, u79, u80, u81, u82, u83, u84, u85, u86, u87, u88, u89, u90, u91, u92, u93, u94, u95, u96, u97, u98, u99, u100, u101, u102, u103, u104, u105, u106, u107, u108, u109, u110, u111, u112, u113, u114, u115, u116, u117, u118, u119, u120, u121, u122, u123, u124, u125, u126, u127, u128, u129, u130, u131, u132, u133, u134, u135, u136, u137, u138, u139, u140, u141, u142, u143, u144, u145, u146, u147, u148, u149, u150, u151, u152, u153, u154, u155, u156, u157, u158, u159, u160, u161, u162, u163, u164, u165, u166, u167, u168, u169, u170, u171, u172, u173, u174, u175, u176, u177, u178, u179, u180, u181, u182, u183, u184, u185, u186, u187, u188, u189, u190, u191, u192, u193, u194, u195, u196, u197, u198, u199, u200, u201, u202, u203, u204, u205, u206, u207, u208, u209, u210, u211, u212, u213, u214, u215, u216, u217, u218, u219, u220, u221, u222, u223, u224, u225, u226, u227, u228, u229, u230, u231, u232, u233, u234, u235, u236, u237, u238, u239, u240, u241, u242, u243, u244, u245, u246, u247, u248, u249, u250, u251, u252, u253, u254, u255, u256, u257, u258, u259, u260, u261, u262, u263, u264, u265, u266, u267, u268, u269, u270, u271, u272], []⟩ w') :
    Code.wp Try.prog (bitsAt 40) Q ⟨#[.pointer (some ⟨hb, 0, none⟩), .slice (some ⟨lb, off, none⟩) (n + 1) cap, .int .i32 (L : Nat), u3, u4, u5, .slice none 0 0, .int .i32 (n : Nat), .pointer (some ⟨tb, 0, none⟩), .pointer (some ⟨tb + 1, 0, none⟩), u10, .int .u32 (l : Nat), .pointer (some ⟨tb, l * 5, none⟩), .int .i32 a1, u14, u15, u16, u17, u18, u19, u20, u21, u22, u23, u24, u25, u26, u27, u28, u29, u30, u31, u32, u33, u34, u35, u36, u37, u38, u39, u40, u41, u42, u43, u44, u45, u46, u47, u48, u49, u50, u51, u52, u53, u54, u55, u56, u57, u58, u59, u60, u61, u62, u63, u64, u65, u66, u67, u68, u69, u70, u71, u72, u73, u74, u75, u76, u77, u78, u79, u80, u81, u82, u83, u84, u85, u86, u87, u88, u89, u90, u91, u92, u93, u94, u95, u96, u97, u98, u99, u100, u101, u102, u103, u104, u105, u106, u107, u108, u109, u110, u111, u112, u113, u114, u115, u116, u117, u118, u119, u120, u121, u122, u123, u124, u125, u126, u127, u128, u129, u130, u131, u132, u133, u134, u135, u136, u137, u138, u139, u140, u141, u142, u143, u144, u145, u146, u147, u148, u149, u150, u151, u152, u153, u154, u155, u156, u157, u158, u159, u160, u161, u162, u163, u164, u165, u166, u167, u168, u169, u170, u171, u172, u173, u174, u175, u176, u177, u178, u179, u180, u181, u182, u183, u184, u185, u186, u187, u188, u189, u190, u191, u192, u193, u194, u195, u196, u197, u198, u199, u200, u201, u202, u203, u204, u205, u206, u207, u208, u209, u210, u211, u212, u213, u214, u215, u216, u217, u218, u219, u220, u221, u222, u223, u224, u225, u226, u227, u228, u229, u230, u231, u232, u233, u234, u235, u236, u237, u238, u239, u240, u241, u242, u243, u244, u245, u246, u247, u248, u249, u250, u251, u252, u253, u254, u255, u256, u257, u258, u259, u260, u261, u262, u263, u264, u265, u266, u267, u268, u269, u270, u271, u272], []⟩ wd := by
  conv => arg 2; whnf
  have c0 := hB.cellL l 0 (by omega) (by omega)
  have c4 := hB.cellL l 4 (by omega) (by omega)
  have f4 := hB.frL (l * 5 + 4)
  rw [hl0, Nat.add_zero] at c0
  rw [h4] at c4
  have HE := Lib.hid (hB.setL l 4 (by omega) (by omega) 0)
  have HQ := Lib.hid hQ
  have HL0 := Lib.hid hl0
  clear hQ hl0 h4 hB
  have htest : ((l : Int) == (L : Int)) = false := beq_eq_false_iff_ne.2 (by omega)
  go_upto_region 43 with (fail)
  clear c0 c4 f4
  generalize wd.setCell ⟨tb, l * 5 + 4, none⟩ (.int .i32 0) = w1 at *
  have c0 := HE.out.cellL l 0 (by omega) (by omega)
  have c1 := HE.out.cellL l 1 (by omega) (by omega)
  have s3 := HE.out.cellL (l + 1) 3 (by omega) (by omega)
  have f3 := HE.out.frL ((l + 1) * 5 + 3)
  rw [PM.upd_ne _ _ _ _ _ _ (.inr (by omega)), HL0.out, Nat.add_zero] at c0
  rw [PM.upd_ne _ _ _ _ _ _ (.inr (by omega))] at c1
  have HE2 := Lib.hid (HE.out.drew.setL (l + 1) 3 (by omega) (by omega) (a1 + lv l 1))
  clear HE
  generalize PM.upd lv l 4 0 (l + 1) 3 = y at *
  generalize lv l 1 = x1 at *
  have hw : IntKind.i32.wrap (a1 + x1) = a1 + x1 := IntWalk.i32_in _ (by omega)
  have hx : IntKind.i32.wrap ((l : Int) + 1) = (l : Int) + 1 := IntWalk.i32_in _ (by omega)
  have p1 : (0 : Int) ≤ (l : Int) + 1 := by omega
  have p2 : (l : Int) + 1 < 16 := by omega
  go_cut [] from 211 to 223 (fun wx => wx = w1.drew.setCell ⟨tb, (l + 1) * 5 + 3, none⟩ (.int .i32 (a1 + x1)))
  case first =>
    have s3d : w1.drew.cell? ⟨tb, (l + 1) * 5 + 3, none⟩ = some (.int .i32 y) := s3
    have f3d : w1.drew.frozen? ⟨tb, (l + 1) * 5 + 3, none⟩ = false := f3
    go_still_tail 13, (by kernel_rfl)
    clear s3 f3
    change wpList _ _ _ _ _ w1.drew
    generalize w1.drew = wx1 at *
    go_wp2
    go_meet
    rfl
  case rest =>
    obtain rfl := hcut
    rw [show ((l + 1 : Nat) : Int) = (l : Int) + 1 by omega] at HQ
    go_wp2
    exact HQ.out _ _ _ _ _ _ _ _ _ _ _ _ _ _ _ _ _ _ _ _ _ _ _ _ _ _ _ _ _ _ _ _ _ _ _ _ _ _ _ _ _ _ HE2.out

set_option maxHeartbeats 1000000 in
set_option maxRecDepth 1000000 in
theorem rest_down (hb lb off n cap L tb l : Nat) (W0 wd : World) (tl tc : TypeId) (lv lc : Nat → Nat → Int) (hB : BSt W0 wd tl tc tb (tb + 1) lv lc) (h1 : 1 ≤ l) (h15 : l ≤ 15) (a4 : Int) (h4 : lv l 4 = a4) (ha : 1 < a4) (ha2 : a4 ≤ 2147483647)
    (D : Nat → Prop) (hD : D l) (hst : ∀ k, D k → 0 < PM.upd lv l 4 (a4 - 1) (k - 1) 4 → 2 ≤ k ∧ D (k - 1)) (hlow : ∀ k, D k → 1 ≤ k ∧ k ≤ 15)
    (Q : Exit → Act → World → Prop) (v13 : Value) (u3 u4 u5 u10 u14 u15 u16 u17 u18 u19 u20 u21 u22 u23 u24 u25 u26 u27 u28 u29 u30 u31 u32 u33 u34 u35 u36 u37 u38 u39 u40 u41 u42 u43 u44 u45 u46 u47 u48 u49 u50 u51 u52 u53 u54 u55 u56 u57 u58 u59 u60 u61 u62 u63 u64 u65 u66 u67 u68 u69 u70 u71 u72 u73 u74 u75 u76 u77 u78 u79 u80 u81 u82 u83 u84 u85 u86 u87 u88 u89 u90 u91 u92 u93 u94 u95 u96 u97 u98 u99 u100 u101 u102 u103 u104 u105 u106 u107 u108 u109 u110 u111 u112 u113 u114 u115 u116 u117 u118 u119 u120 u121 u122 u123 u124 u125 u126 u127 u128 u129 u130 u131 u132 u133 u134 u135 u136 u137 u138 u139 u140 u141 u142 u143 u144 u145 u146 u147 u148 u149 u150 u151 u152 u153 u154 u155 u156 u157 u158 u159 u160 u161 u162 u163 u164 u165 u166 u167 u168 u169 u170 u171 u172 u173 u174 u175 u176 u177 u178 u179 u180 u181 u182 u183 u184 u185 u186 u187 u188 u189 u190 u191 u192 u193 u194 u195 u196 u197 u198 u199 u200 u201 u202 u203 u204 u205 u206 u207 u208 u209 u210 u211 u212 u213 u214 u215 u216 u217 u218 u219 u220 u221 u222 u223 u224 u225 u226 u227 u228 u229 u230 u231 u232 u233 u234 u235 u236 u237 u238 u239 u240 u241 u242 u243 u244 u245 u246 u247 u248 u249 u250 u251 u252 u253 u254 u255 u256 u257 u258 u259 u260 u261 u262 u263 u264 u265 u266 u267 u268 u269 u270 u271 u272 : Value)
    (hQ : ∀ (u193 u194 u195 u196 u197 u198 u199 u200 u201 u202 u203 u204 u205 u206 u207 u208 u209 u210 u211 u212 u213 u214 u215 u216 u217 u218 u219 u220 u221 u222 u223 u224 u225 u226 u227 u228 u229 u230 u231 u232 u233 : Value) k w', D k → ¬ 0 < PM.upd lv l 4 (a4 - 1) (k - 1) 4 → BSt W0 w' tl tc tb (tb + 1) (PM.upd lv l 4 (a4 - 1)) lc →
      Q .normal ⟨#[.pointer (some ⟨hb, 0, none⟩), .slice (some ⟨lb, off, none⟩) (n + 1) cap, .int .i32 (L : Nat), u3, u4, u5, .slice none 0 0, .int .i32 (n : Nat), .pointer (some ⟨tb, 0, none⟩), .pointer (some ⟨tb + 1, 0, none⟩), u10, .int .u32 (k : Nat), .pointer (some ⟨tb, l * 5, none⟩), v13, u14, u15, u16, u17, u18, u19, u20, u21, u22, u23, u24, u25, u26, u27, u28, u29, u30, u31, u32, u33, u34, u35, u36, u37, u38, u39, u40, u41, u42, u43, u44, u45, u46, u47, u48, u49, u50, u51, u52, u53, u54, u55, u56, u57, u58, u59, u60, u61, u62, u63, u64, u65, u66, u67, u68, u69, u70, u71, u72, u73, u74, u75, u76, u77, u78, u79, u80, u81, u82, u83, u84, u85, u86, u87, u88, u89, u90, u91, u92, u93, u94, u95, u96, u97, u98, u99, u100, u101, u102, u103, u104, u105, u106, u107, u108, u109, u110, u111, u112, u113, u114, u115, u116, u117, u118, u119, u120, u121, u122, u123, u124, u125, u126, u127, u128, u129, u130, u131, u132, u133, u134, u135, u136, u137, u138, u139, u140, u141, u142, u143, u144, u145, u146, u147, u148, u149, u150, u151, u152, u153, u154, u155, u156, u157, u158, u159, u160, u161, u162, u163, u164, u165, u166, u167, u168, u169, u170, u171, u172, u173, u174, u175, u176, u177, u178, u179, u180, u181, u182, u183, u184, u185, u186, u187, u188, u189, u190, u191, u192, u193, u194, u195, u196, u197, u198, u199, u200, u201, u202, u203, u204, u205, u206, u207, u208, u209, u210, u211, u212, u213, u214, u215, u216, u217, u218, u219, u220, u221, u222, u223, u224, u225, u226, u227, u228, u229, u230, u231, u232, u233, u234, u235, u236, u237, u238, u239, u240, u241, u242, u243, u244, u245, u246, u247, u248, u249, u250, u251, u252, u253, u254, u255, u256, u257, u258, u259, u260, u261, u262, u263, u264, u265, u266, u267, u268, u269, u270, u271, u272], []⟩ w') :
    Code.wp Try.prog (bitsAt 40) Q ⟨#[.pointer (some ⟨hb, 0, none⟩), .slice (some ⟨lb, off, none⟩) (n + 1) cap, .int .i32 (L : Nat), u3, u4, u5, .slice none 0 0, .int .i32 (n : Nat), .pointer (some ⟨tb, 0, none⟩), .pointer (some ⟨tb + 1, 0, none⟩), u10, .int .u32 (l : Nat), .pointer (some ⟨tb, l * 5, none⟩), v13, u14, u15, u16, u17, u18, u19, u20, u21, u22, u23, u24, u25, u26, u27, u28, u29, u30, u31, u32, u33, u34, u35, u36, u37, u38, u39, u40, u41, u42, u43, u44, u45, u46, u47, u48, u49, u50, u51, u52, u53, u54, u55, u56, u57, u58, u59, u60, u61, u62, u63, u64, u65, u66, u67, u68, u69, u70, u71, u72, u73, u74, u75, u76, u77, u78, u79, u80, u81, u82, u83, u84, u85, u86, u87, u88, u89, u90, u91, u92, u93, u94, u95, u96, u97, u98, u99, u100, u101, u102, u103, u104, u105, u106, u107, u108, u109, u110, u111, u112, u113, u114, u115, u116, u117, u118, u119, u120, u121, u122, u123, u124, u125, u126, u127, u128, u129, u130, u131, u132, u133, u134, u135, u136, u137, u138, u139, u140, u141, u142, u143, u144, u145, u146, u147, u148, u149, u150, u151, u152, u153, u154, u155, u156, u157, u158, u159, u160, u161, u162, u163, u164, u165, u166, u167, u168, u169, u170, u171, u172, u173, u174, u175, u176, u177, u178, u179, u180, u181, u182, u183, u184, u185, u186, u187, u188, u189, u190, u191, u192, u193, u194, u195, u196, u197, u198, u199, u200, u201, u202, u203, u204, u205, u206, u207, u208, u209, u210, u211, u212, u213, u214, u215, u216, u217, u218, u219, u220, u221, u222, u223, u224, u225, u226, u227, u228, u229, u230, u231, u232, u233, u234, u235, u236, u237, u238, u239, u240, u241, u242, u243, u244, u245, u246, u247, u248, u249, u250, u251, u252, u253, u254, u255, u256, u257, u258, u259, u260, u261, u262, u263, u264, u265, u266, u267, u268, u269, u270, u271, u272], []⟩ wd := by
  conv => arg 2; whnf
  have c4 := hB.cellL l 4 (by omega) (by omega)
  have f4 := hB.frL (l * 5 + 4)
  rw [h4] at c4
  have HE := Lib.hid (hB.setL l 4 (by omega) (by omega) (a4 - 1))
  have HQ := Lib.hid hQ
  have HD := Lib.hid hD
  have HST := Lib.hid hst
  have HLO := Lib.hid hlow
  have htest : (a4 - 1 == 0) = false := beq_eq_false_iff_ne.2 (by omega)
  have hw : IntKind.i32.wrap (a4 - 1) = a4 - 1 := IntWalk.i32_in _ (by omega)
  have HA := Lib.hid ha
  clear hQ hD hst hlow h4 hB ha
  go_wp2
  clear c4 f4 htest hw
  generalize wd.setCell ⟨tb, l * 5 + 4, none⟩ (.int .i32 (a4 - 1)) = w1 at *
  generalize PM.upd lv l 4 (a4 - 1) = lv2 at *
  go_loop [11] (fun v11 => ∃ k : Nat, v11 = .int .u32 (k : Nat) ∧ 1 ≤ k ∧ k ≤ 15 ∧ Hid (D k)) (fun v11 => (intOf v11).toNat)
  case atStart => exact ⟨l, rfl, h1, h15, HD.out⟩
  case round =>
    obtain ⟨k, rfl, hk1, hk15, hDk⟩ := hrel
    obtain ⟨j, rfl⟩ : ∃ j, k = j + 1 := ⟨k - 1, by omega⟩
    rw [show ((j + 1 : Nat) : Int) = (j : Int) + 1 by omega]
    have c4 := HE.out.cellL j 4 (by omega) (by omega)
    have HS := Lib.hid (HST.out (j + 1) hDk.out)
    have HQj := Lib.hid (fun (u193 u194 u195 u196 u197 u198 u199 u200 u201 u202 u203 u204 u205 u206 u207 u208 u209 u210 u211 u212 u213 u214 u215 u216 u217 u218 u219 u220 u221 u222 u223 u224 u225 u226 u227 u228 u229 u230 u231 u232 u233 : Value) => HQ.out u193 u194 u195 u196 u197 u198 u199 u200 u201 u202 u203 u204 u205 u206 u207 u208 u209 u210 u211 u212 u213 u214 u215 u216 u217 u218 u219 u220 u221 u222 u223 u224 u225 u226 u227 u228 u229 u230 u231 u232 u233 (j + 1) w1 hDk.out)
    rw [show j + 1 - 1 = j by omega] at HS HQj
    have hw : IntKind.u32.wrap ((j : Int) + 1 - 1) = j := by rw [show (j : Int) + 1 - 1 = j by omega]; exact IntWalk.u32_in _ (by omega)
    have hw2 : IntKind.u32.wrap (j : Int) = j := IntWalk.u32_in _ (by omega)
    have hj15 : j < 16 := by omega
    have hj15' : (j : Int) < 16 := by omega
    generalize lv2 j 4 = z at *
    by_cases hz : 0 < z
    · have hzt : decide (0 < z) = true := decide_eq_true hz
      clear hw
      go_wp2
      go_round
      case rel =>
        obtain ⟨h2, h3⟩ := HS.out hz
        exact ⟨j, by go_num, by omega, by omega, h3⟩
      case measure => simp [intOf]
    · have hzt : decide (0 < z) = false := decide_eq_false hz
      have HZ := Lib.hid hz
      clear hw hz
      rw [show ((j + 1 : Nat) : Int) = (j : Int) + 1 by omega] at HQj
      go_wp2
      exact HQj.out _ _ _ _ _ _ _ _ _ _ _ _ _ _ _ _ _ _ _ _ _ _ _ _ _ _ _ _ _ _ _ _ _ _ _ _ _ _ _ _ _ HZ.out HE.out
end Go.Proofs.Ytgkpdffgahadpaa

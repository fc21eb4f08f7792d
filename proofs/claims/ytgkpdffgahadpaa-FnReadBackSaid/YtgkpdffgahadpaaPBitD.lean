/- The walk of bitCounts: the end: the counts are laid into the encoder. -/
import Derived.Test.YtgkpdffgahadpaaPBitA
import Derived.StillTailTactics
import Derived.IntWalk
namespace Go.Proofs.Ytgkpdffgahadpaa
open Go.RowKit

def fstReg : Code → Nat
  | .region k _ _ => k
  | .seq a _ => fstReg a
  | .block _ c => fstReg c
  | .scope c => fstReg c
  | .loop c => fstReg c
  | _ => 100000
def subAt (k : Nat) : Code → Option Code
  | .region j ops d => if j = k then some (.region j ops d) else none
  | .seq a b => if fstReg a = k then some (.seq a b) else match subAt k a with
    | some c => some c
    | none => subAt k b
  | .block j c => if fstReg c = k then some (.block j c) else subAt k c
  | .scope c => if fstReg c = k then some (.scope c) else subAt k c
  | .loop c => if fstReg c = k then some (.loop c) else subAt k c
  | .cond _ a b => match subAt k a with
    | some c => some c
    | none => subAt k b
  | _ => none
/-- bitCounts' code from a region on. -/
noncomputable def bitsAt (k : Nat) : Code := ((Try.f62.body.bind (subAt k)).getD .skip)

/-- All as it was but some cells of one block. -/
structure HFr (w W : World) (hb : Nat) (cur cur' : Array Value) (t : TypeId) (lo hi : Nat) : Prop where
  os : W.os = w.os
  tape : W.tape = w.tape
  output : W.output = w.output
  size : w.heap.size ≤ W.heap.size
  other : ∀ q, q < w.heap.size → q ≠ hb → W.heap[q]? = w.heap[q]?
  blk : W.heap[hb]? = some (.cells cur' t (0, 0))
  sz : cur'.size = cur.size
  out : ∀ i, i < lo ∨ hi ≤ i → cur'[i]? = cur[i]?
theorem HFr.start {w : World} {hb : Nat} {cur : Array Value} {t : TypeId} (h : w.heap[hb]? = some (.cells cur t (0, 0))) (lo hi : Nat) : HFr w w hb cur cur t lo hi :=
  ⟨rfl, rfl, rfl, Nat.le_refl _, fun _ _ _ => rfl, h, rfl, fun _ _ => rfl⟩
theorem HFr.drew {w W : World} {hb : Nat} {cur cur' : Array Value} {t : TypeId} {lo hi : Nat} (h : HFr w W hb cur cur' t lo hi) : HFr w W.drew hb cur cur' t lo hi :=
  ⟨h.os, h.tape, h.output, h.size, h.other, h.blk, h.sz, h.out⟩
theorem HFr.drewN {w W : World} {hb : Nat} {cur cur' : Array Value} {t : TypeId} {lo hi : Nat} (h : HFr w W hb cur cur' t lo hi) (m : Nat) : HFr w (W.drewN m) hb cur cur' t lo hi :=
  ⟨h.os, h.tape, h.output, h.size, h.other, h.blk, h.sz, h.out⟩
theorem HFr.set {w W : World} {hb : Nat} {cur cur' : Array Value} {t : TypeId} {lo hi : Nat} (h : HFr w W hb cur cur' t lo hi) (j : Nat) (h1 : lo ≤ j) (h2 : j < hi) (v : Value) : HFr w (W.setCell ⟨hb, j, none⟩ v) hb cur (cur'.setIfInBounds j v) t lo hi :=
  ⟨h.os, h.tape, h.output, Nat.le_trans h.size (by simp [World.setCell]), fun q hq a => by rw [Below.heap_setCell _ _ _ _ a]; exact h.other q hq a, heap_setAt h.blk j v, by simpa using h.sz,
    fun i hi => by rw [Array.getElem?_setIfInBounds, if_neg (by omega)]; exact h.out i hi⟩

theorem alen17 : Try.prog.arrayLen 76 = 17 := by kernel_rfl
theorem size17 (w : World) : (sizeOf (Try.prog.elem 76)).run Try.prog w = .ok 1 w := by kernel_rfl
theorem run_bitCount (hb : Nat) (L : Nat) (hL : L ≤ 15) (w : World) : (Instr.sliceAt 76 (.pointer (some ⟨hb, 1, none⟩)) none (some (.int .i32 ((L : Int) + 1))) none).run Try.prog w = .ok (.slice (some ⟨hb, 1, none⟩) (L + 1) 17) w := by
  rw [run_sliceAt_array_h w 76 ⟨hb, 1, none⟩ (by kernel_rfl) .i32 ((L : Int) + 1) (by omega) (by rw [alen17]; omega), size17, alen17]
  have e : ((L : Int) + 1).toNat = L + 1 := by omega
  rw [e]
  simp [slicedAt, Addr.add]

set_option maxHeartbeats 400000 in
set_option maxRecDepth 100000 in
theorem bits_end (hb lb off n cap L tb : Nat) (t : TypeId) (W0 wo : World) (tl tc : TypeId) (lv lc : Nat → Nat → Int) (cur : Array Value) (hB : BSt W0 wo tl tc tb (tb + 1) lv lc) (hH : wo.heap[hb]? = some (.cells cur t (0, 0))) (hsz : 18 ≤ cur.size)
    (hL1 : 1 ≤ L) (hL : L ≤ 15) (hn : lc L L = (n : Int)) (hlc : ∀ j, j ≤ L → 0 ≤ lc L j ∧ lc L j ≤ 1000) (hne2 : hb ≠ tb + 1)
    (Q : Exit → Act → World → Prop)
    (hQ : ∀ a w', a.tmps[6]? = some (.slice (some ⟨hb, 1, none⟩) (L + 1) 17) → a.defers = [] → (∃ cur', HFr wo w' hb cur cur' t 2 18 ∧ ∀ b, 1 ≤ b → b ≤ L → cur'[1 + b]? = some (.int .i32 (lc L (L - b + 1) - lc L (L - b)))) → Q .ret a w')
    (u3 u4 u5 u10 u11 u12 u13 u14 u15 u16 u17 u18 u19 u20 u21 u22 u23 u24 u25 u26 u27 u28 u29 u30 u31 u32 u33 u34 u35 u36 u37 u38 u39 u40 u41 u42 u43 u44 u45 u46 u47 u48 u49 u50 u51 u52 u53 u54 u55 u56 u57 u58 u59 u60 u61 u62 u63 u64 u65 u66 u67 u68 u69 u70 u71 u72 u73 u74 u75 u76 u77 u78 u79 u80 u81 u82 u83 u84 u85 u86 u87 u88 u89 u90 u91 u92 u93 u94 u95 u96 u97 u98 u99 u100 u101 u102 u103 u104 u105 u106 u107 u108 u109 u110 u111 u112 u113 u114 u115 u116 u117 u118 u119 u120 u121 u122 u123 u124 u125 u126 u127 u128 u129 u130 u131 u132 u133 u134 u135 u136 u137 u138 u139 u140 u141 u142 u143 u144 u145 u146 u147 u148 u149 u150 u151 u152 u153 u154 u155 u156 u157 u158 u159 u160 u161 u162 u163 u164 u165 u166 u167 u168 u169 u170 u171 u172 u173 u174 u175 u176 u177 u178 u179 u180 u181 u182 u183 u184 u185 u186 u187 u188 u189 u190 u191 u192 u193 u194 u195 u196 u197 u198 u199 u200 u201 u202 u203 u204 u205 u206 u207 u208 u209 u210 u211 u212 u213 u214 u215 u216 u217 u218 u219 u220 u221 u222 u223 u224 u225 u226 u227 u228 u229 u230 u231 u232 u233 u234 u235 u236 u237 u238 u239 u240 u241 u242 u243 u244 u245 u246 u247 u248 u249 u250 u251 u252 u253 u254 u255 u256 u257 u258 u259 u260 u261 u262 u263 u264 u265 u266 u267 u268 u269 u270 u271 u272 : Value) :
    Code.wp Try.prog (bitsAt 47) Q ⟨#[.pointer (some ⟨hb, 0, none⟩), .slice (some ⟨lb, off, none⟩) (n + 1) cap, .int .i32 (L : Nat), u3, u4, u5, .slice none 0 0, .int .i32 (n : Nat), .pointer (some ⟨tb, 0, none⟩), .pointer (some ⟨tb + 1, 0, none⟩), u10, u11, u12, u13, u14, u15, u16, u17, u18, u19, u20, u21, u22, u23, u24, u25, u26, u27, u28, u29, u30, u31, u32, u33, u34, u35, u36, u37, u38, u39, u40, u41, u42, u43, u44, u45, u46, u47, u48, u49, u50, u51, u52, u53, u54, u55, u56, u57, u58, u59, u60, u61, u62, u63, u64, u65, u66, u67, u68, u69, u70, u71, u72, u73, u74, u75, u76, u77, u78, u79, u80, u81, u82, u83, u84, u85, u86, u87, u88, u89, u90, u91, u92, u93, u94, u95, u96, u97, u98, u99, u100, u101, u102, u103, u104, u105, u106, u107, u108, u109, u110, u111, u112, u113, u114, u115, u116, u117, u118, u119, u120, u121, u122, u123, u124, u125, u126, u127, u128, u129, u130, u131, u132, u133, u134, u135, u136, u137, u138, u139, u140, u141, u142, u143, u144, u145, u146, u147, u148, u149, u150, u151, u152, u153, u154, u155, u156, u157, u158, u159, u160, u161, u162, u163, u164, u165, u166, u167, u168, u169, u170, u171, u172, u173, u174, u175, u176, u177, u178, u179, u180, u181, u182, u183, u184, u185, u186, u187, u188, u189, u190, u191, u192, u193, u194, u195, u196, u197, u198, u199, u200, u201, u202, u203, u204, u205, u206, u207, u208, u209, u210, u211, u212, u213, u214, u215, u216, u217, u218, u219, u220, u221, u222, u223, u224, u225, u226, u227, u228, u229, u230, u231, u232, u233, u234, u235, u236, u237, u238, u239, u240, u241, u242, u243, u244, u245, u246, u247, u248, u249, u250, u251, u252, u253, u254, u255, u256, u257, u258, u259, u260, u261, u262, u263, u264, u265, u266, u267, u268, u269, u270, u271, u272], []⟩ wo := by
  conv => arg 2; whnf
  have HB := Lib.hid hB
  have HH := Lib.hid hH
  have HLC := Lib.hid hlc
  have HQ := Lib.hid hQ
  have HN := Lib.hid hn
  have cn := hB.cellC L L (by omega) (by omega)
  rw [hn] at cn
  clear hB hH hlc hQ hn
  have hsl := run_bitCount hb L hL
  go_wp2
  go_loopw [18, 20] (fun bi le w' => ∃ (k : Nat) (cur' : Array Value), k ≤ L ∧ bi = .int .i64 ((k : Int) + 1) ∧ le = .int .i32 ((L - k : Nat) : Int) ∧ HFr wo w' hb cur cur' t 2 18 ∧
    Hid (∀ b, 1 ≤ b → b ≤ k → cur'[1 + b]? = some (.int .i32 (lc L (L - b + 1) - lc L (L - b))))) (fun _ le _ => (intOf le).toNat)
  case atStart => exact ⟨0, cur, Nat.zero_le _, by go_num, rfl, HFr.start HH.out _ _, Lib.hid fun b h1 h2 => by omega⟩
  case round =>
    obtain ⟨k, cur', hk, rfl, rfl, hA, hC⟩ := hrel
    by_cases hlt : k < L
    · obtain ⟨j, hj⟩ : ∃ j, L - k = j + 1 := ⟨L - k - 1, by omega⟩
      have hc1 := HB.out.cellC L (j + 1) (by omega) (by omega)
      have hc2 := HB.out.cellC L j (by omega) (by omega)
      have c1 : wr.cell? ⟨tb + 1, L * 16 + (j + 1), none⟩ = some (.int .i32 (lc L (j + 1))) := by
        rw [← hc1]; simp only [World.cell?, hA.other (tb + 1) HB.out.ltC hne2.symm]
      have c2 : wr.cell? ⟨tb + 1, L * 16 + j, none⟩ = some (.int .i32 (lc L j)) := by
        rw [← hc2]; simp only [World.cell?, hA.other (tb + 1) HB.out.ltC hne2.symm]
      obtain ⟨y, hy⟩ : ∃ y, wr.cell? ⟨hb, 1 + (k + 1), none⟩ = some y := ⟨cur'[1 + (k + 1)]'(by have := hA.sz; omega), by simp [World.cell?, hA.blk]⟩
      have hf : wr.frozen? ⟨hb, 1 + (k + 1), none⟩ = false := by simp [World.frozen?, hA.blk]
      obtain ⟨b1, b2⟩ := HLC.out (j + 1) (by omega)
      obtain ⟨b3, b4⟩ := HLC.out j (by omega)
      have HA := Lib.hid hA
      have HX : Hid (lc L (L - (k + 1) + 1) - lc L (L - (k + 1)) = lc L (j + 1) - lc L j) := by
        show _ = _
        rw [show L - (k + 1) = j by omega]
      have hLj : L = k + j + 1 := by omega
      have HLJ := Lib.hid hLj
      rw [hj, show ((j + 1 : Nat) : Int) = (j : Int) + 1 by omega]
      clear hA hc1 hc2 hj hLj cn
      generalize lc L (j + 1) = x1 at *
      generalize lc L j = x2 at *
      have hj15 : j + 1 ≤ 15 := by have := HLJ.out; omega
      have hk15 : k ≤ 15 := by omega
      have hkL : k + 1 < L + 1 := by omega
      have w1 : IntKind.i32.wrap (x1 - x2) = x1 - x2 := IntWalk.i32_in _ (by omega)
      have w2 : IntKind.i32.wrap (j : Int) = j := IntWalk.i32_in _ (by omega)
      have p1 : (0 : Int) ≤ (j : Int) + 1 := by omega
      have p2 : (0 : Int) ≤ (k : Int) + 1 := by omega
      have p3 : ((j : Int) + 1) < 16 := by omega
      have p4 : (j : Int) < 16 := by omega
      go_wp2
      go_cut [] from 255 to 269 (fun wx => wx = wr.drew.setCell ⟨hb, 1 + (k + 1), none⟩ (.int .i32 (x1 - x2)))
      case first =>
        have hyd : wr.drew.cell? ⟨hb, 1 + (k + 1), none⟩ = some y := hy
        have hfd : wr.drew.frozen? ⟨hb, 1 + (k + 1), none⟩ = false := hf
        go_still_tail 15, (by kernel_rfl)
        clear hy hf
        change wpList _ _ _ _ _ wr.drew
        generalize wr.drew = wd at *
        go_wp2
        go_meet
        rfl
      case rest =>
        obtain rfl := hcut
        go_wp2
        go_roundw
        case rel =>
          have hs := HA.out.sz
          refine ⟨k + 1, _, by omega, by go_num, ?_, HA.out.drew.set (1 + (k + 1)) (by omega) (by omega) _, ?_⟩
          · have := HLJ.out
            exact int_eq (by omega)
          · refine Lib.hid fun b h1 h2 => ?_
            rw [Array.getElem?_setIfInBounds]
            by_cases hb : b = k + 1
            · subst hb
              rw [if_pos rfl, if_pos (by omega)]; exact congrArg some (int_eq HX.out.symm)
            · rw [if_neg (by omega)]
              exact hC.out b h1 (by omega)
        case measure => first | (simp [intOf]; done) | (simp [intOf]; omega)
    · have hkL : k = L := by omega
      subst hkL
      go_wp2
      refine HQ.out _ _ rfl rfl ⟨cur', hA, fun b h1 h2 => hC.out b h1 h2⟩
end Go.Proofs.Ytgkpdffgahadpaa

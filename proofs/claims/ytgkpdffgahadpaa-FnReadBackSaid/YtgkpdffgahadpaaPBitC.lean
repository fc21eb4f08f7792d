/- The walk of bitCounts: the loop over the levels. -/
import Derived.Test.YtgkpdffgahadpaaPBitF
import Derived.Test.YtgkpdffgahadpaaPBitG
import Derived.Deep.LoopGhost
namespace Go.Proofs.Ytgkpdffgahadpaa
open Go.RowKit

theorem hfr_of {w0 W0 wo w' : World} {tl tc : TypeId} {tb hb : Nat} {lv lc : Nat → Nat → Int} {cur cur' : Array Value} {t : TypeId} {lo hi : Nat} (h0 : Below tb w0 W0) (hs : w0.heap.size = tb) (hB : BSt W0 wo tl tc tb (tb + 1) lv lc)
    (hH : HFr wo w' hb cur cur' t lo hi) : HFr w0 w' hb cur cur' t lo hi :=
  ⟨hH.os.trans (hB.os.trans h0.os), hH.tape.trans (hB.tape.trans h0.tape), hH.output.trans (hB.output.trans h0.output), Nat.le_trans h0.size (Nat.le_trans hB.size hH.size),
    fun q hq a => by
      have h1 := h0.size
      have h2 := hB.size
      rw [hH.other q (by omega) a, hB.other q (by omega) (by omega) (by omega), h0.block q (by omega)], hH.blk, hH.sz, hH.out⟩

/-- What the loop leaves to say of an item. -/
structure Mids (f : List Nat) (L l : Nat) (lv lc : Nat → Nat → Int) (c' c : Nat → Nat) (a1 a4 : Int) : Prop where
  mid : PM.Mid f L l (PM.upd lv l 4 (a4 - 1)) lc c' a1
  n4 : lv l 4 = a4
  less : PM.rem f c' L + 1 = PM.rem f c L

set_option maxHeartbeats 4000000 in
set_option maxRecDepth 100000 in
theorem bits_mid (hb lb off n cap L tb : Nat) (f : List Nat) (li : Nat → Nat) (t : TypeId) (w0 W0 wo : World) (cur : Array Value) (hn : n = f.length) (hF : PM.Freqs f L) (hL : L ≤ n - 1) (hl0 : ∀ i, i < n → li i < 65535)
    (hls : ∀ i, i ≤ n → W0.cell? ⟨lb, off + i * 2, none⟩ = some (.int .u16 ((if i < n then li i else 65535 : Nat) : Int)) ∧ W0.cell? ⟨lb, off + i * 2 + 1, none⟩ = some (.int .u16 ((if i < n then f.getD i 0 else 65535 : Nat) : Int)))
    (h0 : Below tb w0 W0) (hs0 : w0.heap.size = tb) (hs1 : W0.heap.size = tb + 2) (hlb : lb < tb) (hhb : hb < tb) (hH : w0.heap[hb]? = some (.cells cur t (0, 0))) (hsz : 18 ≤ cur.size)
    (hB : BSt W0 wo 105 107 tb (tb + 1) (PM.lvS f (L + 1)) (PM.lcS (L + 1)))
    (Q : Exit → Act → World → Prop)
    (hQ : ∀ a w', a.tmps[6]? = some (.slice (some ⟨hb, 1, none⟩) (L + 1) 17) → a.defers = [] →
      (∃ cur', HFr w0 w' hb cur cur' t 2 18 ∧ ∀ b, 1 ≤ b → b ≤ L → cur'[1 + b]? = some (.int .i32 ((PM.AA f L (2 * n - 2) (L - b + 1) : Nat) - (PM.AA f L (2 * n - 2) (L - b) : Nat) : Int))) → Q .ret a w')
    (u3 u4 u5 u10 u11 u12 u13 u14 u15 u16 u17 u18 u19 u20 u21 u22 u23 u24 u25 u26 u27 u28 u29 u30 u31 u32 u33 u34 u35 u36 u37 u38 u39 u40 u41 u42 u43 u44 u45 u46 u47 u48 u49 u50 u51 u52 u53 u54 u55 u56 u57 u58 u59 u60 u61 u62 u63 u64 u65 u66 u67 u68 u69 u70 u71 u72 u73 u74 u75 u76 u77 u78 u79 u80 u81 u82 u83 u84 u85 u86 u87 u88 u89 u90 u91 u92 u93 u94 u95 u96 u97 u98 u99 u100 u101 u102 u103 u104 u105 u106 u107 u108 u109 u110 u111 u112 u113 u114 u115 u116 u117 u118 u119 u120 u121 u122 u123 u124 u125 u126 u127 u128 u129 u130 u131 u132 u133 u134 u135 u136 u137 u138 u139 u140 u141 u142 u143 u144 u145 u146 u147 u148 u149 u150 u151 u152 u153 u154 u155 u156 u157 u158 u159 u160 u161 u162 u163 u164 u165 u166 u167 u168 u169 u170 u171 u172 u173 u174 u175 u176 u177 u178 u179 u180 u181 u182 u183 u184 u185 u186 u187 u188 u189 u190 u191 u192 u193 u194 u195 u196 u197 u198 u199 u200 u201 u202 u203 u204 u205 u206 u207 u208 u209 u210 u211 u212 u213 u214 u215 u216 u217 u218 u219 u220 u221 u222 u223 u224 u225 u226 u227 u228 u229 u230 u231 u232 u233 u234 u235 u236 u237 u238 u239 u240 u241 u242 u243 u244 u245 u246 u247 u248 u249 u250 u251 u252 u253 u254 u255 u256 u257 u258 u259 u260 u261 u262 u263 u264 u265 u266 u267 u268 u269 u270 u271 u272 : Value) :
    Code.wp Try.prog (bitsAt 18) Q ⟨#[.pointer (some ⟨hb, 0, none⟩), .slice (some ⟨lb, off, none⟩) (n + 1) cap, .int .i32 (L : Nat), u3, u4, u5, .slice none 0 0, .int .i32 (n : Nat), .pointer (some ⟨tb, 0, none⟩), .pointer (some ⟨tb + 1, 0, none⟩), u10, u11, u12, u13, u14, u15, u16, u17, u18, u19, u20, u21, u22, u23, u24, u25, u26, u27, u28, u29, u30, u31, u32, u33, u34, u35, u36, u37, u38, u39, u40, u41, u42, u43, u44, u45, u46, u47, u48, u49, u50, u51, u52, u53, u54, u55, u56, u57, u58, u59, u60, u61, u62, u63, u64, u65, u66, u67, u68, u69, u70, u71, u72, u73, u74, u75, u76, u77, u78, u79, u80, u81, u82, u83, u84, u85, u86, u87, u88, u89, u90, u91, u92, u93, u94, u95, u96, u97, u98, u99, u100, u101, u102, u103, u104, u105, u106, u107, u108, u109, u110, u111, u112, u113, u114, u115, u116, u117, u118, u119, u120, u121, u122, u123, u124, u125, u126, u127, u128, u129, u130, u131, u132, u133, u134, u135, u136, u137, u138, u139, u140, u141, u142, u143, u144, u145, u146, u147, u148, u149, u150, u151, u152, u153, u154, u155, u156, u157, u158, u159, u160, u161, u162, u163, u164, u165, u166, u167, u168, u169, u170, u171, u172, u173, u174, u175, u176, u177, u178, u179, u180, u181, u182, u183, u184, u185, u186, u187, u188, u189, u190, u191, u192, u193, u194, u195, u196, u197, u198, u199, u200, u201, u202, u203, u204, u205, u206, u207, u208, u209, u210, u211, u212, u213, u214, u215, u216, u217, u218, u219, u220, u221, u222, u223, u224, u225, u226, u227, u228, u229, u230, u231, u232, u233, u234, u235, u236, u237, u238, u239, u240, u241, u242, u243, u244, u245, u246, u247, u248, u249, u250, u251, u252, u253, u254, u255, u256, u257, u258, u259, u260, u261, u262, u263, u264, u265, u266, u267, u268, u269, u270, u271, u272], []⟩ wo := by
  conv => arg 2; whnf
  have h3 := hF.three
  have hfew := hF.few
  have hL1 := hF.L1
  have hL15 := hF.L15
  rw [← hn] at h3 hfew
  have c4 := hB.cellL L 4 (by omega) (by omega)
  have f4 := hB.frL (L * 5 + 4)
  have HI : Hid (PM.Inv f L L (PM.upd (PM.lvS f (L + 1)) L 4 (2 * (n : Int) - 4)) (PM.lcS (L + 1)) (fun _ => 2)) := by
    refine Lib.hid ?_
    rw [hn]
    exact PM.inv_start hF
  have HB2 : Hid (BSt W0 (wo.setCell ⟨tb, L * 5 + 4, none⟩ (.int .i32 (2 * (n : Int) - 4))) 105 107 tb (tb + 1) (PM.upd (PM.lvS f (L + 1)) L 4 (2 * (n : Int) - 4)) (PM.lcS (L + 1))) :=
    hB.setL L 4 (by omega) (by omega) _
  have HF := Lib.hid hF
  have HN := Lib.hid hn
  have HQ := Lib.hid hQ
  have HLS := Lib.hid hls
  have HL0 := Lib.hid hl0
  have H0 := Lib.hid h0
  have HS0 := Lib.hid hs0
  have HS1 := Lib.hid hs1
  have HH := Lib.hid hH
  clear hF hn hQ hls hl0 h0 hs0 hs1 hH hB
  go_wp2
  clear c4 f4
  go_loopg [11] (32 * PM.rem f (fun _ => 2) L + 16) (fun g v11 wr => ∃ (l : Nat) (lv lc : Nat → Nat → Int) (c : Nat → Nat), v11 = .int .u32 (l : Nat) ∧ 1 ≤ l ∧ l ≤ L ∧ BSt W0 wr 105 107 tb (tb + 1) lv lc ∧ Hid (PM.Inv f L l lv lc c) ∧ 32 * PM.rem f c L + 16 ≤ g + l)
  case atStart => exact ⟨L, _, _, fun _ => 2, rfl, hL1, Nat.le_refl _, HB2.out, HI.out, by omega⟩
  case round =>
    obtain ⟨l, lv, lc, c, rfl, hl1, hlL, hBr, hIn, hg⟩ := hrel
    have HBr := Lib.hid hBr
    have hrg := hIn.out.core.rng HF.out l hl1 hlL
    have HRG := Lib.hid hrg
    have HG := Lib.hid hg
    have c0 := hBr.cellL l 0 (by omega) (by omega)
    have c1 := hBr.cellL l 1 (by omega) (by omega)
    have c2 := hBr.cellL l 2 (by omega) (by omega)
    have c3 := hBr.cellL l 3 (by omega) (by omega)
    have hl16 : (l : Int) < 16 := by omega
    clear hrg hg hBr HB2 HI
    by_cases hdead : lv l 2 = PM.MX ∧ lv l 3 = PM.MX
    · obtain ⟨hd2, hd3⟩ := hdead
      obtain ⟨hlt, hI2⟩ := hIn.out.dead HF.out hd2 hd3
      have c4 := HBr.out.cellL l 4 (by omega) (by omega)
      have f4 := HBr.out.frL (l * 5 + 4)
      have s3 := HBr.out.cellL (l + 1) 3 (by omega) (by omega)
      have f3 := HBr.out.frL ((l + 1) * 5 + 3)
      rw [hd2] at c2
      rw [hd3] at c3
      rw [show PM.MX = 2147483647 from rfl] at c2 c3
      have HE := Lib.hid ((HBr.out.setL l 4 (by omega) (by omega) 0).setL (l + 1) 3 (by omega) (by omega) PM.MX)
      rw [show (Value.int .i32 PM.MX) = .int .i32 2147483647 from rfl] at HE
      have HI2 := Lib.hid hI2
      have hw : IntKind.u32.wrap ((l : Int) + 1) = (l : Int) + 1 := IntWalk.u32_in _ (by omega)
      have p1 : (l : Int) + 1 < 16 := by omega
      have p2 : (0 : Int) ≤ (l : Int) + 1 := by omega
      clear hd2 hd3 hI2
      generalize lv l 4 = a4 at *
      generalize lv (l + 1) 3 = y at *
      go_wp2
      have hg := HG.out
      go_roundg (gk - 1)
      case rel => exact ⟨l + 1, _, _, c, by go_num, by omega, by omega, HE.out, HI2.out, by omega⟩
      case measure => omega
    · have hnp := hIn.out.np HF.out
      have HNP := Lib.hid hnp
      have HND := Lib.hid hdead
      clear hnp hdead
      have hC : Hid ((lv l 3 == 2147483647) = false ∨ (lv l 2 == 2147483647) = false) := by
        refine Lib.hid ?_
        rw [beq_eq_false_iff_ne, beq_eq_false_iff_ne]
        rcases Classical.em (lv l 3 = 2147483647) with h | h
        · exact .inr fun h2 => HND.out ⟨h2, h⟩
        · exact .inl h
      go_upto_region 22 with (fail)
      go_cut [106] from 95 to 106 (fun v106 wx => v106 = .bool false ∧ wx = wr)
      case first =>
        generalize lv l 3 = a3 at *
        generalize lv l 2 = a2 at *
        cases ht : (a3 == 2147483647) with
        | false =>
          go_wp2
          go_meet
          exact ⟨rfl, rfl⟩
        | true =>
          have ht2 : (a2 == 2147483647) = false := by
            rcases hC.out with h | h
            · rw [ht] at h; cases h
            · exact h
          have e3 : a3 = 2147483647 := beq_iff_eq.1 ht
          subst e3
          go_wp2
          go_meet
          exact ⟨rfl, rfl⟩
      case rest =>
        obtain ⟨rfl, rfl⟩ := hcut
        clear hC
        rw [Nat.add_zero] at c0
        go_upto_region 27 with (fail)
        go_quiet (fail)
        go_upto_if 128 with (fail)
        have HBd := Lib.hid (HBr.out.drewN nq)
        clear c0 c1 c2 c3 HBr
        generalize World.drewN _ nq = wd at *
        go_cut [14, 15, 16] from 128 to 192 (fun _ _ _ wx => ∃ lv' lc' c', BSt W0 wx 105 107 tb (tb + 1) lv' lc' ∧ Hid (Mids f L l lv' lc' c' c (lv l 1) (lv l 4)))
        case first =>
          by_cases hlp : lv l 2 < lv l 3
          · rw [decide_eq_true hlp]
            obtain ⟨q1, q2, q3, q4⟩ := hIn.out.leaf HF.out hlp
            rw [← HN.out] at q2 q4
            refine item_leaf hb lb off n cap L tb l (PM.aa f c l) f li W0 wd _ _ lv lc HBd.out hl1 (by omega) q1 q2 hfew hlb HL0.out (fun i => PM.leaf_lt HF.out i) HS1.out HLS.out _ _ _ _ _ _ _ _ _ _ _ _ _ _ _ _ _ _ _ _ _ _ _ _ _ _ _ _ _ _ _ _ _ _ _ _ _ _ _ _ _ _ _ _ _ _ _ _ _ _ _ _ _ _ _ _ _ _ _ _ _ _ _ _ _ _ _ _ _ _ _ _ _ _ _ _ _ _ _ _ _ _ _ _ _ _ _ _ _ _ _ _ _ _ _ _ _ _ _ _ _ _ _ _ _ _ _ _ _ _ _ _ _ _ _ _ _ _ _ _ _ _ _ _ _ _ _ _ _ _ _ _ _ _ _ _ _ _ _ _ _ _ _ _ _ _ _ _ _ _ _ _ _ _ _ _ _ _ _ _ _ _ _ _ _ _ _ _ _ _ _ _ _ _ _ _ _ _ _ _ _ _ _ _ _ _ _ _ _ _ _ _ _ _ _ _ _ _ _ _ _ _ _ _ _ _ _ _ _ _ _ _ _ _ _ _ _ _ _ _ _ _ _ _ _ _ _ _ _ _ _ _ _ _ _ _ _ _ _ _ _ _ _ _ _ _ _ _ _ _ _ _ _ _ _ _ _ _ _ _ _ _ _ _ ?_
            intro u14 u15 u16 u129 u130 u131 u132 u133 u134 u135 u136 u137 u138 u139 u140 u141 u142 u143 u144 u145 u146 u147 u148 u149 u150 u151 u152 u153 u154 u155 u156 u157 u158 u159 u160 u161 u162 u163 u164 u165 u166 u167 u168 u169 u170 u171 u172 u173 u174 u175 u176 u177 u178 u179 u180 u181 u182 u183 u184 u185 u186 u187 u188 u189 u190 u191 u192 w' hB'
            go_wp2_with fail
            go_meet
            refine ⟨_, _, _, hB', Lib.hid ⟨q4, ?_, PM.rem_inc f c l hl1 q3 L hlL⟩⟩
            rw [PM.upd_ne _ _ _ _ _ _ (.inr (by omega)), PM.upd_ne _ _ _ _ _ _ (.inr (by omega))]
          · rw [decide_eq_false hlp]
            obtain ⟨q2, q3, q5, q6, q4⟩ := hIn.out.pair HF.out hlp (fun h => HND.out ⟨h.2, h.1⟩)
            obtain ⟨m, rfl⟩ : ∃ m, l = m + 1 := ⟨l - 1, by omega⟩
            refine item_pair hb lb off n cap L tb m W0 wd _ lv lc HBd.out (by omega) (by omega) HRG.out.1 _ _ _ _ _ _ _ _ _ _ _ _ _ _ _ _ _ _ _ _ _ _ _ _ _ _ _ _ _ _ _ _ _ _ _ _ _ _ _ _ _ _ _ _ _ _ _ _ _ _ _ _ _ _ _ _ _ _ _ _ _ _ _ _ _ _ _ _ _ _ _ _ _ _ _ _ _ _ _ _ _ _ _ _ _ _ _ _ _ _ _ _ _ _ _ _ _ _ _ _ _ _ _ _ _ _ _ _ _ _ _ _ _ _ _ _ _ _ _ _ _ _ _ _ _ _ _ _ _ _ _ _ _ _ _ _ _ _ _ _ _ _ _ _ _ _ _ _ _ _ _ _ _ _ _ _ _ _ _ _ _ _ _ _ _ _ _ _ _ _ _ _ _ _ _ _ _ _ _ _ _ _ _ _ _ _ _ _ _ _ _ _ _ _ _ _ _ _ _ _ _ _ _ _ _ _ _ _ _ _ _ _ _ _ _ _ _ _ _ _ _ _ _ _ _ _ _ _ _ _ _ _ _ _ _ _ _ _ _ _ _ _ _ _ _ _ _ _ _ _ _ _ _ _ _ _ _ _ _ _ _ _ _ _ ?_
            intro u14 u15 u16 u129 u130 u131 u132 u133 u134 u135 u136 u137 u138 u139 u140 u141 u142 u143 u144 u145 u146 u147 u148 u149 u150 u151 u152 u153 u154 u155 u156 u157 u158 u159 u160 u161 u162 u163 u164 u165 u166 u167 u168 u169 u170 u171 u172 u173 u174 u175 u176 u177 u178 u179 u180 u181 u182 u183 u184 u185 u186 u187 u188 u189 u190 u191 u192 w' hB'
            go_wp2_with fail
            go_meet
            refine ⟨_, _, _, hB', Lib.hid ⟨q4, ?_, PM.rem_inc f c (m + 1) hl1 q3 L hlL⟩⟩
            rw [PM.upd_ne _ _ _ _ _ _ (.inl (by omega)), PM.upd_ne _ _ _ _ _ _ (.inr (by omega))]
        case rest =>
          obtain ⟨lv', lc', c', hB', hM⟩ := hcut
          obtain ⟨hmid, hn4, hless⟩ := hM.out
          obtain ⟨hn0, hn1⟩ := hIn.out.nd_le HF.out
          have hg := HG.out
          have e0 : lv' l 0 = (l : Int) := by
            have := hmid.core.l0 l hl1 hlL
            rwa [PM.upd_ne _ _ _ _ _ _ (.inr (by omega))] at this
          rw [← HN.out] at hn1
          apply_assumption
          by_cases ha4 : lv l 4 = 1
          · rw [ha4] at hmid hn4
            by_cases hlL2 : l = L
            · subst hlL2
              refine rest_done hb lb off n cap l tb W0 wc _ _ lv' lc' hB' hl1 (by omega) e0 hn4 _ _ _ _ _ _ _ _ _ _ _ _ _ _ _ _ _ _ _ _ _ _ _ _ _ _ _ _ _ _ _ _ _ _ _ _ _ _ _ _ _ _ _ _ _ _ _ _ _ _ _ _ _ _ _ _ _ _ _ _ _ _ _ _ _ _ _ _ _ _ _ _ _ _ _ _ _ _ _ _ _ _ _ _ _ _ _ _ _ _ _ _ _ _ _ _ _ _ _ _ _ _ _ _ _ _ _ _ _ _ _ _ _ _ _ _ _ _ _ _ _ _ _ _ _ _ _ _ _ _ _ _ _ _ _ _ _ _ _ _ _ _ _ _ _ _ _ _ _ _ _ _ _ _ _ _ _ _ _ _ _ _ _ _ _ _ _ _ _ _ _ _ _ _ _ _ _ _ _ _ _ _ _ _ _ _ _ _ _ _ _ _ _ _ _ _ _ _ _ _ _ _ _ _ _ _ _ _ _ _ _ _ _ _ _ _ _ _ _ _ _ _ _ _ _ _ _ _ _ _ _ _ _ _ _ _ _ _ _ _ _ _ _ _ _ _ _ _ _ _ _ _ _ _ _ _ _ _ _ _ _ _ _ _ _ ?_
              intro u193 u194 u195 u196 u197 u198 u199 u200 u201 u202 u203 u204 u205 u206 u207 u208 u209 u210 u211 u212 u213 u214 u215 u216 u217 u218 u219 u220 u221 u222 u223 u224 u225 u226 u227 u228 u229 u230 u231 u232 u233 w' hB2
              (try simp [Exit.inBlock, Exit.then])
              apply_assumption
              obtain ⟨hd1, hd2, hd3⟩ := hmid.done HF.out (PM.upd_same _ _ _ _)
              rw [← HN.out] at hd1 hd2 hd3
              have hs0 := HS0.out
              have hs1 := HS1.out
              have hHw : w'.heap[hb]? = some (.cells cur t (0, 0)) := by
                rw [hB2.other hb (by omega) (by omega) (by omega), H0.out.block hb (by omega)]; exact HH.out
              refine bits_end hb lb off n cap l tb t W0 w' _ _ _ lc' cur hB2 hHw hsz hl1 (by omega) hd2 (fun j _ => ?_) (by omega) Q ?_ _ _ _ _ _ _ _ _ _ _ _ _ _ _ _ _ _ _ _ _ _ _ _ _ _ _ _ _ _ _ _ _ _ _ _ _ _ _ _ _ _ _ _ _ _ _ _ _ _ _ _ _ _ _ _ _ _ _ _ _ _ _ _ _ _ _ _ _ _ _ _ _ _ _ _ _ _ _ _ _ _ _ _ _ _ _ _ _ _ _ _ _ _ _ _ _ _ _ _ _ _ _ _ _ _ _ _ _ _ _ _ _ _ _ _ _ _ _ _ _ _ _ _ _ _ _ _ _ _ _ _ _ _ _ _ _ _ _ _ _ _ _ _ _ _ _ _ _ _ _ _ _ _ _ _ _ _ _ _ _ _ _ _ _ _ _ _ _ _ _ _ _ _ _ _ _ _ _ _ _ _ _ _ _ _ _ _ _ _ _ _ _ _ _ _ _ _ _ _ _ _ _ _ _ _ _ _ _ _ _ _ _ _ _ _ _ _ _ _ _ _ _ _ _ _ _ _ _ _ _ _ _ _ _ _ _ _ _ _ _ _ _ _ _ _ _ _ _ _ _ _ _ _ _ _ _ _ _ _ _ _ _ _ _ _ _
              · rw [hd3]
                have := PM.AA_len f l (2 * n - 2) j
                have := HN.out
                omega
              · rintro a w'' h6 hdf ⟨cur', hA, hC⟩
                refine HQ.out a w'' h6 hdf ⟨cur', hfr_of H0.out hs0 hB2 hA, fun b hb1 hb2 => ?_⟩
                rw [hC b hb1 hb2, hd3, hd3]
            · have hr1 := hmid.core.rng HF.out l hl1 hlL
              rw [PM.upd_ne _ _ _ _ _ _ (.inr (by omega)), PM.upd_ne _ _ _ _ _ _ (.inr (by omega))] at hr1
              have hr2 := HRG.out
              refine rest_up hb lb off n cap L tb l W0 wc _ _ lv' lc' hB' hl1 (by omega) (by omega) e0 hn4 (lv l 1) (by omega) (by omega) (by omega) _ _ _ _ _ _ _ _ _ _ _ _ _ _ _ _ _ _ _ _ _ _ _ _ _ _ _ _ _ _ _ _ _ _ _ _ _ _ _ _ _ _ _ _ _ _ _ _ _ _ _ _ _ _ _ _ _ _ _ _ _ _ _ _ _ _ _ _ _ _ _ _ _ _ _ _ _ _ _ _ _ _ _ _ _ _ _ _ _ _ _ _ _ _ _ _ _ _ _ _ _ _ _ _ _ _ _ _ _ _ _ _ _ _ _ _ _ _ _ _ _ _ _ _ _ _ _ _ _ _ _ _ _ _ _ _ _ _ _ _ _ _ _ _ _ _ _ _ _ _ _ _ _ _ _ _ _ _ _ _ _ _ _ _ _ _ _ _ _ _ _ _ _ _ _ _ _ _ _ _ _ _ _ _ _ _ _ _ _ _ _ _ _ _ _ _ _ _ _ _ _ _ _ _ _ _ _ _ _ _ _ _ _ _ _ _ _ _ _ _ _ _ _ _ _ _ _ _ _ _ _ _ _ _ _ _ _ _ _ _ _ _ _ _ _ _ _ _ _ _ _ _ _ _ _ _ _ _ _ _ _ _ _ _ ?_
              intro u193 u194 u195 u196 u197 u198 u199 u200 u201 u202 u203 u204 u205 u206 u207 u208 u209 u210 u211 u212 u213 u214 u215 u216 u217 u218 u219 u220 u221 u222 u223 u224 u225 u226 u227 u228 u229 u230 u231 u232 u233 w' hB2
              have hup := hmid.up (by omega) (PM.upd_same _ _ _ _)
              rw [PM.upd_ne _ _ _ _ _ _ (.inr (by omega))] at hup
              go_wp2_with fail
              go_roundg (gk - 1)
              case rel => exact ⟨l + 1, _, _, c', rfl, by omega, by omega, hB2, Lib.hid hup, by omega⟩
              case measure => omega
          · refine rest_down hb lb off n cap L tb l W0 wc _ _ lv' lc' hB' hl1 (by omega) (lv l 4) hn4 (by omega) (by omega) (fun k => PM.Down f L k (PM.upd lv' l 4 (lv l 4 - 1)) lc' c')
              (hmid.down (by rw [PM.upd_same]; omega)) (fun k hk hz => hk.next hz) (fun k hk => ⟨hk.lev1, by have := hk.levL; omega⟩) _ _ _ _ _ _ _ _ _ _ _ _ _ _ _ _ _ _ _ _ _ _ _ _ _ _ _ _ _ _ _ _ _ _ _ _ _ _ _ _ _ _ _ _ _ _ _ _ _ _ _ _ _ _ _ _ _ _ _ _ _ _ _ _ _ _ _ _ _ _ _ _ _ _ _ _ _ _ _ _ _ _ _ _ _ _ _ _ _ _ _ _ _ _ _ _ _ _ _ _ _ _ _ _ _ _ _ _ _ _ _ _ _ _ _ _ _ _ _ _ _ _ _ _ _ _ _ _ _ _ _ _ _ _ _ _ _ _ _ _ _ _ _ _ _ _ _ _ _ _ _ _ _ _ _ _ _ _ _ _ _ _ _ _ _ _ _ _ _ _ _ _ _ _ _ _ _ _ _ _ _ _ _ _ _ _ _ _ _ _ _ _ _ _ _ _ _ _ _ _ _ _ _ _ _ _ _ _ _ _ _ _ _ _ _ _ _ _ _ _ _ _ _ _ _ _ _ _ _ _ _ _ _ _ _ _ _ _ _ _ _ _ _ _ _ _ _ _ _ _ _ _ _ _ _ _ _ _ _ _ _ _ _ _ _ ?_
            intro u193 u194 u195 u196 u197 u198 u199 u200 u201 u202 u203 u204 u205 u206 u207 u208 u209 u210 u211 u212 u213 u214 u215 u216 u217 u218 u219 u220 u221 u222 u223 u224 u225 u226 u227 u228 u229 u230 u231 u232 u233 k w' hD hz hB2
            have h5 := hD.lev1
            have h6 := hD.levL
            go_wp2_with fail
            go_roundg (gk - 1)
            case rel => exact ⟨k, _, _, c', rfl, h5, h6, hB2, Lib.hid (hD.stop (by omega)), by omega⟩
            case measure => omega
end Go.Proofs.Ytgkpdffgahadpaa

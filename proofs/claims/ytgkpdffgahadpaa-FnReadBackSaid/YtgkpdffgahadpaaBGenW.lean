/- The walk of generate. -/
import Derived.Test.YtgkpdffgahadpaaBNode
namespace Go.Proofs.Ytgkpdffgahadpaa
open Go.RowKit Go.Shelf Go.Lib

theorem alen287 : Try.prog.arrayLen 79 = 287 := by kernel_rfl
theorem size287 (w : World) : (sizeOf (Try.prog.elem 79)).run Try.prog w = .ok 2 w := by kernel_rfl
theorem run_cache (hb n : Nat) (hn : n ≤ 286) (w : World) : (Instr.sliceAt 79 (.pointer (some ⟨hb, 18, none⟩)) none (some (.int .i64 ((n : Int) + 1))) none).run Try.prog w = .ok (.slice (some ⟨hb, 18, none⟩) (n + 1) 287) w := by
  rw [run_sliceAt_array_h w 79 ⟨hb, 18, none⟩ (by kernel_rfl) .i64 ((n : Int) + 1) (by omega) (by rw [alen287]; omega), size287, alen287]
  have e : ((n : Int) + 1).toNat = n + 1 := by omega
  rw [e]
  simp [slicedAt, Addr.add]

set_option maxHeartbeats 1000000 in
theorem set_any (cb s c n : Nat) (y : Value) (w : World) (hy : w.cell? ⟨cb, s, none⟩ = some y) (hf : w.frozen? ⟨cb, s, none⟩ = false) (hc : c < 65536) (hn : n < 256) :
    Calls Try.prog 59 #[.pointer (some ⟨cb, s, none⟩), .int .u16 c, .int .u8 n] w fun e w' => e = .returned (.tuple #[]) ∧ w' = w.setCell ⟨cb, s, none⟩ (.int .u32 ((c * 256 + n : Nat) : Int)) := by
  go_enter Try.func59, Try.ntmps59
  go_wp2_with (go_at_call 66; refine (newhcode_any c n hc hn _).mono ?_; rintro e w4 ⟨rfl, rfl⟩)
  go_end0
  exact ⟨rfl, rfl⟩

set_option maxHeartbeats 8000000 in
set_option maxRecDepth 100000 in
theorem generate_any (base hb cb C : Nat) (cur : Array Value) (f : List Nat) (mb : Nat) (w : World) (v : Value) (hr : NRow .u16 w v f) (hE : EncB w base hb cb C cur (List.replicate f.length 0)) (hZ : cur.size = 592 ∧ cur[1]? = some (.int .i32 0))
    (hne : ∀ b o n cp, v = .slice (some ⟨b, o, none⟩) n cp → b ≠ hb ∧ b ≠ cb) (hW : WellF f mb) :
    Calls Try.prog 42 #[.pointer (some ⟨hb, 0, none⟩), v, .int .i32 mb] w fun e w' => e = .returned (.tuple #[]) ∧ ∃ cur', EncB w' base hb cb C cur' (genH (lensG f mb)) ∧ GFr w w' hb cb := by
  have h0 := hW.pos
  have h286 := hW.most
  have hc0 := hE.cell
  have hnC : f.length ≤ C := by
    rcases hE.own.2 with ⟨he, _⟩ | ⟨g, cap', cur', he, _, _, h1, _⟩
    · cases he
    · cases he; rw [List.length_replicate] at h1; exact h1
  rw [List.length_replicate] at hc0
  obtain ⟨a, cap, rfl, _, hr⟩ := hr
  obtain ⟨b, o, rfl, hbl, hcc⟩ := hr h0
  obtain ⟨hn1, hn2⟩ := hne b o _ _ rfl
  have HCC := Lib.hid hcc
  have HW := Lib.hid hW
  have HS0 : Hid (GSt w w base hb cb C cur (List.replicate f.length 0) (nodes f 0)) := ⟨hE, hZ.1, hZ.2, by intro j x hx; simp [nodes, symsK] at hx, GFr.refl _ _ _⟩
  clear hr hcc hW hE hZ hne
  have hsl := run_cache hb f.length h286
  go_enter Try.func42, Try.ntmps42
  go_wp2
  clear hsl hc0
  go_loopw [8, 9, 10, 30] (fun cnt _ _ ii wr => ∃ (k m : Nat) (cur' : Array Value), k ≤ f.length ∧ ii = .int .i64 (k : Nat) ∧ cnt = .int .i64 (m : Nat) ∧ m = (nodes f k).length ∧ GSt w wr base hb cb C cur' (List.replicate f.length 0) (nodes f k)) (fun _ _ _ ii _ => f.length - (intOf ii).toNat)
  case atStart => exact ⟨0, 0, cur, Nat.zero_le _, rfl, rfl, rfl, HS0.out⟩
  case round =>
    obtain ⟨k, m, cur', hk, rfl, rfl, hm, hS⟩ := hrel
    clear HS0
    have hmk : m ≤ k := by rw [hm]; exact nodes_le f k
    by_cases hlt : k < f.length
    · have hck : wr.cell? ⟨b, o + k, none⟩ = _ := (hS.fr.cell b (o + k) hbl hn1 hn2).trans (HCC.out k hlt)
      have hbd := getD_bd HW.out.h16 k
      have hns := nodes_succ f k
      have hmk : mkL f k = (⟨k, by omega⟩, ⟨f.getD k 0, hbd⟩) := by
        unfold mkL
        simp only [Nat.mod_eq_of_lt (show k < 65536 by omega), Nat.mod_eq_of_lt hbd]
      by_cases hx0 : 0 < f.getD k 0
      · rw [if_pos hx0] at hns
        obtain ⟨⟨y1, hs1⟩, hf1⟩ := hS.at_ (18 + m * 2) (by omega)
        obtain ⟨⟨y2, hs2⟩, hf2⟩ := hS.at_ (18 + m * 2 + 1) (by omega)
        have hP := hS.put (mkL f k) (by omega)
        rw [← hns, ← hm, hmk] at hP
        have hwk : IntKind.u16.wrap (k : Int) = (k : Int) := by simp [IntKind.wrap, IntKind.bits, IntKind.signed]; omega
        have HM1 : Hid (m + 1 = (nodes f (k + 1)).length) := Lib.hid (by rw [hns, hm]; simp)
        have HSP := Lib.hid hP
        clear hP hS hns hmk hm
        generalize f.getD k 0 = x at *
        go_wp2
        go_roundw
        case rel => exact ⟨k + 1, m + 1, _, by omega, by go_num, by go_num, HM1.out, HSP.out⟩
        case measure => simp [intOf]; omega
      · rw [if_neg hx0, List.append_nil] at hns
        have hx1 : f.getD k 0 = 0 := by omega
        rw [hx1] at hck
        have hck : wr.cell? ⟨b, o + k, none⟩ = some (.int .u16 0) := hck
        have hs1 := owns_cell hS.enc.own k (by simpa using hlt) rfl
        have hf1 := hS.enc.own.frozenAt k
        have hP := hS.code k 0
        have hrs : (List.replicate f.length 0).set k 0 = List.replicate f.length 0 := by
          apply List.ext_getElem
          · simp
          · intro i h1 h2
            simp
        rw [hrs, ← hns] at hP
        have HSP : Hid (GSt w (wr.setCell ⟨cb, k, none⟩ (.int .u32 0)) base hb cb C cur' (List.replicate f.length 0) (nodes f (k + 1))) := hP
        have HM1 : Hid (m = (nodes f (k + 1)).length) := Lib.hid (by rw [hns, hm])
        clear hP hS hns hmk hm hrs hx1 hx0
        generalize (List.replicate f.length 0).getD k 0 = y at *
        go_wp2
        go_roundw
        case rel => exact ⟨k + 1, m, _, by omega, by go_num, rfl, HM1.out, HSP.out⟩
        case measure => simp [intOf]; omega
    · have hkl : k = f.length := by omega
      subst hkl
      obtain ⟨⟨y1, hs1⟩, hf1⟩ := hS.at_ (18 + m * 2) (by omega)
      obtain ⟨⟨y2, hs2⟩, hf2⟩ := hS.at_ (18 + m * 2 + 1) (by omega)
      have hP := hS.over (.int .u16 0) (.int .u16 0)
      rw [← hm] at hP
      have HSP := Lib.hid hP
      have HM := Lib.hid hm
      clear hP hS hm HCC
      by_cases h2 : m ≤ 2
      · have hmu : m = (symsK f f.length).length := by rw [HM.out, nodes_len]
        have hul : (used f).length ≤ 2 := by rw [← symsK_len, ← hmu]; exact h2
        have hll := (good HW.out).len
        have HF1 : Hid (csP (lensG f mb) (List.replicate f.length 0) 1 0 = List.replicate f.length 0) := few_zero f mb hll
        have HSTEP : Hid (∀ i, i < m → csP (lensG f mb) (List.replicate f.length 0) 1 (i + 1) = (csP (lensG f mb) (List.replicate f.length 0) 1 i).set ((symsK f f.length).getD i 0) (i * 256 + 1)) := Lib.hid fun i hi => few_step hul hll i (by omega)
        have HEND : Hid (csP (lensG f mb) (List.replicate f.length 0) 1 m = genH (lensG f mb)) := by
          rw [hmu]; exact few_end hul hll
        clear hmu hul hll
        have d1 : decide ((m : Int) ≤ 2) = true := decide_eq_true (by omega)
        go_wp2
        clear hs1 hs2 hf1 hf2
        generalize hW0 : World.setCell _ _ _ = W0 at *
        go_loopw [11, 12, 61] (fun _ _ ii wr => ∃ (i : Nat) (cur' : Array Value), i ≤ m ∧ ii = .int .i64 (i : Nat) ∧ GSt w wr base hb cb C cur' (csP (lensG f mb) (List.replicate f.length 0) 1 i) (nodes f f.length)) (fun _ _ ii _ => m - (intOf ii).toNat)
        case atStart => exact ⟨0, _, Nat.zero_le _, rfl, by rw [HF1.out]; exact HSP.out⟩
        case round =>
          obtain ⟨i, cur2, hi, rfl, hS⟩ := hrel
          clear HSP
          by_cases him : i < m
          · have hget := nodes_get f f.length i (by have := HM.out; omega)
            obtain ⟨c1, c2⟩ := hS.row i _ hget
            have hsm := (symsK_mem f _ _).1 (getD_mem (symsK f f.length) i (by have := HM.out; rw [nodes_len] at this; omega))
            rw [mkL_fst _ (by omega)] at c1
            rw [mkL_snd HW.out.h16] at c2
            have k1 : wr.cell? ⟨hb, 18 + i * 2, none⟩ = some (.int .u16 (((symsK f f.length).getD i 0 : Nat) : Int)) := by
              simp only [World.cell?, hS.enc.blk]; exact c1
            have k2 : wr.cell? ⟨hb, 18 + i * 2 + 1, none⟩ = some (.int .u16 ((f.getD ((symsK f f.length).getD i 0) 0 : Nat) : Int)) := by
              simp only [World.cell?, hS.enc.blk]; exact c2
            have HST := Lib.hid (HSTEP.out i him)
            generalize (symsK f f.length).getD i 0 = s at *
            generalize f.getD s 0 = fs at *
            have hs1 : s < f.length := hsm.1
            have e0 := hS.enc.cell
            rw [csP_len, List.length_replicate] at e0
            have e1 := owns_cell hS.enc.own s (by rw [csP_len, List.length_replicate]; exact hs1) rfl
            have e2 := hS.enc.own.frozenAt s
            have HSS := Lib.hid hS
            clear c1 c2 hget hsm hS
            go_upto_region 17 with (fail)
            generalize (csP (lensG f mb) (List.replicate f.length 0) 1 i).getD s 0 = y at *
            generalize hW : World.alloc wr _ = W
            have HSW : Hid (GSt w W base hb cb C cur2 (csP (lensG f mb) (List.replicate f.length 0) 1 i) (nodes f f.length)) := by rw [← hW]; exact HSS.out.alloc _
            have hcbl := HSS.out.enc.cb_lt.2
            have hhbl := HSS.out.enc.hb_lt
            have hcbn := HSS.out.enc.ne
            have q1 : W.cell? ⟨hb, 0, none⟩ = some (.slice (some ⟨cb, 0, none⟩) f.length C) := by
              rw [← hW, World.cell?_alloc_old _ _ _ (Nat.ne_of_lt hhbl)]; exact e0
            have q2 : W.cell? ⟨wr.heap.size, 0, none⟩ = some (.int .u16 (s : Int)) := by rw [← hW]; exact cells_new wr [_, _] _ _ 0 _ rfl
            have q3 : W.cell? ⟨cb, s, none⟩ = some (.int .u32 (y : Int)) := by
              rw [← hW, World.cell?_alloc_old _ _ _ (Nat.ne_of_lt hcbl)]; exact e1
            have q4 : W.frozen? ⟨cb, s, none⟩ = false := by rw [← hW]; exact (HSS.out.enc.own.alloc _).frozenAt s
            have d1 : W.drew.cell? ⟨hb, 0, none⟩ = some (.slice (some ⟨cb, 0, none⟩) f.length C) := q1
            have d2 : W.drew.cell? ⟨wr.heap.size, 0, none⟩ = some (.int .u16 (s : Int)) := q2
            have d3 : W.drew.cell? ⟨cb, s, none⟩ = some (.int .u32 (y : Int)) := q3
            have d4 : W.drew.frozen? ⟨cb, s, none⟩ = false := q4
            have HQ1 := Lib.hid q1
            have HQ2 := Lib.hid q2
            clear hW e0 e1 e2 k1 k2 q1 q2 q3 q4 HSS
            generalize wr.heap.size = nb at *
            have hwi : IntKind.u16.wrap (i : Int) = (i : Int) := by simp [IntKind.wrap, IntKind.bits, IntKind.signed]; omega
            have HS1 : Hid (∀ (W' : World) (v : Value), W'.cell? ⟨hb, 0, none⟩ = some (.slice (some ⟨cb, 0, none⟩) f.length C) → (W'.setCell ⟨cb, s, none⟩ v).drew.cell? ⟨hb, 0, none⟩ = some (.slice (some ⟨cb, 0, none⟩) f.length C)) :=
              Lib.hid fun W' v h => by rw [show (World.setCell W' ⟨cb, s, none⟩ v).drew.cell? = (World.setCell W' ⟨cb, s, none⟩ v).cell? from rfl, World.cell?_setCell_far W' _ _ v (by exact hcbn)]; exact h
            have HS2 : Hid (∀ (W' : World) (v : Value), W'.cell? ⟨nb, 0, none⟩ = some (.int .u16 (s : Int)) → (W'.setCell ⟨cb, s, none⟩ v).drew.cell? ⟨nb, 0, none⟩ = some (.int .u16 (s : Int))) :=
              Lib.hid fun W' v h => by rw [show (World.setCell W' ⟨cb, s, none⟩ v).drew.cell? = (World.setCell W' ⟨cb, s, none⟩ v).cell? from rfl, World.cell?_setCell_far W' _ _ v (by dsimp only; omega)]; exact h
            go_region_held3 (fun W' : World => W'.cell? ⟨hb, 0, none⟩ = some (.slice (some ⟨cb, 0, none⟩) f.length C) ∧ W'.cell? ⟨nb, 0, none⟩ = some (.int .u16 (s : Int)))
                (first | (with_reducible exact ⟨by assumption, by assumption⟩) | (with_reducible exact ⟨HS1.out _ _ HQ1.out, HS2.out _ _ HQ2.out⟩))
                (first
                  | (go_at_call 59; refine (set_any cb s i 1 _ _ d3 d4 (by omega) (by omega)).mono ?_; rintro e w3 ⟨rfl, rfl⟩))
            all_goals
              go_wp2_with fail
              go_roundw
              case rel =>
                refine ⟨i + 1, cur2, by omega, by go_num, ?_⟩
                have h9 := (HSW.out.code s (i * 256 + 1)).drew
                rw [← HST.out] at h9
                have e9 : ((i * 256 + 1 : Nat) : Int) = (i : Int) * 256 + 1 := by push_cast; rfl
                rw [e9] at h9
                exact h9
              case measure => simp [intOf]; omega
          · have him2 : i = m := by omega
            subst him2
            have HSE := Lib.hid hS
            clear hS
            go_wp2
            have h9 := HSE.out
            rw [HEND.out] at h9
            exact bodyPost_ret (v := .tuple #[]) (by simp [results, Try.results42, go_sem]) rfl ⟨rfl, cur2, h9.enc, h9.fr⟩
      · have d1 : decide ((m : Int) ≤ 2) = false := decide_eq_false (by omega)
        have hm3 : 3 ≤ (used f).length := by rw [← nodes_full, ← HM.out]; omega
        go_wp2_with fail
        refine (sortG_any hb 18 287 m 81 _ (nodes f f.length) _ HM.out HSP.out.enc.blk HSP.out.row (by have := HM.out; omega)).mono ?_
        rintro e w2 ⟨rfl, d, cur2, hp, hpw, hb2, hrow2, hsz2, hout2, hfr2⟩
        obtain rfl := sorted_nodes (by omega) HW.out.h16 hp hpw
        have hS2 := HSP.out.sorted (n := 2 * (nodes f f.length).length) hfr2 hb2 hsz2 hout2 hrow2
        have hdl : ((ordF f).map (mkL f)).length = m := by rw [List.length_map, ordF_len, ← nodes_full, ← HM.out]
        have hmu : m = (used f).length := by rw [HM.out, nodes_full]
        have HS2 := Lib.hid hS2
        obtain ⟨⟨z1, g1⟩, _⟩ := hS2.at_ (18 + m * 2) (by omega)
        obtain ⟨⟨z2, g2⟩, _⟩ := hS2.at_ (18 + m * 2 + 1) (by omega)
        have hfrq := HW.out.freqs hm3
        rw [← hmu] at hfrq
        have hord : ∀ j, j < m → (ordF f).getD j 0 < f.length := fun j hj => ordF_lt f _ (getD_mem _ _ (by rw [ordF_len]; omega))
        have hlit : ∀ j, j < m → w2.cell? ⟨hb, 18 + j * 2, none⟩ = some (.int .u16 ((ordF f).getD j 0 : Nat)) ∧ w2.cell? ⟨hb, 18 + j * 2 + 1, none⟩ = some (.int .u16 ((used f).getD j 0 : Nat)) := by
          intro j hj
          have hjo : j < (ordF f).length := by rw [ordF_len]; omega
          have hlo := hord j hj
          have e1 : ((ordF f).map (mkL f))[j]? = some (mkL f ((ordF f).getD j 0)) := by simp [List.getD, hjo]
          obtain ⟨c1, c2⟩ := hrow2 j _ e1
          rw [mkL_fst _ (by omega)] at c1
          rw [mkL_snd HW.out.h16] at c2
          have e2 : (used f).getD j 0 = f.getD ((ordF f).getD j 0) 0 := by
            rw [← ordF_freq f (by omega)]
            simp [List.getD, hjo]
          rw [e2]
          exact ⟨by simp only [World.cell?, hb2]; exact c1, by simp only [World.cell?, hb2]; exact c2⟩
        have hBC := bitCounts_any hb hb 18 m 287 mb (min mb (m - 1)) (used f) (fun j => (ordF f).getD j 0) w2 81 cur2 hmu hfrq HW.out.b15 HW.out.b1 rfl (by omega)
          (fun j hj => by have := hord j hj; omega) hlit z1 z2 g1 g2 (fun o => by simp [World.frozen?, hb2]) hb2 (by have := hS2.sz; omega)
        have HBC := Lib.hid hBC
        have HFQ := Lib.hid hfrq
        have HCE : Hid (cntG f mb = PM.bcl (used f) (min mb (m - 1))) := by rw [hmu]; rfl
        clear hBC hfrq hlit hord hS2 hrow2 hout2 hfr2 hsz2 hp hpw g1 g2 HSP hs1 hs2 hf1 hf2
        have hL15 : min mb (m - 1) ≤ 15 := HFQ.out.L15
        generalize min mb (m - 1) = L at *
        have HMU := Lib.hid hmu
        clear hmu
        go_wp2_with fail
        refine HBC.out.mono ?_
        rintro e w3 ⟨rfl, cur3, hfr3, hbits⟩
        have hS3 := HS2.out.counts (cur' := cur3) (by rw [hdl]; exact hfr3)
        have hNR : NRow .i32 w3 (.slice (some ⟨hb, 1, none⟩) (L + 1) 17) (cntG f mb) := by
          rw [HCE.out]
          refine ⟨some ⟨hb, 1, none⟩, 17, by rw [PM.bcl_len], ⟨(fun h => by cases h), by rw [PM.bcl_len]; omega⟩, fun _ => ⟨hb, 1, rfl, (Array.getElem?_eq_some_iff.1 hfr3.blk).1, fun j hj => ?_⟩⟩
          rw [PM.bcl_len] at hj
          simp only [World.cell?, hfr3.blk]
          rcases Nat.eq_zero_or_pos j with h0 | h0
          · subst h0
            rw [Nat.add_zero, hS3.one]
            rfl
          · rw [hbits j h0 (by omega), HMU.out, PM.bcl_cast HFQ.out j h0 (by omega)]; rfl
        have hcl : (cntG f mb).length = L + 1 := by rw [HCE.out, PM.bcl_len]
        have hlen := (good HW.out).len
        have hAS := assign_any base hb cb C (List.replicate f.length 0) w3 hS3.enc.cell hS3.enc.own hS3.enc.ne.symm hS3.enc.hb_lt hb 18 287 81 cur3 ((ordF f).map (mkL f)) hfr3.blk hS3.row hS3.enc.ne.symm (.inr (by omega))
          (.slice (some ⟨hb, 1, none⟩) (L + 1) 17) (cntG f mb) hNR
          (fun _ b o n cp he => by
            cases he
            exact ⟨hS3.enc.ne.symm, .inr (.inl (by omega))⟩)
          (lensG f mb) (by rw [hlen]; simp) (by rw [hdl]; omega) (by rw [hdl]; omega) (by omega) (many_fits HW.out hm3)
        rw [hdl, many_end HW.out hm3 hlen] at hAS
        have HAS := Lib.hid hAS
        have HS3 := Lib.hid hS3
        have HGL : Hid ((genH (lensG f mb)).length = f.length) := Lib.hid (by unfold genH; rw [csP_len, List.length_replicate, hlen])
        clear hAS hS3 hNR hfr3 hbits HBC HFQ
        go_wp2_with fail
        refine HAS.out.mono ?_
        rintro e w4 ⟨rfl, cur4, hfr4, hown4⟩
        have HFIN : Hid (EncB w4 base hb cb C cur4 (genH (lensG f mb)) ∧ GFr w w4 hb cb) := by
          have hE := HS3.out.enc
          refine ⟨⟨hE.ge, hfr4.lblk, ?_, ?_, hE.ne⟩, HS3.out.fr.assigned hfr4⟩
          · rw [hfr4.out 0 (.inl (by omega)), hE.c0, HGL.out, List.length_replicate]
          · rw [HGL.out]
            rw [List.length_replicate] at hown4
            exact hown4
        clear hfr4 hown4
        go_wp2
        go_end0
        exact ⟨rfl, cur4, HFIN.out⟩
end Go.Proofs.Ytgkpdffgahadpaa

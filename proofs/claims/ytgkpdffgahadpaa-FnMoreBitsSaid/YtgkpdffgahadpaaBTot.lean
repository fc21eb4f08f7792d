/- The walks of the package's BitLength, CanEncodeLen and BitLengthRaw, and of the thin package's Total, Can and Raw. -/
import Derived.Test.YtgkpdffgahadpaaBCodes
import Derived.Test.YtgkpdffgahadpaaBEnc
namespace Go.Proofs.Ytgkpdffgahadpaa
open Go.RowKit Go.Shelf Go.Lib

theorem genH_zero {L : List Nat} (h15 : ∀ x ∈ L, x ≤ 15) : ∀ x ∈ genH L, x % 256 = 0 → x = 0 := by
  intro x hx h0
  unfold genH at hx
  obtain ⟨s, hs, rfl⟩ := List.mem_map.1 hx
  rw [List.mem_range, List.length_replicate] at hs
  have hm := h15 _ (getD_mem L s hs)
  split at h0
  · rename_i h
    unfold hval at h0
    omega
  · rename_i h
    rw [if_neg h]
    simp [List.getD, hs]
theorem genH_enc {L : List Nat} (h15 : ∀ x ∈ L, x ≤ 15) (h1 : 1 ≤ L.length) (h2 : L.length ≤ 1000) : Enc0 (genH L) :=
  ⟨by rw [genH_len]; exact h1, by rw [genH_len]; exact h2, genH_lt L, genH_zero h15⟩
theorem genH_mod {L : List Nat} (h15 : ∀ x ∈ L, x ≤ 15) (i : Nat) : (genH L).getD i 0 % 256 = L.getD i 0 := by
  have h := congrArg (fun l : List Nat => l.getD i 0) (genH_full h15).1
  simp only [lensOf, List.getD_eq_getElem?_getD, List.getElem?_map] at h
  rw [List.getD_eq_getElem?_getD, List.getD_eq_getElem?_getD, ← h]
  cases (genH L)[i]? <;> rfl
theorem genH_dot {L : List Nat} (h15 : ∀ x ∈ L, x ≤ 15) (f : List Nat) : ∀ k, dotC f (genH L) k = dotK f L k
  | 0 => rfl
  | k + 1 => by rw [dotC, dotK, genH_dot h15 f k, genH_mod h15]
theorem genH_can {L : List Nat} (h15 : ∀ x ∈ L, x ≤ 15) (f : List Nat) (k : Nat) : CanC f (genH L) k ↔ ∀ i, i < k → 0 < f.getD i 0 → 0 < L.getD i 0 := by
  have hz : ∀ i, (genH L).getD i 0 ≠ 0 ↔ 0 < L.getD i 0 := by
    intro i
    have h := genH_mod h15 i
    constructor
    · intro h1
      rcases Nat.lt_or_ge i (genH L).length with hi | hi
      · rcases Nat.eq_zero_or_pos (L.getD i 0) with h2 | h2
        · exact absurd (genH_zero h15 _ (getD_mem _ i hi) (by omega)) h1
        · exact h2
      · exact absurd (PM.getD_out hi) h1
    · intro h1 h2
      rw [h2] at h
      omega
  constructor
  · intro h i hi h0; exact (hz i).1 (h i hi h0)
  · intro h i hi h0; exact (hz i).2 (h i hi h0)

set_option maxHeartbeats 2000000 in
theorem pBit_any (vc v : Value) (cs f : List Nat) (w : World) (hc : CRow w vc (cs.map codeOf)) (hC : Enc0 cs) (hr : NRow .u16 w v f) (hl : f.length = cs.length) (h16 : ∀ x ∈ f, x < 65536) :
    Calls Try.prog 36 #[vc, v] w fun e w' => e = .returned (.int .i64 (dotC f cs f.length : Nat)) ∧ Below w.heap.size w w' := by
  have HC := Lib.hid hC
  have HCR := Lib.hid hc
  have HR := Lib.hid hr
  have H16 := Lib.hid h16
  have hn : f.length ≤ 1000 := by have := hC.few; omega
  have HL := Lib.hid hl
  clear hC hc hr h16 hl
  go_enter Try.func36, Try.ntmps36
  go_wp2_with fail
  refine (encoder_any vc cs w HCR.out HC.out).mono ?_
  rintro e w1 ⟨hb, cb, C, cur, rfl, hE, hbel⟩
  have HE := Lib.hid hE
  have HB := Lib.hid hbel
  have HR1 := Lib.hid (HR.out.below hbel)
  clear hE hbel
  go_wp2_with fail
  refine (bitLen_any v f cs w1 HR1.out HE.out HL.out hn H16.out HC.out.lt).mono ?_
  rintro e w2 ⟨rfl, m, rfl⟩
  go_wp2
  go_ret
  exact ⟨rfl, below_dN HB.out m⟩

set_option maxHeartbeats 2000000 in
theorem pCan_any (vc v : Value) (cs f : List Nat) (w : World) (hc : CRow w vc (cs.map codeOf)) (hC : Enc0 cs) (hr : NRow .u16 w v f) (hl : f.length = cs.length) (h16 : ∀ x ∈ f, x < 65536) :
    Calls Try.prog 38 #[vc, v] w fun e w' => ((CanC f cs f.length ∧ e = .returned (.int .i64 (dotC f cs f.length : Nat))) ∨ (¬ CanC f cs f.length ∧ e = .returned (.int .i64 2147483647))) ∧ Below w.heap.size w w' := by
  have HC := Lib.hid hC
  have HCR := Lib.hid hc
  have HR := Lib.hid hr
  have H16 := Lib.hid h16
  have hn : f.length ≤ 1000 := by have := hC.few; omega
  have HL := Lib.hid hl
  clear hC hc hr h16 hl
  go_enter Try.func38, Try.ntmps38
  go_wp2_with fail
  refine (encoder_any vc cs w HCR.out HC.out).mono ?_
  rintro e w1 ⟨hb, cb, C, cur, rfl, hE, hbel⟩
  have HE := Lib.hid hE
  have HB := Lib.hid hbel
  have HR1 := Lib.hid (HR.out.below hbel)
  clear hE hbel
  go_wp2_with fail
  refine (canLen_any v f cs w1 HR1.out HE.out HL.out hn H16.out HC.out.lt).mono ?_
  rintro e w2 ⟨h | h, m, rfl⟩
  · obtain ⟨h1, rfl⟩ := h
    have H1 := Lib.hid h1
    clear h1
    go_wp2
    go_ret
    exact ⟨.inl ⟨H1.out, rfl⟩, below_dN HB.out m⟩
  · obtain ⟨h1, rfl⟩ := h
    have H1 := Lib.hid h1
    clear h1
    go_wp2
    go_ret
    exact ⟨.inr ⟨H1.out, rfl⟩, below_dN HB.out m⟩

set_option maxHeartbeats 2000000 in
theorem pRaw_any (vc v : Value) (cs f : List Nat) (w : World) (hc : CRow w vc (cs.map codeOf)) (hC : Enc0 cs) (hr : NRow .u8 w v f) (hn : f.length ≤ 1048576) (h8 : ∀ x ∈ f, x < cs.length) (hb8 : ∀ x ∈ f, x < 256) :
    Calls Try.prog 37 #[vc, v] w fun e w' => e = .returned (.int .i64 (rawC f cs f.length : Nat)) ∧ Below w.heap.size w w' := by
  have HC := Lib.hid hC
  have HCR := Lib.hid hc
  have HR := Lib.hid hr
  have H8 := Lib.hid h8
  have H88 := Lib.hid hb8
  clear hC hc hr h8 hb8
  go_enter Try.func37, Try.ntmps37
  go_wp2_with fail
  refine (encoder_any vc cs w HCR.out HC.out).mono ?_
  rintro e w1 ⟨hb, cb, C, cur, rfl, hE, hbel⟩
  have HE := Lib.hid hE
  have HB := Lib.hid hbel
  have HR1 := Lib.hid (HR.out.below hbel)
  clear hE hbel
  go_wp2_with fail
  refine (rawLen_any v f cs w1 HR1.out HE.out hn H8.out H88.out HC.out.lt).mono ?_
  rintro e w2 ⟨rfl, m, rfl⟩
  go_wp2
  go_ret
  exact ⟨rfl, below_dN HB.out m⟩

set_option maxHeartbeats 2000000 in
theorem total_any (v u : Value) (f g : List Nat) (mb : Nat) (w : World) (hr : NRow .u16 w v f) (hg : NRow .u16 w u g) (hW : WellF f mb) (hl : g.length = f.length) (h16 : ∀ x ∈ g, x < 65536) :
    Calls Try.prog 26 #[v, .int .i64 mb, u] w fun e w' => e = .returned (.int .i64 (dotK g (lensG f mb) f.length : Nat)) ∧ Below w.heap.size w w' := by
  have h0 := hW.pos
  have h286 := hW.most
  have hmb := hW.b15
  have hgd := good hW
  have h15 : ∀ x ∈ lensG f mb, x ≤ 15 := fun x hx => by have := hgd.le x hx; omega
  have HGL : Hid ((genH (lensG f mb)).length = f.length) := by rw [genH_len]; exact hgd.len
  have HEN := Lib.hid (genH_enc h15 (by rw [hgd.len]; omega) (by rw [hgd.len]; omega))
  have HD := Lib.hid (genH_dot h15 g f.length)
  have HW := Lib.hid hW
  have HR := Lib.hid hr
  have HG := Lib.hid hg
  have H16 := Lib.hid h16
  have HL := Lib.hid hl
  have hgl : g.length < 65536 := by omega
  clear hr hW hg h16 hgd h15 hl
  go_enter Try.func26, Try.ntmps26
  go_wp2_with fail
  refine (copied_any w v f HR.out (by omega)).mono ?_
  rintro e w1 ⟨v1, rfl, ho1, hb1⟩
  have HN1 := Lib.hid (NRow.of_owns rfl ho1)
  have HB1 := Lib.hid hb1
  clear ho1 hb1
  go_wp2_with fail
  refine (pGen_any v1 f mb w1 HN1.out HW.out).mono ?_
  rintro e w2 ⟨v2, rfl, ho2, hb2⟩
  have HO2 := Lib.hid ho2
  have HB2 := Lib.hid (below_up HB1.out hb2 HB1.out.size)
  have HG2 := Lib.hid (HG.out.below HB2.out)
  clear ho2 hb2
  go_wp2_with fail
  refine (copied_any w2 u g HG2.out hgl).mono ?_
  rintro e w3 ⟨v3, rfl, ho3, hb3⟩
  have HN3 := Lib.hid (NRow.of_owns rfl ho3)
  have HB3 := Lib.hid (below_up HB2.out hb3 HB2.out.size)
  have HC3 := Lib.hid (CRow.of_owns (by rw [List.length_map]; exact HGL.out.symm) (owns_below HO2.out hb3))
  clear ho3 hb3
  go_wp2_with fail
  refine (pBit_any v2 v3 (genH (lensG f mb)) g w3 HC3.out HEN.out HN3.out (by rw [HGL.out]; exact HL.out) H16.out).mono ?_
  rintro e w4 ⟨rfl, hb4⟩
  have HB4 := Lib.hid (below_up HB3.out hb4 HB3.out.size)
  clear hb4
  rw [HL.out, HD.out]
  go_wp2
  go_ret
  exact ⟨rfl, HB4.out⟩

set_option maxHeartbeats 2000000 in
theorem can_any (v u : Value) (f g : List Nat) (mb : Nat) (w : World) (hr : NRow .u16 w v f) (hg : NRow .u16 w u g) (hW : WellF f mb) (hl : g.length = f.length) (h16 : ∀ x ∈ g, x < 65536) :
    Calls Try.prog 29 #[v, .int .i64 mb, u] w fun e w' => (((∀ i, i < f.length → 0 < g.getD i 0 → 0 < (lensG f mb).getD i 0) ∧ e = .returned (.int .i64 (dotK g (lensG f mb) f.length : Nat))) ∨
      (¬ (∀ i, i < f.length → 0 < g.getD i 0 → 0 < (lensG f mb).getD i 0) ∧ e = .returned (.int .i64 2147483647))) ∧ Below w.heap.size w w' := by
  have h0 := hW.pos
  have h286 := hW.most
  have hmb := hW.b15
  have hgd := good hW
  have h15 : ∀ x ∈ lensG f mb, x ≤ 15 := fun x hx => by have := hgd.le x hx; omega
  have HGL : Hid ((genH (lensG f mb)).length = f.length) := by rw [genH_len]; exact hgd.len
  have HEN := Lib.hid (genH_enc h15 (by rw [hgd.len]; omega) (by rw [hgd.len]; omega))
  have HD := Lib.hid (genH_dot h15 g f.length)
  have HCN := Lib.hid (genH_can h15 g f.length)
  have HW := Lib.hid hW
  have HR := Lib.hid hr
  have HG := Lib.hid hg
  have H16 := Lib.hid h16
  have HL := Lib.hid hl
  have hgl : g.length < 65536 := by omega
  clear hr hW hg h16 hgd h15 hl
  go_enter Try.func29, Try.ntmps29
  go_wp2_with fail
  refine (copied_any w v f HR.out (by omega)).mono ?_
  rintro e w1 ⟨v1, rfl, ho1, hb1⟩
  have HN1 := Lib.hid (NRow.of_owns rfl ho1)
  have HB1 := Lib.hid hb1
  clear ho1 hb1
  go_wp2_with fail
  refine (pGen_any v1 f mb w1 HN1.out HW.out).mono ?_
  rintro e w2 ⟨v2, rfl, ho2, hb2⟩
  have HO2 := Lib.hid ho2
  have HB2 := Lib.hid (below_up HB1.out hb2 HB1.out.size)
  have HG2 := Lib.hid (HG.out.below HB2.out)
  clear ho2 hb2
  go_wp2_with fail
  refine (copied_any w2 u g HG2.out hgl).mono ?_
  rintro e w3 ⟨v3, rfl, ho3, hb3⟩
  have HN3 := Lib.hid (NRow.of_owns rfl ho3)
  have HB3 := Lib.hid (below_up HB2.out hb3 HB2.out.size)
  have HC3 := Lib.hid (CRow.of_owns (by rw [List.length_map]; exact HGL.out.symm) (owns_below HO2.out hb3))
  clear ho3 hb3
  go_wp2_with fail
  refine (pCan_any v2 v3 (genH (lensG f mb)) g w3 HC3.out HEN.out HN3.out (by rw [HGL.out]; exact HL.out) H16.out).mono ?_
  rintro e w4 ⟨h, hb4⟩
  have HB4 := Lib.hid (below_up HB3.out hb4 HB3.out.size)
  clear hb4
  rw [HL.out, HD.out, HCN.out] at h
  rcases h with ⟨h, rfl⟩ | ⟨h, rfl⟩
  · have H1 := Lib.hid h
    clear h
    go_wp2
    go_ret
    exact ⟨.inl ⟨H1.out, rfl⟩, HB4.out⟩
  · have H1 := Lib.hid h
    clear h
    go_wp2
    go_ret
    exact ⟨.inr ⟨H1.out, rfl⟩, HB4.out⟩

theorem info_u8c : (Try.prog.info? 5).map (fun i => (i.zero, i.size, i.bytes)) = some (some (.int .u8 0), 1, 1) := by kernel_rfl

set_option maxHeartbeats 2000000 in
theorem raw_any (v u : Value) (f g : List Nat) (mb : Nat) (w : World) (hr : NRow .u16 w v f) (hg : NRow .u8 w u g) (hW : WellF f mb) (hf : f.length = 256) (hl : g.length ≤ 1048576) (h8 : ∀ x ∈ g, x < 256) :
    Calls Try.prog 28 #[v, .int .i64 mb, u] w fun e w' => e = .returned (.int .i64 (rawC g (genH (lensG f mb)) g.length : Nat)) ∧ Below w.heap.size w w' := by
  obtain ⟨i0, hi, hz0, hz1, hz2⟩ := info_parts info_u8c
  have hmb := hW.b15
  have hgd := good hW
  have h15 : ∀ x ∈ lensG f mb, x ≤ 15 := fun x hx => by have := hgd.le x hx; omega
  have HGL : Hid ((genH (lensG f mb)).length = f.length) := by rw [genH_len]; exact hgd.len
  have HEN := Lib.hid (genH_enc h15 (by rw [hgd.len]; omega) (by rw [hgd.len]; omega))
  have HW := Lib.hid hW
  have HR := Lib.hid hr
  have HG := Lib.hid hg
  have H8 := Lib.hid h8
  have HF := Lib.hid hf
  obtain ⟨au, capu, rfl, _, _⟩ := hg
  obtain ⟨av, capv, rfl, _, _⟩ := hr
  have hf2 : f.length < 65536 := by omega
  clear hW h8 hgd h15 hf
  go_enter Try.func28, Try.ntmps28
  go_wp2_with fail
  refine (copied_any w _ f HR.out hf2).mono ?_
  rintro e w1 ⟨v1, rfl, ho1, hb1⟩
  have HN1 := Lib.hid (NRow.of_owns rfl ho1)
  have HB1 := Lib.hid hb1
  clear ho1 hb1
  go_wp2_with fail
  refine (pGen_any v1 f mb w1 HN1.out HW.out).mono ?_
  rintro e w2 ⟨v2, rfl, ho2, hb2⟩
  have HO2 := Lib.hid ho2
  have HB2 := Lib.hid (below_up HB1.out hb2 HB1.out.size)
  clear ho2 hb2
  have HE3 : Hid ((w2.alloc (.cells #[] 5)).ownsRow w2.heap.size 5 1 (.slice (some ⟨w2.heap.size, 0, none⟩) 0 0) 0 (nv .u8 [])) := Lib.hid (own_empty w2 5 .u8)
  have HA3 : Hid (Below w2.heap.size w2 (w2.alloc (.cells #[] 5))) := Lib.hid ((Below.refl w2.heap.size w2).alloc (Nat.le_refl _) _)
  have HG3 : Hid (NRow .u8 (w2.alloc (.cells #[] 5)) (.slice au g.length capu) g) := Lib.hid ((HG.out.below HB2.out).below HA3.out)
  go_wp2_with (at_builtin; refine wpList_appRow (w2.alloc (.cells #[] 5)) w2 rfl _ _ 39 rfl Try.underlying39 hi hz0 hz1 hz2 (by decide) _ 0 [] _ g rfl HE3.out rfl HG3.out (by omega) (by simp) HA3.out ?_; intro v3 w3 ho3 hb3 _)
  rw [Nat.zero_add, List.nil_append] at ho3
  have HN3 := Lib.hid (NRow.of_owns rfl ho3)
  have HB3 := Lib.hid (below_up HB2.out hb3 HB2.out.size)
  have HC3 := Lib.hid (CRow.of_owns (by rw [List.length_map]; exact HGL.out.symm) (owns_below HO2.out hb3))
  clear ho3 hb3
  go_wp2_with fail
  refine (pRaw_any v2 v3 (genH (lensG f mb)) g w3 HC3.out HEN.out HN3.out hl (fun x hx => by rw [HGL.out, HF.out]; exact H8.out x hx) H8.out).mono ?_
  rintro e w4 ⟨rfl, hb4⟩
  have HB4 := Lib.hid (below_up HB3.out hb4 HB3.out.size)
  clear hb4
  go_wp2
  go_ret
  exact ⟨rfl, HB4.out⟩
end Go.Proofs.Ytgkpdffgahadpaa

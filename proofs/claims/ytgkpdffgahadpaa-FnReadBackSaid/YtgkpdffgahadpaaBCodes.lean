/- The walks of the package's Generate and of the thin package's Codes. -/
import Derived.Test.YtgkpdffgahadpaaBGenW
import Derived.Test.YtgkpdffgahadpaaPCopied
namespace Go.Proofs.Ytgkpdffgahadpaa
open Go.RowKit Go.Shelf Go.Lib

theorem genH_len (L : List Nat) : (genH L).length = L.length := by unfold genH; rw [csP_len, List.length_replicate]
theorem genH_lt (L : List Nat) : ∀ x ∈ genH L, x < 16777216 := csP_lt L _ 16 (Nat.le_refl _) (by simp)
theorem genH_full {L : List Nat} (h15 : ∀ x ∈ L, x ≤ 15) : lensOf (genH L) = L ∧ ∀ i, i < L.length → 0 < L.getD i 0 → (bitsOf (genH L)).getD i 0 = PT.turn (canonAt L i) (L.getD i 0) :=
  csP_full L L.length 16 rfl (fun x hx _ => by have := h15 x hx; omega) (Nat.le_refl _)
/-- The bits that are handed out. -/
def bitsG (L : List Nat) : List Nat := bitsOf (genH L)
theorem bitsG_len (L : List Nat) : (bitsG L).length = L.length := by unfold bitsG bitsOf; rw [List.length_map, genH_len]
theorem bitsG_lt (L : List Nat) (i : Nat) : (bitsG L).getD i 0 < 65536 := by
  rcases Nat.lt_or_ge i (bitsG L).length with h | h
  · obtain ⟨x, hx, he⟩ := List.mem_map.1 (getD_mem (bitsG L) i h)
    have := genH_lt L x hx
    rw [← he]; omega
  · rw [PM.getD_out h]; omega

set_option maxHeartbeats 4000000 in
theorem pGen_any (v : Value) (f : List Nat) (mb : Nat) (w : World) (hr : NRow .u16 w v f) (hW : WellF f mb) :
    Calls Try.prog 32 #[v, .int .i64 mb] w fun e w' => ∃ v', e = .returned v' ∧ w'.ownsRow w.heap.size 54 2 v' f.length (cvs ((genH (lensG f mb)).map codeOf)) ∧ Below w.heap.size w w' := by
  obtain ⟨i1, gi, gz0, gz1, gz2⟩ := info_parts info_u16c
  have HR := Lib.hid hr
  have HW := Lib.hid hW
  have h0 := hW.pos
  have h286 := hW.most
  have hmb := hW.b15
  have hwm : IntKind.i32.wrap (mb : Int) = (mb : Int) := by simp [IntKind.wrap, IntKind.bits, IntKind.signed]; omega
  have HGL : Hid ((genH (lensG f mb)).length = f.length) := by rw [genH_len]; exact (good hW).len
  have HGT := Lib.hid (genH_lt (lensG f mb))
  obtain ⟨ao, capo, rfl, _, _⟩ := hr
  clear hW
  go_enter Try.func32, Try.ntmps32
  go_wp2_with fail
  refine (newEnc2_any f.length (by omega) (by omega) _).mono ?_
  rintro e w1 ⟨hb, cb, C, cur, rfl, hE0, hbel0, hzc⟩
  have HE0 := Lib.hid hE0
  have HB0 := Lib.hid hbel0
  have HZ := Lib.hid (zc_size _ _ _ _ hzc)
  have HR1 := Lib.hid (HR.out.below hbel0)
  clear hE0 hbel0 hzc
  go_wp2_with (at_builtin; refine wpList_appRow w1 w1 rfl _ _ 22 rfl Try.underlying22 gi gz0 gz1 gz2 (by decide) _ 0 [] _ f rfl (World.ownsRow_nil _ w1.heap.size _ _) rfl HR1.out (by omega) (Nat.le_refl _) (Below.refl _ _) ?_; intro v2 w2 ho2 hb2 _)
  rw [Nat.zero_add, List.nil_append] at ho2
  have hE2 := HE0.out.below hb2
  have hB2 := below_up HB0.out hb2 HB0.out.size
  have hne : ∀ b o n cp, v2 = .slice (some ⟨b, o, none⟩) n cp → b ≠ hb ∧ b ≠ cb := by
    intro b o n cp he
    subst he
    have h1 := (ho2.lt b rfl).1
    have h2 := HE0.out.hb_lt
    have h3 := HE0.out.cb_lt.2
    omega
  have hG := generate_any w.heap.size hb cb C cur f mb w2 v2 (NRow.of_owns rfl ho2) hE2 HZ.out hne HW.out
  have HG := Lib.hid hG
  have HB2 := Lib.hid hB2
  have hhb := hE2.ge
  have hcb := hE2.cb_lt.1
  clear hG hE2 hB2 hne ho2 hb2 HE0 HB0 HZ HR1 HR
  go_wp2_with fail
  refine HG.out.mono ?_
  rintro e w3 ⟨rfl, cur3, hE3, hfr⟩
  have HB3 := Lib.hid (hfr.below HB2.out (Nat.le_refl _) hhb hcb)
  have HE3 := Lib.hid hE3
  clear hE3 hfr HG HB2
  go_wp2_with fail
  refine (codesOf_any (genH (lensG f mb)) w3 HE3.out (by rw [HGL.out]; omega) HGT.out).mono ?_
  rintro e w4 ⟨v4, rfl, ho4, hb4⟩
  rw [HGL.out] at ho4
  have HO4 := Lib.hid (owns_mono ho4 HB3.out.size)
  have HB4 := Lib.hid (below_up HB3.out hb4 HB3.out.size)
  clear ho4 hb4
  go_wp2
  go_ret
  exact ⟨v4, rfl, HO4.out, HB4.out⟩

set_option maxHeartbeats 2000000 in
theorem codes_any (v : Value) (f : List Nat) (mb : Nat) (w : World) (hr : NRow .u16 w v f) (hW : WellF f mb) :
    Calls Try.prog 17 #[v, .int .i64 mb] w fun e w' => ∃ v1 v2, e = .returned (.tuple #[v1, v2]) ∧ w'.ownsRow w.heap.size 3 1 v1 f.length (nv .i64 (bitsG (lensG f mb))) ∧
      w'.ownsRow w.heap.size 3 1 v2 f.length (nv .i64 (lensG f mb)) ∧ Below w.heap.size w w' := by
  have h0 := hW.pos
  have h286 := hW.most
  have hmb := hW.b15
  have hg := good hW
  have HGL : Hid ((genH (lensG f mb)).length = f.length) := by rw [genH_len]; exact hg.len
  have HLL : Hid (lensOf (genH (lensG f mb)) = lensG f mb) := (genH_full fun x hx => by have := hg.le x hx; omega).1
  have HGT := Lib.hid (genH_lt (lensG f mb))
  have HW := Lib.hid hW
  have HR := Lib.hid hr
  clear hr hW hg
  go_enter Try.func17, Try.ntmps17
  go_wp2_with fail
  refine (copied_any w v f HR.out (by omega)).mono ?_
  rintro e w1 ⟨v1, rfl, ho1, hb1⟩
  have HN1 := Lib.hid (NRow.of_owns rfl ho1)
  have HB1 := Lib.hid hb1
  clear ho1 hb1
  go_wp2_with fail
  refine (pGen_any v1 f mb w1 HN1.out HW.out).mono ?_
  rintro e w2 ⟨v2, rfl, ho2, hb2⟩
  have HC2 := Lib.hid (CRow.of_owns (by rw [List.length_map]; exact HGL.out.symm) ho2)
  have HB2 := Lib.hid (below_up HB1.out hb2 HB1.out.size)
  clear ho2 hb2
  go_wp2_with fail
  refine (plain_any v2 ((genH (lensG f mb)).map codeOf) w2 HC2.out (by rw [List.length_map, HGL.out]; omega) (codes_ok _ HGT.out)).mono ?_
  rintro e w3 ⟨v3, v4, rfl, ho3, ho4, hb3⟩
  have HO3 := Lib.hid ho3
  have HO4 := Lib.hid ho4
  have HB3 := Lib.hid (below_up HB2.out hb3 HB2.out.size)
  clear ho3 ho4 hb3
  go_wp2
  go_ret2
  have g3 := HO3.out
  have g4 := HO4.out
  rw [List.length_map, HGL.out, List.map_map] at g3 g4
  have e4 : (genH (lensG f mb)).map ((fun x => x.2) ∘ codeOf) = lensG f mb := HLL.out
  rw [e4] at g4
  exact ⟨v3, v4, rfl, owns_mono g3 HB2.out.size, owns_mono g4 HB2.out.size, HB3.out⟩
end Go.Proofs.Ytgkpdffgahadpaa

/- The walk of the thin package's Assign. -/
import Derived.Test.YtokbkbchblfcoaaPAsgE
import Derived.Test.YtokbkbchblfcoaaPCopied
namespace Go.Proofs.Ytokbkbchblfcoaa
open Go.RowKit Go.Shelf Go.Lib

theorem info_i32c : (Try.prog.info? 21).map (fun i => (i.zero, i.size, i.bytes)) = some (some (.int .i32 0), 1, 4) := by kernel_rfl

theorem codes_ok (cs : List Nat) (h : ∀ x ∈ cs, x < 16777216) : ∀ x ∈ cs.map codeOf, x.1 < 65536 ∧ x.2 < 256 := by
  intro x hx
  obtain ⟨y, hy, rfl⟩ := List.mem_map.1 hx
  have := h y hy
  exact ⟨by unfold codeOf; dsimp only; omega, by unfold codeOf; dsimp only; omega⟩

set_option maxHeartbeats 2000000 in
theorem iAssign_any (vc vo : Value) (cnt ord L : List Nat) (size : Nat) (w : World) (hc : NRow .i32 w vc cnt) (ho : NRow .u16 w vo ord) (h1 : 1 ≤ size) (h2 : size ≤ 1000) (hol : ord.length ≤ 1000) (hcl : cnt.length ≤ 16)
    (h16 : ∀ x ∈ ord, x < 65536) (hL : L.length = size) (hF : Fits cnt (litOf ord) L) :
    Calls Try.prog 20 #[vc, vo, .int .i64 size] w fun e w' => ∃ v1 v2, e = .returned (.tuple #[v1, v2]) ∧ w'.ownsRow w.heap.size 3 1 v1 size (nv .i64 (bitsOf (csP L (List.replicate size 0) cnt.length 0))) ∧
      w'.ownsRow w.heap.size 3 1 v2 size (nv .i64 (lensOf (csP L (List.replicate size 0) cnt.length 0))) ∧ Below w.heap.size w w' := by
  obtain ⟨i0, hi, hz0, hz1, hz2⟩ := info_parts info_i32c
  have HC := Lib.hid hc
  have HO := Lib.hid ho
  have H16 := Lib.hid h16
  have HF := Lib.hid hF
  have hlenC : (csP L (List.replicate size 0) cnt.length 0).length = size := by rw [csP_len, List.length_replicate]
  have HLC := Lib.hid hlenC
  have HLT := Lib.hid (csP_lt L (List.replicate size 0) cnt.length hcl (by simp))
  clear hc ho h16 hF hlenC
  generalize hcs : csP L (List.replicate size 0) cnt.length 0 = cs at *
  have HCS := Lib.hid hcs
  clear hcs
  go_enter Try.func20, Try.ntmps20
  have HE := Lib.hid (own_empty w 21 .i32)
  have HA := Lib.hid ((Below.refl w.heap.size w).alloc (Nat.le_refl _) (.cells #[] 21))
  go_wp2_with (first
    | (at_builtin; go_must (refine wpList_appRow (w.alloc (.cells #[] 21)) w rfl (.tmp 8) (.tmp 9) 37 rfl Try.underlying37 hi hz0 hz1 hz2 (by decide) _ 0 [] vc cnt rfl HE.out rfl (HC.out.below HA.out) (by omega) (by simp) HA.out ?_); intro vc1 w1 hn1 hb1 _; have HN1 := Lib.hid hn1; have HB1 := Lib.hid hb1; clear hn1 hb1)
    | (go_at_call 37; refine (copied_any w1 vo ord (HO.out.below HB1.out) (by omega)).mono ?_; rintro e w2 ⟨vo1, rfl, ho2, hb2⟩; have HO2 := Lib.hid ho2; have HB2 := Lib.hid hb2; clear ho2 hb2)
    | (go_at_call 36; refine (pAssign_any vc1 vo1 cnt ord L size w2 ((NRow.of_owns (by simp) HN1.out).below HB2.out) (NRow.of_owns rfl HO2.out) h1 h2 hol H16.out hL HF.out).mono ?_; rintro e w3 ⟨v3, rfl, ho3, hb3⟩; rw [HCS.out] at ho3; have HO3 := Lib.hid ho3; have HB3 := Lib.hid hb3; clear ho3 hb3)
    | (go_at_call 30; refine (plain_any v3 (cs.map codeOf) _ (CRow.of_owns (by simp [HLC.out]) HO3.out) (by simp [HLC.out]; omega) (codes_ok cs HLT.out)).mono ?_; rintro e w4 ⟨v4, v5, rfl, ho4, ho5, hb4⟩; have HO4 := Lib.hid ho4; have HO5 := Lib.hid ho5; have HB4 := Lib.hid hb4; clear ho4 ho5 hb4))
  go_ret2
  have g4 := HO4.out
  have g5 := HO5.out
  rw [List.length_map, HLC.out, List.map_map] at g4 g5
  have b2 := below_up HB1.out HB2.out HB1.out.size
  have b3 := below_up b2 HB3.out b2.size
  have b4 := below_up b3 HB4.out b3.size
  exact ⟨_, _, rfl, owns_mono g4 b3.size, owns_mono g5 b3.size, b4⟩
end Go.Proofs.Ytokbkbchblfcoaa

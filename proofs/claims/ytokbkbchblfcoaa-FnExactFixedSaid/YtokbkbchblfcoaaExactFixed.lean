/-
  'FnExactFixed' is proved: the fixed codes of literals have the lengths of the RFC, and are the codes of these lengths by the RFC, with their bits in the other order.
  No condition: every number.
-/
import Derived.Test.YtokbkbchblfcoaaRows
import Derived.Test.YtokbkbchblfcoaaPFixLit
import Derived.Test.YtokbkbchblfcoaaPRegH
import Derived.WalkKit
import Derived.ProofKit
import Derived.OpenShut
import Derived.ChangeOld
import Derived.Below
import Derived.ShutString
namespace Go.Proofs.Ytokbkbchblfcoaa.fnExactFixed
open Go.ChangeShapes Go.WideShapes Go.ChangeAt Go.RowKit
open Go.ChangeMaps (open_string shut_string)
set_option linter.unusedVariables false      -- a walk need not use every 'w<i>' (that an integer argument fits its kind)

theorem own : ownKnob Try.prog.godebug = none := by kernel_rfl

theorem owns_slice {w : World} {base e n size : Nat} {v : Value} {xs : List Value} (h : w.ownsRow base e size v n xs) (hn : 0 < n) : ∃ g cap, v = .slice (some ⟨g, 0, none⟩) n cap := by
  rcases h.2 with ⟨_, h0⟩ | ⟨g, cap, cur, rfl, _⟩
  · omega
  · exact ⟨g, cap, rfl⟩

theorem canon_fix (s g1 g2 p : Nat) (hs : s < 286) (x y : Value) (W : World) (hN : NRow .i64 W (.slice (some ⟨p, 0, none⟩) 288 288) (fixedAll 288)) (h1 : W.cell? ⟨g1, s, none⟩ = some x) (h2 : W.cell? ⟨g2, s, none⟩ = some y) :
    Calls Try.prog 18 #[.slice (some ⟨p, 0, none⟩) 288 288] W fun e w' => ∃ g cap, e = .returned (.slice (some ⟨g, 0, none⟩) 288 cap) ∧ w'.cell? ⟨g, s, none⟩ = some (.int .i64 (fixBits s : Nat)) ∧
      w'.cell? ⟨g1, s, none⟩ = some x ∧ w'.cell? ⟨g2, s, none⟩ = some y ∧ Below W.heap.size W w' := by
  refine (canon_any _ (fixedAll 288) W hN (by rw [fixedAll_len]; omega) fixedAll_bd).mono ?_
  rintro e w' ⟨v, rfl, ho, hb⟩
  rw [fixedAll_len] at ho
  obtain ⟨g, cap, rfl⟩ := owns_slice ho (by omega)
  have hl : 288 = (canonL (fixedAll 288)).length := by unfold canonL; rw [List.length_map, List.length_range, fixedAll_len]
  have hc := owns_cell ho s (by omega) hl
  rw [(fixed_vals ⟨s, hs⟩).2.2.2.2] at hc
  exact ⟨g, cap, rfl, hc, (hb.cell (p := ⟨g1, s, none⟩) (World.block_lt_of_cell? W _ h1)).trans h1, (hb.cell (p := ⟨g2, s, none⟩) (World.block_lt_of_cell? W _ h2)).trans h2, hb⟩

set_option maxHeartbeats 20000000 in
set_option maxRecDepth 100000 in
theorem inside (s : Nat) (hs : s < 286) (w : World) :
    Calls Try.prog 6 #[.int .i64 s] w fun e w' => e = .returned (.bool true) ∧ Below w.heap.size w w' := by
  obtain ⟨i0, hi, hz0, hz1, hz2⟩ := info_parts info_int
  have hv := fixed_vals ⟨s, hs⟩
  dsimp only at hv
  have hT := PT.turn_lt (fixBits s) (fixedLen s)
  have hT2 : 2 ^ fixedLen s ≤ 2 ^ 9 := Nat.pow_le_pow_right (by omega) hv.2.2.2.1
  have hT3 : PT.turn (fixBits s) (fixedLen s) < 512 := Nat.lt_of_lt_of_le hT hT2
  have HV := Lib.hid hv
  clear hv hT hT2
  go_enter Try.func6, Try.ntmps6
  go_wp2_with (first
    | (go_at_call 16; refine (iFixLit_any _).mono ?_; rintro e w1 ⟨v1, v2, rfl, hown1, hown2, hbel⟩; obtain ⟨g1, c1, rfl⟩ := owns_slice hown1 (by omega); obtain ⟨g2, c2, rfl⟩ := owns_slice hown2 (by omega); have HO1 := Lib.hid hown1; have HO2 := Lib.hid hown2; have HB := Lib.hid hbel; clear hown1 hown2 hbel)
    | (at_make; refine wpList_make0 w1 w1 rfl _ _ 26 rfl Try.underlying26 hi hz0 hz1 hz2 (by decide) .i64 .i64 288 288 288 rfl rfl rfl rfl (by omega) (Nat.le_refl _) (Below.refl _ _) ?_; intro w2 hown3 hbel2; rw [← fixedAll_zero] at hown3; have HO3 := Lib.hid hown3; have HB2 := Lib.hid hbel2; clear hown3 hbel2))
  go_loopw [6, 37] (fun _ i wr => ∃ k : Nat, k ≤ 288 ∧ i = .int .i64 k ∧ wr.ownsRow w1.heap.size 3 1 (.slice (some ⟨w1.heap.size, 0, none⟩) 288 288) 288 (nv .i64 (fixedAll k)) ∧ Below w1.heap.size w1 wr) (fun _ i _ => 288 - (intOf i).toNat)
  case atStart => exact ⟨0, Nat.zero_le _, rfl, HO3.out, HB2.out⟩
  case round =>
    obtain ⟨k, hk, rfl, hown, hbel⟩ := hrel
    clear HO3 HB2
    by_cases hlt : k < 288
    · have hck := owns_cell hown k hlt (fixedAll_len k).symm
      have hfk := hown.frozenAt k
      have HS := Lib.hid (fixedAll_succ k)
      have HO := Lib.hid hown
      have HB' := Lib.hid hbel
      clear hown hbel
      generalize (fixedAll k).getD k 0 = y at *
      go_wp2_with (go_at_call 17; refine (fixed_any k _).mono ?_; rintro e w3 ⟨rfl, rfl⟩)
      go_roundw
      case rel =>
        refine ⟨k + 1, by omega, by go_num, ?_, HB'.out.setCell (Nat.le_refl _) _⟩
        rw [HS.out]
        exact owns_set HO.out k (fixedLen k)
      case measure => simp [intOf]; omega
    · have hkl : k = 288 := by omega
      subst hkl
      have hN := NRow.of_owns (fixedAll_len 288).symm hown
      have hc1 := (hbel.cell (p := ⟨g1, s, none⟩) (by exact (HO1.out.lt g1 rfl).2)).trans (owns_cell HO1.out s hs (by simp [bitsOf, litC_len]))
      have hc2 := (hbel.cell (p := ⟨g2, s, none⟩) (by exact (HO2.out.lt g2 rfl).2)).trans (owns_cell HO2.out s hs (by simp [lensOf, litC_len]))
      rw [HV.out.1] at hc2
      rw [HV.out.2.1] at hc1
      have hW := below_up HB.out hbel HB.out.size
      have HN := Lib.hid hN
      have HW := Lib.hid hW
      have hlt1 := (Nat.lt_of_lt_of_le (HO1.out.lt g1 rfl).2 hbel.size)
      have hlt2 := (Nat.lt_of_lt_of_le (HO2.out.lt g2 rfl).2 hbel.size)
      clear hown hbel HO1 HO2 HB hN hW
      generalize hp : w1.heap.size = p at *
      have HC := Lib.hid (fun x y W => canon_fix s g1 g2 p hs x y W)
      have HF := Lib.hid (fun W => fixed_any s W)
      have hfb := HV.out.2.2.1
      have hfl := HV.out.2.2.2.1
      clear HV
      generalize fixBits s = fb at *
      generalize fixedLen s = fl at *
      go_wp2
      have HWd : Hid (Below w.heap.size w wr.drew) := HW.out.drew
      have hc1d : wr.drew.cell? ⟨g1, s, none⟩ = some (.int .i64 (PT.turn fb fl : Nat)) := hc1
      have hc2d : wr.drew.cell? ⟨g2, s, none⟩ = some (.int .i64 (fl : Nat)) := hc2
      have HNd : Hid (NRow .i64 wr.drew (.slice (some ⟨p, 0, none⟩) 288 288) (fixedAll 288)) := HN.out
      have HC1 := Lib.hid hc1d
      have HC2 := Lib.hid hc2d
      clear hc1d hc2d
      clear hi hz0 hz1 hz2
      have hs288 : (s : Int) < 288 := by omega
      have hs288n : s < 288 := by omega
      refine wp_region_held_drew (S := fun W' : World => W'.cell? ⟨g1, s, none⟩ = some (.int .i64 (PT.turn fb fl : Nat)) ∧ W'.cell? ⟨g2, s, none⟩ = some (.int .i64 (fl : Nat))) (by kernel_rfl) ⟨HC1.out, HC2.out⟩ (fun hHeld => ?_)
      refine wpAnyH_take (i := 0) (v := ?_) rfl (by kernel_rfl) (by kernel_rfl) (by kernel_rfl) (fun _ _ _ h => h) (Or.inl ⟨by rfl, ?_⟩) hHeld ?_
      rotate_left
      · (intro w hSw; (try dsimp only at hSw); go_simp; try with_reducible rfl)
      try simp only [Act.put, List.getElem_toArray, List.getElem_cons_zero, List.setIfInBounds_toArray, List.set_cons_zero, List.set_cons_succ]
      refine wpAnyH_take (i := 1) (v := ?_) rfl (by kernel_rfl) (by kernel_rfl) (by kernel_rfl) (fun _ _ _ h => h) (Or.inl ⟨by rfl, ?_⟩) hHeld ?_
      rotate_left
      · (intro w hSw; (try dsimp only at hSw); go_simp; try with_reducible rfl)
      try simp only [Act.put, List.getElem_toArray, List.getElem_cons_succ, List.getElem_cons_zero, List.setIfInBounds_toArray, List.set_cons_zero, List.set_cons_succ]
      refine wpAnyH_take (i := 2) (v := ?_) rfl (by kernel_rfl) (by kernel_rfl) (by kernel_rfl) (fun _ _ _ h => h) (Or.inl ⟨by rfl, ?_⟩) hHeld ?_
      rotate_left
      · (intro w hSw; (try dsimp only at hSw); go_simp; try with_reducible rfl)
      try simp only [Act.put, List.getElem_toArray, List.getElem_cons_succ, List.getElem_cons_zero, List.setIfInBounds_toArray, List.set_cons_zero, List.set_cons_succ]
      refine wpAnyH_take (i := 3) (v := ?_) rfl (by kernel_rfl) (by kernel_rfl) (by kernel_rfl) (fun _ _ _ h => h) (Or.inl ⟨by rfl, ?_⟩) hHeld ?_
      rotate_left
      · (intro w hSw; (try dsimp only at hSw); go_simp; try with_reducible rfl)
      try simp only [Act.put, List.getElem_toArray, List.getElem_cons_succ, List.getElem_cons_zero, List.setIfInBounds_toArray, List.set_cons_zero, List.set_cons_succ]
      refine wpAnyH_take (i := 4) (v := ?_) rfl (by kernel_rfl) (by kernel_rfl) (by kernel_rfl) (fun _ _ _ h => h) (Or.inl ⟨by rfl, ?_⟩) hHeld ?_
      rotate_left
      · (intro w hSw; (try dsimp only at hSw); go_simp; try with_reducible rfl)
      try simp only [Act.put, List.getElem_toArray, List.getElem_cons_succ, List.getElem_cons_zero, List.setIfInBounds_toArray, List.set_cons_zero, List.set_cons_succ]
      refine wpAnyH_ready (rs := [5]) (by kernel_rfl) (by simp) ?_
      refine AllReadyH.cons rfl (fun K hK => ?_) AllReadyH.nil
      go_simp
      refine (HF.out _).mono ?_
      rintro e w3 ⟨rfl, rfl⟩
      refine hK.out _ _ hHeld (fun hHeldN => ?_)
      clear hK K hHeld
      have hHeld := hHeldN
      clear hHeldN
      try simp only [Act.put, List.getElem_toArray, List.getElem_cons_succ, List.getElem_cons_zero, List.setIfInBounds_toArray, List.set_cons_zero, List.set_cons_succ]
      refine wpAnyH_take (i := 6) (v := ?_) rfl (by kernel_rfl) (by kernel_rfl) (by kernel_rfl) (fun _ _ _ h => h) (Or.inl ⟨by rfl, ?_⟩) hHeld ?_
      rotate_left
      · (intro w hSw; (try dsimp only at hSw); go_simp; try with_reducible rfl)
      try simp only [Act.put, List.getElem_toArray, List.getElem_cons_succ, List.getElem_cons_zero, List.setIfInBounds_toArray, List.set_cons_zero, List.set_cons_succ]
      refine wpAnyH_take (i := 7) (v := ?_) rfl (by kernel_rfl) (by kernel_rfl) (by kernel_rfl) (fun _ _ _ h => h) (Or.inl ⟨by rfl, ?_⟩) hHeld ?_
      rotate_left
      · (intro w hSw; (try dsimp only at hSw); go_simp; try with_reducible rfl)
      try simp only [Act.put, List.getElem_toArray, List.getElem_cons_succ, List.getElem_cons_zero, List.setIfInBounds_toArray, List.set_cons_zero, List.set_cons_succ]
      refine wpAnyH_take (i := 8) (v := ?_) rfl (by kernel_rfl) (by kernel_rfl) (by kernel_rfl) (fun _ _ _ h => h) (Or.inl ⟨by rfl, ?_⟩) hHeld ?_
      rotate_left
      · (intro w hSw; (try dsimp only at hSw); go_simp; try with_reducible rfl)
      try simp only [Act.put, List.getElem_toArray, List.getElem_cons_succ, List.getElem_cons_zero, List.setIfInBounds_toArray, List.set_cons_zero, List.set_cons_succ]
      refine wpAnyH_take (i := 9) (v := ?_) rfl (by kernel_rfl) (by kernel_rfl) (by kernel_rfl) (fun _ _ _ h => h) (Or.inl ⟨by rfl, ?_⟩) hHeld ?_
      rotate_left
      · (intro w hSw; (try dsimp only at hSw); go_simp; try with_reducible rfl)
      try simp only [Act.put, List.getElem_toArray, List.getElem_cons_succ, List.getElem_cons_zero, List.setIfInBounds_toArray, List.set_cons_zero, List.set_cons_succ]
      refine wpAnyH_take (i := 10) (v := ?_) rfl (by kernel_rfl) (by kernel_rfl) (by kernel_rfl) (fun _ _ _ h => h) (Or.inl ⟨by rfl, ?_⟩) hHeld ?_
      rotate_left
      · (intro w hSw; (try dsimp only at hSw); go_simp; try with_reducible rfl)
      try simp only [Act.put, List.getElem_toArray, List.getElem_cons_succ, List.getElem_cons_zero, List.setIfInBounds_toArray, List.set_cons_zero, List.set_cons_succ]
      refine wpAnyH_take (i := 11) (v := ?_) rfl (by kernel_rfl) (by kernel_rfl) (by kernel_rfl) (fun _ _ _ h => h) (Or.inl ⟨by rfl, ?_⟩) hHeld ?_
      rotate_left
      · (intro w hSw; (try dsimp only at hSw); go_simp; try with_reducible rfl)
      try simp only [Act.put, List.getElem_toArray, List.getElem_cons_succ, List.getElem_cons_zero, List.setIfInBounds_toArray, List.set_cons_zero, List.set_cons_succ]
      refine wpAnyH_take (i := 12) (v := ?_) rfl (by kernel_rfl) (by kernel_rfl) (by kernel_rfl) (fun _ _ _ h => h) (Or.inl ⟨by rfl, ?_⟩) hHeld ?_
      rotate_left
      · (intro w hSw; (try dsimp only at hSw); go_simp; try with_reducible rfl)
      try simp only [Act.put, List.getElem_toArray, List.getElem_cons_succ, List.getElem_cons_zero, List.setIfInBounds_toArray, List.set_cons_zero, List.set_cons_succ]
      refine wpAnyH_take (i := 14) (v := ?_) rfl (by kernel_rfl) (by kernel_rfl) (by kernel_rfl) (fun _ _ _ h => h) (Or.inl ⟨by rfl, ?_⟩) hHeld ?_
      rotate_left
      · (intro w hSw; (try dsimp only at hSw); go_simp; try with_reducible rfl)
      try simp only [Act.put, List.getElem_toArray, List.getElem_cons_succ, List.getElem_cons_zero, List.setIfInBounds_toArray, List.set_cons_zero, List.set_cons_succ]
      refine wpAnyH_take (i := 17) (v := ?_) rfl (by kernel_rfl) (by kernel_rfl) (by kernel_rfl) (fun _ _ _ h => h) (Or.inl ⟨by rfl, ?_⟩) hHeld ?_
      rotate_left
      · (intro w hSw; (try dsimp only at hSw); go_simp; try with_reducible rfl)
      try simp only [Act.put, List.getElem_toArray, List.getElem_cons_succ, List.getElem_cons_zero, List.setIfInBounds_toArray, List.set_cons_zero, List.set_cons_succ]
      refine wpAnyH_take (i := 18) (v := ?_) rfl (by kernel_rfl) (by kernel_rfl) (by kernel_rfl) (fun _ _ _ h => h) (Or.inl ⟨by rfl, ?_⟩) hHeld ?_
      rotate_left
      · (intro w hSw; (try dsimp only at hSw); go_simp; try with_reducible rfl)
      try simp only [Act.put, List.getElem_toArray, List.getElem_cons_succ, List.getElem_cons_zero, List.setIfInBounds_toArray, List.set_cons_zero, List.set_cons_succ]
      refine wpAnyH_take (i := 19) (v := ?_) rfl (by kernel_rfl) (by kernel_rfl) (by kernel_rfl) (fun _ _ _ h => h) (Or.inl ⟨by rfl, ?_⟩) hHeld ?_
      rotate_left
      · (intro w hSw; (try dsimp only at hSw); go_simp; try with_reducible rfl)
      try simp only [Act.put, List.getElem_toArray, List.getElem_cons_succ, List.getElem_cons_zero, List.setIfInBounds_toArray, List.set_cons_zero, List.set_cons_succ]
      refine wpAnyH_take (i := 20) (v := ?_) rfl (by kernel_rfl) (by kernel_rfl) (by kernel_rfl) (fun _ _ _ h => h) (Or.inl ⟨by rfl, ?_⟩) hHeld ?_
      rotate_left
      · (intro w hSw; (try dsimp only at hSw); go_simp; try with_reducible rfl)
      try simp only [Act.put, List.getElem_toArray, List.getElem_cons_succ, List.getElem_cons_zero, List.setIfInBounds_toArray, List.set_cons_zero, List.set_cons_succ]
      refine wpAnyH_ready (rs := [13]) (by kernel_rfl) (by simp) ?_
      refine AllReadyH.cons rfl (fun K hK => ?_) AllReadyH.nil
      go_simp
      refine (HC.out _ _ _ HNd.out HC1.out HC2.out).mono ?_
      rintro e w3 ⟨g, cap, rfl, k1, k2, k3, kb⟩
      have KB : Hid (Below w.heap.size w w3) := below_up HWd.out kb HWd.out.size
      clear kb
      refine hK.out _ _ ⟨k2, k3⟩ (fun hHeldN => ?_)
      clear hK K hHeld
      have hHeld := hHeldN
      clear hHeldN
      try simp only [Act.put, List.getElem_toArray, List.getElem_cons_succ, List.getElem_cons_zero, List.setIfInBounds_toArray, List.set_cons_zero, List.set_cons_succ]
      refine wpAnyH_mono (S' := fun W' : World => W'.cell? ⟨g, s, none⟩ = some (.int .i64 (fb : Nat)) ∧ W'.cell? ⟨g1, s, none⟩ = some (.int .i64 (PT.turn fb fl : Nat)) ∧ W'.cell? ⟨g2, s, none⟩ = some (.int .i64 (fl : Nat))) (fun _ h => h.2) _ _ _ _ ?_
      have hHeldN := And.intro k1 hHeld
      clear hHeld k1 k2 k3
      have hHeld := hHeldN
      clear hHeldN
      refine wpAnyH_take (i := 15) (v := ?_) rfl (by kernel_rfl) (by kernel_rfl) (by kernel_rfl) (fun _ _ _ h => h) (Or.inl ⟨by rfl, ?_⟩) hHeld ?_
      rotate_left
      · (intro w hSw; (try dsimp only at hSw); go_simp; try with_reducible rfl)
      try simp only [Act.put, List.getElem_toArray, List.getElem_cons_succ, List.getElem_cons_zero, List.setIfInBounds_toArray, List.set_cons_zero, List.set_cons_succ]
      refine wpAnyH_take (i := 16) (v := ?_) rfl (by kernel_rfl) (by kernel_rfl) (by kernel_rfl) (fun _ _ _ h => h) (Or.inl ⟨by rfl, ?_⟩) hHeld ?_
      rotate_left
      · (intro w hSw; (try dsimp only at hSw); go_simp; try with_reducible rfl)
      try simp only [Act.put, List.getElem_toArray, List.getElem_cons_succ, List.getElem_cons_zero, List.setIfInBounds_toArray, List.set_cons_zero, List.set_cons_succ]
      refine wpAnyH_ready (rs := [21]) (by kernel_rfl) (by simp) ?_
      refine AllReadyH.cons rfl (fun K hK => ?_) AllReadyH.nil
      go_simp
      refine (turn_any fb fl (by omega) (by omega) _).mono ?_
      rintro e w4 ⟨rfl, rfl⟩
      refine hK.out _ _ hHeld (fun hHeldN => ?_)
      clear hK K hHeld
      have hHeld := hHeldN
      clear hHeldN
      try simp only [Act.put, List.getElem_toArray, List.getElem_cons_succ, List.getElem_cons_zero, List.setIfInBounds_toArray, List.set_cons_zero, List.set_cons_succ]
      refine wpAnyH_take (i := 22) (v := ?_) rfl (by kernel_rfl) (by kernel_rfl) (by kernel_rfl) (fun _ _ _ h => h) (Or.inl ⟨by rfl, ?_⟩) hHeld ?_
      rotate_left
      · (intro w hSw; (try dsimp only at hSw); go_simp; try with_reducible rfl)
      try simp only [Act.put, List.getElem_toArray, List.getElem_cons_succ, List.getElem_cons_zero, List.setIfInBounds_toArray, List.set_cons_zero, List.set_cons_succ]
      refine wpAnyH_take (i := 23) (v := ?_) rfl (by kernel_rfl) (by kernel_rfl) (by kernel_rfl) (fun _ _ _ h => h) (Or.inl ⟨by rfl, ?_⟩) hHeld ?_
      rotate_left
      · (intro w hSw; (try dsimp only at hSw); go_simp; try with_reducible rfl)
      try simp only [Act.put, List.getElem_toArray, List.getElem_cons_succ, List.getElem_cons_zero, List.setIfInBounds_toArray, List.set_cons_zero, List.set_cons_succ]
      refine wpAnyH_take (i := 24) (v := ?_) rfl (by kernel_rfl) (by kernel_rfl) (by kernel_rfl) (fun _ _ _ h => h) (Or.inl ⟨by rfl, ?_⟩) hHeld ?_
      rotate_left
      · (intro w hSw; (try dsimp only at hSw); go_simp; try with_reducible rfl)
      try simp only [Act.put, List.getElem_toArray, List.getElem_cons_succ, List.getElem_cons_zero, List.setIfInBounds_toArray, List.set_cons_zero, List.set_cons_succ]
      refine wpAnyH_done (by kernel_rfl) ?_ _
      clear hHeld HN HC HF hc1 hc2 HC1 HC2 HNd HWd HW hfb hfl hT3 hlt1 hlt2 hs288 hs288n hlt hk hp
      go_wp2
      go_ret
      exact ⟨rfl, KB.out⟩

set_option maxHeartbeats 1000000 in
theorem outside (s : Int) (hs : s < 0 ∨ 286 ≤ s) (w : World) :
    Calls Try.prog 6 #[.int .i64 s] w fun e w' => e = .returned (.bool true) ∧ Below w.heap.size w w' := by
  have hd : (decide (s < 0) || decide (286 ≤ s)) = true := by
    rcases hs with h | h <;> simp [h]
  go_enter Try.func6, Try.ntmps6
  go_wp2_with (go_at_call 16; refine (iFixLit_any _).mono ?_; rintro e w1 ⟨v1, v2, rfl, hown1, hown2, hbel⟩; obtain ⟨g1, c1, rfl⟩ := owns_slice hown1 (by omega); obtain ⟨g2, c2, rfl⟩ := owns_slice hown2 (by omega); have HB := Lib.hid hbel; clear hown1 hown2 hbel)
  all_goals first | (go_ret; exact ⟨rfl, HB.out⟩) | (exfalso; omega)

theorem walk (a0 : Int) (w0 : (Lit.int .i64 a0).wf = true) (w : World) :
    Calls Try.prog 6 #[.int .i64 a0] w fun e w' => e = .returned (.bool true) ∧ Below w.heap.size w w' := by
  by_cases h : a0 < 0 ∨ 286 ≤ a0
  · exact outside a0 h w
  · obtain ⟨s, rfl⟩ := Int.eq_ofNat_of_zero_le (show 0 ≤ a0 by omega)
    exact inside s (by omega) w

/-! ### THE ROW's STEP: WRITTEN OUT: LEAVE IT -/
set_option maxRecDepth 100000 in
theorem lifted (os : Os) (started : os.Started) (H : Type) (enc : TypeId × Value → H) :
    ReturnsInHanded {} Try.checked os 6 .any (Rows.fnExactFixedSpec.pre6 enc Try.prog Try.f6 Rows.fnExactFixedRow.domain false) (Rows.fnExactFixedSpec.post enc Try.prog Try.f6 false true false false) := by
  refine returnsInHanded_of_change (C := Try.checked) own started (by kernel_rfl) Try.func6
    (ChangeSpec.witness6 (enc := enc) (C := Try.checked) false ⟨#[], #[.int .i64 0], []⟩ 8 (by kernel_rfl) (by kernel_rfl) (by kernel_rfl) (by kernel_rfl)) ?_
  intro W base args ds gs before hval0 hW hcnd _
  have hval : ∀ (j : Nat) t v, Try.f6.params[j]? = some t → args[j]? = some v → Value.okWide Try.prog W .any base t v := hval0
  have hW' := hW
  obtain ⟨p, q, hA0, hV, rfl, hfz, hnd⟩ := hW
  have hA : DataW.TrodAll enc Try.prog W 0 (fun _ => true) true Try.f6.params.toList args.toList ds p := hA0
  rw [Try.params6] at hA hval
  obtain ⟨v0, vs0, d0, ds0, p0, q0, hargs, rfl, rfl, h0, r0⟩ := trodAll_cons hA
  obtain ⟨rfl, rfl, rfl⟩ := trodAll_nil r0
  obtain rfl : args = #[v0] := by cases args; simp_all
  obtain ⟨rfl, rfl⟩ := trodVars_none hV
  obtain ⟨a0, rfl, rfl, rfl, w0⟩ := open_int Try.underlying3 (hval 0 3 v0 rfl rfl) h0
  clear hA0 hval0
  simp only [List.append_nil] at hW'
  refine (walk a0 w0 W).mono fun e W' ⟨he, hg⟩ => ?_
  subst he
  exact ⟨_, rfl, _, _, _, [], _, [], hW', trodAll_mk1 (shut_bool Try.underlying4 _), (trodAll_cons_mk (shut_int Try.underlying3 w0) trodAll_mk0), rfl, hg.frame _, fun h => by cases h⟩

theorem over : Rows.fnExactFixedRow.holds Try.pinned (OpenSpec.ofChange Rows.fnExactFixedSpec) :=
  OpenClaim.holds_of_wide 6 Try.f6 rfl rfl rfl rfl rfl rfl rfl ⟨rfl, rfl, rfl, rfl, rfl⟩ rfl rfl rfl rfl rfl (by kernel_rfl) Try.func6 (by kernel_rfl)
    (of_decide_eq_true (by kernel_rfl)) (by unfold Func.isWrapper; first | (rw [if_pos (by decide +kernel)]; kernel_rfl) | (rw [if_neg (by decide +kernel)]; exact ⟨rfl, rfl⟩))
    (fun os started H enc _ => lifted os started H enc)

/-- ████ THE STATEMENT ████ -/
theorem proved : Rows.FnExactFixedSaid :=
  over
#print axioms proved
end Go.Proofs.Ytokbkbchblfcoaa.fnExactFixed

/- The walks of Count and histogram: how often each byte is among some. -/
import Derived.Test.YtokbkbchblfcoaaOwn
namespace Go.Proofs.Ytokbkbchblfcoaa
open Go.RowKit

theorem info_u16 : (Try.prog.info? 22).map (fun i => (i.zero, i.size, i.bytes)) = some (some (.int .u16 0), 1, 2) := by kernel_rfl

/-- How often each byte is in a list. -/
def cnt (l : List Nat) : List Nat := (List.range 256).map fun i => l.count i
theorem cnt_len (l : List Nat) : (cnt l).length = 256 := by
  unfold cnt
  exact (List.length_map _).trans List.length_range
set_option maxRecDepth 100000 in
theorem cnt_nil : cnt [] = List.replicate 256 0 := by decide
theorem cnt_getD (l : List Nat) (x : Nat) (h : x < 256) : (cnt l).getD x 0 = l.count x := by
  simp [cnt, List.getD, h]
theorem cnt_snoc (l : List Nat) (x : Nat) : cnt (l ++ [x]) = (cnt l).set x (l.count x + 1) := by
  apply List.ext_getElem
  · simp [cnt]
  · intro i h1 h2
    simp only [cnt, List.getElem_map, List.getElem_range, List.getElem_set, List.count_append, List.count_cons, List.count_nil]
    by_cases h : x = i
    · subst h; simp
    · simp [h]
theorem cnt_perm {l m : List Nat} (h : l.Perm m) : cnt l = cnt m := by
  unfold cnt
  congr 1
  funext i
  exact h.count_eq i

set_option maxHeartbeats 1000000 in
theorem count_any (v : Value) (l : List Nat) (w : World) (hr : NRow .u8 w v l) (hlen : l.length < 65536) (h256 : ∀ x ∈ l, x < 256) :
    Calls Try.prog 12 #[v] w fun e w' => ∃ g, e = .returned (.slice (some ⟨g, 0, none⟩) 256 256) ∧ w'.ownsRow w.heap.size 22 1 (.slice (some ⟨g, 0, none⟩) 256 256) 256 (nv .u16 (cnt l)) ∧ Below w.heap.size w w' := by
  obtain ⟨i0, hi, hz0, hz1, hz2⟩ := info_parts info_u16
  obtain ⟨a, cap, rfl, _, hr⟩ := hr
  have hr' := Lib.hid hr
  have H256 := Lib.hid h256
  clear hr h256
  go_enter Try.func12, Try.ntmps12
  go_wp2_with (at_make; refine wpList_make0 w w rfl _ _ 31 rfl Try.underlying31 hi hz0 hz1 hz2 (by decide) .i64 .i64 256 256 256 rfl rfl rfl rfl (by omega) (Nat.le_refl _) (Below.refl _ _) ?_; intro w1 hown1 hbel1; rw [← cnt_nil] at hown1; have HO := Lib.hid hown1; have HB := Lib.hid hbel1; clear hown1 hbel1)
  obtain ⟨g, hg⟩ : ∃ g, g = w.heap.size := ⟨_, rfl⟩
  have HO' : Hid (w1.ownsRow w.heap.size 22 1 (.slice (some ⟨w.heap.size, 0, none⟩) 256 256) 256 (nv .u16 (cnt (l.take 0)))) := HO.out
  clear HO hg
  go_loopw [5, 9] (fun _ i wr => ∃ k : Nat, k ≤ l.length ∧ i = .int .i64 k ∧ wr.ownsRow w.heap.size 22 1 (.slice (some ⟨w.heap.size, 0, none⟩) 256 256) 256 (nv .u16 (cnt (l.take k))) ∧ Below w.heap.size w wr) (fun _ i _ => l.length - (intOf i).toNat)
  case atStart => exact ⟨0, Nat.zero_le _, rfl, HO'.out, HB.out⟩
  case round =>
    obtain ⟨k, hk, rfl, hown, hbel⟩ := hrel
    by_cases hlt : k < l.length
    · obtain ⟨b, o, rfl, hbl, hc⟩ := hr'.out (by omega)
      have hck : wr.cell? ⟨b, o + k, none⟩ = _ := (hbel.cell (by exact hbl)).trans (hc k hlt)
      have hx := H256.out _ (getD_mem l k hlt)
      have H1 := Lib.hid (take_succ_getD l k hlt)
      clear hc hr' H256
      generalize l.getD k 0 = x at *
      have hcx := owns_cell hown x hx (cnt_len _).symm
      rw [cnt_getD _ x hx] at hcx
      have hfx := hown.frozenAt x
      have hle : (l.take k).count x ≤ k := Nat.le_trans List.count_le_length (List.length_take_le _ _)
      have HS := Lib.hid (cnt_snoc (l.take k) x)
      have HO := Lib.hid hown
      have HB' := Lib.hid hbel
      clear hown hbel HO' HB
      generalize (l.take k).count x = y at *
      go_wp2
      go_roundw
      case rel =>
        refine ⟨k + 1, by omega, by go_num, ?_, HB'.out.setCell (Nat.le_refl _) _⟩
        rw [H1.out, HS.out]
        exact owns_set HO.out x (y + 1)
      case measure => simp [intOf]; omega
    · go_wp2
      go_ret
      have hkl : k = l.length := by omega
      subst hkl
      rw [List.take_length] at hown
      exact ⟨_, rfl, hown, hbel⟩

set_option maxHeartbeats 1000000 in
set_option maxRecDepth 100000 in
theorem histogram_small (W0 w : World) (v : Value) (l : List Nat) (g : Nat) (hr : NRow .u8 W0 v l) (hb : Below W0.heap.size W0 w) (hlen : l.length < 8192) (h256 : ∀ x ∈ l, x < 256)
    (hown : w.ownsRow W0.heap.size 22 1 (.slice (some ⟨g, 0, none⟩) 256 256) 256 (nv .u16 (cnt []))) :
    Calls Try.prog 47 #[v, .slice (some ⟨g, 0, none⟩) 256 256] w fun e w' => e = .returned (.tuple #[]) ∧ w'.ownsRow W0.heap.size 22 1 (.slice (some ⟨g, 0, none⟩) 256 256) 256 (nv .u16 (cnt l)) ∧ Below W0.heap.size W0 w' := by
  obtain ⟨a, cap, rfl, _, hr⟩ := hr
  have hr' := Lib.hid hr
  have H256 := Lib.hid h256
  have HO' : Hid (w.ownsRow W0.heap.size 22 1 (.slice (some ⟨g, 0, none⟩) 256 256) 256 (nv .u16 (cnt (l.take 0)))) := hown
  have HB0 := Lib.hid hb
  clear hr h256 hown hb
  go_enter Try.func47, Try.ntmps47
  go_wp2
  go_loopw [5, 16] (fun _ i wr => ∃ k : Nat, k ≤ l.length ∧ i = .int .i64 k ∧ wr.ownsRow W0.heap.size 22 1 (.slice (some ⟨g, 0, none⟩) 256 256) 256 (nv .u16 (cnt (l.take k))) ∧ Below W0.heap.size W0 wr) (fun _ i _ => l.length - (intOf i).toNat)
  case atStart => exact ⟨0, Nat.zero_le _, rfl, HO'.out, HB0.out⟩
  case round =>
    obtain ⟨k, hk, rfl, hown, hbel⟩ := hrel
    by_cases hlt : k < l.length
    · obtain ⟨b, o, rfl, hbl, hc⟩ := hr'.out (by omega)
      have hck : wr.cell? ⟨b, o + k, none⟩ = _ := (hbel.cell (by exact hbl)).trans (hc k hlt)
      have hx := H256.out _ (getD_mem l k hlt)
      have H1 := Lib.hid (take_succ_getD l k hlt)
      clear hc hr' H256
      generalize l.getD k 0 = x at *
      have hcx := owns_cell hown x hx (cnt_len _).symm
      rw [cnt_getD _ x hx] at hcx
      have hfx := hown.frozenAt x
      have hle : (l.take k).count x ≤ k := Nat.le_trans List.count_le_length (List.length_take_le _ _)
      have HS := Lib.hid (cnt_snoc (l.take k) x)
      have HO := Lib.hid hown
      have HB' := Lib.hid hbel
      have HG := Lib.hid (hown.lt g rfl).1
      clear hown hbel HO' HB0
      generalize (l.take k).count x = y at *
      go_wp2
      go_roundw
      case rel =>
        refine ⟨k + 1, by omega, by go_num, ?_, HB'.out.setCell HG.out _⟩
        rw [H1.out, HS.out]
        exact owns_set HO.out x (y + 1)
      case measure => simp [intOf]; omega
    · go_wp2
      go_end0
      have hkl : k = l.length := by omega
      subst hkl
      rw [List.take_length] at hown
      exact ⟨rfl, hown, hbel⟩
end Go.Proofs.Ytokbkbchblfcoaa

/- The walk of the reference's Least. -/
import Derived.Test.YtgkpdffgahadpaaSPairs
import Derived.Test.YtgkpdffgahadpaaS1
import Derived.Test.YtgkpdffgahadpaaPm4
namespace Go.Proofs.Ytgkpdffgahadpaa
open Go.RowKit

theorem lvl_le (u : List Nat) (h16 : ∀ x ∈ u, x ≤ 65535) (i : Nat) (h1 : 1 ≤ i) (h15 : i ≤ 15) : ∀ x ∈ PM.lvl u i, x ≤ 1073725440 := by
  intro x hx
  obtain ⟨k, rfl⟩ : ∃ k, i = k + 1 := ⟨i - 1, by omega⟩
  have h := PM.lvl_bd u 65535 h16 k x hx
  have h2 : (2 : Nat) ^ k ≤ 2 ^ 14 := PM.pow_bd _ _ (by omega)
  have h3 : 65535 * 2 ^ k ≤ 65535 * 2 ^ 14 := Nat.mul_le_mul_left _ h2
  have h4 : (65535 : Nat) * 2 ^ 14 = 1073725440 := rfl
  omega
theorem sum_le_of (l : List Nat) (M : Nat) (h : ∀ x ∈ l, x ≤ M) : l.sum ≤ M * l.length := by
  induction l with
  | nil => simp
  | cons a r ih =>
    have := ih fun x hx => h x (by simp [hx])
    have := h a (by simp)
    simp only [List.sum_cons, List.length_cons, Nat.mul_add]; omega
theorem nrow_take {w : World} {a : Option Addr} {n cap : Nat} {l : List Nat} (h : NRow .i64 w (.slice a n cap) l) (k : Nat) (hk : k ≤ l.length) : NRow .i64 w (.slice a k cap) (l.take k) := by
  obtain ⟨a', c', he, hn, hc⟩ := h
  cases he
  have hl : (l.take k).length = k := by simp; omega
  refine ⟨a, cap, by rw [hl], ⟨hn.1, by omega⟩, fun h0 => ?_⟩
  obtain ⟨b, o, rfl, hb, hcc⟩ := hc (by omega)
  refine ⟨b, o, rfl, hb, fun i hi => ?_⟩
  rw [hl] at hi
  rw [hcc i (by omega)]
  simp [List.getD, hi]

theorem owns_shape5 {w : World} {base e n size : Nat} {v : Value} {xs : List Value} (h : w.ownsRow base e size v n xs) : ∃ a cap, v = .slice a n cap := by
  rcases h.2 with ⟨rfl, h0⟩ | ⟨g, cap, cur, rfl, _⟩
  · exact ⟨none, 0, by rw [h0]⟩
  · exact ⟨_, cap, rfl⟩
theorem owns_cap {w : World} {base e n size : Nat} {a : Option Addr} {cap : Nat} {xs : List Value} (h : w.ownsRow base e size (.slice a n cap) n xs) : n ≤ cap := by
  rcases h.2 with ⟨he, h0⟩ | ⟨g, cap', cur, he, _, _, h1, _⟩
  · omega
  · cases he; exact h1

set_option maxHeartbeats 4000000 in
set_option maxRecDepth 100000 in
theorem least_any (v : Value) (u : List Nat) (bits : Nat) (w : World) (hr : NRow .i64 w v u) (h2 : 2 ≤ u.length) (hl : u.length ≤ 1000) (hs : PM.Srt u) (h16 : ∀ x ∈ u, x ≤ 65535) (h1 : 1 ≤ bits) (h15 : bits ≤ 15) (hen : 2 * u.length - 2 ≤ (PM.lvl u bits).length) :
    Calls Try.prog 22 #[v, .int .i64 bits] w fun e w' => e = .returned (.int .i64 (((PM.lvl u bits).take (2 * u.length - 2)).sum : Nat)) ∧ Below w.heap.size w w' := by
  obtain ⟨i0, hi, hz0, hz1, hz2⟩ := info_parts info_int
  have hnr := hr
  obtain ⟨a, cap, rfl, _, hr⟩ := hr
  obtain ⟨b, o, rfl, hbl, hc⟩ := hr (by omega)
  have HNR := Lib.hid hnr
  have H16 := Lib.hid h16
  have HS := Lib.hid hs
  have HEN := Lib.hid hen
  have HCL := Lib.hid (Try.slices_Clone_int b o u.length cap (u.map fun n => ((n : Nat) : Int)) w (by simp) (by omega) (fun j hj => by
    rw [List.length_map] at hj
    rw [hc j hj]
    simp [List.getD, hj]))
  clear hc hnr h16 hs hen hr
  go_enter Try.func22, Try.ntmps22
  go_wp2_with fail
  refine HCL.out.mono ?_
  rintro e w1 ⟨v1, rfl, ho1, _, hb1⟩
  have hl1 : PM.lvl u 1 = u := by
    show PM.srt ([] ++ u) = u
    rw [List.nil_append]; exact PM.srt_of_sorted HS.out
  have HO1 : Hid (w1.ownsRow w.heap.size 3 1 v1 (PM.lvl u 1).length (nv .i64 (PM.lvl u 1))) := by
    refine Lib.hid ?_
    rw [hl1]
    have e : ((u.map fun n => ((n : Nat) : Int)).take u.length).map (Value.int .i64) = nv .i64 u := by
      rw [List.take_of_length_le (by simp)]; simp [nv]
    rw [← e]; exact ho1
  have HB1 := Lib.hid hb1
  clear ho1 hb1 hl1
  go_wp2
  go_loopw [5, 6] (fun vv ii wr => ∃ i : Nat, 1 ≤ i ∧ i ≤ bits ∧ ii = .int .i64 (i : Nat) ∧ wr.ownsRow w.heap.size 3 1 vv (PM.lvl u i).length (nv .i64 (PM.lvl u i)) ∧ Below w.heap.size w wr) (fun _ ii _ => bits - (intOf ii).toNat)
  case atStart => exact ⟨1, Nat.le_refl _, h1, rfl, HO1.out, HB1.out⟩
  case round =>
    obtain ⟨i, hi1, hib, rfl, hown, hbel⟩ := hrel
    clear HO1 HB1
    have hlen := PM.lvl_len_le u i
    by_cases hlt : i < bits
    · have HB := Lib.hid hbel
      have HBD := Lib.hid (lvl_le u H16.out i hi1 (by omega))
      have HN := Lib.hid (NRow.of_owns rfl hown)
      have HLL := Lib.hid hlen
      clear hown hbel hlen
      go_wp2_with fail
      refine (pairs_any _ (PM.lvl u i) wr HN.out (by have := HLL.out; omega) (fun x hx => Nat.le_trans (HBD.out x hx) (by decide))).mono ?_
      rintro e w2 ⟨v2, rfl, ho2, hb2⟩
      have HO2 := Lib.hid (owns_mono ho2 HB.out.size)
      have HB2 := Lib.hid (below_up HB.out hb2 HB.out.size)
      have HNU := Lib.hid (HNR.out.below HB2.out)
      have hpl : (PM.pairs (PM.lvl u i)).length + u.length < 1099511627776 := by rw [PM.pairs_len]; have := HLL.out; omega
      have HPL := Lib.hid hpl
      clear ho2 hb2 hpl
      go_upto_region 8 with (at_builtin; refine wpList_appRow w2 w rfl (.tmp 20) (.tmp 21) 24 rfl Try.underlying24 hi hz0 hz1 hz2 (by decide) v2 _ (PM.pairs (PM.lvl u i)) _ u rfl HO2.out rfl HNU.out HPL.out HB2.out.size HB2.out ?_; intro v3 w3 ho3 hb3 _)
      have hs3 := sortI_own ho3 HPL.out
      have hlt3 := ho3.lt
      have HS3 := Lib.hid hs3
      have HB3 := Lib.hid hb3
      have HLT := Lib.hid hlt3
      clear ho3 hb3 hs3 hlt3
      go_wp2_with (go_at_call 30; refine HS3.out.mono ?_; rintro e w4 ⟨rfl, ho4, hg4⟩)
      go_roundw
      case rel =>
        refine ⟨i + 1, by omega, by omega, by go_num, ?_, HB3.out.grown hg4 HB3.out.size (fun j hj => (HLT.out j hj).1)⟩
        have e : (PM.lvl u (i + 1)).length = (PM.pairs (PM.lvl u i)).length + u.length := by rw [PM.lvl_len, PM.pairs_len]
        rw [e]; exact ho4
      case measure => simp [intOf]; omega
    · have hib2 : i = bits := by omega
      subst hib2
      have HN := Lib.hid (NRow.of_owns rfl hown)
      obtain ⟨a5, c5, rfl⟩ := owns_shape5 hown
      have HBD := Lib.hid (lvl_le u H16.out i hi1 h15)
      have HB := Lib.hid hbel
      have hcap5 := owns_cap hown
      have hen := HEN.out
      have HT := Lib.hid (nrow_take HN.out (2 * u.length - 2) hen)
      have hsm := sum_le_of ((PM.lvl u i).take (2 * u.length - 2)) 1073725440 (fun x hx => HBD.out x (List.mem_of_mem_take hx))
      have htl : ((PM.lvl u i).take (2 * u.length - 2)).length ≤ 2 * u.length - 2 := List.length_take_le _ _
      have HSUM := Lib.hid (sum_any _ _ wr HT.out (by omega) (by omega))
      clear hown hbel hsm htl
      have e2 : 2 * (u.length : Int) - 2 = ((2 * u.length - 2 : Nat) : Int) := by omega
      have p1 : (0 : Int) ≤ 2 * (u.length : Int) - 2 := by omega
      have p2 : 2 * (u.length : Int) - 2 ≤ (c5 : Int) := by omega
      clear e2
      go_wp2_with fail
      refine HSUM.out.mono ?_
      rintro e w5 ⟨rfl, rfl⟩
      go_wp2_with fail
      go_ret
      exact ⟨rfl, HB.out⟩
end Go.Proofs.Ytgkpdffgahadpaa

/- The walks of encoder, bitLength, bitLengthRaw, canEncodeLen and their callers. -/
import Derived.Test.YtgkpdffgahadpaaPPlain
import Derived.Test.YtgkpdffgahadpaaPHcode
import Derived.Deep.RegionHeld3
import Derived.Deep.DeepCutAuto
import Derived.IntWalk
import Derived.Deep.CutRange
namespace Go.Proofs.Ytgkpdffgahadpaa
open Go.RowKit Go.Shelf Go.Lib

/-- The codes so far. -/
def encC (cs : List Nat) (k : Nat) : List Nat := (List.range cs.length).map fun j => if j < k then cs.getD j 0 else 0
theorem encC_len (cs : List Nat) (k : Nat) : (encC cs k).length = cs.length := by simp [encC]
theorem encC_zero (cs : List Nat) : encC cs 0 = List.replicate cs.length 0 := by
  apply List.ext_getElem
  · simp [encC]
  · intro i h1 h2
    simp [encC]
theorem encC_all (cs : List Nat) : encC cs cs.length = cs := by
  apply List.ext_getElem
  · simp [encC]
  · intro i h1 h2
    simp [encC, List.getD, h2]
theorem encC_succ (cs : List Nat) (k : Nat) : encC cs (k + 1) = (encC cs k).set k (cs.getD k 0) := by
  apply List.ext_getElem
  · simp [encC]
  · intro i h1 h2
    simp only [encC, List.getElem_map, List.getElem_range, List.getElem_set]
    by_cases h : k = i
    · subst h; simp
    · rw [if_neg h]
      by_cases h3 : i < k
      · rw [if_pos h3, if_pos (by omega)]
      · rw [if_neg h3, if_neg (by omega)]
theorem encC_same (cs : List Nat) (k : Nat) (h : cs.getD k 0 = 0) : encC cs (k + 1) = encC cs k := by
  apply List.ext_getElem
  · simp [encC]
  · intro i h1 h2
    simp only [encC, List.getElem_map, List.getElem_range]
    by_cases h3 : i = k
    · subst h3; rw [h]; simp
    · by_cases h4 : i < k
      · rw [if_pos h4, if_pos (by omega)]
      · rw [if_neg h4, if_neg (by omega)]

/-- Codes that are 0 where they have no bits. -/
structure Enc0 (cs : List Nat) : Prop where
  pos : 1 ≤ cs.length
  few : cs.length ≤ 1000
  lt : ∀ x ∈ cs, x < 16777216
  zero : ∀ x ∈ cs, x % 256 = 0 → x = 0

set_option maxHeartbeats 4000000 in
set_option maxRecDepth 100000 in
theorem encoder_any (v : Value) (cs : List Nat) (w : World) (hr : CRow w v (cs.map codeOf)) (hC : Enc0 cs) :
    Calls Try.prog 44 #[v] w fun e w' => ∃ hb cb C cur, e = .returned (.pointer (some ⟨hb, 0, none⟩)) ∧ EncB w' w.heap.size hb cb C cur cs ∧ Below w.heap.size w w' := by
  have h1 := hC.pos
  have h2 := hC.few
  have HC := Lib.hid hC
  obtain ⟨a, cap, rfl, hrow⟩ := hr
  rw [List.length_map]
  have HRW : Hid (∃ b, a = some ⟨b, 0, none⟩ ∧ b < w.heap.size ∧ ∀ i, i < cs.length → w.cell? ⟨b, i * 2, none⟩ = some (.int .u16 ((cs.getD i 0 / 256 : Nat) : Int)) ∧ w.cell? ⟨b, i * 2 + 1, none⟩ = some (.int .u8 ((cs.getD i 0 % 256 : Nat) : Int))) := by
    obtain ⟨b, h1, h2, h3⟩ := hrow (by rw [List.length_map]; omega)
    refine ⟨b, h1, h2, fun i hi => ?_⟩
    have h4 := h3 i (by rw [List.length_map]; exact hi)
    have e : cs.getD i 0 = cs[i] := by simp [List.getD, hi]
    rw [e]
    simpa [codeOf] using h4
  clear hrow hC
  obtain ⟨b, rfl, hbl, hcc⟩ := HRW.out
  have HCC := Lib.hid hcc
  clear hcc HRW
  go_enter Try.func44, Try.ntmps44
  go_wp2_with fail
  refine (newEnc2_any cs.length h1 h2 _).mono ?_
  rintro e w1 ⟨hb, cb, C, cur, rfl, hE0, hbel0, _⟩
  rw [← encC_zero] at hE0
  have HE0 := Lib.hid hE0
  have HB0 := Lib.hid hbel0
  have hcbl := hE0.cb_lt
  clear hE0 hbel0
  go_wp2
  go_loopw [4, 11] (fun _ ii wr => ∃ k : Nat, k ≤ cs.length ∧ ii = .int .i64 (k : Nat) ∧ EncB wr w.heap.size hb cb C cur (encC cs k) ∧ Below w.heap.size w wr) (fun _ ii _ => cs.length - (intOf ii).toNat)
  case atStart => exact ⟨0, Nat.zero_le _, rfl, HE0.out, HB0.out⟩
  case round =>
    obtain ⟨k, hk, rfl, hE, hbel⟩ := hrel
    clear HE0 HB0
    by_cases hlt : k < cs.length
    · obtain ⟨q1, q2⟩ := HCC.out k hlt
      have k1 : wr.cell? ⟨b, k * 2, none⟩ = _ := (hbel.cell (by exact hbl)).trans q1
      have k2 : wr.cell? ⟨b, k * 2 + 1, none⟩ = _ := (hbel.cell (by exact hbl)).trans q2
      have hx := HC.out.lt _ (getD_mem cs k hlt)
      have hz := HC.out.zero _ (getD_mem cs k hlt)
      have HS1 := Lib.hid (encC_succ cs k)
      have HS2 := Lib.hid (encC_same cs k)
      have e0 := hE.cell
      rw [encC_len] at e0
      have e1 := owns_cell hE.own k (by rw [encC_len]; exact hlt) rfl
      have e2 := hE.own.frozenAt k
      have HE := Lib.hid hE
      have HB := Lib.hid hbel
      clear q1 q2 hE hbel
      generalize cs.getD k 0 = x at *
      generalize (encC cs k).getD k 0 = y at *
      by_cases h0 : x % 256 = 0
      · have hx0 := hz h0
        subst hx0
        have k1 : wr.cell? ⟨b, k * 2, none⟩ = some (.int .u16 0) := k1
        have k2 : wr.cell? ⟨b, k * 2 + 1, none⟩ = some (.int .u8 0) := k2
        clear h0 hz hx
        go_wp2
        go_roundw
        case rel =>
          refine ⟨k + 1, by omega, by go_num, ?_, HB.out.alloc HB.out.size _⟩
          rw [HS2.out rfl]
          exact HE.out.below ((Below.refl _ _).alloc (Nat.le_refl _) _)
        case measure => simp [intOf]; omega
      · have hp : 0 < x % 256 := by omega
        have h1 : x / 256 < 65536 := by omega
        have h2 : x % 256 < 256 := by omega
        have HV : Hid (x = x / 256 * 256 + x % 256) := by unfold Hid; omega
        clear hz hx h0
        generalize x / 256 = c at *
        generalize x % 256 = n at *
        go_upto_region 6 with (fail)
        generalize hW : World.alloc wr _ = W
        have HEW : Hid (EncB W w.heap.size hb cb C cur (encC cs k)) := by rw [← hW]; exact HE.out.below ((Below.refl _ _).alloc (Nat.le_refl _) _)
        have HBW : Hid (Below w.heap.size w W) := by rw [← hW]; exact HB.out.alloc HB.out.size _
        have hcbl2 := HE.out.cb_lt.2
        have hhbl2 := HE.out.hb_lt
        have hcbn := HE.out.ne
        have q1 : W.cell? ⟨hb, 0, none⟩ = some (.slice (some ⟨cb, 0, none⟩) cs.length C) := by
          rw [← hW, World.cell?_alloc_old _ _ _ (Nat.ne_of_lt hhbl2)]; exact e0
        have q2 : W.cell? ⟨wr.heap.size, 0, none⟩ = some (.int .u16 (c : Int)) := by rw [← hW]; exact cells_new wr [_, _] _ _ 0 _ rfl
        have q3 : W.cell? ⟨wr.heap.size, 1, none⟩ = some (.int .u8 (n : Int)) := by rw [← hW]; exact cells_new wr [_, _] _ _ 1 _ rfl
        have q4 : W.cell? ⟨cb, k, none⟩ = some (.int .u32 (y : Int)) := by
          rw [← hW, World.cell?_alloc_old _ _ _ (Nat.ne_of_lt hcbl2)]; exact e1
        have q5 : W.frozen? ⟨cb, k, none⟩ = false := by rw [← hW]; exact (HE.out.own.alloc _).frozenAt k
        have d1 : W.drew.cell? ⟨hb, 0, none⟩ = some (.slice (some ⟨cb, 0, none⟩) cs.length C) := q1
        have d2 : W.drew.cell? ⟨wr.heap.size, 0, none⟩ = some (.int .u16 (c : Int)) := q2
        have d3 : W.drew.cell? ⟨wr.heap.size, 1, none⟩ = some (.int .u8 (n : Int)) := q3
        have d4 : W.drew.cell? ⟨cb, k, none⟩ = some (.int .u32 (y : Int)) := q4
        have d5 : W.drew.frozen? ⟨cb, k, none⟩ = false := q5
        have HQ1 := Lib.hid q1
        have HQ2 := Lib.hid q2
        have HQ3 := Lib.hid q3
        clear hW e0 e1 e2 k1 k2 q1 q2 q3 q4 q5 HE HB
        generalize wr.heap.size = nb at *
        have HS3 : Hid (∀ (W' : World) (v : Value), W'.cell? ⟨hb, 0, none⟩ = some (.slice (some ⟨cb, 0, none⟩) cs.length C) → (W'.setCell ⟨cb, k, none⟩ v).drew.cell? ⟨hb, 0, none⟩ = some (.slice (some ⟨cb, 0, none⟩) cs.length C)) :=
          Lib.hid fun W' v h => by rw [show (World.setCell W' ⟨cb, k, none⟩ v).drew.cell? = (World.setCell W' ⟨cb, k, none⟩ v).cell? from rfl, World.cell?_setCell_far W' _ _ v (by exact hcbn)]; exact h
        have HS4 : Hid (∀ (W' : World) (v u : Value) (j : Nat), W'.cell? ⟨nb, j, none⟩ = some u → (W'.setCell ⟨cb, k, none⟩ v).drew.cell? ⟨nb, j, none⟩ = some u) :=
          Lib.hid fun W' v u j h => by rw [show (World.setCell W' ⟨cb, k, none⟩ v).drew.cell? = (World.setCell W' ⟨cb, k, none⟩ v).cell? from rfl, World.cell?_setCell_far W' _ _ v (by dsimp only; omega)]; exact h
        go_region_held3 (fun W' : World => W'.cell? ⟨hb, 0, none⟩ = some (.slice (some ⟨cb, 0, none⟩) cs.length C) ∧ W'.cell? ⟨nb, 0, none⟩ = some (.int .u16 (c : Int)) ∧ W'.cell? ⟨nb, 1, none⟩ = some (.int .u8 (n : Int)))
            (first | (with_reducible exact ⟨by assumption, by assumption, by assumption⟩) | (with_reducible exact ⟨HS3.out _ _ HQ1.out, HS4.out _ _ _ _ HQ2.out, HS4.out _ _ _ _ HQ3.out⟩))
            (first
              | (go_at_call 66; refine (newhcode_any c n h1 h2 _).mono ?_; rintro e w4 ⟨rfl, rfl⟩))
        all_goals
          go_wp2_with fail
          go_roundw
          case rel =>
            refine ⟨k + 1, by omega, by go_num, ?_, (HBW.out.setCell hcbl.1 _).drew⟩
            have h9 := (HEW.out.set k (c * 256 + n)).below (Below.refl _ _).drew
            have e2 : ((c * 256 + n : Nat) : Int) = (c : Int) * 256 + (n : Int) := by push_cast; rfl
            rw [e2] at h9
            rw [HS1.out, HV.out]
            exact h9
          case measure => simp [intOf]; omega
    · have hkl : k = cs.length := by omega
      subst hkl
      rw [encC_all] at hE
      go_wp2
      go_ret
      exact ⟨hb, cb, C, cur, rfl, hE, hbel⟩

/-- The bits of frequencies with codes. -/
def dotC (f cs : List Nat) : Nat → Nat
  | 0 => 0
  | k + 1 => dotC f cs k + f.getD k 0 * (cs.getD k 0 % 256)
theorem dotC_bd {f cs : List Nat} (h16 : ∀ x ∈ f, x < 65536) : ∀ k, k ≤ f.length → dotC f cs k ≤ 16777216 * k
  | 0, _ => Nat.le_refl _
  | k + 1, h => by
    have ih := dotC_bd (cs := cs) h16 k (by omega)
    have h1 := h16 _ (getD_mem f k (by omega))
    have h2 : cs.getD k 0 % 256 < 256 := Nat.mod_lt _ (by omega)
    have h3 : f.getD k 0 * (cs.getD k 0 % 256) ≤ 65536 * 256 := Nat.mul_le_mul (by omega) (by omega)
    rw [dotC]; omega

theorem clen_any (x : Nat) (w : World) : Calls Try.prog 65 #[.int .u32 x] w fun e w' => e = .returned (.int .u8 ((x % 256 : Nat) : Int)) ∧ w' = w := by
  have hw8 : IntKind.u8.wrap (x : Int) = ((x % 256 : Nat) : Int) := by rw [IntKind.wrap_u8]; omega
  go_enter Try.func65, Try.ntmps65
  go_wp2
  go_ret
  exact ⟨by simp, rfl⟩
theorem czero_any (x : Nat) (w : World) : Calls Try.prog 67 #[.int .u32 x] w fun e w' => e = .returned (.bool (decide (x = 0))) ∧ w' = w := by
  have h0 : ((x : Int) == 0) = decide (x = 0) := by
    by_cases h : x = 0
    · subst h; rfl
    · rw [decide_eq_false h]; exact beq_eq_false_iff_ne.2 (by omega)
  go_enter Try.func67, Try.ntmps67
  go_wp2
  go_ret
  exact ⟨rfl, rfl⟩

set_option maxHeartbeats 4000000 in
set_option maxRecDepth 100000 in
theorem bitLen_any {base hb cb C : Nat} {cur : Array Value} (v : Value) (f cs : List Nat) (w : World) (hr : NRow .u16 w v f) (hE : EncB w base hb cb C cur cs) (hl : f.length = cs.length) (hn : f.length ≤ 1000) (h16 : ∀ x ∈ f, x < 65536) (h24 : ∀ x ∈ cs, x < 16777216) :
    Calls Try.prog 45 #[.pointer (some ⟨hb, 0, none⟩), v] w fun e w' => e = .returned (.int .i64 (dotC f cs f.length : Nat)) ∧ ∃ m, w' = w.drewN m := by
  obtain ⟨a, cap, rfl, _, hrow⟩ := hr
  have HR := Lib.hid hrow
  have HE := Lib.hid hE
  have H16 := Lib.hid h16
  have H24 := Lib.hid h24
  have HL := Lib.hid hl
  have HBD := Lib.hid (fun k hk => dotC_bd (cs := cs) h16 k hk)
  clear hrow hE h16 h24 hl
  go_enter Try.func45, Try.ntmps45
  go_wp2
  go_loopw [5, 6, 7, 10] (fun tt _ _ ii wr => ∃ k m T : Nat, k ≤ f.length ∧ ii = .int .i64 (k : Nat) ∧ tt = .int .i64 (T : Nat) ∧ T ≤ 16777216 * k ∧ wr = w.drewN m ∧ Hid (T = dotC f cs k)) (fun _ _ _ ii _ => f.length - (intOf ii).toNat)
  case atStart => exact ⟨0, 0, 0, Nat.zero_le _, rfl, rfl, Nat.zero_le _, rfl, rfl⟩
  case round =>
    obtain ⟨k, m, T, hk, rfl, rfl, hT, rfl, HT⟩ := hrel
    by_cases hlt : k < f.length
    · obtain ⟨b, o, rfl, hbl, hcc⟩ := HR.out (by omega)
      have hck : (w.drewN m).cell? ⟨b, o + k, none⟩ = _ := hcc k hlt
      have hx16 := H16.out _ (getD_mem f k hlt)
      have hkc : k < cs.length := by have := HL.out; omega
      have e0 : (w.drewN m).cell? ⟨hb, 0, none⟩ = _ := HE.out.cell
      have e1 : (w.drewN m).cell? ⟨cb, k, none⟩ = _ := owns_cell HE.out.own k hkc rfl
      have HD : Hid (dotC f cs (k + 1) = dotC f cs k + f.getD k 0 * (cs.getD k 0 % 256)) := rfl
      clear hcc
      generalize f.getD k 0 = x at *
      generalize cs.getD k 0 = c at *
      by_cases hx0 : x = 0
      · subst hx0
        have hck : (w.drewN m).cell? ⟨b, o + k, none⟩ = some (.int .u16 0) := hck
        clear hx16
        generalize hwd : World.drewN w m = wd at *
        have HWD := Lib.hid hwd
        clear hwd
        go_wp2
        go_roundw
        case rel => exact ⟨k + 1, m, T, by omega, by go_num, rfl, by omega, HWD.out.symm, by rw [HD.out, Nat.zero_mul, Nat.add_zero]; exact HT⟩
        case measure => simp [intOf]; omega
      · have hx1 : 0 < x := by omega
        have HCL := Lib.hid (fun W => clen_any c W)
        have hcm : c % 256 < 256 := Nat.mod_lt _ (by omega)
        have hpb : x * (c % 256) ≤ 16777216 := Nat.mul_le_mul (show x ≤ 65536 by omega) (show c % 256 ≤ 256 by omega)
        have hpe : (x : Int) * ((c % 256 : Nat) : Int) = ((x * (c % 256) : Nat) : Int) := by push_cast; rfl
        clear hx0
        generalize c % 256 = y at *
        generalize x * y = p at *
        generalize hwd : World.drewN w m = wd at *
        have HWD := Lib.hid hwd
        clear hwd
        go_wp2_with (go_at_call 65; refine (HCL.out _).mono ?_; rintro e w3 ⟨rfl, rfl⟩)
        go_roundw
        case rel => exact ⟨k + 1, m, T + p, by omega, by go_num, by go_num, by omega, HWD.out.symm, by unfold Hid; rw [HD.out, ← HT.out]⟩
        case measure => simp [intOf]; omega
    · have hkl : k = f.length := by omega
      subst hkl
      go_wp2
      go_ret
      exact ⟨ret_int (congrArg (fun n : Nat => (n : Int)) HT.out), m, rfl⟩

/-- All of the first k that occur have codes. -/
def CanC (f cs : List Nat) (k : Nat) : Prop := ∀ i, i < k → 0 < f.getD i 0 → cs.getD i 0 ≠ 0
theorem CanC.succ {f cs : List Nat} {k : Nat} (h : CanC f cs k) (h1 : f.getD k 0 = 0 ∨ cs.getD k 0 ≠ 0) : CanC f cs (k + 1) := by
  intro i hi h0
  by_cases e : i = k
  · subst e
    rcases h1 with h1 | h1
    · omega
    · exact h1
  · exact h i (by omega) h0

set_option maxHeartbeats 4000000 in
set_option maxRecDepth 100000 in
theorem canLen_any {base hb cb C : Nat} {cur : Array Value} (v : Value) (f cs : List Nat) (w : World) (hr : NRow .u16 w v f) (hE : EncB w base hb cb C cur cs) (hl : f.length = cs.length) (hn : f.length ≤ 1000) (h16 : ∀ x ∈ f, x < 65536) (h24 : ∀ x ∈ cs, x < 16777216) :
    Calls Try.prog 47 #[.pointer (some ⟨hb, 0, none⟩), v] w fun e w' => ((CanC f cs f.length ∧ e = .returned (.int .i64 (dotC f cs f.length : Nat))) ∨ (¬ CanC f cs f.length ∧ e = .returned (.int .i64 2147483647))) ∧ ∃ m, w' = w.drewN m := by
  obtain ⟨a, cap, rfl, _, hrow⟩ := hr
  have HR := Lib.hid hrow
  have HE := Lib.hid hE
  have H16 := Lib.hid h16
  have H24 := Lib.hid h24
  have HL := Lib.hid hl
  clear hrow hE h16 h24 hl
  go_enter Try.func47, Try.ntmps47
  go_wp2
  go_loopw [5, 6, 7, 8, 11] (fun tt _ _ _ ii wr => ∃ k m T : Nat, k ≤ f.length ∧ ii = .int .i64 (k : Nat) ∧ tt = .int .i64 (T : Nat) ∧ T ≤ 16777216 * k ∧ wr = w.drewN m ∧ Hid (T = dotC f cs k ∧ CanC f cs k)) (fun _ _ _ _ ii _ => f.length - (intOf ii).toNat)
  case atStart => exact ⟨0, 0, 0, Nat.zero_le _, rfl, rfl, Nat.zero_le _, rfl, rfl, fun i hi => by omega⟩
  case round =>
    obtain ⟨k, m, T, hk, rfl, rfl, hT, rfl, HT⟩ := hrel
    by_cases hlt : k < f.length
    · obtain ⟨b, o, rfl, hbl, hcc⟩ := HR.out (by omega)
      have hck : (w.drewN m).cell? ⟨b, o + k, none⟩ = _ := hcc k hlt
      have hx16 := H16.out _ (getD_mem f k hlt)
      have hkc : k < cs.length := by have := HL.out; omega
      have e0 : (w.drewN m).cell? ⟨hb, 0, none⟩ = _ := HE.out.cell
      have e1 : (w.drewN m).cell? ⟨cb, k, none⟩ = _ := owns_cell HE.out.own k hkc rfl
      have HD : Hid (dotC f cs (k + 1) = dotC f cs k + f.getD k 0 * (cs.getD k 0 % 256)) := rfl
      have HN := Lib.hid (fun h => HT.out.2.succ h)
      clear hcc
      by_cases hx0 : f.getD k 0 = 0
      · have HN2 : Hid (CanC f cs (k + 1)) := HN.out (.inl hx0)
        rw [hx0] at hck HD
        have hck : (w.drewN m).cell? ⟨b, o + k, none⟩ = some (.int .u16 0) := hck
        clear hx16 hx0 HN
        generalize cs.getD k 0 = c at *
        generalize hwd : World.drewN w m = wd at *
        have HWD := Lib.hid hwd
        clear hwd
        go_wp2
        go_roundw
        case rel => exact ⟨k + 1, m, T, by omega, by go_num, rfl, by omega, HWD.out.symm, by rw [HD.out, Nat.zero_mul, Nat.add_zero]; exact HT.out.1, HN2.out⟩
        case measure => simp [intOf]; omega
      · by_cases hc0 : cs.getD k 0 = 0
        · have HNO : Hid (¬ CanC f cs f.length) := Lib.hid fun h => h k hlt (by omega) hc0
          have HCZ := Lib.hid (fun W => czero_any (cs.getD k 0) W)
          rw [decide_eq_true hc0] at HCZ
          have hx1 : 0 < f.getD k 0 := by omega
          clear HN HT HD hc0 hx0
          generalize f.getD k 0 = x at *
          generalize cs.getD k 0 = c at *
          generalize hwd : World.drewN w m = wd at *
          have HWD := Lib.hid hwd
          clear hwd
          go_wp2_with (go_at_call 67; refine (HCZ.out _).mono ?_; rintro e w3 ⟨rfl, rfl⟩)
          exact bodyPost_ret (v := .int .i64 2147483647) (by simp [results, Try.results47, go_sem]) rfl ⟨.inr ⟨HNO.out, rfl⟩, m, HWD.out.symm⟩
        · have HN2 : Hid (CanC f cs (k + 1)) := HN.out (.inr hc0)
          have HCZ := Lib.hid (fun W => czero_any (cs.getD k 0) W)
          rw [decide_eq_false hc0] at HCZ
          have HCL := Lib.hid (fun W => clen_any (cs.getD k 0) W)
          have hx1 : 0 < f.getD k 0 := by omega
          have hcm : cs.getD k 0 % 256 < 256 := Nat.mod_lt _ (by omega)
          have hpb : f.getD k 0 * (cs.getD k 0 % 256) ≤ 16777216 := Nat.mul_le_mul (show f.getD k 0 ≤ 65536 by omega) (show cs.getD k 0 % 256 ≤ 256 by omega)
          have hpe : (f.getD k 0 : Int) * ((cs.getD k 0 % 256 : Nat) : Int) = ((f.getD k 0 * (cs.getD k 0 % 256) : Nat) : Int) := by push_cast; rfl
          clear HN hc0 hx0
          generalize f.getD k 0 = x at *
          generalize cs.getD k 0 = c at *
          generalize c % 256 = y at *
          generalize x * y = p at *
          generalize hwd : World.drewN w m = wd at *
          have HWD := Lib.hid hwd
          clear hwd
          go_wp2_with (first
            | (go_at_call 67; refine (HCZ.out _).mono ?_; rintro e w3 ⟨rfl, rfl⟩)
            | (go_at_call 65; refine (HCL.out _).mono ?_; rintro e w4 ⟨rfl, rfl⟩))
          go_roundw
          case rel => exact ⟨k + 1, m, T + p, by omega, by go_num, by go_num, by omega, HWD.out.symm, by rw [HD.out, ← HT.out.1], HN2.out⟩
          case measure => simp [intOf]; omega
    · have hkl : k = f.length := by omega
      subst hkl
      go_wp2
      go_ret
      exact ⟨.inl ⟨HT.out.2, ret_int (congrArg (fun n : Nat => (n : Int)) HT.out.1)⟩, m, rfl⟩

/-- The bits of bytes with codes, at least one for each. -/
def rawC (b cs : List Nat) : Nat → Nat
  | 0 => 0
  | k + 1 => rawC b cs k + max 1 (cs.getD (b.getD k 0) 0 % 256)

set_option maxHeartbeats 4000000 in
set_option maxRecDepth 100000 in
theorem rawLen_any {base hb cb C : Nat} {cur : Array Value} (v : Value) (f cs : List Nat) (w : World) (hr : NRow .u8 w v f) (hE : EncB w base hb cb C cur cs) (hn : f.length ≤ 1048576) (h8 : ∀ x ∈ f, x < cs.length) (hb8 : ∀ x ∈ f, x < 256) (h24 : ∀ x ∈ cs, x < 16777216) :
    Calls Try.prog 46 #[.pointer (some ⟨hb, 0, none⟩), v] w fun e w' => e = .returned (.int .i64 (rawC f cs f.length : Nat)) ∧ ∃ m, w' = w.drewN m := by
  obtain ⟨a, cap, rfl, _, hrow⟩ := hr
  have HR := Lib.hid hrow
  have HE := Lib.hid hE
  have H8 := Lib.hid h8
  have H88 := Lib.hid hb8
  have H24 := Lib.hid h24
  clear hrow hE h8 h24 hb8
  go_enter Try.func46, Try.ntmps46
  go_wp2
  go_loopw [5, 7, 10] (fun tt _ ii wr => ∃ k m T : Nat, k ≤ f.length ∧ ii = .int .i64 (k : Nat) ∧ tt = .int .i64 (T : Nat) ∧ T ≤ 256 * k ∧ wr = w.drewN m ∧ Hid (T = rawC f cs k)) (fun _ _ ii _ => f.length - (intOf ii).toNat)
  case atStart => exact ⟨0, 0, 0, Nat.zero_le _, rfl, rfl, Nat.zero_le _, rfl, rfl⟩
  case round =>
    obtain ⟨k, m, T, hk, rfl, rfl, hT, rfl, HT⟩ := hrel
    by_cases hlt : k < f.length
    · obtain ⟨b, o, rfl, hbl, hcc⟩ := HR.out (by omega)
      have hck : (w.drewN m).cell? ⟨b, o + k, none⟩ = _ := hcc k hlt
      have hx8 := H8.out _ (getD_mem f k hlt)
      have hx88 := H88.out _ (getD_mem f k hlt)
      have e0 : (w.drewN m).cell? ⟨hb, 0, none⟩ = _ := HE.out.cell
      have e1 : (w.drewN m).cell? ⟨cb, f.getD k 0, none⟩ = _ := owns_cell HE.out.own (f.getD k 0) hx8 rfl
      have HD : Hid (rawC f cs (k + 1) = rawC f cs k + max 1 (cs.getD (f.getD k 0) 0 % 256)) := rfl
      clear hcc
      generalize f.getD k 0 = x at *
      generalize cs.getD x 0 = c at *
      have HCL := Lib.hid (fun W => clen_any c W)
      have hcm : c % 256 < 256 := Nat.mod_lt _ (by omega)
      have hmx : max (1 : Int) ((c % 256 : Nat) : Int) = ((max 1 (c % 256) : Nat) : Int) := by omega
      have hpb : max 1 (c % 256) ≤ 256 := by omega
      generalize c % 256 = y at *
      generalize max 1 y = p at *
      generalize hwd : World.drewN w m = wd at *
      have HWD := Lib.hid hwd
      clear hwd
      go_wp2_with (go_at_call 65; refine (HCL.out _).mono ?_; rintro e w3 ⟨rfl, rfl⟩)
      go_roundw
      case rel => exact ⟨k + 1, m, T + p, by omega, by go_num, by go_num, by omega, HWD.out.symm, by unfold Hid; rw [HD.out, ← HT.out]⟩
      case measure => simp [intOf]; omega
    · have hkl : k = f.length := by omega
      subst hkl
      go_wp2
      go_ret
      exact ⟨ret_int (congrArg (fun n : Nat => (n : Int)) HT.out), m, rfl⟩
end Go.Proofs.Ytgkpdffgahadpaa

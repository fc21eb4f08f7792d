/- The walk of the reference's Read: what is written with codes of which none begins another is read back. -/
import Derived.Test.YtgkpdffgahadpaaSWrite
namespace Go.Proofs.Ytgkpdffgahadpaa
open Go.RowKit

/-- The last one of the first j symbols with this code, or less than 0. -/
def fnd (cs ls : List Nat) (k n : Nat) : Nat → Int
  | 0 => -1
  | j + 1 => if ls.getD j 0 = k ∧ cs.getD j 0 = n then (j : Int) else fnd cs ls k n j
theorem fnd_none (cs ls : List Nat) (k n : Nat) : ∀ j, (∀ t, t < j → ls.getD t 0 = k → cs.getD t 0 = n → False) → fnd cs ls k n j = -1
  | 0, _ => rfl
  | j + 1, h => by
    rw [fnd, if_neg (fun hh => h j (by omega) hh.1 hh.2)]
    exact fnd_none cs ls k n j fun t ht => h t (by omega)
theorem fnd_one (cs ls : List Nat) (k n s : Nat) (h1 : ls.getD s 0 = k) (h2 : cs.getD s 0 = n) : ∀ j, s < j → (∀ t, t < j → ls.getD t 0 = k → cs.getD t 0 = n → t = s) → fnd cs ls k n j = (s : Int)
  | 0, h, _ => by omega
  | j + 1, h, hu => by
    rw [fnd]
    by_cases hj : ls.getD j 0 = k ∧ cs.getD j 0 = n
    · rw [if_pos hj, hu j (by omega) hj.1 hj.2]
    · rw [if_neg hj]
      have : s ≠ j := fun e => hj (by subst e; exact ⟨h1, h2⟩)
      exact fnd_one cs ls k n s h1 h2 j (by omega) fun t ht => hu t (by omega)
theorem fnd_bd (cs ls : List Nat) (k n : Nat) : ∀ j, -1 ≤ fnd cs ls k n j ∧ fnd cs ls k n j < (j : Int)
  | 0 => by simp [fnd]
  | j + 1 => by
    have := fnd_bd cs ls k n j
    rw [fnd]; split <;> omega

/-- No code begins another. -/
structure Prefix (cs ls list : List Nat) : Prop where
  len : cs.length = ls.length
  mem : ∀ s ∈ list, s < ls.length ∧ 1 ≤ ls.getD s 0 ∧ ls.getD s 0 ≤ 15 ∧ cs.getD s 0 < 2 ^ ls.getD s 0
  free : ∀ s ∈ list, ∀ t, t < ls.length → 1 ≤ ls.getD t 0 → ls.getD t 0 ≤ ls.getD s 0 → cs.getD t 0 = cs.getD s 0 / 2 ^ (ls.getD s 0 - ls.getD t 0) → t = s

theorem Prefix.early {cs ls list : List Nat} (h : Prefix cs ls list) (s : Nat) (hs : s ∈ list) (k : Nat) (h1 : 1 ≤ k) (hk : k < ls.getD s 0) : fnd cs ls k (cs.getD s 0 / 2 ^ (ls.getD s 0 - k)) ls.length = -1 := by
  refine fnd_none _ _ _ _ _ fun t ht e1 e2 => ?_
  have := h.free s hs t ht (by omega) (by omega) (by rw [e2, e1])
  subst this; omega
theorem Prefix.there {cs ls list : List Nat} (h : Prefix cs ls list) (s : Nat) (hs : s ∈ list) : fnd cs ls (ls.getD s 0) (cs.getD s 0) ls.length = (s : Int) := by
  refine fnd_one _ _ _ _ s rfl rfl _ (h.mem s hs).1 fun t ht e1 e2 => ?_
  refine h.free s hs t ht (by have := (h.mem s hs).2.1; omega) (by omega) ?_
  rw [e1, Nat.sub_self, Nat.pow_zero, Nat.div_one]; exact e2

theorem written_drop (cs ls list : List Nat) (k : Nat) (h : k < list.length) : written cs ls (list.drop k) = wbits (cs.getD (list.getD k 0) 0) (ls.getD (list.getD k 0) 0) ++ written cs ls (list.drop (k + 1)) := by
  unfold written
  rw [List.drop_eq_getElem_cons h, List.flatMap_cons]
  have e : list.getD k 0 = list[k] := by simp [List.getD, h]
  rw [e]
theorem half_step (c m : Nat) : c / 2 ^ (m + 1) * 2 + c / 2 ^ m % 2 = c / 2 ^ m := by
  rw [Nat.pow_succ, ← Nat.div_div_eq_div_mul]
  omega

def sAddr : Value → Option Addr
  | .slice a _ _ => a
  | _ => none
def sLen : Value → Nat
  | .slice _ n _ => n
  | _ => 0
def sCap : Value → Nat
  | .slice _ _ c => c
  | _ => 0

set_option maxHeartbeats 4000000 in
set_option maxRecDepth 100000 in
theorem read_any (vb vc vn : Value) (list cs ls : List Nat) (w : World) (hb : NRow .i64 w vb (written cs ls list)) (hc : NRow .i64 w vc cs) (hn : NRow .i64 w vn ls) (hlen : list.length ≤ 10000) (hll : ls.length ≤ 1000) (hP : Prefix cs ls list) (h16 : ∀ s, cs.getD s 0 < 65536) (h15 : ∀ s, ls.getD s 0 ≤ 15) :
    Calls Try.prog 23 #[vb, vc, vn] w fun e w' => ∃ v', e = .returned (.tuple #[v', .bool true]) ∧ w'.ownsRow w.heap.size 3 1 v' list.length (nv .i64 list) ∧ Below w.heap.size w w' := by
  obtain ⟨i0, hi, hz0, hz1, hz2⟩ := info_parts info_intw
  have HWL := Lib.hid (fun k : Nat => written_len cs ls h15 (list.drop k))
  have HNB := Lib.hid (fun x : NRow .i64 w vb (written cs ls list) => x)
  obtain ⟨ac, capc, rfl, _, hc⟩ := hc
  obtain ⟨an, capn, rfl, _, hn⟩ := hn
  have HC := Lib.hid hc
  have HN := Lib.hid hn
  have HP := Lib.hid hP
  have H15 := Lib.hid h15
  have H16 := Lib.hid h16
  have HB0 := Lib.hid hb
  clear hc hn hP h15 h16 HNB
  obtain ⟨ab, capb, rfl, _, _⟩ := hb
  go_enter Try.func23, Try.ntmps23
  go_wp2
  go_loopw [0, 8] (fun vb out wr => ∃ i : Nat, i ≤ list.length ∧ NRow .i64 w vb (written cs ls (list.drop i)) ∧ wr.ownsRow w.heap.size 3 1 out i (nv .i64 (list.take i)) ∧ Below w.heap.size w wr ∧ vb = .slice (sAddr vb) (written cs ls (list.drop i)).length (sCap vb)) (fun vb _ _ => sLen vb)
  case atStart => exact ⟨0, Nat.zero_le _, HB0.out, World.ownsRow_nil _ _ _ _, Below.refl _ _, rfl⟩
  case round =>
    obtain ⟨i, hi', hnr, hown, hbel, hvb⟩ := hrel
    obtain ⟨ab, capb, rfl, hcb, hbb⟩ := hnr
    clear hvb HB0
    by_cases hlt : i < list.length
    · have HWD := Lib.hid (written_drop cs ls list i hlt)
      have hm := HP.out.mem _ (getD_mem list i hlt)
      have HPE := Lib.hid (HP.out.early _ (getD_mem list i hlt))
      have HPT := Lib.hid (HP.out.there _ (getD_mem list i hlt))
      have HTS := Lib.hid (take_succ_getD list i hlt)
      have hc16 := H16.out (list.getD i 0)
      generalize list.getD i 0 = s at *
      obtain ⟨hs1, hl1, hl15, hcl⟩ := hm
      generalize hlv : ls.getD s 0 = l at *
      generalize hcv : cs.getD s 0 = c at *
      have hwl := congrArg List.length HWD.out
      rw [List.length_append, wbits_len] at hwl
      have hwl2 := written_len cs ls H15.out (list.drop i)
      have hwl3 : (list.drop i).length ≤ 10000 := by rw [List.length_drop]; omega
      obtain ⟨b, o, rfl, hbl, hcc⟩ := hbb (by omega)
      have HCC : Hid (∀ j, j < l → w.cell? ⟨b, o + j, none⟩ = some (.int .i64 ((c / 2 ^ (l - 1 - j) % 2 : Nat) : Int))) := Lib.hid fun j hj => by
        rw [hcc j (by omega), HWD.out]
        simp [wbits, List.getD, List.getElem?_append, hj]
      have HRest : Hid (∀ j, j < (written cs ls (list.drop (i + 1))).length → w.cell? ⟨b, o + (l + j), none⟩ = some (.int .i64 (((written cs ls (list.drop (i + 1))).getD j 0 : Nat) : Int))) := Lib.hid fun j hj => by
        rw [hcc (l + j) (by omega), HWD.out]
        simp only [List.getD_eq_getElem?_getD]
        rw [List.getElem?_append_right (by rw [wbits_len]; omega), wbits_len, Nat.add_sub_cancel_left]
      have hcap := hcb.2
      generalize hRv : (written cs ls (list.drop i)).length = R at *
      have HWL3 := Lib.hid hwl
      have hlR : l ≤ R := by omega
      have hR : R ≤ 150000 := by omega
      have HB := Lib.hid hbel
      have HO := Lib.hid hown
      have HCL := Lib.hid hcl
      have HVS := Lib.hid (And.intro hlv hcv)
      clear hbb hcc hcb hwl hwl2 hwl3 hbel hown hcl hlv hcv hRv HWL
      have hR0 : 0 < R := by omega
      go_wp2
      go_loopw [9, 10, 11] (fun fd nn kk wr2 => ∃ k : Nat, k ≤ l ∧ kk = .int .i64 (k : Nat) ∧ nn = .int .i64 ((c / 2 ^ (l - k) : Nat) : Int) ∧ wr2 = wr ∧ fd = .int .i64 (if k < l then (-1 : Int) else ((s : Nat) : Int))) (fun _ _ kk _ => l - (intOf kk).toNat)
      case atStart => exact ⟨0, Nat.zero_le _, rfl, by rw [Nat.sub_zero, Nat.div_eq_of_lt HCL.out]; rfl, rfl, by rw [if_pos (by omega)]⟩
      case round =>
        obtain ⟨k, hk, rfl, rfl, rfl, rfl⟩ := hrel
        by_cases hkl : k < l
        · have hck : wr.cell? ⟨b, o + k, none⟩ = _ := (HB.out.cell (by exact hbl)).trans (HCC.out k hkl)
          have hst := half_step c (l - 1 - k)
          rw [show l - 1 - k + 1 = l - k by omega] at hst
          have hm0 : c / 2 ^ (l - k) ≤ c := Nat.div_le_self _ _
          have hm1 : c / 2 ^ (l - 1 - k) ≤ c := Nat.div_le_self _ _
          have hy2 : c / 2 ^ (l - 1 - k) % 2 < 2 := Nat.mod_lt _ (by omega)
          have hE1 := HPE.out (k + 1) (by omega)
          have hE2 := HPT.out
          rw [if_pos hkl]
          have e1 : l - (k + 1) = l - 1 - k := by omega
          rw [e1] at hE1
          have hfin : fnd cs ls (k + 1) (c / 2 ^ (l - 1 - k)) ls.length = if k + 1 < l then (-1 : Int) else ((s : Nat) : Int) := by
            by_cases h9 : k + 1 < l
            · rw [if_pos h9]; exact hE1 h9
            · have e2 : k + 1 = l := by omega
              rw [if_neg h9, e2, show l - 1 - k = 0 by omega, Nat.pow_zero, Nat.div_one]; exact hE2
          have HF := Lib.hid hfin
          have HE1 := Lib.hid e1
          clear hE1 hE2 hfin e1
          generalize c / 2 ^ (l - 1 - k) % 2 = y at *
          generalize c / 2 ^ (l - k) = m0 at *
          generalize hm1v : c / 2 ^ (l - 1 - k) = m1 at *
          have HM1 := Lib.hid hm1v
          have HST := Lib.hid hst
          clear hm1v
          have d1 : decide ((k : Int) < (R : Int)) = true := decide_eq_true (by omega)
          have d2 : decide ((k : Int) < 15) = true := decide_eq_true (by omega)
          go_wp2
          go_loopw [9, 12, 13, 40] (fun fd _ _ jj wr3 => ∃ j : Nat, j ≤ ls.length ∧ jj = .int .i64 (j : Nat) ∧ wr3 = wr ∧ ∃ q : Int, fd = .int .i64 q ∧ q = fnd cs ls (k + 1) m1 j) (fun _ _ _ jj _ => ls.length - (intOf jj).toNat)
          case atStart => exact ⟨0, Nat.zero_le _, rfl, rfl, -1, rfl, rfl⟩
          case round =>
            obtain ⟨j, hj, rfl, rfl, q, rfl, hq⟩ := hrel
            have HQ := Lib.hid hq
            clear hq
            by_cases hjl : j < ls.length
            · obtain ⟨b2, o2, rfl, hbl2, hc2⟩ := HN.out (by omega)
              obtain ⟨b3, o3, rfl, hbl3, hc3⟩ := HC.out (by have := HP.out.len; omega)
              have hk2 : wr.cell? ⟨b2, o2 + j, none⟩ = _ := (HB.out.cell (by exact hbl2)).trans (hc2 j hjl)
              have hk3 : wr.cell? ⟨b3, o3 + j, none⟩ = _ := (HB.out.cell (by exact hbl3)).trans (hc3 j (by have := HP.out.len; omega))
              have hjc : j < cs.length := by have := HP.out.len; omega
              have HF1 : Hid (fnd cs ls (k + 1) m1 (j + 1) = if ls.getD j 0 = k + 1 ∧ cs.getD j 0 = m1 then (j : Int) else fnd cs ls (k + 1) m1 j) := rfl
              have g1 := H15.out j
              have g2 := H16.out j
              clear hc2 hc3
              generalize ls.getD j 0 = x at *
              generalize cs.getD j 0 = z at *
              by_cases hx : x = k + 1
              · have t1 : ((x : Int) == (k : Int) + 1) = true := by simp; omega
                by_cases hz : z = m1
                · have t2 : ((z : Int) == (m0 : Int) * 2 + (y : Int)) = true := by simp; omega
                  have HX := Lib.hid (And.intro hx hz)
                  clear hx hz hst
                  go_wp2
                  go_roundw
                  case rel => exact ⟨j + 1, by omega, by go_num, trivial, _, rfl, by rw [HF1.out, if_pos HX.out]⟩
                  case measure => simp [intOf]; omega
                · have t2 : ((z : Int) == (m0 : Int) * 2 + (y : Int)) = false := by simp; omega
                  have HX := Lib.hid hz
                  clear hx hz hst
                  go_wp2
                  go_roundw
                  case rel => exact ⟨j + 1, by omega, by go_num, trivial, _, rfl, by rw [HF1.out, if_neg (fun h => HX.out h.2)]; exact HQ.out⟩
                  case measure => simp [intOf]; omega
              · have t1 : ((x : Int) == (k : Int) + 1) = false := by simp; omega
                have HX := Lib.hid hx
                clear hx hst
                go_wp2
                go_roundw
                case rel => exact ⟨j + 1, by omega, by go_num, trivial, _, rfl, by rw [HF1.out, if_neg (fun h => HX.out h.1)]; exact HQ.out⟩
                case measure => simp [intOf]; omega
            · have hjl2 : j = ls.length := by omega
              subst hjl2
              have hq := HQ.out
              rw [HF.out] at hq
              clear HQ hst
              go_wp2
              go_roundw
              case rel =>
                refine ⟨k + 1, by omega, by go_num, ?_, trivial, by rw [hq]⟩
                rw [HE1.out, HM1.out, ← HST.out]; go_num
              case measure => simp [intOf]; omega
        · have hkl2 : k = l := by omega
          subst hkl2
          rw [if_neg hkl, Nat.sub_self, Nat.pow_zero, Nat.div_one]
          have d0 : decide ((s : Int) < 0) = false := decide_eq_false (by omega)
          clear HCC
          have hsz := HB.out.size
          go_wp2_with (at_builtin; refine wpList_app1 wr w rfl (.tmp 60) (.tmp 62) 24 rfl Try.underlying24 hi hz0 hz1 hz2 (by decide) _ i _ s _ rfl HO.out rfl (cell_new _ _ _ _) (by omega) hsz HB.out ?_; intro v' w1 hown1 hbel1 _ _ _)
          go_roundw
          case rel =>
            have hRk : R - k = (written cs ls (list.drop (i + 1))).length := by have := HWL3.out; omega
            refine ⟨i + 1, by omega, ?_, ?_, hbel1, by rw [hRk]; rfl⟩
            · rw [hRk]
              refine ⟨_, _, rfl, ⟨fun h => (by split at h <;> cases h), by omega⟩, fun h0 => ?_⟩
              rw [if_neg (by omega)]
              exact ⟨b, o + k, rfl, hbl, fun j hj => by rw [Nat.add_assoc]; exact HRest.out j hj⟩
            · rw [HTS.out]; exact hown1
          case measure => simp [sLen]; omega
    · have hil : i = list.length := by omega
      subst hil
      have hz : (written cs ls (list.drop list.length)).length = 0 := by rw [List.drop_length]; rfl
      rw [hz]
      rw [List.take_length] at hown
      have HB := Lib.hid hbel
      have HO := Lib.hid hown
      clear hbel hown hbb hcb
      go_wp2
      go_ret2
      exact ⟨_, rfl, HO.out, HB.out⟩
end Go.Proofs.Ytgkpdffgahadpaa

/- The walk of the reference's Canon: codes of lengths by RFC 1951, section 3.2.2. -/
import Derived.Test.YtokbkbchblfcoaaSUsed
namespace Go.Proofs.Ytokbkbchblfcoaa
open Go.RowKit

/-- The code behind the last one of so many bits. -/
def codeEnd (l : List Nat) : Nat → Nat
  | 0 => 0
  | k + 1 => 2 * codeEnd l k + l.count (k + 1)
/-- The code of a symbol. -/
def canonAt (l : List Nat) (i : Nat) : Nat := if l.getD i 0 = 0 then 0 else 2 * codeEnd l (l.getD i 0 - 1) + (l.take i).count (l.getD i 0)
/-- The codes. -/
def canonL (l : List Nat) : List Nat := (List.range l.length).map (canonAt l)
/-- The codes of less than k bits, and of the first j of k bits. -/
def canonP (l : List Nat) (k j : Nat) : List Nat := (List.range l.length).map fun i => if l.getD i 0 < k ∨ (l.getD i 0 = k ∧ i < j) then canonAt l i else 0

theorem canonP_len (l : List Nat) (k j : Nat) : (canonP l k j).length = l.length := by simp [canonP]
theorem canonP_start (l : List Nat) : canonP l 1 0 = List.replicate l.length 0 := by
  apply List.ext_getElem
  · simp [canonP]
  · intro i h1 h2
    simp only [canonP, List.getElem_map, List.getElem_range, List.getElem_replicate]
    split
    · rename_i h
      rcases h with h | h
      · unfold canonAt; rw [if_pos (by omega)]
      · omega
    · rfl
theorem canonP_next (l : List Nat) (k : Nat) : canonP l k l.length = canonP l (k + 1) 0 := by
  apply List.ext_getElem
  · simp [canonP]
  · intro i h1 h2
    simp only [canonP, List.getElem_map, List.getElem_range]
    rw [canonP_len] at h1
    by_cases h : l.getD i 0 < k
    · rw [if_pos (.inl h), if_pos (.inl (by omega))]
    · by_cases h3 : l.getD i 0 = k
      · rw [if_pos (.inr ⟨h3, h1⟩), if_pos (.inl (by omega))]
      · rw [if_neg (by omega), if_neg (by omega)]
theorem canonP_hit (l : List Nat) (k j : Nat) (hk : 0 < k) (h : l.getD j 0 = k) : canonP l k (j + 1) = (canonP l k j).set j (2 * codeEnd l (k - 1) + (l.take j).count k) := by
  apply List.ext_getElem
  · simp [canonP]
  · intro i h1 h2
    simp only [canonP, List.getElem_map, List.getElem_range, List.getElem_set]
    by_cases hij : j = i
    · subst hij
      rw [if_pos rfl, if_pos (.inr ⟨h, by omega⟩)]
      unfold canonAt
      rw [if_neg (by omega), h]
    · rw [if_neg hij]
      by_cases h3 : l.getD i 0 < k ∨ (l.getD i 0 = k ∧ i < j)
      · rw [if_pos h3, if_pos (by omega)]
      · rw [if_neg h3, if_neg (by omega)]
theorem canonP_miss (l : List Nat) (k j : Nat) (h : l.getD j 0 ≠ k) : canonP l k (j + 1) = canonP l k j := by
  apply List.ext_getElem
  · simp [canonP]
  · intro i h1 h2
    simp only [canonP, List.getElem_map, List.getElem_range]
    by_cases hij : j = i
    · subst hij
      by_cases h3 : l.getD j 0 < k
      · rw [if_pos (.inl h3), if_pos (.inl h3)]
      · rw [if_neg (by omega), if_neg (by omega)]
    · by_cases h3 : l.getD i 0 < k ∨ (l.getD i 0 = k ∧ i < j)
      · rw [if_pos h3, if_pos (by omega)]
      · rw [if_neg h3, if_neg (by omega)]
theorem canonP_all (l : List Nat) (h : ∀ x ∈ l, x ≤ 15) : canonP l 16 0 = canonL l := by
  apply List.ext_getElem
  · simp [canonP, canonL]
  · intro i h1 h2
    simp only [canonP, canonL, List.getElem_map, List.getElem_range]
    rw [canonP_len] at h1
    have := h _ (getD_mem l i h1)
    rw [if_pos (.inl (by omega))]
theorem count_take_succ (l : List Nat) (k j : Nat) (hj : j < l.length) : (l.take (j + 1)).count k = (l.take j).count k + if l.getD j 0 = k then 1 else 0 := by
  rw [take_succ_getD l j hj, List.count_append]
  generalize l.getD j 0 = x
  by_cases h : x = k
  · subst h; simp
  · simp [h]
theorem codeEnd_le (l : List Nat) : ∀ k, codeEnd l k ≤ l.length * (2 ^ k - 1)
  | 0 => Nat.zero_le _
  | k + 1 => by
    have h1 := codeEnd_le l k
    have h2 : l.count (k + 1) ≤ l.length := List.count_le_length
    have h3 := Nat.two_pow_pos k
    have e : l.length * (2 ^ (k + 1) - 1) = 2 * (l.length * (2 ^ k - 1)) + l.length := by
      have e2 : 2 ^ (k + 1) - 1 = 2 * (2 ^ k - 1) + 1 := by rw [Nat.pow_succ]; omega
      rw [e2, Nat.mul_add, Nat.mul_one, ← Nat.mul_assoc, Nat.mul_comm l.length 2, Nat.mul_assoc]
    simp only [codeEnd]; omega
theorem codeEnd_lt (l : List Nat) (k : Nat) (hk : k ≤ 15) (hl : l.length < 65536) : codeEnd l k < 4294967296 := by
  have h1 := codeEnd_le l k
  have h2 : 2 ^ k ≤ 2 ^ 15 := Nat.pow_le_pow_right (by omega) hk
  have h3 : l.length * (2 ^ k - 1) ≤ 65535 * 32767 := Nat.mul_le_mul (by omega) (by have : (2 : Nat) ^ 15 = 32768 := rfl; omega)
  omega

set_option maxHeartbeats 2000000 in
set_option maxRecDepth 100000 in
theorem canon_any (v : Value) (l : List Nat) (w : World) (hr : NRow .i64 w v l) (hlen : l.length < 65536) (h15 : ∀ x ∈ l, x ≤ 15) :
    Calls Try.prog 18 #[v] w fun e w' => ∃ v', e = .returned v' ∧ w'.ownsRow w.heap.size 3 1 v' l.length (nv .i64 (canonL l)) ∧ Below w.heap.size w w' := by
  obtain ⟨i0, hi, hz0, hz1, hz2⟩ := info_parts info_int
  obtain ⟨a, cap, rfl, hn1, hr⟩ := hr
  have hr' := Lib.hid hr
  have H15 := Lib.hid h15
  have HL := Lib.hid hlen
  clear hr h15 hn1
  go_enter Try.func18, Try.ntmps18
  go_wp2_with (at_make; refine wpList_make0 w w rfl _ _ 26 rfl Try.underlying26 hi hz0 hz1 hz2 (by decide) .i64 .i64 _ _ l.length rfl rfl rfl rfl (by omega) (Nat.le_refl _) (Below.refl _ _) ?_; intro w1 hown1 hbel1; rw [← canonP_start] at hown1; have HO := Lib.hid hown1; have HB := Lib.hid hbel1; clear hown1 hbel1)
  obtain ⟨g, hg⟩ : ∃ g, g = w.heap.size := ⟨_, rfl⟩
  have HG : Hid (g = w.heap.size) := hg
  rw [← hg]
  clear hg
  go_loopw [4, 5, 6, 7, 19] (fun code kk _ _ _ wr => ∃ k c : Nat, 1 ≤ k ∧ k ≤ 16 ∧ kk = .int .i64 k ∧ code = .int .i64 c ∧ Hid (c = codeEnd l (k - 1)) ∧ wr.ownsRow w.heap.size 3 1 (.slice (some ⟨g, 0, none⟩) l.length l.length) l.length (nv .i64 (canonP l k 0)) ∧ Below w.heap.size w wr) (fun _ kk _ _ _ _ => 17 - (intOf kk).toNat)
  case atStart => exact ⟨1, 0, by omega, by omega, rfl, rfl, rfl, by rw [HG.out]; exact HO.out, HB.out⟩
  case round =>
    obtain ⟨k, c, hk1, hk16, rfl, rfl, hcc, hown, hbel⟩ := hrel
    clear HO HB
    by_cases hlt : k ≤ 15
    · have hcb : c < 4294967296 := by rw [hcc.out]; exact codeEnd_lt l (k - 1) (by omega) HL.out
      have HO := Lib.hid hown
      have HB := Lib.hid hbel
      clear hown hbel
      go_wp2
      go_loopw [4, 6, 7, 19] (fun code _ _ ii wr => ∃ j d : Nat, j ≤ l.length ∧ ii = .int .i64 j ∧ code = .int .i64 d ∧ Hid (d = 2 * codeEnd l (k - 1) + (l.take j).count k) ∧ wr.ownsRow w.heap.size 3 1 (.slice (some ⟨g, 0, none⟩) l.length l.length) l.length (nv .i64 (canonP l k j)) ∧ Below w.heap.size w wr) (fun _ _ _ ii _ => l.length - (intOf ii).toNat)
      case atStart => exact ⟨0, 2 * c, Nat.zero_le _, rfl, by go_num, by rw [List.take_zero, List.count_nil, hcc.out]; rfl, HO.out, HB.out⟩
      case round =>
        obtain ⟨j, d, hj, rfl, rfl, hdd, hown, hbel⟩ := hrel
        clear HO HB
        by_cases hjl : j < l.length
        · obtain ⟨b, o, rfl, hbl, hc⟩ := hr'.out (by omega)
          have hck : wr.cell? ⟨b, o + j, none⟩ = _ := (hbel.cell (by exact hbl)).trans (hc j hjl)
          have hdb : d < 8590999999 := by
            have h1 := codeEnd_lt l (k - 1) (by omega) HL.out
            have h2 : (l.take j).count k ≤ j := Nat.le_trans List.count_le_length (List.length_take_le _ _)
            have h3 := HL.out
            rw [hdd.out]; omega
          have HC := Lib.hid (count_take_succ l k j hjl)
          have HH := Lib.hid (canonP_hit l k j (by omega))
          have HM := Lib.hid (canonP_miss l k j)
          have hco := owns_cell hown j hjl (canonP_len l k j).symm
          have hfr := hown.frozenAt j
          have HO := Lib.hid hown
          have HB := Lib.hid hbel
          clear hc hr' H15 hown hbel
          generalize l.getD j 0 = x at *
          generalize (canonP l k j).getD j 0 = y at *
          by_cases hxk : x = k
          · have hxk' : ((x : Int) == (k : Int)) = true := by simp; omega
            have hg0 : w.heap.size ≤ g := by have := HG.out; omega
            have HX := Lib.hid hxk
            clear hxk
            go_wp2
            go_roundw
            case rel =>
              refine ⟨j + 1, d + 1, by omega, by go_num, by go_num, ?_, ?_, HB.out.setCell hg0 _⟩
              · have h1 := HC.out
                rw [if_pos HX.out] at h1
                rw [h1, hdd.out]; exact rfl
              · rw [HH.out HX.out, ← hdd.out]
                exact owns_set HO.out j d
            case measure => simp [intOf]; omega
          · have hxk' : ((x : Int) == (k : Int)) = false := by simp; omega
            have HX := Lib.hid hxk
            clear hxk
            go_wp2
            go_roundw
            case rel =>
              refine ⟨j + 1, d, by omega, by go_num, rfl, ?_, ?_, HB.out⟩
              · have h1 := HC.out
                rw [if_neg HX.out] at h1
                rw [h1, hdd.out]; exact rfl
              · rw [HM.out HX.out]
                exact HO.out
            case measure => simp [intOf]; omega
        · have hkl : j = l.length := by omega
          subst hkl
          have HO := Lib.hid hown
          have HB := Lib.hid hbel
          clear hown hbel
          go_wp2
          go_roundw
          case rel =>
            refine ⟨k + 1, d, by omega, by omega, by go_num, rfl, ?_, ?_, HB.out⟩
            · have h := hdd.out
              rw [List.take_length] at h
              rw [h]
              obtain ⟨k', rfl⟩ : ∃ k', k = k' + 1 := ⟨k - 1, by omega⟩
              exact rfl
            · rw [← canonP_next]; exact HO.out
          case measure => simp [intOf]; omega
    · have hk : k = 16 := by omega
      subst hk
      rw [canonP_all l H15.out] at hown
      have HO := Lib.hid hown
      have HB := Lib.hid hbel
      clear hown hbel
      go_wp2
      go_ret
      exact ⟨_, rfl, HO.out, HB.out⟩
end Go.Proofs.Ytokbkbchblfcoaa

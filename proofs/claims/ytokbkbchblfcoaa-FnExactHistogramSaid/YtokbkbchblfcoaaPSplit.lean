/- The walk of histogramSplit: the bytes counted by four quarters. -/
import Derived.Test.YtokbkbchblfcoaaPHist
namespace Go.Proofs.Ytokbkbchblfcoaa
open Go.RowKit

/-- The length of a slice value, for a loop's measure. -/
def lenV : Value → Nat | .slice _ n _ => n | _ => 0

theorem NRow.tail {k : IntKind} {w : World} {b o cap : Nat} {m : List Nat} (h : NRow k w (.slice (some ⟨b, o, none⟩) m.length cap) m) (h0 : 0 < m.length) :
    NRow k w (.slice (if cap = 1 then some ⟨b, o, none⟩ else some ⟨b, o + 1, none⟩) (m.length - 1) (cap - 1)) (m.drop 1) := by
  obtain ⟨a, cap', he, ⟨hn, hcap⟩, hc⟩ := h
  cases he
  refine ⟨_, _, by rw [List.length_drop], ⟨(fun h => by split at h <;> cases h), by rw [List.length_drop]; omega⟩, fun h1 => ?_⟩
  rw [List.length_drop] at h1
  obtain ⟨b', o', he, hb, hc⟩ := hc h0
  cases he
  rw [if_neg (by omega)]
  refine ⟨b, o + 1, rfl, hb, fun i hi => ?_⟩
  rw [List.length_drop] at hi
  have h2 := hc (i + 1) (by omega)
  rw [show o + 1 + i = o + (i + 1) by omega, h2]
  simp [List.getD]

/-- The first k of each quarter. -/
def quarters (m : List Nat) (q k : Nat) : List Nat := m.take k ++ ((m.drop q).take k ++ ((m.drop (q + q)).take k ++ (m.drop (q + q + q)).take k))
theorem quarters_zero (m : List Nat) (q : Nat) : quarters m q 0 = [] := by simp [quarters]
theorem quarters_succ (m : List Nat) (q k : Nat) (h : q + q + q + k < m.length) :
    (quarters m q (k + 1)).Perm (quarters m q k ++ [m.getD k 0] ++ [m.getD (q + k) 0] ++ [m.getD (q + q + k) 0] ++ [m.getD (q + q + q + k) 0]) := by
  have g : ∀ i, i + k < m.length → (m.drop i).take (k + 1) = (m.drop i).take k ++ [m.getD (i + k) 0] := by
    intro i hi
    rw [take_succ_getD _ k (by rw [List.length_drop]; omega)]
    simp [List.getD]
  have g0 := g 0 (by omega)
  rw [List.drop_zero, Nat.zero_add] at g0
  unfold quarters
  rw [g0, g q (by omega), g (q + q) (by omega), g (q + q + q) (by omega)]
  generalize m.take k = A
  generalize (m.drop q).take k = B
  generalize (m.drop (q + q)).take k = C
  generalize (m.drop (q + q + q)).take k = D
  refine List.perm_iff_count.2 fun x => ?_
  simp only [List.count_append]
  omega
theorem quarters_all (m : List Nat) (q : Nat) (h : 4 * q = m.length) : (quarters m q q).Perm m := by
  have e : m = m.take q ++ ((m.drop q).take q ++ ((m.drop (q + q)).take q ++ (m.drop (q + q + q)).take q)) := by
    have h1 : (m.drop (q + q + q)).take q = m.drop (q + q + q) := List.take_of_length_le (by rw [List.length_drop]; omega)
    have h2 : ∀ i, (m.drop i).take q ++ m.drop (i + q) = m.drop i := by
      intro i
      conv => rhs; rw [← List.take_append_drop q (m.drop i), List.drop_drop]
    rw [h1, h2, h2, List.take_append_drop]
  unfold quarters
  rw [← e]

theorem and_three (n : Nat) (h : n < 65536) : bits BinOp.and IntKind.i64 (n : Int) 3 = ((n % 4 : Nat) : Int) := by
  have e : (3 : Int) = 2 ^ 2 - 1 := rfl
  rw [e, bits_mask .i64 17 (by decide) (fun m h0 h1 => IntWalk.i64_in m (by have : (2 : Int) ^ 17 = 131072 := rfl; omega)) 2 (by omega) n (by omega) (by have : (2 : Int) ^ 17 = 131072 := rfl; omega)]
  omega

/-- One more byte counted, in the words of the walk. -/
theorem cnt_step {w : World} {base e g : Nat} {L : List Nat} (h : w.ownsRow base e 1 (.slice (some ⟨g, 0, none⟩) 256 256) 256 (nv .u16 (cnt L))) (x : Nat) :
    (w.setCell ⟨g, x, none⟩ (.int .u16 ((L.count x : Int) + 1))).ownsRow base e 1 (.slice (some ⟨g, 0, none⟩) 256 256) 256 (nv .u16 (cnt (L ++ [x]))) := by
  rw [cnt_snoc]; exact owns_set h x (L.count x + 1)
theorem cnt_cell {w : World} {base e g : Nat} {L : List Nat} (h : w.ownsRow base e 1 (.slice (some ⟨g, 0, none⟩) 256 256) 256 (nv .u16 (cnt L))) (x : Nat) (hx : x < 256) :
    w.cell? ⟨g, x, none⟩ = some (.int .u16 (L.count x : Int)) := by
  rw [owns_cell h x hx (cnt_len _).symm, cnt_getD _ x hx]

/-- The first loop: bytes till their number is divided by four. -/
def SplitInv (W0 wr : World) (l : List Nat) (g : Nat) (b : Value) : Prop :=
  ∃ j m, m = l.drop j ∧ j ≤ l.length ∧ NRow .u8 W0 b m ∧ wr.ownsRow W0.heap.size 22 1 (.slice (some ⟨g, 0, none⟩) 256 256) 256 (nv .u16 (cnt (l.take j))) ∧ Below W0.heap.size W0 wr

set_option maxHeartbeats 1000000 in
set_option maxRecDepth 100000 in
theorem split_any (W0 w : World) (v : Value) (l : List Nat) (g : Nat) (hr : NRow .u8 W0 v l) (hb : Below W0.heap.size W0 w) (hlen : l.length < 65536) (h256 : ∀ x ∈ l, x < 256)
    (hown : w.ownsRow W0.heap.size 22 1 (.slice (some ⟨g, 0, none⟩) 256 256) 256 (nv .u16 (cnt []))) :
    Calls Try.prog 48 #[v, .slice (some ⟨g, 0, none⟩) 256 256] w fun e w' => e = .returned (.tuple #[]) ∧ w'.ownsRow W0.heap.size 22 1 (.slice (some ⟨g, 0, none⟩) 256 256) 256 (nv .u16 (cnt l)) ∧ Below W0.heap.size W0 w' := by
  have HI : SplitInv W0 w l g v := ⟨0, l, rfl, Nat.zero_le _, hr, hown, hb⟩
  have H256 := Lib.hid h256
  clear hr h256 hown hb
  go_enter Try.func48, Try.ntmps48
  go_wp2
  go_loopw [0] (fun b wr => SplitInv W0 wr l g b) (fun b _ => lenV b)
  case atStart => exact HI
  case round =>
    obtain ⟨j, m, hm, hj, hrow, hown, hbel⟩ := hrel
    have HM := Lib.hid hm
    have hml : m.length + j ≤ l.length ∧ l.length ≤ m.length + j := by rw [hm, List.length_drop]; omega
    clear hm HI
    obtain ⟨a, cap, rfl, ⟨hnil, hcap⟩, hrow⟩ := hrow
    have hand := and_three m.length (by omega)
    by_cases h4 : m.length % 4 = 0
    · obtain ⟨q, hq4⟩ : ∃ q, 4 * q = m.length := ⟨m.length / 4, by omega⟩
      have hqz : ((m.length % 4 : Nat) : Int) = 0 := by omega
      rw [hqz] at hand
      have hdiv : (m.length : Int) / 4 = (q : Int) := by omega
      have hq1 : 4 * q ≤ m.length := by omega
      have hq2 : m.length ≤ 4 * q := by omega
      clear hqz h4 hq4
      have HR := Lib.hid hrow
      have HO := Lib.hid hown
      have HB := Lib.hid hbel
      have HN := Lib.hid hnil
      clear hrow hown hbel hnil
      by_cases hq0 : q = 0
      · subst hq0
        have hm0 : m.length ≤ 0 := by omega
        have hl : l.take j = l := List.take_of_length_le (by omega)
        have HL := Lib.hid hl
        clear hl hq1 hq2
        have w1 : IntKind.i64.wrap (((0 : Nat) : Int) + ((0 : Nat) : Int)) = 0 := by rw [IntWalk.i64_in _ (by omega)]; rfl
        have w2 : IntKind.i64.wrap (0 + ((0 : Nat) : Int)) = 0 := by rw [IntWalk.i64_in _ (by omega)]; rfl
        cases a with
        | none =>
          obtain rfl := HN.out rfl
          go_wp2
          go_quiet (fail)
          go_wp2
          go_quiet (fail)
          go_wp2
          go_loopw [66] (fun i wr => i = .int .i64 0 ∧ wr.ownsRow W0.heap.size 22 1 (.slice (some ⟨g, 0, none⟩) 256 256) 256 (nv .u16 (cnt l)) ∧ Below W0.heap.size W0 wr) (fun _ _ => 0)
          case atStart => exact ⟨rfl, by have h := HO.out; rw [HL.out] at h; exact h, below_dN HB.out _⟩
          case round =>
            obtain ⟨rfl, hown, hbel⟩ := hrel
            go_wp2
            go_end0
            exact ⟨rfl, hown, hbel⟩
        | some ad =>
          go_wp2
          go_quiet (fail)
          go_wp2
          go_quiet (fail)
          go_wp2
          go_loopw [66] (fun i wr => i = .int .i64 0 ∧ wr.ownsRow W0.heap.size 22 1 (.slice (some ⟨g, 0, none⟩) 256 256) 256 (nv .u16 (cnt l)) ∧ Below W0.heap.size W0 wr) (fun _ _ => 0)
          case atStart => exact ⟨rfl, by have h := HO.out; rw [HL.out] at h; exact h, below_dN HB.out _⟩
          case round =>
            obtain ⟨rfl, hown, hbel⟩ := hrel
            go_wp2
            go_end0
            exact ⟨rfl, hown, hbel⟩
      · obtain ⟨b, o, rfl, hbl, hc⟩ := HR.out (by omega)
        have w1 : IntKind.i64.wrap ((q : Int) + q) = ((q + q : Nat) : Int) := by rw [IntWalk.i64_in _ (by omega)]; simp
        have w2 : IntKind.i64.wrap (((q + q : Nat) : Int) + q) = ((q + q + q : Nat) : Int) := by rw [IntWalk.i64_in _ (by omega)]; simp
        have c1 : ¬ cap = q := by omega
        have c2 : ¬ cap = q + q := by omega
        have c3 : ¬ cap = q + q + q := by omega
        go_wp2
        go_quiet (fail)
        clear w1 w2 c1 c2 c3
        go_wp2
        go_quiet (fail)
        go_wp2
        have HC := Lib.hid hc
        clear hc
        go_loopw [66] (fun i wr => ∃ (k : Nat) (L : List Nat), k ≤ q ∧ i = .int .i64 k ∧ L.length ≤ j + 4 * k ∧ Hid (L.Perm (l.take j ++ quarters m q k)) ∧ wr.ownsRow W0.heap.size 22 1 (.slice (some ⟨g, 0, none⟩) 256 256) 256 (nv .u16 (cnt L)) ∧ Below W0.heap.size W0 wr) (fun i _ => q - (intOf i).toNat)
        case atStart => exact ⟨0, l.take j, Nat.zero_le _, rfl, by have := List.length_take_le j l; omega, by rw [quarters_zero, List.append_nil]; exact List.Perm.refl _, HO.out, below_dN HB.out _⟩
        case round =>
          obtain ⟨k, L, hk, rfl, hL, hperm, hown, hbel⟩ := hrel
          clear HO HB
          by_cases hlt : k < q
          · have e0 : wr.cell? ⟨b, o + k, none⟩ = _ := (hbel.cell (by exact hbl)).trans (HC.out k (by omega))
            have e1 : wr.cell? ⟨b, o + q + k, none⟩ = some (.int .u8 ((m.getD (q + k) 0 : Nat) : Int)) := by
              rw [Nat.add_assoc]; exact (hbel.cell (by exact hbl)).trans (HC.out (q + k) (by omega))
            have e2 : wr.cell? ⟨b, o + (q + q) + k, none⟩ = some (.int .u8 ((m.getD (q + q + k) 0 : Nat) : Int)) := by
              rw [Nat.add_assoc]; exact (hbel.cell (by exact hbl)).trans (HC.out (q + q + k) (by omega))
            have e3 : wr.cell? ⟨b, o + (q + q + q) + k, none⟩ = some (.int .u8 ((m.getD (q + q + q + k) 0 : Nat) : Int)) := by
              rw [Nat.add_assoc]; exact (hbel.cell (by exact hbl)).trans (HC.out (q + q + q + k) (by omega))
            have hmem : ∀ i, i < m.length → m.getD i 0 < 256 := fun i hi => H256.out _ (by
              have := getD_mem m i hi
              revert this
              rw [HM.out]
              exact List.mem_of_mem_drop)
            have x0 := hmem k (by omega)
            have x1 := hmem (q + k) (by omega)
            have x2 := hmem (q + q + k) (by omega)
            have x3 := hmem (q + q + q + k) (by omega)
            have HS := Lib.hid (quarters_succ m q k (by omega))
            have HP := Lib.hid hperm
            clear hmem hperm
            generalize m.getD k 0 = a0 at *
            generalize m.getD (q + k) 0 = a1 at *
            generalize m.getD (q + q + k) 0 = a2 at *
            generalize m.getD (q + q + q + k) 0 = a3 at *
            have s0 := cnt_step hown a0
            have s1 := cnt_step s0 a1
            have s2 := cnt_step s1 a2
            have s3 := cnt_step s2 a3
            have f0 := hown.frozenAt a0
            have f1 := s0.frozenAt a1
            have f2 := s1.frozenAt a2
            have f3 := s2.frozenAt a3
            have d0 := cnt_cell hown a0 x0
            have d1 := cnt_cell s0 a1 x1
            have d2 := cnt_cell s1 a2 x2
            have d3 := cnt_cell s2 a3 x3
            have b0 : L.count a0 ≤ j + 4 * k := Nat.le_trans List.count_le_length hL
            have b1 : (L ++ [a0]).count a1 ≤ j + 4 * k + 1 := Nat.le_trans List.count_le_length (by simp; omega)
            have b2 : (L ++ [a0] ++ [a1]).count a2 ≤ j + 4 * k + 2 := Nat.le_trans List.count_le_length (by simp; omega)
            have b3 : (L ++ [a0] ++ [a1] ++ [a2]).count a3 ≤ j + 4 * k + 3 := Nat.le_trans List.count_le_length (by simp; omega)
            have HS3 := Lib.hid s3
            have HB := Lib.hid hbel
            have HG := Lib.hid (hown.lt g rfl).1
            clear s0 s1 s2 s3 hown hbel
            generalize L.count a0 = y0 at *
            generalize (L ++ [a0]).count a1 = y1 at *
            generalize (L ++ [a0] ++ [a1]).count a2 = y2 at *
            generalize (L ++ [a0] ++ [a1] ++ [a2]).count a3 = y3 at *
            go_wp2
            go_roundw
            case rel =>
              refine ⟨k + 1, L ++ [a0] ++ [a1] ++ [a2] ++ [a3], by omega, by go_num, by simp only [List.length_append, List.length_cons, List.length_nil]; omega, ?_, HS3.out, (((HB.out.setCell HG.out _).setCell HG.out _).setCell HG.out _).setCell HG.out _⟩
              have h2 := HS.out
              have h1 := HP.out.out
              refine List.Perm.trans ?_ (List.Perm.append_left _ h2.symm)
              simp only [← List.append_assoc]
              exact (((h1.append_right [a0]).append_right [a1]).append_right [a2]).append_right [a3]
            case measure => simp [intOf]; omega
          · go_wp2
            go_end0
            have hkq : k = q := by omega
            subst hkq
            have h1 : L.Perm l := by
              refine hperm.out.trans ?_
              refine (List.Perm.append_left _ (quarters_all m k (by omega))).trans ?_
              rw [HM.out, List.take_append_drop]
            rw [cnt_perm h1] at hown
            exact ⟨rfl, hown, hbel⟩
    · obtain ⟨b, o, rfl, hbl, hc⟩ := hrow (by omega)
      have hck : wr.cell? ⟨b, o, none⟩ = _ := (hbel.cell (by exact hbl)).trans (hc 0 (by omega))
      have hx := H256.out (m.getD 0 0) (by rw [HM.out]; exact List.mem_of_mem_drop (getD_mem _ 0 (by rw [← HM.out]; omega)))
      have hq : 0 < m.length % 4 := by omega
      have hpos : 0 < m.length := by omega
      have hrow' : NRow .u8 W0 (.slice (some ⟨b, o, none⟩) m.length cap) m := ⟨_, _, rfl, ⟨hnil, hcap⟩, hrow⟩
      have HR := Lib.hid hrow'
      clear hc hrow hrow' hnil
      have hcx := cnt_cell hown _ hx
      have hfx := hown.frozenAt (m.getD 0 0)
      have hle : (l.take j).count (m.getD 0 0) ≤ j := Nat.le_trans List.count_le_length (List.length_take_le _ _)
      have HO := Lib.hid hown
      have HB := Lib.hid hbel
      have HG := Lib.hid (hown.lt g rfl).1
      have HS := Lib.hid (cnt_step hown (m.getD 0 0))
      clear hown hbel h4
      generalize hxx : m.getD 0 0 = x at *
      have HX := Lib.hid hxx
      clear hxx
      generalize (l.take j).count x = y at *
      generalize m.length % 4 = q at *
      have hqb : ((q : Int) != 0) = true := by simp; omega
      have hend : ∀ wr', wr' = wr.setCell ⟨g, x, none⟩ (.int .u16 ((y : Int) + 1)) → ∀ b', NRow .u8 W0 b' (m.drop 1) → SplitInv W0 wr' l g b' := by
        rintro wr' rfl b' hb'
        refine ⟨j + 1, m.drop 1, ?_, by omega, hb', ?_, HB.out.setCell HG.out _⟩
        · rw [HM.out, List.drop_drop]
        · have e : l.take (j + 1) = l.take j ++ [x] := by
            rw [take_succ_getD l j (by omega), ← HX.out, HM.out]
            simp [List.getD]
          rw [e]; exact HS.out
      have HEnd := Lib.hid hend
      clear hend hq
      by_cases hc1 : cap = 1
      · subst hc1
        go_wp2
        refine ⟨HEnd.out _ rfl _ ?_, by simp [lenV]; omega⟩
        have h := HR.out.tail hpos
        rw [if_pos rfl, show m.length - 1 = 0 by omega] at h
        exact h
      · go_wp2
        refine ⟨HEnd.out _ rfl _ ?_, by simp [lenV]; omega⟩
        have h := HR.out.tail hpos
        rw [if_neg hc1] at h
        exact h
end Go.Proofs.Ytokbkbchblfcoaa

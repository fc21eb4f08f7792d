/-
  'FnExactAssign' is proved: as many symbols as the counts tell have codes of each length, the last ones of the order the shortest ones, and the codes are those of these lengths by the RFC, with their bits in the other order.
  No condition: every list of counts, every order and every size.
-/
import Derived.Test.YtokbkbchblfcoaaRows
import Derived.Test.YtokbkbchblfcoaaPFits
import Derived.Test.YtokbkbchblfcoaaSCounted2
import Derived.Test.YtokbkbchblfcoaaSSpread
import Derived.Test.YtokbkbchblfcoaaSEqI
import Derived.WalkKit
import Derived.ProofKit
import Derived.OpenShut
import Derived.ShutString
import Derived.ChangeOld
import Derived.Below
namespace Go.Proofs.Ytokbkbchblfcoaa.fnExactAssign
open Go.ChangeShapes Go.WideShapes Go.ChangeAt Go.RowKit
open Go.ChangeMaps (open_string shut_string)
set_option linter.unusedVariables false

theorem own : ownKnob Try.prog.godebug = none := by kernel_rfl
theorem laidOut : laidOutB Try.prog = true := by kernel_rfl

/-- WHAT THE WALK IS TOLD OF A SLICE OF INTEGERS THAT CAME IN: it is nil; or it leads to a row of 'cap' cells, the numbers 'zs' (the first 'len' are its elements, the rest its spare room), each fitting its kind. -/
def IsRow (k : IntKind) (w : World) (a : Option Addr) (len cap : Nat) (zs : List Int) : Prop :=
  (a = none ∧ len = 0 ∧ cap = 0 ∧ zs = []) ∨
  ∃ x, a = some x ∧ len ≤ cap ∧ cap ≤ maxLen ∧ zs.length = cap ∧ (∀ i, i < zs.length → w.cell? (x.add i) = some (.int k (zs.getD i 0))) ∧ ∀ n ∈ zs, (Lit.int k n).wf = true

theorem owns_slice {w : World} {base e n size : Nat} {v : Value} {xs : List Value} (h : w.ownsRow base e size v n xs) (hn : 0 < n) : ∃ g cap, v = .slice (some ⟨g, 0, none⟩) n cap := by
  rcases h.2 with ⟨_, h0⟩ | ⟨g, cap, cur, rfl, _⟩
  · omega
  · exact ⟨g, cap, rfl⟩

theorem eqI_same (v1 v2 : Value) (l : List Nat) (w : World) (h1 : NRow .i64 w v1 l) (h2 : NRow .i64 w v2 l) (hlen : l.length < 4294967296) :
    Calls Try.prog 22 #[v1, v2] w fun e w' => e = .returned (.bool true) ∧ ∃ n, w' = w.drewN n :=
  (equalI_any v1 v2 l l w h1 h2 hlen hlen).mono fun e w' ⟨he, hw⟩ => ⟨by rw [he, decide_eq_true rfl], hw⟩

theorem toNat_cast (zs : List Int) (h : ∀ k, k < zs.length → 0 ≤ zs.getD k 0 ∧ zs.getD k 0 ≤ 286) : zs = (zs.map Int.toNat).map fun n => ((n : Nat) : Int) := by
  apply List.ext_getElem
  · simp
  · intro i h1 h2
    have := h i h1
    simp only [List.getD, List.getElem?_eq_getElem h1, Option.getD_some] at this
    simp only [List.getElem_map]
    omega

set_option maxHeartbeats 4000000 in
set_option maxRecDepth 100000 in
theorem main (vc vo : Value) (zs : List Int) (ord : List Nat) (size : Nat) (ac ao : Option Addr) (capc capo : Nat) (w : World) (hvc : vc = .slice ac zs.length capc) (hvo : vo = .slice ao ord.length capo) (hc : IRow .i32 w vc zs) (ho : NRow .u16 w vo ord) (hlc : zs.length < 2147483648) (hlo : ord.length < 2147483648)
    (h16 : ∀ x ∈ ord, x < 65536) (hs1 : 1 ≤ size) :
    Calls Try.prog 7 #[vc, vo, .int .i64 size] w fun e w' => e = .returned (.bool true) ∧ Below w.heap.size w w' := by
  have HC := Lib.hid hc
  have HO := Lib.hid ho
  have H16 := Lib.hid h16
  have d1 : decide ((2147483647 : Int) < (zs.length : Int)) = false := decide_eq_false (by omega)
  have d2 : decide ((2147483647 : Int) < (ord.length : Int)) = false := decide_eq_false (by omega)
  have d3 : decide ((size : Int) < 1) = false := decide_eq_false (by omega)
  have HCN := Lib.hid (counted_any vc vo zs ord size w hc ho hlc hlo h16)
  have HLC := Lib.hid hlc
  have HLO := Lib.hid hlo
  have HS1 := Lib.hid hs1
  subst hvc
  subst hvo
  clear hc ho h16 hlc hlo hs1
  go_enter Try.func7, Try.ntmps7
  go_wp2_with fail
  refine HCN.out.mono ?_
  rintro e w1 ⟨⟨b, rfl, hb⟩, rfl⟩
  cases b with
  | false =>
    go_wp2
    go_ret
    exact ⟨rfl, Below.refl _ _⟩
  | true =>
    have hP := hb rfl
    clear hb
    have hE : zs = (zs.map Int.toNat).map fun n => ((n : Nat) : Int) := toNat_cast zs hP.pos
    obtain ⟨cnt, hcnt⟩ : ∃ cnt, cnt = zs.map Int.toNat := ⟨_, rfl⟩
    have hlen : cnt.length = zs.length := by rw [hcnt, List.length_map]
    rw [← hcnt] at hE
    have hNC := HC.out.toN hE
    have hcl : cnt.length ≤ 16 := by have := hP.len; omega
    have h0 : cnt.getD 0 0 = 0 := by rw [hcnt, getD_map_toNat, hP.zero]; rfl
    have hsum : cnt.sum = ord.length := by rw [hcnt]; exact hP.sum
    have hlt : ∀ x ∈ ord, x < size := fun x hx => by have := hP.lt x hx; omega
    have hsz : size ≤ 1000 := by have := hP.size; omega
    have hroom : room cnt cnt.length ≤ 32768 := by rw [hlen, hcnt]; exact hP.room
    have hol : ord.length ≤ 1000 := Nat.le_trans (nodup_len size ord hP.nodup hlt) hsz
    have hF := fits_of cnt ord (litOf ord) size (litOf_map ord H16.out) hcl h0 hsum hP.nodup hlt hroom
    have hLL : (spr ord (lsq 0 cnt) size ord.length).length = size := spr_len _ _ _ _
    have hLn := spr_lt cnt ord size hsum
    have hSP := spread_any (.slice ac zs.length capc) (.slice ao ord.length capo) cnt ord size
    obtain ⟨hlens, hbits⟩ := csP_full _ size cnt.length hLL hLn hcl
    have hL15 : ∀ x ∈ spr ord (lsq 0 cnt) size ord.length, x ≤ 15 := by
      intro x hx
      rcases Nat.eq_zero_or_pos x with h | h
      · omega
      · have := hLn x hx h; omega
    have HAS := Lib.hid (iAssign_any (.slice ac zs.length capc) (.slice ao ord.length capo) cnt ord (spr ord (lsq 0 cnt) size ord.length) size w hNC HO.out HS1.out hsz hol hcl H16.out hLL hF)
    rw [hlens] at HAS
    have HSP := Lib.hid (fun W h1 h2 => hSP W h1 h2 hsz hsum hlt hcl (by omega))
    have HNC := Lib.hid hNC
    generalize spr ord (lsq 0 cnt) size ord.length = L at *
    generalize bitsOf (csP L (List.replicate size 0) cnt.length 0) = B at *
    have HLL := Lib.hid hLL
    have HBT := Lib.hid hbits
    have HL15 := Lib.hid hL15
    have HSZ := Lib.hid hsz
    clear hP hE hcnt hlen hNC hcl h0 hsum hlt hsz hroom hol hF hLL hLn hSP hlens hbits hL15 HCN
    go_wp2_with fail
    refine HAS.out.mono ?_
    rintro e w2 ⟨v1, v2, rfl, ho1, ho2, hb2⟩
    obtain ⟨g1, c1, rfl⟩ := owns_slice ho1 HS1.out
    have HO1 := Lib.hid ho1
    have HO2 := Lib.hid ho2
    have HB2 := Lib.hid hb2
    clear ho1 ho2 hb2
    go_wp2_with fail
    refine (HSP.out w2 (HNC.out.below HB2.out) (HO.out.below HB2.out)).mono ?_
    rintro e w3 ⟨v3, rfl, ho3, hb3⟩
    obtain ⟨g3, c3, rfl⟩ := owns_slice ho3 HS1.out
    have HB3 := Lib.hid (below_up HB2.out hb3 HB2.out.size)
    have HO3 := Lib.hid ho3
    have HN2 := Lib.hid ((NRow.of_owns HLL.out.symm HO2.out).below hb3)
    have HN3 := Lib.hid (NRow.of_owns HLL.out.symm ho3)
    have HO1' := Lib.hid (owns_below HO1.out hb3)
    have hne : ((size : Int) != (size : Int)) = false := by simp
    clear ho3 hb3
    go_wp2_with fail
    refine (eqI_same _ _ L w3 HN2.out HN3.out (by have := HLL.out; have := HSZ.out; omega)).mono ?_
    rintro e w4 ⟨rfl, m, rfl⟩
    go_wp2_with fail
    refine (canon_any _ L (w3.drewN m) (HN3.out.drewN m) (by have := HLL.out; have := HSZ.out; omega) HL15.out).mono ?_
    rintro e w5 ⟨v4, rfl, ho4, hb4⟩
    rw [HLL.out] at ho4
    obtain ⟨g4, c4, rfl⟩ := owns_slice ho4 HS1.out
    have HB5 := Lib.hid (below_up (below_dN HB3.out m) hb4 HB3.out.size)
    have HC1 : Hid (∀ i, i < size → w5.cell? ⟨g1, i, none⟩ = some (.int .i64 (B.getD i 0 : Nat))) := Lib.hid fun i hi => (hb4.cell (p := ⟨g1, i, none⟩) (HO1'.out.lt g1 rfl).2).trans (owns_cell HO1'.out i hi (by have := HO1'.out.1; rw [nv_len] at this; omega))
    have HC3 : Hid (∀ i, i < size → w5.cell? ⟨g3, i, none⟩ = some (.int .i64 (L.getD i 0 : Nat))) := Lib.hid fun i hi => (hb4.cell (p := ⟨g3, i, none⟩) (HO3.out.lt g3 rfl).2).trans (owns_cell HO3.out i hi HLL.out.symm)
    have HC4 : Hid (∀ i, i < size → w5.cell? ⟨g4, i, none⟩ = some (.int .i64 (canonAt L i : Nat))) := by
      refine Lib.hid fun i hi => ?_
      rw [owns_cell ho4 i hi (by simp [canonL, HLL.out])]
      simp [canonL, HLL.out, hi]
    clear ho4 hb4 HO1 HO1' HO2 HO3 HN2 HN3 HB2 HB3 hne HAS HSP HNC HC HO
    go_wp2
    go_loopw [53] (fun ii wr => ∃ i k : Nat, i ≤ size ∧ ii = .int .i64 i ∧ wr = w5.drewN k) (fun ii _ => size - (intOf ii).toNat)
    case atStart => exact ⟨0, 0, Nat.zero_le _, rfl, rfl⟩
    case round =>
      obtain ⟨i, k, hi, rfl, rfl⟩ := hrel
      by_cases hlt : i < size
      · have k1 : (w5.drewN k).cell? ⟨g1, i, none⟩ = _ := HC1.out i hlt
        have k3 : (w5.drewN k).cell? ⟨g3, i, none⟩ = _ := HC3.out i hlt
        have k4 : (w5.drewN k).cell? ⟨g4, i, none⟩ = _ := HC4.out i hlt
        have hsz := HSZ.out
        have hl15 := HL15.out _ (getD_mem L i (by have := HLL.out; omega))
        by_cases hp : 0 < L.getD i 0
        · have hb := HBT.out i hlt hp
          have hcb : canonAt L i < 4294967296 := by
            have h1 := codeEnd_lt L (L.getD i 0) hl15 (by have := HLL.out; omega)
            have h2 : L.getD i 0 = (L.getD i 0 - 1) + 1 := by omega
            rw [h2, codeEnd, ← h2] at h1
            unfold canonAt
            rw [if_neg (by omega)]
            have h3 : (L.take i).count (L.getD i 0) ≤ L.count (L.getD i 0) := List.Sublist.count_le _ (List.take_sublist _ _)
            omega
          rw [hb] at k1
          have hT := PT.turn_lt (canonAt L i) (L.getD i 0)
          have HTN := Lib.hid (fun W => turn_any (canonAt L i) (L.getD i 0) (by omega) (by omega) W)
          clear hb hT
          generalize PT.turn (canonAt L i) (L.getD i 0) = tv at *
          generalize canonAt L i = cv at *
          generalize L.getD i 0 = lv at *
          have hnt : ((tv : Int) != (tv : Int)) = false := by simp
          generalize hwd : World.drewN w5 k = wd at *
          have HWD := Lib.hid hwd
          clear hwd
          go_upto_region 12 with (fail)
          go_quiet (first | (go_at_call 10; exact Calls.quiet_of_same (HTN.out _)))
          go_wp2
          go_roundw
          case rel => exact ⟨i + 1, k + nq, by omega, by go_num, by rw [← HWD.out, drewN_add]⟩
          case measure => simp [intOf]; omega
        · have h0 : L.getD i 0 = 0 := by omega
          rw [h0] at k3
          have k3 : (w5.drewN k).cell? ⟨g3, i, none⟩ = some (.int .i64 0) := k3
          have hpt : decide ((0 : Int) < 0) = false := by simp
          clear hp h0 hl15
          generalize hwd : World.drewN w5 k = wd at *
          have HWD := Lib.hid hwd
          clear hwd
          generalize B.getD i 0 = bv at *
          generalize canonAt L i = cv at *
          go_upto_region 12 with (fail)
          go_quiet (fail)
          go_wp2
          go_roundw
          case rel => exact ⟨i + 1, k + nq, by omega, by go_num, by rw [← HWD.out, drewN_add]⟩
          case measure => simp [intOf]; omega
      · have hil : i = size := by omega
        subst hil
        go_wp2
        go_ret
        exact ⟨rfl, below_dN HB5.out k⟩

theorem long_c (a b : Option Addr) (n c n2 c2 : Nat) (s : Int) (w : World) (h : 2147483648 ≤ n) : Calls Try.prog 7 #[.slice a n c, .slice b n2 c2, .int .i64 s] w fun e w' => e = .returned (.bool true) ∧ Below w.heap.size w w' := by
  have d1 : decide ((2147483647 : Int) < (n : Int)) = true := decide_eq_true (by omega)
  clear h
  go_enter Try.func7, Try.ntmps7
  go_wp2
  go_ret
  exact ⟨rfl, Below.refl _ _⟩
theorem long_o (a b : Option Addr) (n c n2 c2 : Nat) (s : Int) (w : World) (h1 : n < 2147483648) (h : 2147483648 ≤ n2) : Calls Try.prog 7 #[.slice a n c, .slice b n2 c2, .int .i64 s] w fun e w' => e = .returned (.bool true) ∧ Below w.heap.size w w' := by
  have d1 : decide ((2147483647 : Int) < (n : Int)) = false := decide_eq_false (by omega)
  have d2 : decide ((2147483647 : Int) < (n2 : Int)) = true := decide_eq_true (by omega)
  clear h h1
  go_enter Try.func7, Try.ntmps7
  go_wp2
  go_ret
  exact ⟨rfl, Below.refl _ _⟩
theorem none_s (a b : Option Addr) (n c n2 c2 : Nat) (s : Int) (w : World) (h1 : n < 2147483648) (h : n2 < 2147483648) (hs : s < 1) : Calls Try.prog 7 #[.slice a n c, .slice b n2 c2, .int .i64 s] w fun e w' => e = .returned (.bool true) ∧ Below w.heap.size w w' := by
  have d1 : decide ((2147483647 : Int) < (n : Int)) = false := decide_eq_false (by omega)
  have d2 : decide ((2147483647 : Int) < (n2 : Int)) = false := decide_eq_false (by omega)
  have d3 : decide (s < 1) = true := decide_eq_true hs
  clear h h1 hs
  go_enter Try.func7, Try.ntmps7
  go_wp2
  go_ret
  exact ⟨rfl, Below.refl _ _⟩

theorem walk (a0 : Option Addr) (len0 cap0 : Nat) (z0 : List Int) (a1 : Option Addr) (len1 cap1 : Nat) (z1 : List Int) (a2 : Int) (w : World) (w0 : IsRow .i32 w a0 len0 cap0 z0) (w1 : IsRow .u16 w a1 len1 cap1 z1) (w2 : (Lit.int .i64 a2).wf = true) :
    Calls Try.prog 7 #[.slice a0 len0 cap0, .slice a1 len1 cap1, .int .i64 a2] w fun e w' => e = .returned (.bool true) ∧ Below w.heap.size w w' := by
  by_cases h0 : 2147483648 ≤ len0
  · exact long_c a0 a1 len0 cap0 len1 cap1 a2 w h0
  by_cases h1 : 2147483648 ≤ len1
  · exact long_o a0 a1 len0 cap0 len1 cap1 a2 w (by omega) h1
  by_cases h2 : a2 < 1
  · exact none_s a0 a1 len0 cap0 len1 cap1 a2 w (by omega) (by omega) h2
  obtain ⟨zs, hz, hr, _⟩ := irow_of w0
  obtain ⟨l, hl, hn, hb⟩ := nrow_of (B := 65536) (fun n hn => by have := bounds_u16 hn; omega) w1
  obtain ⟨s, rfl⟩ := Int.eq_ofNat_of_zero_le (show 0 ≤ a2 by omega)
  exact main _ _ zs l s a0 a1 cap0 cap1 w (by rw [hz]) (by rw [hl]) hr hn (by omega) (by omega) hb (by omega)

/-! ### THE ROW's STEP: WRITTEN OUT: LEAVE IT -/
set_option maxRecDepth 100000 in
theorem lifted (os : Os) (started : os.Started) (H : Type) (enc : TypeId × Value → H) :
    ReturnsInHanded {} Try.checked os 7 .any (Rows.fnExactAssignSpec.pre6 enc Try.prog Try.f7 Rows.fnExactAssignRow.domain false) (Rows.fnExactAssignSpec.post enc Try.prog Try.f7 false true false false) := by
  refine returnsInHanded_of_change (C := Try.checked) own started (by kernel_rfl) Try.func7
    (ChangeSpec.witness6 (enc := enc) (C := Try.checked) false ⟨#[], #[.slice none 0 0, .slice none 0 0, .int .i64 0], []⟩ 8 (by kernel_rfl) (by kernel_rfl) (by kernel_rfl) (by kernel_rfl)) ?_
  intro W base args ds gs before hval0 hW hcnd _
  have hval : ∀ (j : Nat) t v, Try.f7.params[j]? = some t → args[j]? = some v → Value.okWide Try.prog W .any base t v := hval0
  have hW' := hW
  obtain ⟨p, q, hA0, hV, rfl, hfz, hnd⟩ := hW
  have hA : DataW.TrodAll enc Try.prog W 0 (fun _ => true) true Try.f7.params.toList args.toList ds p := hA0
  rw [Try.params7] at hA hval
  obtain ⟨v0, vs0, d0, ds0, p0, q0, hargs, rfl, rfl, h0, r0⟩ := trodAll_cons hA
  obtain ⟨v1, vs1, d1, ds1, p1, q1, rfl, rfl, rfl, h1, r1⟩ := trodAll_cons r0
  obtain ⟨v2, vs2, d2, ds2, p2, q2, rfl, rfl, rfl, h2, r2⟩ := trodAll_cons r1
  obtain ⟨rfl, rfl, rfl⟩ := trodAll_nil r2
  obtain rfl : args = #[v0, v1, v2] := by cases args; simp_all
  obtain ⟨rfl, rfl⟩ := trodVars_none hV
  obtain ⟨a0, len0, cap0, rfl⟩ := okWide_slice Try.underlying37 (hval 0 37 v0 rfl rfl)
  have k0 := h0
  have lt0 : ∀ x ∈ p0, x.block < W.heap.size := by obtain ⟨m, hm⟩ := k0; exact DataW.trod_lt m _ _ _ hm
  obtain ⟨z0, w0⟩ : ∃ zs, IsRow .i32 W a0 len0 cap0 zs := by
    obtain ⟨fuel, hf⟩ := h0
    rcases open_ints Try.underlying37 Try.underlying21 (by kernel_rfl) hf with ⟨hcs, _⟩ | ⟨x, l, c, zs, hcs, _, hl, hm, hz, _, hcell, hwz⟩
    · simp [Value.cells] at hcs
      obtain ⟨rfl, rfl, rfl⟩ := hcs
      exact ⟨[], .inl ⟨rfl, rfl, rfl, rfl⟩⟩
    · simp [Value.cells] at hcs
      obtain ⟨rfl, rfl, rfl⟩ := hcs
      exact ⟨zs, .inr ⟨_, rfl, hl, hm, by simpa using hz, hcell, hwz⟩⟩
  obtain ⟨a1, len1, cap1, rfl⟩ := okWide_slice Try.underlying31 (hval 1 31 v1 rfl rfl)
  have k1 := h1
  have lt1 : ∀ x ∈ p1, x.block < W.heap.size := by obtain ⟨m, hm⟩ := k1; exact DataW.trod_lt m _ _ _ hm
  obtain ⟨z1, w1⟩ : ∃ zs, IsRow .u16 W a1 len1 cap1 zs := by
    obtain ⟨fuel, hf⟩ := h1
    rcases open_ints Try.underlying31 Try.underlying22 (by kernel_rfl) hf with ⟨hcs, _⟩ | ⟨x, l, c, zs, hcs, _, hl, hm, hz, _, hcell, hwz⟩
    · simp [Value.cells] at hcs
      obtain ⟨rfl, rfl, rfl⟩ := hcs
      exact ⟨[], .inl ⟨rfl, rfl, rfl, rfl⟩⟩
    · simp [Value.cells] at hcs
      obtain ⟨rfl, rfl, rfl⟩ := hcs
      exact ⟨zs, .inr ⟨_, rfl, hl, hm, by simpa using hz, hcell, hwz⟩⟩
  obtain ⟨a2, rfl, rfl, rfl, w2⟩ := open_int Try.underlying3 (hval 2 3 v2 rfl rfl) h2
  clear hA0 hval0
  refine (walk a0 len0 cap0 z0 a1 len1 cap1 z1 a2 W w0 w1 w2).mono fun e W' ⟨he, bel⟩ => ?_
  subst he
  exact ⟨_, rfl, _, _, _, [], _, [], hW', trodAll_mk1 (shut_bool Try.underlying4 _), (trodAll_cons_mk (Below.trod laidOut (by kernel_rfl) (of_decide_eq_true (by kernel_rfl)) k0 bel lt0) (trodAll_cons_mk (Below.trod laidOut (by kernel_rfl) (of_decide_eq_true (by kernel_rfl)) k1 bel lt1) (trodAll_cons_mk (shut_int Try.underlying3 w2) trodAll_mk0))), rfl, bel.frame _, fun h => by cases h⟩

theorem over : Rows.fnExactAssignRow.holds Try.pinned (OpenSpec.ofChange Rows.fnExactAssignSpec) :=
  OpenClaim.holds_of_wide 7 Try.f7 rfl rfl rfl rfl rfl rfl rfl ⟨rfl, rfl, rfl, rfl, rfl⟩ rfl rfl rfl rfl rfl (by kernel_rfl) Try.func7 (by kernel_rfl)
    (of_decide_eq_true (by kernel_rfl)) (by unfold Func.isWrapper; first | (rw [if_pos (by decide +kernel)]; kernel_rfl) | (rw [if_neg (by decide +kernel)]; exact ⟨rfl, rfl⟩))
    (fun os started H enc _ => lifted os started H enc)

/-- ████ THE STATEMENT ████ -/
theorem proved : Rows.FnExactAssignSaid := over
#print axioms proved
end Go.Proofs.Ytokbkbchblfcoaa.fnExactAssign

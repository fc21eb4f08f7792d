/- The walk of the reference's Counted. -/
import Derived.Test.YtokbkbchblfcoaaSCounted
import Derived.IntWalk
namespace Go.Proofs.Ytokbkbchblfcoaa
open Go.RowKit

theorem getD_map_toNat (zs : List Int) (k : Nat) : (zs.map Int.toNat).getD k 0 = (zs.getD k 0).toNat := by
  simp only [List.getD_eq_getElem?_getD, List.getElem?_map]
  cases zs[k]? <;> rfl

set_option maxHeartbeats 4000000 in
set_option maxRecDepth 100000 in
theorem counted_any (vc vo : Value) (zs : List Int) (ord : List Nat) (size : Int) (w : World) (hc : IRow .i32 w vc zs) (ho : NRow .u16 w vo ord) (hlc : zs.length < 2147483648) (hlo : ord.length < 2147483648)
    (h16 : ∀ x ∈ ord, x < 65536) :
    Calls Try.prog 19 #[vc, vo, .int .i64 size] w fun e w' => (∃ b, e = .returned (.bool b) ∧ (b = true → CountedP zs ord size)) ∧ w = w' := by
  obtain ⟨ac, capc, rfl, hn1, hc⟩ := hc
  have HNO := Lib.hid ho
  obtain ⟨ao, capo, rfl, hn2, ho⟩ := ho
  have HC := Lib.hid hc
  have HO := Lib.hid ho
  have H16 := Lib.hid h16
  have HLC := Lib.hid hlc
  have HLO := Lib.hid hlo
  have HN2 := Lib.hid hn2
  clear hc ho h16 hn1 hn2
  go_enter Try.func19, Try.ntmps19
  go_wp2
  go_loop [7, 8, 9, 10, 15] (fun nn rr _ _ ii => ∃ k n r : Nat, k ≤ zs.length ∧ k ≤ 16 ∧ ii = .int .i64 k ∧ nn = .int .i64 n ∧ rr = .int .i64 r ∧ n ≤ 286 * k ∧ r ≤ 286 * 32768 * k ∧ Hid (n = ((zs.map Int.toNat).take k).sum) ∧ Hid (r = room (zs.map Int.toNat) k) ∧
    Hid (∀ j, j < k → 0 ≤ zs.getD j 0 ∧ zs.getD j 0 ≤ 286) ∧ Hid (0 < k → zs.getD 0 0 = 0)) (fun _ _ _ _ ii => zs.length - (intOf ii).toNat)
  case atStart => exact ⟨0, 0, 0, Nat.zero_le _, by omega, rfl, rfl, rfl, by omega, by omega, rfl, rfl, by intro j h; omega, by intro h; omega⟩
  case round =>
    obtain ⟨k, n, r, hk, hk16, rfl, rfl, rfl, hnb, hrb, hn, hr, hpos, hzero⟩ := hrel
    by_cases hlt : k < zs.length
    · obtain ⟨b, o, rfl, hbl, hcc⟩ := HC.out (by omega)
      have hck := hcc k hlt
      have HS : Hid (((zs.map Int.toNat).take (k + 1)).sum = ((zs.map Int.toNat).take k).sum + (zs.getD k 0).toNat) := by
        show _ = _
        rw [sum_take_succ _ k (by simpa using hlt), getD_map_toNat]
      have HRM : Hid (room (zs.map Int.toNat) (k + 1) = room (zs.map Int.toNat) k + if 0 < k then (zs.getD k 0).toNat * 2 ^ (15 - k) else 0) := by
        show _ = _
        rw [room, getD_map_toNat]
      have HK : Hid (∀ j, j < k + 1 → j < k ∨ j = k) := by intro j hj; omega
      clear hcc
      have HZK := Lib.hid (Eq.refl (zs.getD k 0))
      generalize hz : zs.getD k 0 = z at *
      have HZ := Lib.hid hz
      clear hz HZK
      by_cases hz1 : z < 0
      · go_wp2
        go_ret
        first | exact ⟨.inl rfl, rfl⟩ | exact ⟨⟨false, rfl, (fun h => by cases h)⟩, rfl⟩
      · by_cases hz2 : 286 < z
        · go_wp2
          go_ret
          first | exact ⟨.inl rfl, rfl⟩ | exact ⟨⟨false, rfl, (fun h => by cases h)⟩, rfl⟩
        · by_cases hk15 : 15 < k
          · go_wp2
            go_ret
            first | exact ⟨.inl rfl, rfl⟩ | exact ⟨⟨false, rfl, (fun h => by cases h)⟩, rfl⟩
          · rcases Nat.eq_zero_or_pos k with hk0 | hk0
            · have hck0 : w.cell? ⟨b, o, none⟩ = some (.int .i32 z) := by subst hk0; exact hck
              have hz1' : 0 ≤ z := by omega
              have hz2' : z ≤ 286 := by omega
              clear hz1 hz2 hk15
              by_cases hz0 : z = 0
              · subst hz0
                go_wp2
                go_round
                case rel =>
                  refine ⟨1, n, r, by omega, by omega, by go_num, rfl, rfl, by omega, by omega, ?_, ?_, ?_, ?_⟩
                  · show n = ((zs.map Int.toNat).take 1).sum
                    rw [show 1 = k + 1 by omega, HS.out, ← hn.out]; rfl
                  · show r = room (zs.map Int.toNat) 1
                    rw [show 1 = k + 1 by omega, HRM.out, if_neg (by omega), ← hr.out]; rfl
                  · show ∀ j, j < 1 → 0 ≤ zs.getD j 0 ∧ zs.getD j 0 ≤ 286
                    intro j hj
                    have e : j = k := by omega
                    rw [e, HZ.out]; omega
                  · show 0 < 1 → zs.getD 0 0 = 0
                    intro _
                    have e := HZ.out
                    rw [hk0] at e
                    exact e
                case measure => simp [intOf]; omega
              · go_wp2
                all_goals first
                  | (go_ret; first | exact ⟨.inl rfl, rfl⟩ | exact ⟨⟨false, rfl, (fun h => by cases h)⟩, rfl⟩)
                  | (exfalso; rename_i h; simp at h; omega)
            · obtain ⟨x, rfl⟩ := Int.eq_ofNat_of_zero_le (show 0 ≤ z by omega)
              have hp : (2 : Int) ^ (15 - (k : Int)).toNat = ((2 ^ (15 - k) : Nat) : Int) := by
                have e : (15 - (k : Int)).toNat = 15 - k := by omega
                rw [e]; simp
              have hb : 2 ^ (15 - k) ≤ 32768 := Nat.le_trans (Nat.pow_le_pow_right (by omega) (show 15 - k ≤ 15 by omega)) (by decide)
              have hxy : x * 2 ^ (15 - k) ≤ 286 * 32768 := Nat.mul_le_mul (by omega) hb
              have hp3 : (2 : Int) ^ (15 - k) = ((2 ^ (15 - k) : Nat) : Int) := by simp
              have hk15' : k ≤ 15 := by omega
              have hx286 : x ≤ 286 := by omega
              have HXY := Lib.hid hxy
              clear hk15 hk16 hz1 hz2 hxy
              generalize hy : (2 : Nat) ^ (15 - k) = y at *
              go_wp2
              go_round
              case rel =>
                obtain ⟨P, hPe⟩ : ∃ P, P = x * y := ⟨_, rfl⟩
                have hP := HXY.out
                rw [← hPe] at hP
                have ep : ((x : Int) * (y : Int)) = (P : Int) := by rw [hPe]; push_cast; rfl
                rw [ep, IntWalk.wrap64_in (P : Int) (by omega), IntWalk.wrap64_in ((r : Int) + (P : Int)) (by omega)]
                refine ⟨k + 1, n + x, r + P, by omega, by omega, by go_num, by go_num, by go_num, by omega, by omega, ?_, ?_, ?_, ?_⟩
                · show n + x = _
                  rw [HS.out, ← hn.out]; rfl
                · show r + P = _
                  rw [hPe, HRM.out, if_pos hk0, ← hr.out]; rfl
                · show ∀ j, j < k + 1 → 0 ≤ zs.getD j 0 ∧ zs.getD j 0 ≤ 286
                  intro j hj
                  rcases Nat.lt_or_ge j k with h | h
                  · exact hpos.out j h
                  · have e : j = k := by omega
                    rw [e, HZ.out]; omega
                · exact fun _ => hzero.out hk0
              case measure => simp [intOf]; omega
    · have hkl : k = zs.length := by omega
      subst hkl
      clear HC
      go_wp2
      go_loop [11, 12, 54] (fun _ _ ii => ∃ i : Nat, i ≤ ord.length ∧ ii = .int .i64 i ∧ Hid ((ord.take i).Nodup ∧ ∀ x ∈ ord.take i, ((x : Nat) : Int) < size)) (fun _ _ ii => ord.length - (intOf ii).toNat)
      case atStart => exact ⟨0, Nat.zero_le _, rfl, by show _ ∧ _; simp⟩
      case round =>
        obtain ⟨i, hi, rfl, hnd⟩ := hrel
        by_cases hil : i < ord.length
        · obtain ⟨b, o, rfl, hbl, hcc⟩ := HO.out (by omega)
          have hck := hcc i hil
          have HT := Lib.hid (take_succ_getD ord i hil)
          have HX16 := H16.out _ (getD_mem ord i hil)
          have hli : (ord.take i).length = i := by simp; omega
          have hNR : NRow .u16 w (.slice (some ⟨b, o, none⟩) i capo) (ord.take i) := by
            refine ⟨some ⟨b, o, none⟩, capo, by rw [hli], ⟨(fun h => by cases h), by have := HN2.out.2; omega⟩, fun _ => ⟨b, o, rfl, hbl, fun j hj => ?_⟩⟩
            rw [hli] at hj
            rw [hcc j (by omega)]
            simp [List.getD, hj]
          have HNR := Lib.hid hNR
          have HLI := Lib.hid hli
          have hcap : i ≤ capo := by have := HN2.out.2; omega
          clear hcc HO hNR hli
          generalize hxv : ord.getD i 0 = x at *
          clear hxv
          by_cases hx : (x : Int) < size
          · have hxt : decide (size ≤ (x : Int)) = false := decide_eq_false (by omega)
            have HX := Lib.hid hx
            clear hx
            by_cases hm : x ∈ ord.take i
            · have hmt : decide (x ∈ ord.take i) = true := decide_eq_true hm
              have HC := Lib.hid (containsU_any (.slice (some ⟨b, o, none⟩) i capo) (ord.take i) x w HNR.out (by have := HLI.out; omega))
              rw [hmt] at HC
              clear hmt hm
              go_wp2_with (go_at_call 35; refine HC.out.mono ?_; rintro e w1 ⟨rfl, rfl⟩)
              go_ret
              first | exact ⟨.inl rfl, rfl⟩ | exact ⟨⟨false, rfl, (fun h => by cases h)⟩, rfl⟩
            · have hmt : decide (x ∈ ord.take i) = false := decide_eq_false hm
              have HC := Lib.hid (containsU_any (.slice (some ⟨b, o, none⟩) i capo) (ord.take i) x w HNR.out (by have := HLI.out; omega))
              rw [hmt] at HC
              have HM := Lib.hid hm
              clear hmt hm
              go_wp2_with (go_at_call 35; refine HC.out.mono ?_; rintro e w1 ⟨rfl, rfl⟩)
              go_round
              case rel =>
                refine ⟨i + 1, by omega, by go_num, ?_⟩
                show _ ∧ _
                rw [HT.out]
                obtain ⟨q1, q2⟩ := hnd.out
                refine ⟨List.nodup_append.2 ⟨q1, by simp, ?_⟩, ?_⟩
                · intro a ha b hb e
                  simp at hb
                  subst hb; subst e
                  exact HM.out ha
                · intro y hy
                  rcases List.mem_append.1 hy with h | h
                  · exact q2 y h
                  · simp at h; subst h; exact HX.out
              case measure => simp [intOf]; omega
          · have hxt : decide (size ≤ (x : Int)) = true := decide_eq_true (by omega)
            clear hx
            go_wp2
            go_ret
            first | exact ⟨.inl rfl, rfl⟩ | exact ⟨⟨false, rfl, (fun h => by cases h)⟩, rfl⟩
        · have hil2 : i = ord.length := by omega
          subst hil2
          have HLK := Lib.hid (And.intro hk hk16)
          have HHB := Lib.hid (And.intro hnb hrb)
          by_cases e1 : n = ord.length
          · have t1 : ((n : Int) == (ord.length : Int)) = true := beq_iff_eq.2 (by omega)
            have E1 := Lib.hid e1
            clear e1
            by_cases e2 : r ≤ 32768
            · have t2 : decide ((r : Int) ≤ 32768) = true := decide_eq_true (by omega)
              have E2 := Lib.hid e2
              clear e2
              by_cases e3 : size ≤ 1000
              · have t3 : decide (size ≤ 1000) = true := decide_eq_true e3
                have E3 := Lib.hid e3
                clear e3
                have hfin : CountedP zs ord size := by
                  obtain ⟨q1, q2⟩ := hnd.out
                  rw [List.take_length] at q1 q2
                  refine ⟨HLK.out.2, hpos.out, ?_, ?_, ?_, q1, q2, E3.out⟩
                  · rcases Nat.eq_zero_or_pos zs.length with h | h
                    · rw [List.eq_nil_of_length_eq_zero h]; rfl
                    · exact hzero.out h
                  · have h1 := hn.out
                    rw [List.take_of_length_le (by simp)] at h1
                    rw [← h1]; exact E1.out
                  · have h1 := hr.out
                    rw [← h1]; exact E2.out
                have HFIN := Lib.hid hfin
                clear hfin
                go_wp2
                go_ret
                first | exact ⟨.inr ⟨rfl, HFIN.out⟩, rfl⟩ | exact ⟨⟨true, rfl, fun _ => HFIN.out⟩, rfl⟩
              · have t3 : decide (size ≤ 1000) = false := decide_eq_false e3
                clear e3
                go_wp2
                go_ret
                first | exact ⟨.inl rfl, rfl⟩ | exact ⟨⟨false, rfl, (fun h => by cases h)⟩, rfl⟩
            · have t2 : decide ((r : Int) ≤ 32768) = false := decide_eq_false (by omega)
              clear e2
              go_wp2
              go_ret
              first | exact ⟨.inl rfl, rfl⟩ | exact ⟨⟨false, rfl, (fun h => by cases h)⟩, rfl⟩
          · have t1 : ((n : Int) == (ord.length : Int)) = false := beq_eq_false_iff_ne.2 (by omega)
            clear e1
            go_wp2
            go_ret
            first | exact ⟨.inl rfl, rfl⟩ | exact ⟨⟨false, rfl, (fun h => by cases h)⟩, rfl⟩
end Go.Proofs.Ytokbkbchblfcoaa

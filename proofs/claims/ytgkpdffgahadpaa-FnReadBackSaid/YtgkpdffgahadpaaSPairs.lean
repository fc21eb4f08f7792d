/- The walk of the reference's pairs. -/
import Derived.Test.YtgkpdffgahadpaaSUsed
import Derived.Test.YtgkpdffgahadpaaPm2
import Derived.Deep.RegionLaw
import Derived.Deep.DeepCutAuto
import Derived.Deep.CutRange
import Derived.IntWalk
namespace Go.Proofs.Ytgkpdffgahadpaa
open Go.RowKit

/-- ONE NUMBER APPENDED to a slice of the call's own, as a step of a region that draws its order. -/
theorem step_app1 {P : Program} {ops : Array Oper} {o : Oper} {a : Act} {K : Act → World → Prop} {Q : Exit → Act → World → Prop} {E : Prop} {k : IntKind} {i : TypeInfo} {base e bytes : Nat}
    (wr W : World) (hgd : o.guard = none) (s x : Operand) (t : TypeId)
    (hop : o.op = .call { callee := .builtin .append, args := #[s, x], argTypes := #[t, t] })
    (ht : P.underlying t = some (.slice e)) (hi : P.info? e = some i) (hz : i.zero = some (.int k 0)) (hsize : i.size = 1) (hby : i.bytes = bytes) (hb8 : bytes ≤ 8)
    (v : Value) (n : Nat) (l : List Nat) (y : Nat) (ob : Obj) (hs : a.eval s = v) (hown : wr.ownsRow base e 1 v n (nv k l))
    (hx : a.eval x = .slice (some ⟨wr.heap.size, 0, none⟩) 1 1) (hob : (wr.alloc ob).cell? ⟨wr.heap.size, 0, none⟩ = some (.int k (y : Int)))
    (hn : n < 1099511627776) (hbase : base ≤ wr.heap.size) (hbel : Below base W wr)
    (h : ∀ v' w', w'.ownsRow base e 1 v' (n + 1) (nv k (l ++ [y])) → Below base W w' → K (a.put o.dst v') w') :
    if Region.wanted o (yielded ops a.tmps) = true then Oper.wp P o a (wr.alloc ob) K Q else E := by
  have hw : Region.wanted o (yielded ops a.tmps) = true := by simp [Region.wanted, hgd]
  rw [if_pos hw]
  have h63 : n + 1 ≤ maxLen := by unfold maxLen; omega
  have hbytes : (n + 1) * bytes ≤ 140737488355328 := by
    have : (n + 1) * bytes ≤ (n + 1) * 8 := Nat.mul_le_mul_left _ hb8
    omega
  have hnews : ∀ j u, [Value.int k (y : Int)][j]? = some u → (wr.alloc ob).cell? ((⟨wr.heap.size, 0, none⟩ : Addr).add j) = some u := by
    intro j u hj
    have hadd : (⟨wr.heap.size, 0, none⟩ : Addr).add j = ⟨wr.heap.size, j, none⟩ := by unfold Addr.add; split <;> simp_all
    rw [hadd]
    match j, hj with
    | 0, hj => simp at hj; subst hj; exact hob
    | j + 1, hj => simp at hj
  obtain ⟨v', w', hr, h2, h3, _, h5⟩ := run_append_fresh (P := P) (base := base) (wr.alloc ob) t o.type (.int k 0) 1 ht hi hz hsize hby rfl (by decide) v n (nv k l) (hown.alloc _) ⟨wr.heap.size, 0, none⟩ 1 1 [.int k (y : Int)] rfl hnews (by intro u hu; simp at hu; subst hu; rfl) h63 hbytes (by simp; omega)
  have hgr : wr.grownBy w' v.ownBlock := by
    have hlt := hown.lt
    refine ⟨h3.os, h3.tape, h3.output, ?_, ?_⟩
    · have := h3.size; simp at this; omega
    · intro k hk hne
      rw [h3.block k (by simp; omega) hne]
      exact Below.heap_alloc _ _ _ hk
  unfold Oper.wp execOp
  simp only [hop, resolve, invoke, builtin, Sem.run_bind, Sem.run_pure, Result.andThen_ok, List.map_toArray, List.map_cons, List.map_nil, hs, hx, hr]
  refine h v' w' ?_ (hbel.grown hgr hbase (fun j hj => (hown.lt j hj).1))
  rw [nv_append]; exact h2

set_option maxHeartbeats 2000000 in
set_option maxRecDepth 1000000 in
theorem pairs_any (v : Value) (l : List Nat) (w : World) (hr : NRow .i64 w v l) (hlen : l.length < 65536) (hb : ∀ x ∈ l, x ≤ 2000000000) :
    Calls Try.prog 35 #[v] w fun e w' => ∃ v', e = .returned v' ∧ w'.ownsRow w.heap.size 3 1 v' (PM.pairs l).length (nv .i64 (PM.pairs l)) ∧ Below w.heap.size w w' := by
  obtain ⟨i0, hi, hz0, hz1, hz2⟩ := info_parts info_int
  obtain ⟨a, cap, rfl, _, hr⟩ := hr
  have HR := Lib.hid hr
  have HBD := Lib.hid hb
  have hpl := PM.pairs_len l
  have HPL := Lib.hid hpl
  clear hr hb hpl
  go_enter Try.func35, Try.ntmps35
  go_wp2
  go_loopw [3, 4] (fun vv ii wr => ∃ k q : Nat, q ≤ l.length ∧ ii = .int .i64 (q : Nat) ∧ Hid (q = 2 * k) ∧ wr.ownsRow w.heap.size 3 1 vv k (nv .i64 ((PM.pairs l).take k)) ∧ Below w.heap.size w wr) (fun _ ii _ => l.length - (intOf ii).toNat)
  case atStart => exact ⟨0, 0, by omega, rfl, rfl, World.ownsRow_nil _ _ _ _, Below.refl _ _⟩
  case round =>
    obtain ⟨k, q, hk, rfl, hq, hown, hbel⟩ := hrel
    by_cases hlt : q + 1 < l.length
    · obtain ⟨b, o, rfl, hbl, hc⟩ := HR.out (by omega)
      have c1 : wr.drew.cell? ⟨b, o + q, none⟩ = _ := (hbel.cell (by exact hbl)).trans (hc q (by omega))
      have c2 : wr.drew.cell? ⟨b, o + (q + 1), none⟩ = _ := (hbel.cell (by exact hbl)).trans (hc (q + 1) (by omega))
      have HP : Hid ((PM.pairs l).take (k + 1) = (PM.pairs l).take k ++ [l.getD q 0 + l.getD (q + 1) 0]) := by
        refine Lib.hid ?_
        have hq2 := hq.out
        subst hq2
        have hkp : k < (PM.pairs l).length := by have := HPL.out; omega
        rw [List.take_succ_eq_append_getElem hkp, PM.pairs_get l k hkp, PM.getD_of (show 2 * k < l.length by omega), PM.getD_of hlt]
      have hx := HBD.out _ (getD_mem l q (by omega))
      have hy := HBD.out _ (getD_mem l (q + 1) hlt)
      have hsz := hbel.size
      have HB := Lib.hid hbel.drew
      have HO := Lib.hid (show wr.drew.ownsRow _ _ _ _ _ _ from hown)
      have hszd : w.heap.size ≤ wr.drew.heap.size := hsz
      have hkk : k < 65536 := by have := hq.out; omega
      clear hc hown hbel hsz
      generalize l.getD q 0 = x at *
      generalize l.getD (q + 1) 0 = y at *
      have hb1 : (-9223372036854775808 : Int) ≤ (x : Int) + (y : Int) ∧ (x : Int) + (y : Int) ≤ 9223372036854775807 := by omega
      have hb2 : (-9223372036854775808 : Int) ≤ (q : Int) + 1 ∧ (q : Int) + 1 ≤ 9223372036854775807 := by omega
      have hq1 : q < l.length := by omega
      have p1 : (0 : Int) ≤ (q : Int) + 1 := by omega
      have p2 : (q : Int) + 1 < (l.length : Int) := by omega
      have hws := IntWalk.i64_in _ hb1
      have hwq := IntWalk.i64_in _ hb2
      clear hb1 hb2
      have HXY := Lib.hid (And.intro hx hy)
      have HKK := Lib.hid hkk
      clear hx hy hkk
      go_upto_region 5 with (fail)
      go_region_law (refine step_app1 wr.drew w rfl (.tmp 12) (.tmp 23) 24 rfl Try.underlying24 hi hz0 hz1 hz2 (by decide) _ k _ (x + y) _ rfl HO.out rfl (cell_new _ _ _ _) (Nat.lt_trans HKK.out (by decide)) hszd HB.out ?_; intro v' w1 hown1 hbel1)
      all_goals
        go_wp2
        go_roundw
        case rel => exact ⟨k + 1, q + 2, by omega, by go_num, by show _ = _; have := hq.out; omega, by rw [HP.out]; exact hown1, hbel1⟩
        case measure => first | (simp [intOf]; done) | (simp [intOf]; omega)
    · have hp2 : decide ((q : Int) + 1 < (l.length : Int)) = false := decide_eq_false (by omega)
      have HLT := Lib.hid hlt
      clear hlt
      go_wp2
      go_ret
      have hkl : k = (PM.pairs l).length := by have := HLT.out; have := hq.out; have := HPL.out; omega
      subst hkl
      rw [List.take_length] at hown
      exact ⟨_, rfl, hown, hbel⟩
end Go.Proofs.Ytgkpdffgahadpaa

/- Laws for slices of numbers that the call itself makes: one number appended, a row appended, made of zeros, a store. -/
import Derived.Test.YtokbkbchblfcoaaBase
import Derived.Laws.AppendOwnNone
namespace Go.Proofs.Ytokbkbchblfcoaa
open Go.RowKit

/-- The one cell of a new block. -/
theorem cell_new (w : World) (x : Value) (t : TypeId) (fr : Nat × Nat) : (w.alloc (.cells #[x] t fr)).cell? ⟨w.heap.size, 0, none⟩ = some x := by
  simp only [World.cell?, heap_alloc_new]
  rfl

/-- The cells of a new block. -/
theorem cells_new (w : World) (xs : List Value) (t : TypeId) (fr : Nat × Nat) : ∀ (j : Nat) u, xs[j]? = some u → (w.alloc (.cells xs.toArray t fr)).cell? ⟨w.heap.size, j, none⟩ = some u := by
  intro j u hj
  simp only [World.cell?, heap_alloc_new]
  simpa using hj

theorem slice_at {a b : Nat} (h : a = b) : Value.slice (some ⟨a, 0, none⟩) 1 1 = .slice (some ⟨b, 0, none⟩) 1 1 := by rw [h]

theorem nv_one (k : IntKind) (l : List Nat) : ∀ u ∈ nv k l, u.oneCell' = true := by
  intro u hu
  obtain ⟨n, _, rfl⟩ := List.mem_map.1 hu
  rfl

section
variable {P : Program} {ops : Array Oper} {rest : List Oper} {o : Oper} {a : Act} {Q : Exit → Act → World → Prop} {k : IntKind} {i : TypeInfo} {base e bytes : Nat}

/-- What append leaves, and that a new row is a new block. -/
theorem run_append_fresh (w : World) (t ty : TypeId) (z : Value) (size : Nat) (ht : P.underlying t = some (.slice e)) (hi : P.info? e = some i) (hz : i.zero = some z)
    (hsize : i.size = size) (hby : i.bytes = bytes) (hzs : z.cells.size = size) (hsz : 0 < size)
    (v : Value) (n : Nat) (xs : List Value) (hown : w.ownsRow base e size v n xs)
    (ad : Addr) (m c : Nat) (news : List Value) (hl : news.length = m * size) (hnews : ∀ j u, news[j]? = some u → w.cell? (ad.add j) = some u) (h1 : ∀ u ∈ news, u.oneCell' = true)
    (h63 : n + m ≤ maxLen) (hbytes : (n + m) * bytes ≤ 140737488355328) (hbase : base ≤ w.heap.size) :
    ∃ v' w', (Builtin.append_ #[t, t] ty #[v, .slice (some ad) m c]).run P w = .ok v' w' ∧ w'.ownsRow base e size v' (n + m) (xs ++ news) ∧ w.grownBy w' v.ownBlock ∧
      (v' = .slice none 0 0 ↔ v = .slice none 0 0 ∧ m = 0) ∧ ∀ j, v'.ownBlock = some j → v.ownBlock = some j ∨ w.heap.size ≤ j := by
  obtain ⟨v', w', hr, h2, h3, h4⟩ := run_append_own (P := P) w base t ty e i z size bytes ht hi hz hsize hby hzs hsz v n xs hown ad m c news hl hnews h1 h63 hbytes hbase
  refine ⟨v', w', hr, h2, h3, h4, ?_⟩
  intro j hj
  rcases hown.2 with ⟨rfl, rfl⟩ | ⟨g, cap, cur, rfl, hbg, hg, hnc, hcm, hcs, htake⟩
  · have hx : xs = [] := List.eq_nil_of_length_eq_zero (by simpa using hown.1)
    subst hx
    obtain ⟨v2, w2, hr2, h22, _, _⟩ := run_append_own (P := P) w w.heap.size t ty e i z size bytes ht hi hz hsize hby hzs hsz (.slice none 0 0) 0 [] (World.ownsRow_nil _ _ _ _) ad m c news hl hnews h1 h63 hbytes (Nat.le_refl _)
    rw [hr] at hr2
    cases hr2
    exact .inr (h22.lt j hj).1
  · by_cases hroom : n + m ≤ cap
    · obtain ⟨w2, hr2, _⟩ := run_append_fits (P := P) w base t ty e i size ht hi hsize g n cap xs hown ad m c news hl hnews h1 hroom
      rw [hr] at hr2
      cases hr2
      exact .inl hj
    · have holds : ∀ j u, xs[j]? = some u → w.cell? ((⟨g, 0, none⟩ : Addr).add j) = some u := hown.cells (g := g) rfl
      subst hsize; subst hby
      have hr2 := run_append_grow (P := P) w t ty e i z ht hi hz ⟨g, 0, none⟩ n cap xs hown.1 holds ad m c news hl hnews (by omega) (by simp only [maxLen] at h63; omega) (growslice_fits (by omega) hbytes)
      rw [hr] at hr2
      cases hr2
      simp [Value.ownBlock] at hj
      exact .inr (by omega)

/-- ONE ELEMENT (of whatever cells) APPENDED to a slice of the call's own: behind the block that the element was laid in. -/
theorem wpList_appN (wr W : World) (hgd : o.guard = none) (s x : Operand) (t : TypeId) (z : Value) (size : Nat)
    (hop : o.op = .call { callee := .builtin .append, args := #[s, x], argTypes := #[t, t] })
    (ht : P.underlying t = some (.slice e)) (hi : P.info? e = some i) (hz : i.zero = some z) (hsize : i.size = size) (hby : i.bytes = bytes) (hzs : z.cells.size = size) (hsz : 0 < size) (hb8 : bytes ≤ 8)
    (v : Value) (n : Nat) (xs news : List Value) (ob : Obj) (hs : a.eval s = v) (hown : wr.ownsRow base e size v n xs)
    (hx : a.eval x = .slice (some ⟨wr.heap.size, 0, none⟩) 1 1) (hl : news.length = size) (hob : ∀ j u, news[j]? = some u → (wr.alloc ob).cell? ⟨wr.heap.size, j, none⟩ = some u) (h1 : ∀ u ∈ news, u.oneCell' = true)
    (hn : n < 1099511627776) (hbase : base ≤ wr.heap.size) (hbel : Below base W wr)
    (h : ∀ v' w', w'.ownsRow base e size v' (n + 1) (xs ++ news) → Below base W w' → wr.grownBy w' v.ownBlock → (∀ j, v'.ownBlock = some j → v.ownBlock = some j ∨ wr.heap.size ≤ j) → wr.heap.size < w'.heap.size →
      wpList P ops Q rest (a.put o.dst v') w') :
    wpList P ops Q (o :: rest) a (wr.alloc ob) := by
  have h63 : n + 1 ≤ maxLen := by unfold maxLen; omega
  have hbytes : (n + 1) * bytes ≤ 140737488355328 := by
    have : (n + 1) * bytes ≤ (n + 1) * 8 := Nat.mul_le_mul_left _ hb8
    omega
  have hnews : ∀ j u, news[j]? = some u → (wr.alloc ob).cell? ((⟨wr.heap.size, 0, none⟩ : Addr).add j) = some u := by
    intro j u hj
    have hadd : (⟨wr.heap.size, 0, none⟩ : Addr).add j = ⟨wr.heap.size, j, none⟩ := by unfold Addr.add; split <;> simp_all
    rw [hadd]; exact hob j u hj
  obtain ⟨v', w', hr, h2, h3, _, h5⟩ := run_append_fresh (P := P) (base := base) (wr.alloc ob) t o.type z size ht hi hz hsize hby hzs hsz v n xs (hown.alloc _) ⟨wr.heap.size, 0, none⟩ 1 1 news (by omega) hnews h1 h63 hbytes (by simp; omega)
  have hgr : wr.grownBy w' v.ownBlock := by
    have hlt := hown.lt
    refine ⟨h3.os, h3.tape, h3.output, ?_, ?_⟩
    · have := h3.size; simp at this; omega
    · intro k hk hne
      rw [h3.block k (by simp; omega) hne]
      exact Below.heap_alloc _ _ _ hk
  refine wpList_plain hgd fun K hK => ?_
  unfold Oper.wp execOp
  simp only [hop, resolve, invoke, builtin, Sem.run_bind, Sem.run_pure, Result.andThen_ok, List.map_toArray, List.map_cons, List.map_nil, hs, hx, hr]
  refine hK _ _ (h v' w' h2 (hbel.grown hgr hbase (fun j hj => (hown.lt j hj).1)) hgr ?_ ?_)
  · intro j hj
    rcases h5 j hj with h6 | h6
    · exact .inl h6
    · right; simp at h6; omega
  · have := h3.size; simp at this; omega

/-- ONE NUMBER APPENDED to a slice of the call's own: behind the block that the number was laid in. -/
theorem wpList_app1 (wr W : World) (hgd : o.guard = none) (s x : Operand) (t : TypeId)
    (hop : o.op = .call { callee := .builtin .append, args := #[s, x], argTypes := #[t, t] })
    (ht : P.underlying t = some (.slice e)) (hi : P.info? e = some i) (hz : i.zero = some (.int k 0)) (hsize : i.size = 1) (hby : i.bytes = bytes) (hb8 : bytes ≤ 8)
    (v : Value) (n : Nat) (l : List Nat) (y : Nat) (ob : Obj) (hs : a.eval s = v) (hown : wr.ownsRow base e 1 v n (nv k l))
    (hx : a.eval x = .slice (some ⟨wr.heap.size, 0, none⟩) 1 1) (hob : (wr.alloc ob).cell? ⟨wr.heap.size, 0, none⟩ = some (.int k (y : Int)))
    (hn : n < 1099511627776) (hbase : base ≤ wr.heap.size) (hbel : Below base W wr)
    (h : ∀ v' w', w'.ownsRow base e 1 v' (n + 1) (nv k (l ++ [y])) → Below base W w' → wr.grownBy w' v.ownBlock → (∀ j, v'.ownBlock = some j → v.ownBlock = some j ∨ wr.heap.size ≤ j) → wr.heap.size < w'.heap.size →
      wpList P ops Q rest (a.put o.dst v') w') :
    wpList P ops Q (o :: rest) a (wr.alloc ob) := by
  refine wpList_appN wr W hgd s x t (.int k 0) 1 hop ht hi hz hsize hby rfl (by decide) hb8 v n (nv k l) [.int k (y : Int)] ob hs hown hx rfl ?_ ?_ hn hbase hbel ?_
  · intro j u hj
    match j, hj with
    | 0, hj => simp at hj; subst hj; exact hob
    | j + 1, hj => simp at hj
  · intro u hu; simp at hu; subst hu; rfl
  · intro v' w' h1 h2 h3 h4 h5
    refine h v' w' ?_ h2 h3 h4 h5
    rw [nv_append]; exact h1

/-- A ROW OF NUMBERS APPENDED (nil, empty or not) to a slice of the call's own. -/
theorem wpList_appRow (wr W : World) (hgd : o.guard = none) (s x : Operand) (t : TypeId)
    (hop : o.op = .call { callee := .builtin .append, args := #[s, x], argTypes := #[t, t] })
    (ht : P.underlying t = some (.slice e)) (hi : P.info? e = some i) (hz : i.zero = some (.int k 0)) (hsize : i.size = 1) (hby : i.bytes = bytes) (hb8 : bytes ≤ 8)
    (v : Value) (n : Nat) (l : List Nat) (u : Value) (m : List Nat) (hs : a.eval s = v) (hown : wr.ownsRow base e 1 v n (nv k l))
    (hx : a.eval x = u) (hu : NRow k wr u m)
    (hn : n + m.length < 1099511627776) (hbase : base ≤ wr.heap.size) (hbel : Below base W wr)
    (h : ∀ v' w', w'.ownsRow base e 1 v' (n + m.length) (nv k (l ++ m)) → Below base W w' → (v ≠ .slice none 0 0 → v' ≠ .slice none 0 0) → wpList P ops Q rest (a.put o.dst v') w') :
    wpList P ops Q (o :: rest) a wr := by
  obtain ⟨ad, cap, rfl, hnone, hu⟩ := hu
  cases ad with
  | none =>
    have h0 : m.length = 0 := by
      rcases Nat.eq_zero_or_pos m.length with h0 | h0
      · exact h0
      · obtain ⟨b, o, hbo, _⟩ := hu h0; cases hbo
    have hm : m = [] := List.eq_nil_of_length_eq_zero h0
    subst hm
    obtain rfl := hnone.1 rfl
    refine wpList_append_own_none hgd s x t hop base e i 1 ht hi v n (nv k l) hs hown hx ?_
    refine h v wr ?_ hbel (fun h => h)
    simpa using hown
  | some ad =>
    refine wpList_append_own wr hgd s x t hop base e i (.int k 0) 1 bytes ht hi hz hsize hby rfl (by decide) v n (nv k l) hs hown ad m.length cap (nv k m) hx (by rw [nv_len]; omega) ?_ (nv_one k m) (by unfold maxLen; omega) ?_ hbase ?_
    · intro j y hj
      have hjl : j < m.length := by
        rcases Nat.lt_or_ge j m.length with h1 | h1
        · exact h1
        · rw [List.getElem?_eq_none (by rw [nv_len]; exact h1)] at hj; cases hj
      obtain ⟨b, o, hbo, _, hc⟩ := hu (by omega)
      cases hbo
      rw [nv_get k m j hjl] at hj
      cases hj
      have hadd : (⟨b, o, none⟩ : Addr).add j = ⟨b, o + j, none⟩ := by unfold Addr.add; split <;> simp_all
      rw [hadd]; exact hc j hjl
    · have : (n + m.length) * bytes ≤ (n + m.length) * 8 := Nat.mul_le_mul_left _ hb8
      omega
    · intro v' w' h1 h2 h3
      refine h v' w' ?_ ?_ ?_
      · rw [nv_append]; exact h1
      · exact hbel.grown h2 hbase (fun j hj => (hown.lt j hj).1)
      · intro hv hv'
        exact hv (h3.1 hv').1

/-- 'make([]T, n)': zeros. -/
theorem wpList_make0 (wr W : World) (hgd : o.guard = none) (s c : Operand) (t : TypeId) (hop : o.op = Op.makeSlice t s c)
    (ht : P.underlying t = some (.slice e)) (hi : P.info? e = some i) (hz : i.zero = some (.int k 0)) (hsize : i.size = 1) (hby : i.bytes = bytes) (hb8 : bytes ≤ 8)
    (kl kc : IntKind) (L C : Int) (n : Nat) (hl : a.eval s = .int kl L) (hc : a.eval c = .int kc C) (hL : L = (n : Int)) (hC : C = (n : Int)) (hn : n < 1099511627776) (hbase : base ≤ wr.heap.size) (hbel : Below base W wr)
    (h : ∀ w', w'.ownsRow base e 1 (.slice (some ⟨wr.heap.size, 0, none⟩) n n) n (nv k (List.replicate n 0)) → Below base W w' → wpList P ops Q rest (a.put o.dst (.slice (some ⟨wr.heap.size, 0, none⟩) n n)) w') :
    wpList P ops Q (o :: rest) a wr := by
  refine wpList_make_full wr hgd s c t hop base e i (.int k 0) 1 ht hi hz hsize kl kc L C n hl hc hL hC ?_ (by unfold maxLen; omega) hbase ?_
  · rw [hby]
    have : bytes * n ≤ 8 * n := Nat.mul_le_mul_right _ hb8
    omega
  · intro w' h1 h2
    refine h w' ?_ (hbel.grown h2 hbase (fun j hj => by cases hj))
    have e : nv k (List.replicate n 0) = (madeCells (Value.int k 0).cells (n * 1)).toList := by
      rw [show (Value.int k 0).cells = #[Value.int k 0] from rfl, toList_madeCells_one]
      simp [nv]
    rw [e]; exact h1
end

/-- An empty slice that is not nil. -/
theorem own_empty (w : World) (e : Nat) (k : IntKind) : (w.alloc (.cells #[] e)).ownsRow w.heap.size e 1 (.slice (some ⟨w.heap.size, 0, none⟩) 0 0) 0 (nv k []) :=
  World.ownsRow_made w #[] 0 (Nat.le_refl _) (Nat.zero_le _) rfl

theorem nv_set (k : IntKind) (l : List Nat) (j x : Nat) : nv k (l.set j x) = (nv k l).set j (.int k (x : Int)) := by
  simp [nv, List.map_set]

/-- A STORE INTO A ROW OF THE CALL's OWN. -/
theorem owns_set {w : World} {base e g n cap : Nat} {k : IntKind} {l : List Nat} (h : w.ownsRow base e 1 (.slice (some ⟨g, 0, none⟩) n cap) n (nv k l)) (j x : Nat) :
    (w.setCell ⟨g, j, none⟩ (.int k (x : Int))).ownsRow base e 1 (.slice (some ⟨g, 0, none⟩) n cap) n (nv k (l.set j x)) := by
  rw [nv_set]; exact (h.stored j _).1

theorem owns_cell {w : World} {base e g n cap : Nat} {k : IntKind} {l : List Nat} (h : w.ownsRow base e 1 (.slice (some ⟨g, 0, none⟩) n cap) n (nv k l)) (j : Nat) (hj : j < n) (hn : n = l.length) :
    w.cell? ⟨g, j, none⟩ = some (.int k ((l.getD j 0 : Nat) : Int)) := by
  rw [h.cellAt j (by omega), nv_get k l j (by omega)]

theorem owns_len {w : World} {base e n : Nat} {v : Value} {k : IntKind} {l : List Nat} (h : w.ownsRow base e 1 v n (nv k l)) : n = l.length := by
  have := h.1; rw [nv_len] at this; omega

/-- What is owned stays so below. -/
theorem owns_below {w w' : World} {base e n : Nat} {v : Value} {xs : List Value} {size : Nat} (h : w.ownsRow base e size v n xs) (hb : Below w.heap.size w w') : w'.ownsRow base e size v n xs := by
  refine ⟨h.1, ?_⟩
  rcases h.2 with hn | ⟨g, cap, cur, rfl, h0, hgg, rest⟩
  · exact .inl hn
  · exact .inr ⟨g, cap, cur, rfl, h0, by rw [hb.block g (Array.getElem?_eq_some_iff.1 hgg).1]; exact hgg, rest⟩

theorem owns_mono {w : World} {base base' e n size : Nat} {v : Value} {xs : List Value} (h : w.ownsRow base e size v n xs) (hb : base' ≤ base) : w.ownsRow base' e size v n xs := by
  refine ⟨h.1, ?_⟩
  rcases h.2 with hn | ⟨g, cap, cur, rfl, h0, hgg, rest⟩
  · exact .inl hn
  · exact .inr ⟨g, cap, cur, rfl, by omega, hgg, rest⟩

/-- All as it was but one block. -/
structure LFr (w w' : World) (blk : Nat) : Prop where
  os : w'.os = w.os
  tape : w'.tape = w.tape
  output : w'.output = w.output
  size : w.heap.size ≤ w'.heap.size
  block : ∀ q, q < w.heap.size → q ≠ blk → w'.heap[q]? = w.heap[q]?

theorem LFr.refl (w : World) (blk : Nat) : LFr w w blk := ⟨rfl, rfl, rfl, Nat.le_refl _, fun _ _ _ => rfl⟩
theorem LFr.below {w0 w w' : World} {B blk : Nat} (h : LFr w w' blk) (h0 : Below B w0 w) (hB : B ≤ w0.heap.size) (hb : B ≤ blk) : Below B w0 w' :=
  ⟨h.os.trans h0.os, h.tape.trans h0.tape, h.output.trans h0.output, Nat.le_trans h0.size h.size, fun k hk => by rw [h.block k (by have := h0.size; omega) (by omega)]; exact h0.block k hk⟩
end Go.Proofs.Ytokbkbchblfcoaa

/- The walks of codesOf and plain: codes as they are handed out. -/
import Derived.Test.YtokbkbchblfcoaaPEnc
import Derived.Test.YtokbkbchblfcoaaSUsed
namespace Go.Proofs.Ytokbkbchblfcoaa
open Go.RowKit

theorem info_code : (Try.prog.info? 58).map (fun i => (i.zero, i.size, i.bytes)) = some (some (.agg #[.int .u16 0, .int .u8 0]), 2, 4) := by kernel_rfl

/-- The cells of codes: the bits and how many. -/
def cvs (cs : List (Nat × Nat)) : List Value := cs.flatMap fun c => [.int .u16 (c.1 : Int), .int .u8 (c.2 : Int)]
theorem cvs_append (a b : List (Nat × Nat)) : cvs (a ++ b) = cvs a ++ cvs b := by simp [cvs]
theorem cvs_len (a : List (Nat × Nat)) : (cvs a).length = a.length * 2 := by
  induction a with
  | nil => rfl
  | cons x r ih => simp [cvs] at ih ⊢; omega
theorem cvs_get (a : List (Nat × Nat)) (i : Nat) (h : i < a.length) : (cvs a)[2 * i]? = some (.int .u16 ((a[i]).1 : Int)) ∧ (cvs a)[2 * i + 1]? = some (.int .u8 ((a[i]).2 : Int)) := by
  induction a generalizing i with
  | nil => simp at h
  | cons x r ih =>
    have e : cvs (x :: r) = [.int .u16 (x.1 : Int), .int .u8 (x.2 : Int)] ++ cvs r := by simp [cvs]
    rw [e]
    cases i with
    | zero => simp
    | succ i =>
      have h' : i < r.length := by simpa using h
      have := ih i h'
      have e2 : 2 * (i + 1) = 2 * i + 1 + 1 := by omega
      rw [e2]
      simpa using this

theorem two_one (k k' : IntKind) (a b : Int) : ∀ u ∈ [Value.int k a, Value.int k' b], u.oneCell' = true := by
  intro u hu
  simp at hu
  rcases hu with rfl | rfl <;> rfl

/-- What a number holds: the bits above 8, the length below. -/
def codeOf (h : Nat) : Nat × Nat := (h / 256, h % 256)

set_option maxHeartbeats 1000000 in
set_option maxRecDepth 100000 in
theorem codesOf_any {base hb cb cap : Nat} {cur : Array Value} (cs : List Nat) (w : World) (hE : EncB w base hb cb cap cur cs) (hlen : cs.length < 65536) (h24 : ∀ x ∈ cs, x < 16777216) :
    Calls Try.prog 45 #[.pointer (some ⟨hb, 0, none⟩)] w fun e w' => ∃ v, e = .returned v ∧ w'.ownsRow w.heap.size 58 2 v cs.length (cvs (cs.map codeOf)) ∧ Below w.heap.size w w' := by
  obtain ⟨i0, hi, hz0, hz1, hz2⟩ := info_parts info_code
  have hc0 := hE.cell
  have HE := Lib.hid hE
  have H24 := Lib.hid h24
  clear hE h24
  go_enter Try.func45, Try.ntmps45
  go_wp2
  go_loopw [3, 5, 11] (fun v _ i wr => ∃ k : Nat, k ≤ cs.length ∧ i = .int .i64 k ∧ wr.ownsRow w.heap.size 58 2 v k (cvs ((cs.take k).map codeOf)) ∧ Below w.heap.size w wr) (fun _ _ i _ => cs.length - (intOf i).toNat)
  case atStart => exact ⟨0, Nat.zero_le _, rfl, World.ownsRow_nil _ _ _ _, Below.refl _ _⟩
  case round =>
    obtain ⟨k, hk, rfl, hown, hbel⟩ := hrel
    by_cases hlt : k < cs.length
    · have hck : wr.cell? ⟨cb, k, none⟩ = _ := (hbel.cell (by exact HE.out.cb_lt.2)).trans (owns_cell HE.out.own k hlt rfl)
      have H1 := Lib.hid (take_succ_getD cs k hlt)
      have hx := H24.out _ (getD_mem cs k hlt)
      have hsz := hbel.size
      clear hc0 H24
      generalize cs.getD k 0 = x at *
      have hw8 : IntKind.u8.wrap (x : Int) = ((x % 256 : Nat) : Int) := by rw [IntKind.wrap_u8]; omega
      have HB := Lib.hid hbel
      have HO := Lib.hid hown
      clear hbel hown
      go_wp2_with (first | (at_builtin; go_must (refine wpList_appN wr w rfl (.tmp 15) (.tmp 22) 49 (.agg #[.int .u16 0, .int .u8 0]) 2 rfl Try.underlying49 hi hz0 hz1 hz2 rfl (by decide) (by decide) _ k _ [.int .u16 ((x : Int) / 256), .int .u8 ((x : Int) % 256)] _ rfl HO.out rfl rfl (cells_new _ _ _ _) (two_one _ _ _ _) (by omega) hsz HB.out ?_); intro v' w1 hown1 hbel1 _ _ _) | go_in)
      go_roundw
      case rel =>
        refine ⟨k + 1, by omega, by go_num, ?_, hbel1⟩
        rw [H1.out, List.map_append, cvs_append]
        exact hown1
      case measure => simp [intOf]; omega
    · go_wp2
      go_ret
      have hkl : k = cs.length := by omega
      subst hkl
      rw [List.take_length] at hown
      exact ⟨_, rfl, hown, hbel⟩
end Go.Proofs.Ytokbkbchblfcoaa

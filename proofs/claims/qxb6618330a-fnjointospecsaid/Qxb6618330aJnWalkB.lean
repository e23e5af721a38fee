/-
  Walks: joinToSameRow; the readers of a join.
-/
import Derived.Test.Qxb6618330aJnWalkA
import Derived.Deep.QuietTactic
import Derived.BigQuiet
import Derived.WalkSmall
namespace Go.Proofs.Qxb6618330a.Jn
open Go.ChangeShapes Go.WideShapes Go.ChangeAt Go.RowKit

theorem q22e : ∀ (w : World) (a : Option Addr) (n c n' c' : Nat), (binOp .eql 22 (.slice a n c) (.slice none n' c')).run Try.prog w = .ok (.bool a.isNone) w := fun w a n c n' c' => Lib.run_eql_slice_nil w _ _ a n c n' c' Try.underlying22

set_option maxHeartbeats 400000 in
theorem same_nil (w : World) : Calls Try.prog 16 #[.slice none 0 0, .slice none 0 0] w fun e w' => e = .returned (.bool true) ∧ Below w.heap.size w w' := by
  have q := q22e
  go_enter Try.func16, Try.ntmps16
  go_wp2
  refine wp_loop_rounds 1 ?_
  rw [rounds_succ]
  go_wp2
  go_ret
  exact ⟨rfl, Below.refl _ _⟩

set_option maxHeartbeats 800000 in
theorem same_some (a1 a2 : Addr) (n c1 c2 : Nat) (xs : List ByteArray) (w : World) (hn : xs.length = n) (hs : n ≤ 1048576) (h1 : VRow w (some a1) (strs xs)) (h2 : VRow w (some a2) (strs xs)) :
    Calls Try.prog 16 #[.slice (some a1) n c1, .slice (some a2) n c2] w fun e w' => e = .returned (.bool true) ∧ Below w.heap.size w w' := by
  have q := q22e
  have H1 := hid h1
  have H2 := hid h2
  have HN := hid hn
  clear h1 h2 hn
  go_enter Try.func16, Try.ntmps16
  go_wp2
  clear q
  go_loopw [5] (fun i wr => ∃ j : Nat, j ≤ n ∧ i = .int .i64 j ∧ Below w.heap.size w wr) (fun i _ => n - (intOf i).toNat)
  case atStart => exact ⟨0, Nat.zero_le _, rfl, Below.refl _ _⟩
  case round =>
    obtain ⟨j, hj, rfl, hbl⟩ := hrel
    by_cases hlt : j < n
    · have hjx : j < xs.length := by rw [HN.out]; omega
      obtain ⟨b, off, e1, hb, hc⟩ := (H1.out.below hbl).at (by simp; omega)
      obtain ⟨b2, off2, e2, hb2, hc2⟩ := (H2.out.below hbl).at (by simp; omega)
      obtain rfl := Option.some.inj e1
      obtain rfl := Option.some.inj e2
      have c0 := hc j (by simpa using hjx)
      have c1 := hc2 j (by simpa using hjx)
      rw [List.getElem_map] at c0 c1
      obtain ⟨t, ht⟩ : ∃ t, t = xs[j] := ⟨_, rfl⟩
      rw [← ht] at c0 c1
      have hlt' : (j : Int) < (n : Int) := by omega
      clear hc hc2 ht e1 e2
      go_wp2
      go_quiet (fail)
      go_wp2
      go_roundw
      case rel => exact ⟨j + 1, by omega, by go_num, below_drewN hbl _⟩
      case measure => simp [intOf]; omega
    · go_wp2
      go_ret
      exact ⟨rfl, hbl⟩

/-- What a row's value is worth: nil, or the strings behind it. -/
def RowV (w : World) (v : Value) : Option (List ByteArray) → Prop
  | none => v = .slice none 0 0
  | some ss => ∃ a n c, v = .slice (some a) n c ∧ ss.length = n ∧ n ≤ 1048576 ∧ VRow w (some a) (strs ss)
theorem RowV.keep {w w' : World} {v : Value} {r : Option (List ByteArray)} (h : RowV w v r) (hs : w.heap.size ≤ w'.heap.size) (hk : ∀ ao n c b off, v = .slice ao n c → ao = some ⟨b, off, none⟩ → b < w.heap.size → w'.heap[b]? = w.heap[b]?) : RowV w' v r := by
  cases r with
  | none => exact h
  | some ss =>
    obtain ⟨a, n, c, h1, h2, h3, h4⟩ := h
    exact ⟨a, n, c, h1, h2, h3, h4.keep hs fun b off e hb => hk _ _ _ b off h1 e hb⟩
theorem RowV.below {w w' : World} {v : Value} {r : Option (List ByteArray)} (h : RowV w v r) (hB : Below w.heap.size w w') : RowV w' v r :=
  h.keep hB.size fun _ _ _ b _ _ _ hb => hB.block b hb
theorem same_any (v1 v2 : Value) (r : Option (List ByteArray)) (w : World) (h1 : RowV w v1 r) (h2 : RowV w v2 r) :
    Calls Try.prog 16 #[v1, v2] w fun e w' => e = .returned (.bool true) ∧ Below w.heap.size w w' := by
  cases r with
  | none =>
    obtain rfl : v1 = _ := h1
    obtain rfl : v2 = _ := h2
    exact same_nil w
  | some ss =>
    obtain ⟨a, n, c, rfl, hn, hs, hr⟩ := h1
    obtain ⟨a2, n2, c2, rfl, hn2, _, hr2⟩ := h2
    obtain rfl : n = n2 := hn.symm.trans hn2
    exact same_some a a2 n c c2 ss w hn hs hr hr2

/-! ### The readers of a join -/
set_option maxHeartbeats 400000 in
theorem lines_any (v1 : Option Nat) (x2 x3 : Int) (ao : Option Addr) (n c : Nat) (w : World) :
    Calls Try.prog 10 #[.agg #[.map v1, .int .i64 x2, .int .i64 x3, .slice ao n c]] w fun e w' => e = .returned (.map v1) ∧ Below w.heap.size w w' := by
  go_enter Try.func10, Try.ntmps10
  go_wp2
  go_ret
  exact ⟨rfl, (Below.refl _ _).alloc (Nat.le_refl _) _⟩
set_option maxHeartbeats 400000 in
theorem idAt_any (v1 : Option Nat) (x2 x3 : Int) (ao : Option Addr) (n c : Nat) (w : World) :
    Calls Try.prog 11 #[.agg #[.map v1, .int .i64 x2, .int .i64 x3, .slice ao n c]] w fun e w' => e = .returned (.int .i64 x2) ∧ Below w.heap.size w w' := by
  go_enter Try.func11, Try.ntmps11
  go_wp2
  go_ret
  exact ⟨rfl, (Below.refl _ _).alloc (Nat.le_refl _) _⟩
set_option maxHeartbeats 400000 in
theorem width_any (v1 : Option Nat) (x2 x3 : Int) (ao : Option Addr) (n c : Nat) (w : World) :
    Calls Try.prog 12 #[.agg #[.map v1, .int .i64 x2, .int .i64 x3, .slice ao n c]] w fun e w' => e = .returned (.int .i64 x3) ∧ Below w.heap.size w w' := by
  go_enter Try.func12, Try.ntmps12
  go_wp2
  go_ret
  exact ⟨rfl, (Below.refl _ _).alloc (Nat.le_refl _) _⟩
set_option maxHeartbeats 400000 in
theorem cellCount_any (v1 : Option Nat) (x2 x3 : Int) (ao : Option Addr) (n c : Nat) (w : World) :
    Calls Try.prog 13 #[.agg #[.map v1, .int .i64 x2, .int .i64 x3, .slice ao n c]] w fun e w' => e = .returned (.int .i64 n) ∧ Below w.heap.size w w' := by
  go_enter Try.func13, Try.ntmps13
  go_wp2
  go_ret
  exact ⟨rfl, (Below.refl _ _).alloc (Nat.le_refl _) _⟩
set_option maxHeartbeats 800000 in
theorem cell_any (v1 : Option Nat) (x2 x3 : Int) (g off n c i : Nat) (y z : Int) (w : World) (hi : i < n) (hg : g < w.heap.size) (h0 : w.cell? ⟨g, off + i * 2, none⟩ = some (.int .i64 y)) (h1 : w.cell? ⟨g, off + i * 2 + 1, none⟩ = some (.int .i64 z)) :
    Calls Try.prog 17 #[.agg #[.map v1, .int .i64 x2, .int .i64 x3, .slice (some ⟨g, off, none⟩) n c], .int .i64 i] w fun e w' => e = .returned (.tuple #[.int .i64 y, .int .i64 z]) ∧ Below w.heap.size w w' := by
  have hi' : (i : Int) < (n : Int) := by omega
  go_enter Try.func17, Try.ntmps17
  go_wp2
  go_quiet (fail)
  go_wp2
  go_ret2
  exact ⟨rfl, below_drewN ((Below.refl _ _).alloc (Nat.le_refl _) _) _⟩

end Go.Proofs.Qxb6618330a.Jn

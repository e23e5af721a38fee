/-
  Rows of assignments in memory: three cells each.
-/
import Derived.Test.Qxb6618129aAccWalkA
namespace Go.Proofs.Qxb6618129a.Acc
open Go.ChangeShapes Go.WideShapes Go.ChangeAt Go.RowKit

/-- The cells of a row of assignments. -/
def flat : List A3 → List Value
  | [] => []
  | a :: M => .int .i64 a.1 :: .bool a.2.1 :: .int .i64 a.2.2 :: flat M

theorem flat_length : ∀ M : List A3, (flat M).length = M.length * 3
  | [] => rfl
  | a :: M => by simp only [flat, List.length_cons, flat_length M]; omega

theorem flat_at : ∀ (M : List A3) (i : Nat) (h : i < M.length),
    (flat M)[i * 3]? = some (.int .i64 M[i].1) ∧ (flat M)[i * 3 + 1]? = some (.bool M[i].2.1) ∧ (flat M)[i * 3 + 2]? = some (.int .i64 M[i].2.2)
  | [], i, h => by simp at h
  | a :: M, 0, _ => by simp [flat]
  | a :: M, i + 1, h => by
    have := flat_at M i (by simpa using h)
    rw [show (i + 1) * 3 = i * 3 + 3 by omega]
    simp only [flat, List.getElem_cons_succ]
    exact this

theorem flat_set : ∀ (M : List A3) (i : Nat) (_ : i < M.length) (a : A3),
    (((flat M).set (i * 3) (.int .i64 a.1)).set (i * 3 + 1) (.bool a.2.1)).set (i * 3 + 2) (.int .i64 a.2.2) = flat (M.set i a)
  | [], i, h, _ => by simp at h
  | b :: M, 0, _, a => by simp [flat]
  | b :: M, i + 1, h, a => by
    have := flat_set M i (by simpa using h) a
    rw [show (i + 1) * 3 = i * 3 + 3 by omega]
    simp only [flat, List.set_cons_succ]
    rw [← this]

/-- The zero assignment. -/
def zer : A3 := (0, false, 0)
theorem flat_made (n : Nat) : (madeCells #[.int .i64 0, .bool false, .int .i64 0] (n * 3)).toList = flat (List.replicate n zer) := by
  apply List.ext_getElem?
  intro j
  by_cases hj : j < n * 3
  · have hq : j / 3 < (List.replicate n zer).length := by simp; omega
    obtain ⟨h0, h1, h2⟩ := flat_at (List.replicate n zer) (j / 3) hq
    simp only [List.getElem_replicate, zer] at h0 h1 h2
    have e : (madeCells #[.int .i64 0, .bool false, .int .i64 0] (n * 3)).toList[j]? = some ((#[.int .i64 0, .bool false, .int .i64 0] : Array Value)[j % 3]!) := by
      simp [madeCells, hj]
    rw [e]
    rcases (show j % 3 = 0 ∨ j % 3 = 1 ∨ j % 3 = 2 by omega) with h | h | h
    · rw [show j / 3 * 3 = j by omega] at h0; rw [h]; exact h0.symm
    · rw [show j / 3 * 3 + 1 = j by omega] at h1; rw [h]; exact h1.symm
    · rw [show j / 3 * 3 + 2 = j by omega] at h2; rw [h]; exact h2.symm
  · rw [List.getElem?_eq_none (by simp [madeCells]; omega), List.getElem?_eq_none (by rw [flat_length]; simp; omega)]

/-- A row of the call's own, at block g. -/
def Own (w : World) (base g n : Nat) (M : List A3) : Prop :=
  M.length = n ∧ w.ownsRow base 30 3 (.slice (some ⟨g, 0, none⟩) n n) n (flat M)

theorem Own.cells {w : World} {base g n : Nat} {M : List A3} (h : Own w base g n M) (i : Nat) (hi : i < M.length) :
    w.cell? ⟨g, i * 3, none⟩ = some (.int .i64 M[i].1) ∧ w.cell? ⟨g, i * 3 + 1, none⟩ = some (.bool M[i].2.1) ∧ w.cell? ⟨g, i * 3 + 2, none⟩ = some (.int .i64 M[i].2.2) := by
  obtain ⟨h0, h1, h2⟩ := flat_at M i hi
  have hl := h.1
  exact ⟨(h.2.cellAt _ (by omega)).trans h0, (h.2.cellAt _ (by omega)).trans h1, (h.2.cellAt _ (by omega)).trans h2⟩
theorem Own.there {w : World} {base g n : Nat} {M : List A3} (h : Own w base g n M) (i : Nat) (hi : i < n) :
    ∃ v0 v1 v2, w.cell? ⟨g, i * 3, none⟩ = some v0 ∧ w.cell? ⟨g, i * 3 + 1, none⟩ = some v1 ∧ w.cell? ⟨g, i * 3 + 2, none⟩ = some v2 := by
  obtain ⟨h0, h1, h2⟩ := h.cells i (by rw [h.1]; exact hi)
  exact ⟨_, _, _, h0, h1, h2⟩
theorem Own.free {w : World} {base g n : Nat} {M : List A3} (h : Own w base g n M) (j : Nat) : w.frozen? ⟨g, j, none⟩ = false := h.2.frozenAt j
/-- The three stores of one assignment. -/
def put3 (w : World) (g i : Nat) (a : A3) : World := ((w.setCell ⟨g, i * 3, none⟩ (.int .i64 a.1)).setCell ⟨g, i * 3 + 1, none⟩ (.bool a.2.1)).setCell ⟨g, i * 3 + 2, none⟩ (.int .i64 a.2.2)
theorem Own.put {w : World} {base g n : Nat} {M : List A3} (h : Own w base g n M) (i : Nat) (hi : i < n) (a : A3) : Own (put3 w g i a) base g n (M.set i a) := by
  refine ⟨by simpa using h.1, ?_⟩
  have h1 := (h.2.stored (i * 3) (.int .i64 a.1)).1
  have h2 := (h1.stored (i * 3 + 1) (.bool a.2.1)).1
  have h3 := (h2.stored (i * 3 + 2) (.int .i64 a.2.2)).1
  rw [flat_set M i (by rw [h.1]; exact hi) a] at h3
  exact h3
theorem below_put3 {B : Nat} {v w : World} (h : Below B v w) {g : Nat} (hg : B ≤ g) (i : Nat) (a : A3) : Below B v (put3 w g i a) :=
  ((h.setCell (p := ⟨g, i * 3, none⟩) hg _).setCell (p := ⟨g, i * 3 + 1, none⟩) hg _).setCell (p := ⟨g, i * 3 + 2, none⟩) hg _
theorem Own.block {w : World} {base g n : Nat} {M : List A3} (h : Own w base g n M) : g < w.heap.size ∧ base ≤ g := by
  rcases h.2.2 with ⟨h', _⟩ | ⟨g', cap', cur, h', hb, hg, _⟩
  · simp at h'
  · simp only [Value.slice.injEq, Option.some.injEq, Addr.mk.injEq, and_true, true_and] at h'
    obtain ⟨rfl, rfl⟩ := h'
    obtain ⟨hlt, _⟩ := Array.getElem?_eq_some_iff.1 hg
    exact ⟨hlt, hb⟩
theorem Own.lies {w : World} {base g n : Nat} {M : List A3} (h : Own w base g n M) : Lies w g 0 M := fun i hi => by
  simpa using h.cells i hi

theorem Own.below {w w' : World} {base g n : Nat} {M : List A3} (h : Own w base g n M) (hB : Below w.heap.size w w') : Own w' base g n M := by
  have hg := h.block.1
  refine ⟨h.1, h.2.1, ?_⟩
  rcases h.2.2 with ⟨h', _⟩ | ⟨g', cap', cur, h', hb, hgc, r⟩
  · simp at h'
  · have h'' := h'
    simp only [Value.slice.injEq, Option.some.injEq, Addr.mk.injEq, and_true, true_and] at h''
    obtain ⟨rfl, rfl⟩ := h''
    exact .inr ⟨g, n, cur, rfl, hb, by rw [hB.block g hg]; exact hgc, r⟩
/-- What lies at place k of a row that is filled as far as k. -/
theorem fill_set (L : List A3) (n k : Nat) (hn : L.length = n) (h : k < n) (x : A3) (hx : x = L[k]'(by omega)) : (L.take k ++ List.replicate (n - k) zer).set k x = L.take (k + 1) ++ List.replicate (n - (k + 1)) zer := by
  have hk : (L.take k).length = k := by simp; omega
  rw [List.set_append_right _ _ (by omega), hk, Nat.sub_self, show n - k = (n - (k + 1)) + 1 by omega, List.replicate_succ, List.set_cons_zero,
    List.take_succ_eq_append_getElem (by omega), ← hx, List.append_assoc]
  rfl
theorem fill_end (L : List A3) (n : Nat) (hn : L.length = n) : L.take n ++ List.replicate (n - n) zer = L := by
  simp [List.take_of_length_le (Nat.le_of_eq hn)]

/-- The row of an insertion, filled as far as place k, and its end. -/
theorem ins_mid {α : Type} (L : List α) (n i : Nat) (hn : L.length = n) (hi : i ≤ n) (a z : α) : (L.take i ++ List.replicate (n + 1 - i) z).set i a = insAt (L.take i) i a ++ List.replicate (n - i) z := by
  have hk : (L.take i).length = i := by simp; omega
  rw [List.set_append_right _ _ (by omega), hk, Nat.sub_self, show n + 1 - i = (n - i) + 1 by omega, List.replicate_succ, List.set_cons_zero]
  have e1 : (L.take i).take i = L.take i := List.take_of_length_le (by omega)
  have e2 : (L.take i).drop i = [] := List.drop_eq_nil_of_le (by omega)
  unfold insAt
  rw [e1, e2, List.append_assoc]
  rfl
theorem ins_set {α : Type} (L : List α) (n i k : Nat) (hn : L.length = n) (hi : i ≤ k) (h : k < n) (a z : α) (x : α) (hx : x = L[k]'(by omega)) :
    (insAt (L.take k) i a ++ List.replicate (n - k) z).set (k + 1) x = insAt (L.take (k + 1)) i a ++ List.replicate (n - (k + 1)) z := by
  have hk : (L.take k).length = k := by simp; omega
  have hl : (insAt (L.take k) i a).length = k + 1 := by rw [insAt_length _ _ _ (by omega), hk]
  rw [List.set_append_right _ _ (by omega), hl, Nat.sub_self, show n - k = (n - (k + 1)) + 1 by omega, List.replicate_succ, List.set_cons_zero]
  have e : insAt (L.take (k + 1)) i a = insAt (L.take k) i a ++ [x] := by
    unfold insAt
    rw [List.take_succ_eq_append_getElem (by omega), ← hx, List.take_append_of_le_length (by omega), List.drop_append_of_le_length (by omega)]
    simp
  rw [e, List.append_assoc]
  rfl
theorem ins_end {α : Type} (L : List α) (n i : Nat) (hn : L.length = n) (a z : α) : insAt (L.take n) i a ++ List.replicate (n - n) z = insAt L i a := by
  simp [List.take_of_length_le (Nat.le_of_eq hn)]
/-- The first loop's row. -/
theorem ins_fill {α : Type} (L : List α) (n k : Nat) (hn : L.length = n) (h : k < n) (z x : α) (hx : x = L[k]'(by omega)) : (L.take k ++ List.replicate (n + 1 - k) z).set k x = L.take (k + 1) ++ List.replicate (n + 1 - (k + 1)) z := by
  have hk : (L.take k).length = k := by simp; omega
  rw [List.set_append_right _ _ (by omega), hk, Nat.sub_self, show n + 1 - k = (n + 1 - (k + 1)) + 1 by omega, List.replicate_succ, List.set_cons_zero,
    List.take_succ_eq_append_getElem (by omega), ← hx, List.append_assoc]
  rfl

end Go.Proofs.Qxb6618129a.Acc

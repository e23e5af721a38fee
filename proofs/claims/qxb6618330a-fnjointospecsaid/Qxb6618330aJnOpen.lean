/-
  The arguments opened.
-/
import Derived.Test.Qxb6618330aJnMain
import Derived.Deep.Slices
import Derived.ChangeOld
namespace Go.Proofs.Qxb6618330a.Jn
set_option linter.unusedVariables false
open Go.ChangeShapes Go.WideShapes Go.ChangeAt Go.RowKit Go.Deep

theorem cells9 : Try.prog.cellsOf 9 = 1 := by kernel_rfl
theorem cells22 : Try.prog.cellsOf 22 = 1 := by kernel_rfl
theorem cells3 : Try.prog.cellsOf 3 = 1 := by kernel_rfl

theorem cell_lt {w : World} {b o : Nat} {v : Value} (h : w.cell? ⟨b, o, none⟩ = some v) : b < w.heap.size := by
  by_cases hb : b < w.heap.size
  · exact hb
  · have : w.heap[b]? = none := Array.getElem?_eq_none (by omega)
    unfold World.cell? at h
    simp [this] at h

/-- Cells behind an address make a row. -/
theorem vrow_of {W : World} {a : Addr} {len : Nat} {V : Nat → Value} (h : ∀ i, i < len → W.cell? (a.add i) = some (V i)) : VRow W (some a) ((List.range len).map V) := by
  by_cases h0 : len = 0
  · left; simp [h0]
  · right
    obtain ⟨b, off, spot⟩ := a
    have hs : spot = none := by simpa [Addr.add] using World.cell?_spot (h 0 (by omega))
    subst hs
    have ea : ∀ j, (⟨b, off, none⟩ : Addr).add j = ⟨b, off + j, none⟩ := fun j => by simp [Addr.add]
    refine ⟨b, off, rfl, ?_, fun i hi => ?_⟩
    · have := h 0 (by omega)
      rw [ea] at this
      exact cell_lt this
    · have hi' : i < len := by simpa using hi
      have := h i hi'
      rw [ea] at this
      simpa using this

variable {H : Type} {enc : TypeId × Value → H} {W : World}

/-- A row of strings, read. -/
theorem open_row {fuel : Nat} {v : Value} {x : DataW H × List MemPlace} (h : DataW.trod enc Try.prog W 0 (fun _ => true) true fuel 22 [v] = some x) :
    v = .slice none 0 0 ∨ ∃ a len cap ss, v = .slice (some a) len cap ∧ ss.length = len ∧ len ≤ maxLen ∧ VRow W (some a) (strs ss) ∧ ∀ s ∈ ss, s.size ≤ maxLen := by
  rcases open_slice1 Try.underlying22 cells9 h with ⟨hcs, _⟩ | ⟨a, len, cap, m, n, V, D, Pl, hcs, _, hl, hm, hmm, _, hx⟩
  · simp at hcs
    exact .inl hcs
  · simp at hcs
    right
    have hml : len ≤ m := by simp at hmm; omega
    obtain ⟨F, hF⟩ := choose_lt (α := ByteArray) (n := len) (p := fun i s => V i = .string s ∧ s.size ≤ maxLen) (fun i hi => by
      obtain ⟨s, hs, _, hsz⟩ := DataW.trod_string Try.underlying9 (hx i (by omega)).2
      simp at hs
      exact ⟨s, hs, hsz⟩)
    refine ⟨a, len, cap, (List.range len).map F, hcs, by simp, by omega, ?_, ?_⟩
    · have e : strs ((List.range len).map F) = (List.range len).map (fun i => .string (F i)) := by simp
      rw [e]
      exact vrow_of fun i hi => by rw [(hx i (by omega)).1, (hF i hi).1]
    · intro s hs
      obtain ⟨i, hi, rfl⟩ := List.mem_map.1 hs
      exact (hF i (by simpa using hi)).2

theorem open_strs22 {ao : Option Addr} {len cap : Nat} {d : DataW H} {p : List MemPlace} (h : DataW.Trod enc Try.prog W 0 (fun _ => true) true 22 (.slice ao len cap) d p) :
    ∃ ss : List ByteArray, VRow W ao (strs ss) ∧ ss.length = len ∧ len ≤ maxLen ∧ (∀ s ∈ ss, s.size ≤ maxLen) ∧ (ao = none → len = 0) := by
  obtain ⟨fuel, hf⟩ := h
  rcases open_row (v := .slice ao len cap) hf with h | ⟨a, l, c, ss, h1, h2, h3, h4, h5⟩
  · simp only [Value.slice.injEq] at h
    obtain ⟨rfl, rfl, rfl⟩ := h
    exact ⟨[], .inl rfl, rfl, Nat.zero_le _, fun s hs => by simp at hs, fun _ => rfl⟩
  · simp only [Value.slice.injEq] at h1
    obtain ⟨rfl, rfl, rfl⟩ := h1
    exact ⟨ss, h4, h2, h3, h5, fun e => by simp at e⟩

theorem open_nums24 {ao : Option Addr} {len cap : Nat} {d : DataW H} {p : List MemPlace} (h : DataW.Trod enc Try.prog W 0 (fun _ => true) true 24 (.slice ao len cap) d p) :
    ∃ xs : List Int, VRow W ao (nums xs) ∧ xs.length = len ∧ len ≤ maxLen := by
  obtain ⟨fuel, hf⟩ := h
  rcases open_slice1 Try.underlying24 cells3 hf with ⟨hcs, _⟩ | ⟨a, len', cap', m, n, V, D, Pl, hcs, _, hl, hm, hmm, _, hx⟩
  · simp [Value.cells] at hcs
    obtain ⟨rfl, rfl, rfl⟩ := hcs
    exact ⟨[], .inl rfl, rfl, Nat.zero_le _⟩
  · simp [Value.cells] at hcs
    obtain ⟨rfl, rfl, rfl⟩ := hcs
    have hml : len ≤ m := by simp at hmm; omega
    obtain ⟨F, hF⟩ := choose_lt (α := Int) (n := len) (p := fun i s => V i = .int .i64 s) (fun i hi => by
      obtain ⟨s, hs, _⟩ := DataW.trod_int Try.underlying3 (hx i (by omega)).2
      simp at hs
      exact ⟨s, hs⟩)
    refine ⟨(List.range len).map F, ?_, by simp, by omega⟩
    have e : nums ((List.range len).map F) = (List.range len).map (fun i => .int .i64 (F i)) := by simp
    rw [e]
    exact vrow_of fun i hi => by rw [(hx i (by omega)).1, hF i hi]

/-- What a row's value is, whatever its size. -/
def RowC (W : World) (v : Value) : Option (List ByteArray) → Prop
  | none => v = .slice none 0 0
  | some ss => ∃ a n c, v = .slice (some a) n c ∧ ss.length = n ∧ n ≤ maxLen ∧ VRow W (some a) (strs ss) ∧ ∀ s ∈ ss, s.size ≤ maxLen

theorem open_rows23 {ao : Option Addr} {len cap : Nat} {d : DataW H} {p : List MemPlace} (h : DataW.Trod enc Try.prog W 0 (fun _ => true) true 23 (.slice ao len cap) d p) :
    ∃ (vs : List Value) (ro : List (Option (List ByteArray))), VRow W ao vs ∧ vs.length = len ∧ ro.length = len ∧ len ≤ maxLen ∧ ∀ i (h : i < vs.length) (h' : i < ro.length), RowC W vs[i] ro[i] := by
  obtain ⟨fuel, hf⟩ := h
  rcases open_slice1 Try.underlying23 cells22 hf with ⟨hcs, _⟩ | ⟨a, len', cap', m, n, V, D, Pl, hcs, _, hl, hm, hmm, _, hx⟩
  · simp [Value.cells] at hcs
    obtain ⟨rfl, rfl, rfl⟩ := hcs
    exact ⟨[], [], .inl rfl, rfl, rfl, Nat.zero_le _, fun i h => by simp at h⟩
  · simp [Value.cells] at hcs
    obtain ⟨rfl, rfl, rfl⟩ := hcs
    have hml : len ≤ m := by simp at hmm; omega
    obtain ⟨F, hF⟩ := choose_lt (α := Option (List ByteArray)) (n := len) (p := fun i r => RowC W (V i) r) (fun i hi => by
      rcases open_row (hx i (by omega)).2 with h | ⟨a, l, c, ss, h1, h2, h3, h4, h5⟩
      · exact ⟨none, h⟩
      · exact ⟨some ss, a, l, c, h1, h2, h3, h4, h5⟩)
    refine ⟨(List.range len).map V, (List.range len).map F, vrow_of fun i hi => (hx i (by omega)).1, by simp, by simp, by omega, fun i h h' => ?_⟩
    simp only [List.getElem_map, List.getElem_range]
    exact hF i (by simpa using h)

theorem came_of {a1 : Option Addr} {n1 : Nat} {h1 : List ByteArray} {a2 : Option Addr} {n2 : Nat} {h2 : List ByteArray} {a3 : Option Addr} {n3 : Nat} {vs : List Value} {ro : List (Option (List ByteArray))}
    {a4 : Option Addr} {n4 : Nat} {h4 : List ByteArray} {a5 : Option Addr} {n5 : Nat} {h5 : List Int}
    (q1 : VRow W a1 (strs h1) ∧ h1.length = n1 ∧ n1 ≤ maxLen ∧ (∀ s ∈ h1, s.size ≤ maxLen) ∧ (a1 = none → n1 = 0))
    (q2 : VRow W a2 (strs h2) ∧ h2.length = n2 ∧ n2 ≤ maxLen ∧ (∀ s ∈ h2, s.size ≤ maxLen) ∧ (a2 = none → n2 = 0))
    (q3 : VRow W a3 vs ∧ vs.length = n3 ∧ ro.length = n3 ∧ n3 ≤ maxLen ∧ ∀ i (h : i < vs.length) (h' : i < ro.length), RowC W vs[i] ro[i])
    (q4 : VRow W a4 (strs h4) ∧ h4.length = n4 ∧ n4 ≤ maxLen ∧ (∀ s ∈ h4, s.size ≤ maxLen) ∧ (a4 = none → n4 = 0))
    (q5 : VRow W a5 (nums h5) ∧ h5.length = n5 ∧ n5 ≤ maxLen) : Came W a1 n1 h1 a2 n2 h2 a3 n3 vs ro a4 n4 h4 a5 n5 h5 := by
  obtain ⟨x1, x2, x3, x4, x5⟩ := q1
  obtain ⟨y1, y2, y3, y4, y5⟩ := q2
  obtain ⟨z1, z2, z3, z4, z5⟩ := q3
  obtain ⟨u1, u2, u3, u4, _⟩ := q4
  obtain ⟨v1, v2, v3⟩ := q5
  refine ⟨⟨x1, x2, x3, x4, y1, y2, y3, y4, z1, z2, z4, by simpa using z3, fun i hi hi' => ?_, u1, u2, u3, u4, v3⟩, x5, y5, fun i hi hi' => ?_, v1, v2⟩
  · have hir : i < ro.length := by simpa using hi'
    have := z5 i hi hir
    rw [List.getElem_map]
    cases hro : ro[i] with
    | none =>
      rw [hro] at this
      have e : vs[i] = .slice none 0 0 := this
      rw [e]
      exact ⟨none, 0, 0, rfl, rfl, Nat.zero_le _, .inl rfl, fun s hs => by simp at hs⟩
    | some ss =>
      rw [hro] at this
      obtain ⟨a, n, c, e, k1, k2, k3, k4⟩ := this
      exact ⟨some a, n, c, e, k1, k2, k3, k4⟩
  · have := z5 i hi hi'
    cases hro : ro[i] with
    | none => rw [hro] at this; exact this
    | some ss =>
      rw [hro] at this
      obtain ⟨a, n, c, e, k1, k2, k3, k4⟩ := this
      exact ⟨a, n, c, e, k1, k3⟩

end Go.Proofs.Qxb6618330a.Jn

/-
  The arguments opened: a slice of assignments that came in; a slice of numbers; an assignment by value.
-/
import Derived.Test.Qxb6618129aAccWalkA
import Derived.Deep.Slices
import Derived.Deep.Strs
import Derived.Lib.SmallJoins
import Derived.ChangeOld
import Derived.Below
namespace Go.Proofs.Qxb6618129a.Acc
open Go.ChangeShapes Go.WideShapes Go.ChangeAt Go.RowKit Go.Deep Go.Joins

theorem cells24 : Try.prog.cellsOf 24 = 3 := by kernel_rfl
theorem cells2 : Try.prog.cellsOf 2 = 1 := by kernel_rfl
theorem cells4 : Try.prog.cellsOf 4 = 1 := by kernel_rfl

theorem three {α : Type} {l : List α} (h : l.length = 3) : ∃ a b c, l = [a, b, c] := by
  match l, h with
  | [a, b, c], _ => exact ⟨a, b, c, rfl⟩

theorem cell_lt {w : World} {b o : Nat} {v : Value} (h : w.cell? ⟨b, o, none⟩ = some v) : b < w.heap.size := by
  by_cases hb : b < w.heap.size
  · exact hb
  · have : w.heap[b]? = none := Array.getElem?_eq_none (by omega)
    unfold World.cell? at h
    simp [this] at h

variable {H : Type} {enc : TypeId × Value → H} {W : World}

/-- One element of the slice of assignments. -/
theorem open_elem {base : Nat} {spare : Nat → Bool} {held : Bool} {n : Nat} {cs : List Value} {x : DataW H × List MemPlace} (h : DataW.trod enc Try.prog W base spare held n 24 cs = some x) :
    ∃ a : A3, cs = [.int .i64 a.1, .bool a.2.1, .int .i64 a.2.2] := by
  obtain ⟨y0, y1, y2, m, _, hl, h0, h1, h2⟩ := trod_struct3 Try.underlying24 h
  rw [cells24] at hl
  obtain ⟨v0, v1, v2, rfl⟩ := three hl
  simp only [cells2, cells4] at h0 h1 h2
  obtain ⟨r, e0, _⟩ := DataW.trod_int Try.underlying2 h0
  obtain ⟨b, e1, _⟩ := DataW.trod_bool Try.underlying4 h1
  obtain ⟨p, e2, _⟩ := DataW.trod_int Try.underlying2 h2
  simp at e0 e1 e2
  exact ⟨(r, b, p), by rw [e0, e1, e2]⟩

theorem open_held {ao : Option Addr} {len cap : Nat} {d : DataW H} {p : List MemPlace} (h : DataW.Trod enc Try.prog W 0 (fun _ => true) true 22 (.slice ao len cap) d p) :
    (ao = none ∧ len = 0 ∧ cap = 0) ∨ ∃ a L, ao = some a ∧ L.length = len ∧ len ≤ maxLen ∧ Held W (some a) L := by
  obtain ⟨fuel, hf⟩ := h
  rcases open_slice Try.underlying22 hf with ⟨hcs, _⟩ | ⟨a, len', cap', m, n, D, Pl, hcs, _, hl, hm, hmm, _, hx⟩
  · simp [Value.cells] at hcs
    exact .inl hcs
  · simp [Value.cells] at hcs
    obtain ⟨rfl, rfl, rfl⟩ := hcs
    right
    have hml : len ≤ m := by simp at hmm; omega
    obtain ⟨F, hF⟩ := choose_lt (α := A3) (n := len) (p := fun i x => W.cell? (a.add (i * 3)) = some (.int .i64 x.1) ∧ W.cell? (a.add (i * 3 + 1)) = some (.bool x.2.1) ∧ W.cell? (a.add (i * 3 + 2)) = some (.int .i64 x.2.2)) (fun i hi => by
      obtain ⟨cs', h1, h2⟩ := hx i (by omega)
      obtain ⟨x, rfl⟩ := open_elem h2
      rw [cells24] at h1
      obtain ⟨_, _, hc⟩ := World.cells?_some h1
      have c0 := hc 0 (by omega)
      have c1 := hc 1 (by omega)
      have c2 := hc 2 (by omega)
      rw [add_add] at c0 c1 c2
      exact ⟨x, by simpa using c0, by simpa using c1, by simpa using c2⟩)
    refine ⟨a, (List.range len).map F, rfl, by simp, by omega, ?_⟩
    by_cases h0 : len = 0
    · left; simp [h0]
    · right
      obtain ⟨b, off, spot⟩ := a
      have hs : spot = none := by simpa [Addr.add] using World.cell?_spot (hF 0 (by omega)).1
      subst hs
      have ea : ∀ j, (⟨b, off, none⟩ : Addr).add j = ⟨b, off + j, none⟩ := fun j => by simp [Addr.add]
      refine ⟨b, off, rfl, ?_, fun i hi => ?_⟩
      · have := (hF 0 (by omega)).1
        rw [ea] at this
        exact cell_lt this
      · have hi' : i < len := by simpa using hi
        have := hF i hi'
        rw [ea, ea, ea] at this
        simpa [Nat.add_assoc] using this

/-- An assignment by value. -/
theorem open_assign {r : Reach} {b0 : Nat} {v : Value} {d : DataW H} {p : List MemPlace} (hv : Value.okWide Try.prog W r b0 24 v) (h : DataW.Trod enc Try.prog W 0 (fun _ => true) true 24 v d p) :
    ∃ (x : Int) (b : Bool) (q : Int), v = .agg #[.int .i64 x, .bool b, .int .i64 q] := by
  obtain ⟨v0, v1, v2, y0, y1, y2, n, rfl, _, _, h0, h1, h2⟩ := open_agg3 Try.underlying24 (by kernel_rfl) cells24 hv h
  obtain ⟨x, e0, _⟩ := DataW.trod_int Try.underlying2 h0
  obtain ⟨b, e1, _⟩ := DataW.trod_bool Try.underlying4 h1
  obtain ⟨q, e2, _⟩ := DataW.trod_int Try.underlying2 h2
  simp at e0 e1 e2
  exact ⟨x, b, q, by rw [e0, e1, e2]⟩

end Go.Proofs.Qxb6618129a.Acc

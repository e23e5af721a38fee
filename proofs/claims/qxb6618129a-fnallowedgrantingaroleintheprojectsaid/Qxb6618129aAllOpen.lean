/-
  A slice of numbers that came in, opened; the granting's law put together.
-/
import Derived.Test.Qxb6618129aAllA
import Derived.Test.Qxb6618129aAccOpen
namespace Go.Proofs.Qxb6618129a.Acc
open Go.ChangeShapes Go.WideShapes Go.ChangeAt Go.RowKit Go.Deep

theorem open_roles {H : Type} {enc : TypeId × Value → H} {W : World} {ao : Option Addr} {len cap : Nat} {d : DataW H} {p : List MemPlace} (h : DataW.Trod enc Try.prog W 0 (fun _ => true) true 32 (.slice ao len cap) d p) :
    ∃ R : List Int, R.length = len ∧ len ≤ maxLen ∧ Nums W ao R := by
  obtain ⟨fuel, hf⟩ := h
  rcases open_ints Try.underlying32 Try.underlying2 cells2 hf with ⟨hcs, _⟩ | ⟨a, l, c, zs, hcs, _, hl, hm, hz, _, hcell, hwz⟩
  · simp [Value.cells] at hcs
    obtain ⟨rfl, rfl, rfl⟩ := hcs
    exact ⟨[], rfl, Nat.zero_le _, .inl rfl⟩
  · simp [Value.cells] at hcs
    obtain ⟨rfl, rfl, rfl⟩ := hcs
    have hzl : zs.length = cap := by simpa using hz
    refine ⟨zs.take len, by simp; omega, by omega, ?_⟩
    by_cases h0 : len = 0
    · left; simp [h0]
    · right
      obtain ⟨b, off, spot⟩ := a
      have hs : spot = none := by simpa [Addr.add] using World.cell?_spot (hcell 0 (by omega))
      subst hs
      have ea : ∀ j, (⟨b, off, none⟩ : Addr).add j = ⟨b, off + j, none⟩ := fun j => by simp [Addr.add]
      refine ⟨b, off, rfl, ?_, fun i hi => ?_⟩
      · have := hcell 0 (by omega)
        rw [ea] at this
        exact cell_lt this
      · have hi' : i < zs.length := by simp at hi; omega
        have := hcell i hi'
        rw [ea] at this
        rw [this]
        simp [List.getElem?_eq_getElem hi']

end Go.Proofs.Qxb6618129a.Acc

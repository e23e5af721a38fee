/-
  Walks: isAdmin, ZZisAdmin.
-/
import Derived.Test.Qxb6618129aRows
import Derived.Test.Qxb6618129aAccPlain
import Derived.WalkKit
import Derived.ProofKit
import Derived.OpenShut
import Derived.ShutString
namespace Go.Proofs.Qxb6618129a.Acc
open Go.ChangeShapes Go.WideShapes Go.ChangeAt Go.RowKit

/-- The assignments L lie at ⟨b, off⟩, three cells each. -/
def Lies (w : World) (b off : Nat) (L : List A3) : Prop :=
  ∀ i (h : i < L.length), w.cell? ⟨b, off + i * 3, none⟩ = some (.int .i64 L[i].1) ∧ w.cell? ⟨b, off + i * 3 + 1, none⟩ = some (.bool L[i].2.1) ∧ w.cell? ⟨b, off + i * 3 + 2, none⟩ = some (.int .i64 L[i].2.2)
/-- A slice's address leads to the assignments L. -/
def Held (w : World) (ao : Option Addr) (L : List A3) : Prop := L = [] ∨ ∃ b off, ao = some ⟨b, off, none⟩ ∧ b < w.heap.size ∧ Lies w b off L

theorem hid {p : Prop} (h : p) : Hid p := h
theorem ret_bool {a b : Bool} (h : a = b) : Ending.returned (.bool a) = .returned (.bool b) := by rw [h]

theorem Lies.below {w w' : World} {b off : Nat} {L : List A3} {B : Nat} (h : Lies w b off L) (hb : b < B) (hB : Below B w w') : Lies w' b off L := fun i hi => by
  obtain ⟨h0, h1, h2⟩ := h i hi
  exact ⟨(hB.cell (p := ⟨b, off + i * 3, none⟩) hb).trans h0, (hB.cell (p := ⟨b, off + i * 3 + 1, none⟩) hb).trans h1, (hB.cell (p := ⟨b, off + i * 3 + 2, none⟩) hb).trans h2⟩
theorem Held.below {w w' : World} {ao : Option Addr} {L : List A3} (h : Held w ao L) (hB : Below w.heap.size w w') : Held w' ao L := by
  rcases h with h | ⟨b, off, h1, h2, h3⟩
  · exact .inl h
  · exact .inr ⟨b, off, h1, Nat.lt_of_lt_of_le h2 hB.size, h3.below h2 hB⟩

theorem any_yes {α : Type} (f : α → Bool) (L : List α) (k : Nat) (h : k < L.length) (x : α) (hx : x = L[k]) (hf : f x = true) : L.any f = true :=
  List.any_eq_true.2 ⟨x, by rw [hx]; exact List.getElem_mem h, hf⟩
theorem any_step {α : Type} (f : α → Bool) (L : List α) (k : Nat) (h : k < L.length) (x : α) (hx : x = L[k]) (hf : f x = false) (ht : (L.take k).any f = false) : (L.take (k + 1)).any f = false := by
  rw [List.take_succ_eq_append_getElem h, List.any_append, ht, ← hx]
  simpa using hf
theorem any_end {α : Type} (f : α → Bool) (L : List α) (k : Nat) (h : L.length ≤ k) (ht : (L.take k).any f = false) : L.any f = false := by
  rw [← ht, List.take_of_length_le h]

set_option maxHeartbeats 400000 in
theorem isAdmin_some (b off n cap : Nat) (L : List A3) (w : World) (hn : L.length = n) (hs : n ≤ 1048576) (hb : b < w.heap.size) (hL : Lies w b off L) :
    Calls Try.prog 21 #[.slice (some ⟨b, off, none⟩) n cap] w fun e w' => e = .returned (.bool (admB L)) ∧ Below w.heap.size w w' := by
  have HL : Hid (Lies w b off L) := hL
  have HN : Hid (L.length = n) := hn
  clear hL hn
  go_enter Try.func21, Try.ntmps21
  go_wp2
  go_loopw [7] (fun i wr => ∃ k : Nat, k ≤ n ∧ i = .int .i64 k ∧ Hid (admB (L.take k) = false) ∧ Below w.heap.size w wr) (fun i _ => n - (intOf i).toNat)
  case atStart => exact ⟨0, Nat.zero_le _, rfl, rfl, Below.refl _ _⟩
  case round =>
    obtain ⟨k, hk, rfl, HT, hbl⟩ := hrel
    by_cases hlt : k < n
    · obtain ⟨c0, c1, c2⟩ := (HL.out.below hb hbl) k (by rw [HN.out]; exact hlt)
      obtain ⟨⟨r, ad, p⟩, hx⟩ : ∃ x, x = L[k]'(by rw [HN.out]; exact hlt) := ⟨_, rfl⟩
      rw [← hx] at c0 c1 c2
      have HX : Hid _ := hx
      clear hx
      simp only at c0 c1 c2
      have hkL : k < L.length := by rw [HN.out]; exact hlt
      have hBk := hbl.size
      go_wp2
      · go_ret
        exact ⟨ret_bool (any_yes adm L k hkL _ HX.out (by simp [adm, *])).symm, hbl.alloc hBk _⟩
      · go_roundw
        case rel => exact ⟨k + 1, by omega, by go_num, any_step adm L k hkL _ HX.out (by simp [adm, *]) HT.out, hbl.alloc hBk _⟩
        case measure => simp [intOf]; omega
      · go_roundw
        case rel => exact ⟨k + 1, by omega, by go_num, any_step adm L k hkL _ HX.out (by simp [adm, *]) HT.out, hbl.alloc hBk _⟩
        case measure => simp [intOf]; omega
    · go_wp2
      go_ret
      exact ⟨ret_bool (any_end adm L k (by rw [HN.out]; omega) HT.out).symm, hbl⟩

set_option maxHeartbeats 400000 in
theorem isAdmin_none (ao : Option Addr) (cap : Nat) (w : World) :
    Calls Try.prog 21 #[.slice ao 0 cap] w fun e w' => e = .returned (.bool false) ∧ Below w.heap.size w w' := by
  go_enter Try.func21, Try.ntmps21
  go_wp2
  refine wp_loop_rounds 1 ?_
  rw [rounds_succ]
  go_wp2
  go_ret
  exact ⟨rfl, Below.refl _ _⟩

theorem isAdmin_any (ao : Option Addr) (n cap : Nat) (L : List A3) (w : World) (hn : L.length = n) (hs : n ≤ 1048576) (hL : Held w ao L) :
    Calls Try.prog 21 #[.slice ao n cap] w fun e w' => e = .returned (.bool (admB L)) ∧ Below w.heap.size w w' := by
  rcases hL with rfl | ⟨b, off, rfl, hb, hL⟩
  · subst hn; exact isAdmin_none ao cap w
  · exact isAdmin_some b off n cap L w hn hs hb hL

theorem zisAdmin_any (ao : Option Addr) (n cap : Nat) (L : List A3) (w : World) (hn : L.length = n) (hs : n ≤ 1048576) (hL : Held w ao L) :
    Calls Try.prog 10 #[.slice ao n cap] w fun e w' => e = .returned (.bool (admB L)) ∧ Below w.heap.size w w' := by
  have HL : Hid (Held w ao L) := hL
  have HN : Hid (L.length = n) := hn
  clear hL hn
  go_enter Try.func10, Try.ntmps10
  go_wp2_with (go_at_call 21; refine (isAdmin_any ao n cap L _ HN.out hs HL.out).mono ?_; rintro e w' ⟨rfl, hb⟩)
  go_ret
  exact ⟨rfl, hb⟩

end Go.Proofs.Qxb6618129a.Acc

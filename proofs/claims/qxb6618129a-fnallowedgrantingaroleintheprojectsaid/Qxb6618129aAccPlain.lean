/-
  The plain law on role assignments: no Go in sight.
-/
namespace Go.Proofs.Qxb6618129a.Acc

/-- An assignment: its role, whether it is an admin role, its project. -/
abbrev A3 := Int × Bool × Int
def adm (a : A3) : Bool := a.2.1 && (a.2.2 == 0)
def admB (L : List A3) : Bool := L.any adm
def cnt (p : Int) (a : A3) : Bool := a.2.2 == 0 || a.2.2 == p
def hit (R : List Int) (p : Int) (a : A3) : Bool := cnt p a && R.contains a.1
def holdB (L : List A3) (R : List Int) (p : Int) : Bool := L.any (hit R p)
def insAt {α : Type} (L : List α) (i : Nat) (x : α) : List α := L.take i ++ x :: L.drop i
def allowB (act found : Bool) (p : Int) (L : List A3) (direct : Bool) (R : List Int) : Bool :=
  act && found && (admB L || direct || holdB L R p)

theorem insAt_length {α : Type} (L : List α) (i : Nat) (x : α) (h : i ≤ L.length) : (insAt L i x).length = L.length + 1 := by
  simp [insAt]; omega

theorem admB_cut (L : List A3) (k : Nat) : (admB (L.take k) || admB (L.drop k)) = admB L := by
  unfold admB
  rw [← List.any_append, List.take_append_drop]

theorem any_ins {α : Type} (f : α → Bool) (L : List α) (i : Nat) (x : α) : (insAt L i x).any f = (L.any f || f x) := by
  have h : L.any f = ((L.take i).any f || (L.drop i).any f) := by rw [← List.any_append, List.take_append_drop]
  rw [h]
  unfold insAt
  rw [List.any_append, List.any_cons]
  cases (L.take i).any f <;> cases (L.drop i).any f <;> cases f x <;> rfl

theorem admB_ins (L : List A3) (i : Nat) (a : A3) : admB (insAt L i a) = (admB L || adm a) := any_ins _ _ _ _
theorem holdB_ins (L : List A3) (i : Nat) (a : A3) (R : List Int) (p : Int) : holdB (insAt L i a) R p = (holdB L R p || hit R p a) := any_ins _ _ _ _

theorem contains_ins (R : List Int) (j : Nat) (r x : Int) : (insAt R j r).contains x = (R.contains x || x == r) := by
  have h : ∀ l : List Int, l.contains x = l.any (fun y => x == y) := fun l => by
    rw [List.contains_eq_any_beq]
  rw [h, h, any_ins]

theorem holdB_more (L : List A3) (R : List Int) (j : Nat) (r p : Int) (h : holdB L R p = true) : holdB L (insAt R j r) p = true := by
  unfold holdB at h ⊢
  rw [List.any_eq_true] at h ⊢
  obtain ⟨a, ha, hh⟩ := h
  refine ⟨a, ha, ?_⟩
  unfold hit at hh ⊢
  rw [contains_ins]
  simp only [Bool.and_eq_true] at hh
  rw [hh.1, hh.2]
  rfl

/-- The gate's law. -/
theorem gate_law (act found : Bool) (p : Int) (L : List A3) (direct : Bool) (R : List Int) (i : Nat) (role : Int) :
    (!(allowB act found p L direct R) || (act && found)) = true ∧ allowB act found p L true R = (act && found) ∧
    allowB act found p (insAt L i (role, true, 0)) direct R = (act && found) := by
  unfold allowB
  rw [admB_ins]
  have e : adm (role, true, 0) = true := rfl
  rw [e]
  refine ⟨?_, ?_, ?_⟩ <;> cases act <;> cases found <;> simp

/-- The granting's law. -/
theorem grant_law (act found : Bool) (p : Int) (L : List A3) (direct : Bool) (R : List Int) (i j : Nat) (r q : Int) :
    (!(allowB act found p L direct R) || allowB act found p L direct (insAt R j r)) = true ∧
    allowB act found p (insAt L i (r, false, q)) direct (insAt R j r) = (allowB act found p L direct (insAt R j r) || (act && found && (q == 0 || q == p))) := by
  have hr : (insAt R j r).contains r = true := by rw [contains_ins]; simp
  have ea : adm (r, false, q) = false := rfl
  have eh : hit (insAt R j r) p (r, false, q) = (q == 0 || q == p) := by
    unfold hit cnt
    rw [hr, Bool.and_true]
  have hm := holdB_more L R j r p
  unfold allowB
  rw [admB_ins, holdB_ins, ea, eh]
  generalize holdB L R p = x at hm
  generalize holdB L (insAt R j r) p = y at hm
  generalize admB L = z
  generalize (q == 0 || q == p) = u
  refine ⟨?_, ?_⟩
  · cases act <;> cases found <;> cases x <;> cases z <;> cases direct <;> simp_all
  · cases act <;> cases found <;> cases y <;> cases z <;> cases direct <;> cases u <;> rfl

end Go.Proofs.Qxb6618129a.Acc

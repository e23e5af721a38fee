/-
  The plain law of the join: no Go in sight.
-/
namespace Go.Proofs.Qxb6618330a.Jn
variable {α : Type} [DecidableEq α] {β : Type}

/-- Does k occur in l? -/
def seen (l : List α) (k : α) : Bool := l.any (fun x => decide (x = k))
/-- The value of the last pair whose name is k. -/
def last (l : List (α × β)) (k : α) : Option β := l.foldl (fun r p => if p.1 = k then some p.2 else r) none

theorem seen_nil (k : α) : seen [] k = false := rfl
theorem seen_snoc (l : List α) (x k : α) : seen (l ++ [x]) k = (seen l k || decide (x = k)) := by simp [seen]
theorem seen_mem (l : List α) (k : α) : seen l k = true ↔ k ∈ l := by
  unfold seen
  rw [List.any_eq_true]
  constructor
  · rintro ⟨x, hx, h⟩; simp at h; rw [← h]; exact hx
  · intro h; exact ⟨k, h, by simp⟩
theorem seen_at (l : List α) (i : Nat) (h : i < l.length) : seen l l[i] = true := (seen_mem _ _).2 (List.getElem_mem h)

theorem last_nil (k : α) : last ([] : List (α × β)) k = none := rfl
theorem last_snoc (l : List (α × β)) (p : α × β) (k : α) : last (l ++ [p]) k = if p.1 = k then some p.2 else last l k := by
  simp [last]

theorem snoc_cases {γ : Type} (l : List γ) : l = [] ∨ ∃ m x, l = m ++ [x] := by
  cases h : l.reverse with
  | nil => left; simpa using h
  | cons x m => right; exact ⟨m.reverse, x, by rw [← List.reverse_reverse l, h]; simp⟩

/-- Induction from the end. -/
theorem snoc_ind {γ : Type} {P : List γ → Prop} (h0 : P []) (h1 : ∀ l x, P l → P (l ++ [x])) : ∀ l, P l := by
  intro l
  have : ∀ m : List γ, P m.reverse := by
    intro m
    induction m with
    | nil => exact h0
    | cons x m ih => rw [List.reverse_cons]; exact h1 _ _ ih
  have h := this l.reverse
  rwa [List.reverse_reverse] at h

theorem last_seen (l : List (α × β)) (k : α) : (last l k).isSome = seen (l.map (·.1)) k := by
  refine snoc_ind (P := fun l => (last l k).isSome = seen (l.map (·.1)) k) rfl ?_ l
  intro l p ih
  rw [last_snoc, List.map_append, List.map_cons, List.map_nil, seen_snoc, ← ih]
  by_cases h : p.1 = k
  · simp [h]
  · simp [h]

/-- How many different names there are. -/
def nd : List α → List α → Nat
  | _, [] => 0
  | acc, x :: l => (if seen acc x then 0 else 1) + nd (acc ++ [x]) l
def dist (l : List α) : Nat := nd [] l
theorem nd_snoc : ∀ (acc l : List α) (x : α), nd acc (l ++ [x]) = nd acc l + if seen (acc ++ l) x then 0 else 1
  | acc, [], x => by simp [nd]
  | acc, y :: l, x => by
    simp only [List.cons_append, nd]
    rw [nd_snoc (acc ++ [y]) l x, List.append_assoc, Nat.add_assoc]
    rfl
theorem dist_snoc (l : List α) (x : α) : dist (l ++ [x]) = dist l + if seen l x then 0 else 1 := by
  unfold dist; rw [nd_snoc]; simp
theorem nd_le : ∀ (acc l : List α), nd acc l ≤ l.length
  | _, [] => Nat.le_refl _
  | acc, x :: l => by
    have := nd_le (acc ++ [x]) l
    simp only [nd, List.length_cons]
    split <;> omega
theorem dist_le (l : List α) : dist l ≤ l.length := nd_le _ _

/-- Is x new behind the names acc? -/
def fr (ps : List (α × β)) (acc : List α) (x : α) : Bool := (last ps x).isNone && !seen acc x
def frc (ps : List (α × β)) : List α → List α → Nat
  | _, [] => 0
  | acc, x :: l => (if fr ps acc x then 1 else 0) + frc ps (acc ++ [x]) l
/-- How many new names there are. -/
def rk (ps : List (α × β)) (l : List α) : Nat := frc ps [] l
theorem frc_snoc (ps : List (α × β)) : ∀ (acc l : List α) (x : α), frc ps acc (l ++ [x]) = frc ps acc l + if fr ps (acc ++ l) x then 1 else 0
  | acc, [], x => by simp [frc]
  | acc, y :: l, x => by
    simp only [List.cons_append, frc]
    rw [frc_snoc ps (acc ++ [y]) l x, List.append_assoc, Nat.add_assoc]
    rfl
theorem rk_snoc (ps : List (α × β)) (l : List α) (x : α) : rk ps (l ++ [x]) = rk ps l + if fr ps l x then 1 else 0 := by
  unfold rk; rw [frc_snoc]; simp
theorem frc_le (ps : List (α × β)) : ∀ (acc l : List α), frc ps acc l ≤ l.length
  | _, [] => Nat.le_refl _
  | acc, x :: l => by
    have := frc_le ps (acc ++ [x]) l
    simp only [frc, List.length_cons]
    split <;> omega
theorem rk_le (ps : List (α × β)) (l : List α) : rk ps l ≤ l.length := frc_le _ _ _

/-- What comes ahead of x's first place. -/
def pre (l : List α) (x : α) : List α := l.takeWhile (fun y => !decide (y = x))
theorem pre_nil (x : α) : pre [] x = [] := rfl
theorem pre_snoc (l : List α) (y x : α) : pre (l ++ [y]) x = if seen l x then pre l x else if y = x then l else l ++ [y] := by
  induction l with
  | nil => by_cases h : y = x <;> simp [pre, seen, h]
  | cons z l ih =>
    by_cases hz : z = x
    · simp [pre, seen, hz]
    · have e1 : pre ((z :: l) ++ [y]) x = z :: pre (l ++ [y]) x := by simp [pre, hz]
      have e2 : pre (z :: l) x = z :: pre l x := by simp [pre, hz]
      have e3 : seen (z :: l) x = seen l x := by simp [seen, hz]
      rw [e1, e2, e3, ih]
      split
      · rfl
      · split <;> simp
theorem pre_take (l : List α) (f : Nat) (x : α) (h : f ≤ l.length) (h1 : ∀ g (hg : g < f), l[g]'(by omega) ≠ x) (h2 : ∃ hf : f < l.length, l[f] = x) : pre l x = l.take f := by
  obtain ⟨hf, hfx⟩ := h2
  induction l generalizing f with
  | nil => simp at hf
  | cons z l ih =>
    cases f with
    | zero =>
      have : z = x := by simpa using hfx
      simp [pre, this]
    | succ f =>
      have hz : z ≠ x := by simpa using h1 0 (by omega)
      have e2 : pre (z :: l) x = z :: pre l x := by simp [pre, hz]
      rw [e2, List.take_succ_cons, ih f (by simpa using h) (fun g hg => by simpa using h1 (g + 1) (by omega)) (by simpa using hf) (by simpa using hfx)]

/-- The book's columns behind the names l. -/
def cols (ps : List (α × Int)) (n0 : Nat) (l : List α) (k : α) : Option Int :=
  match last ps k with
  | some v => some v
  | none => if seen l k then some ((n0 : Int) + rk ps (pre l k)) else none
/-- Where the name x goes. -/
def want (ps : List (α × Int)) (n0 : Nat) (h : List α) (x : α) : Int :=
  match last ps x with
  | some v => v
  | none => (n0 : Int) + rk ps (pre h x)

theorem cols_nil (ps : List (α × Int)) (n0 : Nat) (k : α) : cols ps n0 [] k = last ps k := by
  unfold cols; cases last ps k <;> rfl
theorem cols_old (ps : List (α × Int)) (n0 : Nat) (l : List α) (k : α) (v : Int) (h : last ps k = some v) : cols ps n0 l k = some v := by
  unfold cols; rw [h]
theorem fr_eq (ps : List (α × Int)) (n0 : Nat) (l : List α) (x : α) : fr ps l x = (cols ps n0 l x).isNone := by
  unfold fr cols
  cases last ps x with
  | some v => rfl
  | none => cases h : seen l x <;> simp
theorem cols_there (ps : List (α × Int)) (n0 : Nat) (l : List α) (x k : α) (h : (cols ps n0 l x).isSome = true) : cols ps n0 (l ++ [x]) k = cols ps n0 l k := by
  unfold cols at h ⊢
  cases hk : last ps k with
  | some v => rfl
  | none =>
    simp only
    rw [seen_snoc, pre_snoc]
    by_cases hxk : x = k
    · subst hxk
      rw [hk] at h
      simp only at h
      have hs : seen l x = true := by
        cases hs : seen l x with
        | true => rfl
        | false => rw [hs] at h; simp at h
      simp [hs]
    · cases hs : seen l k <;> simp [hxk]
theorem cols_new (ps : List (α × Int)) (n0 : Nat) (l : List α) (x k : α) (h : cols ps n0 l x = none) : cols ps n0 (l ++ [x]) k = if k = x then some ((n0 : Int) + rk ps l) else cols ps n0 l k := by
  have hx : last ps x = none ∧ seen l x = false := by
    unfold cols at h
    cases hl : last ps x with
    | some v => rw [hl] at h; simp at h
    | none =>
      rw [hl] at h
      simp only at h
      cases hs : seen l x with
      | true => rw [hs] at h; simp at h
      | false => exact ⟨rfl, rfl⟩
  by_cases hkx : k = x
  · subst hkx
    unfold cols
    rw [hx.1]
    simp only
    rw [seen_snoc, pre_snoc, hx.2]
    simp
  · rw [if_neg hkx]
    unfold cols
    cases hk : last ps k with
    | some v => rfl
    | none =>
      simp only
      rw [seen_snoc, pre_snoc]
      have hxk : ¬ x = k := fun e => hkx e.symm
      cases hs : seen l k <;> simp [hxk]

/-- Ahead of its own place and behind it a name goes to one place. -/
theorem pre_mid (l r : List α) (x : α) : pre (l ++ x :: r) x = if seen l x then pre l x else l := by
  induction l with
  | nil => simp [pre, seen]
  | cons z l ih =>
    by_cases hz : z = x
    · simp [pre, seen, hz]
    · have e1 : pre ((z :: l) ++ x :: r) x = z :: pre (l ++ x :: r) x := by simp [pre, hz]
      have e2 : pre (z :: l) x = z :: pre l x := by simp [pre, hz]
      have e3 : seen (z :: l) x = seen l x := by simp [seen, hz]
      rw [e1, e2, e3, ih]
      split <;> rfl
theorem want_step (ps : List (α × Int)) (n0 : Nat) (l r : List α) (x : α) : want ps n0 (l ++ x :: r) x = (cols ps n0 l x).getD ((n0 : Int) + rk ps l) := by
  unfold want cols
  cases last ps x with
  | some v => rfl
  | none =>
    simp only
    rw [pre_mid]
    cases seen l x <;> rfl
theorem want_at (ps : List (α × Int)) (n0 : Nat) (h : List α) (j : Nat) (hj : j < h.length) : want ps n0 h h[j] = (cols ps n0 (h.take j) h[j]).getD ((n0 : Int) + rk ps (h.take j)) := by
  have e : h = h.take j ++ h[j] :: h.drop (j + 1) := by
    rw [← List.drop_eq_getElem_cons hj, List.take_append_drop]
  have := want_step ps n0 (h.take j) (h.drop (j + 1)) h[j]
  rw [← e] at this
  exact this
theorem cols_end (ps : List (α × Int)) (n0 : Nat) (h : List α) (x : α) (hx : seen h x = true) : cols ps n0 h x = some (want ps n0 h x) := by
  unfold cols want
  cases last ps x with
  | some v => rfl
  | none => simp [hx]

/-- The last index. -/
theorem last_idx (xs : List α) (vs : List β) (k : α) (i : Nat) (hl : xs.length = vs.length) (h1 : i < xs.length) (hk : xs[i] = k) (h2 : ∀ j (hj : j < xs.length), i < j → xs[j] ≠ k) :
    last (xs.zip vs) k = some (vs[i]'(by omega)) := by
  have key : ∀ m, i < m → m ≤ xs.length → last ((xs.zip vs).take m) k = some (vs[i]'(by omega)) := by
    intro m
    induction m with
    | zero => intro h; omega
    | succ m ih =>
      intro him hm
      have hz : m < (xs.zip vs).length := by simp; omega
      rw [List.take_succ_eq_append_getElem hz, last_snoc]
      simp only [List.getElem_zip]
      by_cases e : m = i
      · subst e
        rw [if_pos hk]
      · rw [if_neg (h2 m (by omega) (by omega)), ih (by omega) (by omega)]
  have := key xs.length h1 (Nat.le_refl _)
  rw [List.take_of_length_le (by simp; omega)] at this
  exact this

end Go.Proofs.Qxb6618330a.Jn

/-
  The plain law on runs of digits: no Go in sight.
-/
namespace Go.Proofs.Qxb6618392a.Skip

def isD (b : UInt8) : Bool := decide (48 ≤ b.toNat) && decide (b.toNat ≤ 57)
/-- How long the run of digits at the head is. -/
def run : List UInt8 → Nat
  | [] => 0
  | b :: l => if isD b then run l + 1 else 0
/-- Where the run that starts at i ends. -/
def skip (l : List UInt8) (i : Nat) : Nat := i + run (l.drop i)

theorem isD_iff (b : UInt8) : isD b = true ↔ 48 ≤ b.toNat ∧ b.toNat ≤ 57 := by simp [isD]

theorem run_le : ∀ l : List UInt8, run l ≤ l.length
  | [] => Nat.le_refl _
  | b :: l => by
    have := run_le l
    simp only [run, List.length_cons]
    split <;> omega

theorem run_digit : ∀ (l : List UInt8) (k : Nat) (h : k < l.length), k < run l → isD l[k] = true
  | [], k, h, _ => by simp at h
  | b :: l, 0, _, hk => by
    simp only [run] at hk
    split at hk
    · simpa
    · omega
  | b :: l, k + 1, h, hk => by
    simp only [run] at hk
    split at hk
    · simpa using run_digit l k (by simpa using h) (by omega)
    · omega

theorem run_stop : ∀ (l : List UInt8) (h : run l < l.length), isD (l[run l]'h) = false
  | [], h => by simp at h
  | b :: l, h => by
    by_cases hb : isD b = true
    · have e : run (b :: l) = run l + 1 := by simp [run, hb]
      have h' : run l < l.length := by rw [e] at h; simpa using h
      have := run_stop l h'
      simp only [e, List.getElem_cons_succ]
      exact this
    · have e : run (b :: l) = 0 := by simp [run, hb]
      simp only [e, List.getElem_cons_zero]
      simpa using hb

theorem run_append_in : ∀ (l m : List UInt8), run l < l.length → run (l ++ m) = run l
  | [], _, h => by simp at h
  | b :: l, m, h => by
    by_cases hb : isD b = true
    · have e : run (b :: l) = run l + 1 := by simp [run, hb]
      have h' : run l < l.length := by rw [e] at h; simpa using h
      simp [run, hb, run_append_in l m h']
    · simp [run, hb]

theorem run_append_out : ∀ (l m : List UInt8), run l = l.length → run (l ++ m) = l.length + run m
  | [], m, _ => by simp
  | b :: l, m, h => by
    by_cases hb : isD b = true
    · have e : run (b :: l) = run l + 1 := by simp [run, hb]
      have h' : run l = l.length := by rw [e] at h; simpa using h
      simp only [List.cons_append, run, hb, run_append_out l m h', List.length_cons, if_true]
      omega
    · simp [run, hb] at h

theorem skip_bd (l : List UInt8) (i : Nat) (h : i ≤ l.length) : i ≤ skip l i ∧ skip l i ≤ l.length := by
  have := run_le (l.drop i)
  rw [List.length_drop] at this
  unfold skip
  omega
theorem skip_past (l : List UInt8) (i : Nat) (h : l.length ≤ i) : skip l i = i := by
  unfold skip; rw [List.drop_eq_nil_of_le h]; rfl
theorem skip_digit (l : List UInt8) (i k : Nat) (h1 : i ≤ k) (h2 : k < skip l i) (hk : k < l.length) : isD l[k] = true := by
  unfold skip at h2
  have := run_digit (l.drop i) (k - i) (by rw [List.length_drop]; omega) (by omega)
  rw [List.getElem_drop] at this
  simpa [show i + (k - i) = k by omega] using this
theorem skip_stop (l : List UInt8) (i : Nat) (h : skip l i < l.length) : isD (l[skip l i]'h) = false := by
  have h' : run (l.drop i) < (l.drop i).length := by unfold skip at h; rw [List.length_drop]; omega
  have := run_stop (l.drop i) h'
  rw [List.getElem_drop] at this
  exact this
/-- The run goes on over a digit. -/
theorem skip_next (l : List UInt8) (k : Nat) (h : k < l.length) (hd : isD l[k] = true) : skip l k = skip l (k + 1) := by
  unfold skip
  rw [List.drop_eq_getElem_cons h]
  simp only [run, hd, if_true]
  omega
theorem skip_here (l : List UInt8) (k : Nat) (h : k < l.length) (hd : isD l[k] = false) : skip l k = k := by
  unfold skip
  rw [List.drop_eq_getElem_cons h]
  simp [run, hd]

/-- The three laws of the cut. -/
theorem cut_past (a b : List UInt8) (i : Nat) (h : a.length ≤ i) : skip (a ++ b) i = a.length + skip b (i - a.length) := by
  unfold skip
  rw [List.drop_append, List.drop_eq_nil_of_le h, List.nil_append]
  omega
theorem cut_in (a b : List UInt8) (i : Nat) (h : i < a.length) (hr : skip a i < a.length) : skip (a ++ b) i = skip a i := by
  unfold skip at hr ⊢
  rw [List.drop_append_of_le_length (by omega), run_append_in _ _ (by rw [List.length_drop]; omega)]
theorem cut_out (a b : List UInt8) (i : Nat) (h : i < a.length) (hr : skip a i = a.length) : skip (a ++ b) i = a.length + skip b 0 := by
  unfold skip at hr ⊢
  rw [List.drop_append_of_le_length (by omega), run_append_out _ _ (by rw [List.length_drop]; omega), List.length_drop, List.drop_zero]
  omega

end Go.Proofs.Qxb6618392a.Skip

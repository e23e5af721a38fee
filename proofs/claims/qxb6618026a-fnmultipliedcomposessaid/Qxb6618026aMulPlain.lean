/-
  The plain law on decimal texts: no Go in sight.
-/
namespace Go.Proofs.Qxb6618026a.Mul

/-- The digit that a byte stands for. -/
def dv (b : UInt8) : Nat := b.toNat - 48
/-- Is the byte a decimal digit? -/
def isD (b : UInt8) : Bool := decide (48 ≤ b.toNat) && decide (b.toNat ≤ 57)
/-- Are all of them? -/
def adB (l : List UInt8) : Bool := l.all isD
/-- The number that the digits spell, the most significant first. -/
def val : List UInt8 → Nat
  | [] => 0
  | b :: l => dv b * 10 ^ l.length + val l

theorem isD_iff (b : UInt8) : isD b = true ↔ 48 ≤ b.toNat ∧ b.toNat ≤ 57 := by simp [isD]

theorem adB_cons (b : UInt8) (l : List UInt8) : adB (b :: l) = true ↔ isD b = true ∧ adB l = true := by simp [adB]
theorem adB_append (a b : List UInt8) : adB (a ++ b) = true ↔ adB a = true ∧ adB b = true := by simp [adB]

theorem val_append (a b : List UInt8) : val (a ++ b) = val a * 10 ^ b.length + val b := by
  induction a with
  | nil => simp [val]
  | cons c a ih =>
    simp only [List.cons_append, val, List.length_append, ih]
    rw [Nat.pow_add, Nat.add_mul, Nat.mul_assoc]
    omega

theorem val_snoc (a : List UInt8) (c : UInt8) : val (a ++ [c]) = val a * 10 + dv c := by
  rw [val_append]; simp [val]

theorem val_lt (l : List UInt8) (h : adB l = true) : val l < 10 ^ l.length := by
  induction l with
  | nil => simp [val]
  | cons c l ih =>
    rw [adB_cons] at h
    have h1 := (isD_iff c).1 h.1
    have h2 := ih h.2
    have h3 : dv c ≤ 9 := by unfold dv; omega
    simp only [val, List.length_cons, Nat.pow_succ]
    have h4 : dv c * 10 ^ l.length ≤ 9 * 10 ^ l.length := Nat.mul_le_mul_right _ h3
    omega

/-- Two texts of digits, of one length and one value, are one text. -/
theorem val_inj : ∀ (a b : List UInt8), adB a = true → adB b = true → a.length = b.length → val a = val b → a = b
  | [], [], _, _, _, _ => rfl
  | [], _ :: _, _, _, h, _ => by simp at h
  | _ :: _, [], _, _, h, _ => by simp at h
  | c :: a, d :: b, ha, hb, hl, hv => by
    rw [adB_cons] at ha hb
    simp only [List.length_cons, Nat.add_right_cancel_iff] at hl
    simp only [val] at hv
    have la := val_lt a ha.2
    have lb := val_lt b hb.2
    have hc := (isD_iff c).1 ha.1
    have hd := (isD_iff d).1 hb.1
    rw [hl] at hv la
    have e : dv c = dv d := by
      have p : 0 < 10 ^ b.length := Nat.pow_pos (by omega)
      have e1 : (dv c * 10 ^ b.length + val a) / 10 ^ b.length = dv c := by
        rw [Nat.mul_comm, Nat.mul_add_div p, Nat.div_eq_of_lt la]; omega
      have e2 : (dv d * 10 ^ b.length + val b) / 10 ^ b.length = dv d := by
        rw [Nat.mul_comm, Nat.mul_add_div p, Nat.div_eq_of_lt lb]; omega
      rw [← e1, hv, e2]
    have e' : c = d := by
      apply UInt8.toNat_inj.1
      unfold dv at e; omega
    rw [e] at hv
    rw [e', val_inj a b ha.2 hb.2 hl (by omega)]

/-- A digit's byte. -/
def mk (n : Nat) : UInt8 := UInt8.ofNat (48 + n)
theorem mk_toNat (n : Nat) (h : n ≤ 9) : (mk n).toNat = 48 + n := by unfold mk; simp; omega
theorem isD_mk (n : Nat) (h : n ≤ 9) : isD (mk n) = true := by rw [isD_iff, mk_toNat n h]; omega
theorem dv_mk (n : Nat) (h : n ≤ 9) : dv (mk n) = n := by unfold dv; rw [mk_toNat n h]; omega

/-- Four leading zeros: where the value is small. -/
theorem lead_zero (c : UInt8) (l : List UInt8) (h : adB (c :: l) = true) (hv : val (c :: l) < 10 ^ l.length) : c = 48 ∧ val (c :: l) = val l := by
  rw [adB_cons] at h
  have hc := (isD_iff c).1 h.1
  simp only [val] at hv
  have e : dv c = 0 := by
    cases hd : dv c with
    | zero => rfl
    | succ k =>
      rw [hd, Nat.add_mul] at hv
      omega
  refine ⟨?_, by simp [val, e]⟩
  apply UInt8.toNat_inj.1
  unfold dv at e
  show c.toNat = 48
  omega

theorem lead_four (l : List UInt8) (h : adB l = true) (n : Nat) (hl : l.length = n + 4) (hv : val l < 10 ^ n) :
    ∃ r, l = 48 :: 48 :: 48 :: 48 :: r ∧ r.length = n ∧ val r = val l ∧ adB r = true := by
  match l, hl with
  | a :: b :: c :: d :: r, hl =>
    have hr : r.length = n := by simp at hl; omega
    have p1 : 10 ^ n ≤ 10 ^ (n + 1) := Nat.pow_le_pow_right (by omega) (by omega)
    have p2 : 10 ^ n ≤ 10 ^ (n + 2) := Nat.pow_le_pow_right (by omega) (by omega)
    have p3 : 10 ^ n ≤ 10 ^ (n + 3) := Nat.pow_le_pow_right (by omega) (by omega)
    obtain ⟨ea, va⟩ := lead_zero a (b :: c :: d :: r) h (by simp only [List.length_cons, hr]; exact Nat.lt_of_lt_of_le hv p3)
    rw [adB_cons] at h
    obtain ⟨eb, vb⟩ := lead_zero b (c :: d :: r) h.2 (by rw [← va]; simp only [List.length_cons, hr]; exact Nat.lt_of_lt_of_le hv p2)
    have h2 := (adB_cons _ _).1 h.2
    obtain ⟨ec, vc⟩ := lead_zero c (d :: r) h2.2 (by rw [← vb, ← va]; simp only [List.length_cons, hr]; exact Nat.lt_of_lt_of_le hv p1)
    have h3 := (adB_cons _ _).1 h2.2
    obtain ⟨ed, vd⟩ := lead_zero d r h3.2 (by rw [← vc, ← vb, ← va, hr]; exact hv)
    exact ⟨r, by rw [ea, eb, ec, ed], hr, by rw [va, vb, vc, vd], ((adB_cons _ _).1 h3.2).2⟩

/-- The sum of the digits by nine. -/
theorem pow10_mod9 (n : Nat) : 10 ^ n % 9 = 1 := by
  induction n with
  | zero => rfl
  | succ n ih => rw [Nat.pow_succ, Nat.mul_mod, ih]

theorem pow2_mod9 (n : Nat) : 2 ^ n % 9 = 2 ^ (n % 6) % 9 := by
  have e : 2 ^ n = (2 ^ 6) ^ (n / 6) * 2 ^ (n % 6) := by
    rw [← Nat.pow_mul, ← Nat.pow_add, Nat.div_add_mod]
  have h : ∀ k, (2 ^ 6) ^ k % 9 = 1 := by
    intro k
    induction k with
    | zero => rfl
    | succ k ih => rw [Nat.pow_succ, Nat.mul_mod, ih]
  rw [e, Nat.mul_mod, h]
  omega

theorem pow1024 (k : Nat) : 1024 ^ k = 2 ^ (10 * k) := by
  rw [Nat.pow_mul]

theorem pow1024_le (k : Nat) : 1024 ^ k ≤ 10 ^ (4 * k) := by
  rw [Nat.pow_mul]
  exact Nat.pow_le_pow_left (by omega) k

end Go.Proofs.Qxb6618026a.Mul

/-
  Walks: slices.Index, slices.Contains, countsIn, holdsIn.
-/
import Derived.Test.Qxb6618129aAccWalkC
namespace Go.Proofs.Qxb6618129a.Acc
open Go.ChangeShapes Go.WideShapes Go.ChangeAt Go.RowKit

/-- The numbers R lie at ⟨b, off⟩. -/
def NLies (w : World) (b off : Nat) (R : List Int) : Prop := ∀ i (h : i < R.length), w.cell? ⟨b, off + i, none⟩ = some (.int .i64 R[i])
def Nums (w : World) (ao : Option Addr) (R : List Int) : Prop := R = [] ∨ ∃ b off, ao = some ⟨b, off, none⟩ ∧ b < w.heap.size ∧ NLies w b off R
theorem NLies.below {w w' : World} {b off : Nat} {R : List Int} {B : Nat} (h : NLies w b off R) (hb : b < B) (hB : Below B w w') : NLies w' b off R := fun i hi =>
  (hB.cell (p := ⟨b, off + i, none⟩) hb).trans (h i hi)
theorem Nums.below {w w' : World} {ao : Option Addr} {R : List Int} (h : Nums w ao R) (hB : Below w.heap.size w w') : Nums w' ao R := by
  rcases h with h | ⟨b, off, h1, h2, h3⟩
  · exact .inl h
  · exact .inr ⟨b, off, h1, Nat.lt_of_lt_of_le h2 hB.size, h3.below h2 hB⟩
theorem Nums.at {w : World} {ao : Option Addr} {R : List Int} (h : Nums w ao R) (hn : 0 < R.length) : ∃ b off, ao = some ⟨b, off, none⟩ ∧ b < w.heap.size ∧ NLies w b off R := by
  rcases h with rfl | h
  · simp at hn
  · exact h

def eqB (v y : Int) : Bool := v == y
def hasB (R : List Int) (v : Int) : Bool := R.any (eqB v)
def nnB (x : Int) : Bool := decide (0 ≤ x)
theorem hasB_eq (R : List Int) (x : Int) : hasB R x = R.contains x := List.contains_eq_any_beq.symm
theorem hit_no (R : List Int) (q : Int) (a : A3) (h : cnt q a = false) : hit R q a = false := by unfold hit; rw [h]; rfl
theorem hit_yes (R : List Int) (q : Int) (a : A3) (h : cnt q a = true) (b : Bool) (hb : hasB R a.1 = b) : hit R q a = b := by unfold hit; rw [h, ← hasB_eq, hb]; rfl

set_option maxHeartbeats 400000 in
theorem index_any (ao : Option Addr) (n cap : Nat) (R : List Int) (v : Int) (w : World) (hn : R.length = n) (hs : n ≤ 1048576) (hR : Nums w ao R) :
    Calls Try.prog 25 #[.slice ao n cap, .int .i64 v] w fun e w' => ∃ x : Int, e = .returned (.int .i64 x) ∧ nnB x = hasB R v ∧ w' = w := by
  have HR := hid hR
  have HN := hid hn
  clear hR hn
  go_enter Try.func25, Try.ntmps25
  go_wp2
  go_loop [8] (fun i => ∃ k : Nat, k ≤ n ∧ i = .int .i64 k ∧ Hid ((R.take k).any (eqB v) = false)) (fun i => n - (intOf i).toNat)
  case atStart => exact ⟨0, Nat.zero_le _, rfl, rfl⟩
  case round =>
    obtain ⟨k, hk, rfl, HT⟩ := hrel
    by_cases hlt : k < n
    · have hkR : k < R.length := by rw [HN.out]; exact hlt
      obtain ⟨b, off, rfl, hbw, hRi⟩ := HR.out.at (by omega)
      have c0 := hRi k hkR
      obtain ⟨x, hx⟩ : ∃ x, x = R[k] := ⟨_, rfl⟩
      rw [← hx] at c0
      have HX := hid hx
      clear hx hRi
      go_wp2
      · go_ret
        exact ⟨_, rfl, by unfold hasB; rw [any_yes (eqB v) R k hkR x HX.out (by assumption)]; simp [nnB], rfl⟩
      · go_round
        case rel => exact ⟨k + 1, by omega, by go_num, any_step (eqB v) R k hkR x HX.out (by assumption) HT.out⟩
        case measure => simp [intOf]; omega
    · go_wp2
      go_ret
      exact ⟨_, rfl, by unfold hasB; rw [any_end (eqB v) R k (by rw [HN.out]; omega) HT.out]; rfl, rfl⟩

theorem contains_call (ao : Option Addr) (n cap : Nat) (R : List Int) (v : Int) (w : World) (hn : R.length = n) (hs : n ≤ 1048576) (hR : Nums w ao R) :
    Calls Try.prog 24 #[.slice ao n cap, .int .i64 v] w fun e w' => e = .returned (.bool (hasB R v)) ∧ w' = w := by
  have HR := hid hR
  have HN := hid hn
  clear hR hn
  go_enter Try.func24, Try.ntmps24
  go_wp2_with (go_at_call 25; refine (index_any ao n cap R v _ HN.out hs HR.out).mono ?_; rintro e w' ⟨x, rfl, hx, rfl⟩)
  go_ret
  exact ⟨ret_bool hx, rfl⟩

set_option maxHeartbeats 400000 in
theorem counts_any (r : Int) (ad : Bool) (p q : Int) (w : World) :
    Calls Try.prog 23 #[.agg #[.int .i64 r, .bool ad, .int .i64 p], .int .i64 q] w fun e w' => e = .returned (.bool (cnt q (r, ad, p))) ∧ Below w.heap.size w w' := by
  go_enter Try.func23, Try.ntmps23
  go_wp2
  all_goals
    go_ret
    exact ⟨ret_bool (by simp [cnt, *]), (Below.refl _ _).alloc (Nat.le_refl _) _⟩

theorem below_box {w wr w2 : World} {o : Obj} (h : Below w.heap.size w wr) (h2 : Below (wr.alloc o).heap.size (wr.alloc o) w2) : Below w.heap.size w w2 :=
  (h.alloc h.size _).trans (h2.mono (Nat.le_trans h.size (by simp)))
theorem box_cells {wr w2 : World} {r : Int} {ad : Bool} {p : Int} (h2 : Below (wr.alloc (.cells #[.int .i64 r, .bool ad, .int .i64 p] 30)).heap.size (wr.alloc (.cells #[.int .i64 r, .bool ad, .int .i64 p] 30)) w2) :
    w2.cell? ⟨wr.heap.size, 0, none⟩ = some (.int .i64 r) ∧ w2.cell? ⟨wr.heap.size, 1, none⟩ = some (.bool ad) ∧ w2.cell? ⟨wr.heap.size, 2, none⟩ = some (.int .i64 p) := by
  refine ⟨(h2.cell (p := ⟨wr.heap.size, 0, none⟩) (by simp)).trans ?_, (h2.cell (p := ⟨wr.heap.size, 1, none⟩) (by simp)).trans ?_, (h2.cell (p := ⟨wr.heap.size, 2, none⟩) (by simp)).trans ?_⟩ <;>
    simp

set_option maxHeartbeats 1000000 in
theorem holds_some (b off n cap : Nat) (L : List A3) (ao : Option Addr) (m cm : Nat) (R : List Int) (q : Int) (w : World) (hn : L.length = n) (hs : n ≤ 1048576) (hb : b < w.heap.size) (hL : Lies w b off L)
    (hm : R.length = m) (hms : m ≤ 1048576) (hR : Nums w ao R) :
    Calls Try.prog 22 #[.slice (some ⟨b, off, none⟩) n cap, .slice ao m cm, .int .i64 q] w fun e w' => e = .returned (.bool (holdB L R q)) ∧ Below w.heap.size w w' := by
  have HL := hid hL
  have HN := hid hn
  have HR := hid hR
  have HM := hid hm
  clear hL hn hR hm
  go_enter Try.func22, Try.ntmps22
  go_wp2
  go_loopw [11] (fun i wr => ∃ k : Nat, k ≤ n ∧ i = .int .i64 k ∧ Hid ((L.take k).any (hit R q) = false) ∧ Below w.heap.size w wr) (fun i _ => n - (intOf i).toNat)
  case atStart => exact ⟨0, Nat.zero_le _, rfl, rfl, Below.refl _ _⟩
  case round =>
    obtain ⟨k, hk, rfl, HT, hbl⟩ := hrel
    by_cases hlt : k < n
    · have hkL : k < L.length := by rw [HN.out]; exact hlt
      obtain ⟨c0, c1, c2⟩ := (HL.out.below hb hbl) k hkL
      obtain ⟨⟨r, ad, p⟩, hx⟩ : ∃ x, x = L[k] := ⟨_, rfl⟩
      rw [← hx] at c0 c1 c2
      simp only at c0 c1 c2
      have HX := hid hx
      have HB := hid hbl
      clear hx hbl
      cases hc : cnt q (r, ad, p)
      · go_wp2_with (first
          | (go_at_call 23; refine (counts_any r ad p q _).mono ?_; rintro e w2 ⟨rfl, hb2⟩; have HB2 := hid (below_box HB.out hb2); clear hb2))
        go_roundw
        case rel => exact ⟨k + 1, by omega, by go_num, any_step (hit R q) L k hkL _ HX.out (hit_no R q _ hc) HT.out, HB2.out⟩
        case measure => simp [intOf]; omega
      · cases hh : hasB R r
        · go_wp2_with (first
            | (go_at_call 23; refine (counts_any r ad p q _).mono ?_; rintro e w2 ⟨rfl, hb2⟩; have HB2 := hid (below_box HB.out hb2); obtain ⟨e0, e1, e2⟩ := box_cells hb2; clear hb2)
            | (go_at_call 24; refine (contains_call ao m cm R r _ HM.out hms (HR.out.below HB2.out)).mono ?_; rintro e w3 ⟨rfl, rfl⟩))
          go_roundw
          case rel => exact ⟨k + 1, by omega, by go_num, any_step (hit R q) L k hkL _ HX.out (hit_yes R q _ hc _ hh) HT.out, HB2.out⟩
          case measure => simp [intOf]; omega
        · go_wp2_with (first
            | (go_at_call 23; refine (counts_any r ad p q _).mono ?_; rintro e w2 ⟨rfl, hb2⟩; have HB2 := hid (below_box HB.out hb2); obtain ⟨e0, e1, e2⟩ := box_cells hb2; clear hb2)
            | (go_at_call 24; refine (contains_call ao m cm R r _ HM.out hms (HR.out.below HB2.out)).mono ?_; rintro e w3 ⟨rfl, rfl⟩))
          go_ret
          exact ⟨ret_bool (any_yes (hit R q) L k hkL _ HX.out (hit_yes R q _ hc _ hh)).symm, HB2.out⟩
    · go_wp2
      go_ret
      exact ⟨ret_bool (any_end _ L k (by rw [HN.out]; omega) HT.out).symm, hbl⟩

set_option maxHeartbeats 400000 in
theorem holds_none (ao : Option Addr) (cap : Nat) (v : Value) (q : Int) (w : World) :
    Calls Try.prog 22 #[.slice ao 0 cap, v, .int .i64 q] w fun e w' => e = .returned (.bool false) ∧ Below w.heap.size w w' := by
  go_enter Try.func22, Try.ntmps22
  go_wp2
  refine wp_loop_rounds 1 ?_
  rw [rounds_succ]
  go_wp2
  go_ret
  exact ⟨rfl, Below.refl _ _⟩

theorem holds_any (ah : Option Addr) (n cap : Nat) (L : List A3) (ao : Option Addr) (m cm : Nat) (R : List Int) (q : Int) (w : World) (hn : L.length = n) (hs : n ≤ 1048576) (hL : Held w ah L)
    (hm : R.length = m) (hms : m ≤ 1048576) (hR : Nums w ao R) :
    Calls Try.prog 22 #[.slice ah n cap, .slice ao m cm, .int .i64 q] w fun e w' => e = .returned (.bool (holdB L R q)) ∧ Below w.heap.size w w' := by
  rcases hL with rfl | ⟨b, off, rfl, hb, hL⟩
  · subst hn; exact holds_none ah cap _ q w
  · exact holds_some b off n cap L ao m cm R q w hn hs hb hL hm hms hR

end Go.Proofs.Qxb6618129a.Acc

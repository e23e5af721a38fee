/-
  The walk of FnIsAdminOneAssignmentAnyPlaceAnyCut.
-/
import Derived.Test.Qxb6618129aAccWalkC
namespace Go.Proofs.Qxb6618129a.Acc
open Go.ChangeShapes Go.WideShapes Go.ChangeAt Go.RowKit

theorem Lies.take {w : World} {b off : Nat} {L : List A3} (h : Lies w b off L) (k : Nat) : Lies w b off (L.take k) := fun i hi => by
  have hi' : i < L.length := by simp at hi; omega
  simpa using h i hi'
theorem Lies.drop {w : World} {b : Nat} {L : List A3} (h : Lies w b 0 L) (k : Nat) : Lies w b (k * 3) (L.drop k) := fun i hi => by
  have hi' : k + i < L.length := by simp at hi; omega
  have := h (k + i) hi'
  rw [show 0 + (k + i) * 3 = k * 3 + i * 3 by omega] at this
  simpa using this

/-- The early ways out: the law's own guards. -/
def badIn (n : Nat) (i k : Int) : Prop := 16384 < n ∨ i < 0 ∨ (n : Int) < i ∨ k < 0 ∨ (n : Int) < k

set_option maxHeartbeats 1000000 in
theorem adm_out (ao : Option Addr) (n cap : Nat) (i k : Int) (r : Int) (ad : Bool) (p : Int) (w : World) (hm : n ≤ maxLen) (hbad : badIn n i k) :
    Calls Try.prog 3 #[.slice ao n cap, .int .i64 i, .agg #[.int .i64 r, .bool ad, .int .i64 p], .int .i64 k] w fun e w' => e = .returned (.bool true) ∧ Below w.heap.size w w' := by
  unfold maxLen at hm
  by_cases h1 : 1048576 < n
  · clear hbad
    go_enter Try.func3, Try.ntmps3
    go_wp2
    go_ret
    exact ⟨rfl, ((Below.refl _ _).alloc (Nat.le_refl _) _).alloc (by simp) _⟩
  by_cases h2 : 16384 < n
  · clear hbad
    go_enter Try.func3, Try.ntmps3
    go_wp2
    go_ret
    exact ⟨rfl, ((Below.refl _ _).alloc (Nat.le_refl _) _).alloc (by simp) _⟩
  by_cases h3 : i < 0
  · clear hbad
    go_enter Try.func3, Try.ntmps3
    go_wp2
    go_ret
    exact ⟨rfl, ((Below.refl _ _).alloc (Nat.le_refl _) _).alloc (by simp) _⟩
  by_cases h4 : (n : Int) < i
  · clear hbad
    go_enter Try.func3, Try.ntmps3
    go_wp2
    go_ret
    exact ⟨rfl, ((Below.refl _ _).alloc (Nat.le_refl _) _).alloc (by simp) _⟩
  by_cases h5 : k < 0
  · clear hbad
    go_enter Try.func3, Try.ntmps3
    go_wp2
    go_ret
    exact ⟨rfl, ((Below.refl _ _).alloc (Nat.le_refl _) _).alloc (by simp) _⟩
  by_cases h6 : (n : Int) < k
  · clear hbad
    go_enter Try.func3, Try.ntmps3
    go_wp2
    go_ret
    exact ⟨rfl, ((Below.refl _ _).alloc (Nat.le_refl _) _).alloc (by simp) _⟩
  · unfold badIn at hbad; omega

theorem held_row (a : Addr) (n cap : Nat) (L : List A3) (w : World) (hn : L.length = n) (hs : n ≤ 16384) (hL : Held w (some a) L) :
    Calls Try.prog 9 #[.slice (some a) n cap] w fun e w' => ∃ g, e = .returned (.slice (some ⟨g, 0, none⟩) n n) ∧ Own w' w.heap.size g n L ∧ Below w.heap.size w w' := by
  rcases hL with rfl | ⟨b, off, ha, hb, hL⟩
  · subst hn; exact held_some 0 0 a 0 cap [] w rfl (Nat.zero_le _) (fun h => absurd h (Nat.lt_irrefl _)) (fun i hi => by simp at hi)
  · obtain rfl := Option.some.inj ha
    exact held_some b off _ n cap L w hn hs (fun _ => ⟨rfl, hb⟩) hL

theorem Own.held {w : World} {base g n : Nat} {M : List A3} (h : Own w base g n M) : Held w (some ⟨g, 0, none⟩) M := .inr ⟨g, 0, rfl, h.block.1, h.lies⟩
theorem Own.heldTake {w : World} {base g n : Nat} {M : List A3} (h : Own w base g n M) (k : Nat) : Held w (some ⟨g, 0, none⟩) (M.take k) := .inr ⟨g, 0, rfl, h.block.1, h.lies.take k⟩
theorem Own.heldDrop {w : World} {base g n : Nat} {M : List A3} (h : Own w base g n M) (k : Nat) : Held w (some ⟨g, k * 3, none⟩) (M.drop k) := .inr ⟨g, k * 3, rfl, h.block.1, h.lies.drop k⟩

theorem below_then {w v v' : World} (h : Below w.heap.size w v) (h2 : Below v.heap.size v v') : Below w.heap.size w v' := h.trans (h2.mono h.size)
/-- The boxed assignment. -/
def Bx (w : World) (g : Nat) (r : Int) (ad : Bool) (p : Int) : Prop :=
  g < w.heap.size ∧ w.cell? ⟨g, 0, none⟩ = some (.int .i64 r) ∧ w.cell? ⟨g, 1, none⟩ = some (.bool ad) ∧ w.cell? ⟨g, 2, none⟩ = some (.int .i64 p)
theorem Bx.below {w w' : World} {g : Nat} {r : Int} {ad : Bool} {p : Int} (h : Bx w g r ad p) (hB : Below w.heap.size w w') : Bx w' g r ad p :=
  ⟨Nat.lt_of_lt_of_le h.1 hB.size, (hB.cell (p := ⟨g, 0, none⟩) h.1).trans h.2.1, (hB.cell (p := ⟨g, 1, none⟩) h.1).trans h.2.2.1, (hB.cell (p := ⟨g, 2, none⟩) h.1).trans h.2.2.2⟩
theorem bx_start {w w1 : World} {r : Int} {ad : Bool} {p : Int} {o : Obj} (h : Below ((w.alloc (.cells #[.int .i64 r, .bool ad, .int .i64 p] 24)).alloc o).heap.size ((w.alloc (.cells #[.int .i64 r, .bool ad, .int .i64 p] 24)).alloc o) w1) : Bx w1 w.heap.size r ad p := by
  have hb : Bx (w.alloc (.cells #[.int .i64 r, .bool ad, .int .i64 p] 24)) w.heap.size r ad p := by
    refine ⟨by simp, ?_, ?_, ?_⟩ <;> simp
  exact (hb.below ((Below.refl _ _).alloc (Nat.le_refl _) _)).below h
theorem two_below {w w1 : World} {o o' : Obj} (h : Below ((w.alloc o').alloc o).heap.size ((w.alloc o').alloc o) w1) : Below w.heap.size w w1 :=
  below_then (((Below.refl _ _).alloc (Nat.le_refl _) _).alloc (by simp) _) h

set_option maxHeartbeats 2000000 in
theorem adm_yes (a : Addr) (n cap : Nat) (L : List A3) (i k : Nat) (r : Int) (ad : Bool) (p : Int) (w : World) (hn : L.length = n) (hs : n ≤ 16384) (hi : i ≤ n) (hk : k ≤ n) (hL : Held w (some a) L)
    (x4 : Bool) (h1 : admB (L.take k) = true) (h3 : admB L = true) (h4 : admB (insAt L i (r, ad, p)) = true) (h5 : (p == 0) = x4) :
    Calls Try.prog 3 #[.slice (some a) n cap, .int .i64 i, .agg #[.int .i64 r, .bool ad, .int .i64 p], .int .i64 k] w fun e w' => e = .returned (.bool true) ∧ Below w.heap.size w w' := by
  have HL := hid hL
  have HN := hid hn
  have HT : Hid ((L.take k).length = k) := by simp only [Hid, List.length_take]; omega
  have HD : Hid ((L.drop k).length = n - k) := by simp only [Hid, List.length_drop]; omega
  clear hL hn
  have tok1 : True := trivial
  have tok2 : True := trivial
  have tok4 : True := trivial
  cases ad <;> cases x4
  all_goals
      go_enter Try.func3, Try.ntmps3
      go_wp2_with (first
        | (go_at_call 9; go_must (refine (held_row a n cap L _ HN.out hs (HL.out.below (by exact ((Below.refl _ _).alloc (Nat.le_refl _) _).alloc (by simp) _))).mono ?_; rintro e w1 ⟨g, rfl, hO, hb1⟩; have HO1 := hid hO; clear hO; have HX1 := hid (bx_start hb1); have HB1 := hid (two_below hb1); clear hb1))
        | (go_at_call 10; have _t := tok1; clear tok1; go_must (refine (zisAdmin_any _ n n L _ HN.out (by omega) HO1.out.held).mono ?_; rintro e w2 ⟨rfl, hb2⟩; have HO2 := hid (HO1.out.below hb2); have HX2 := hid (HX1.out.below hb2); have HB2 := hid (below_then HB1.out hb2); clear hb2))
        | (go_at_call 10; have _t := tok2; clear tok2; go_must (refine (zisAdmin_any _ k n (L.take k) _ HT.out (by omega) (HO2.out.heldTake k)).mono ?_; rintro e w3 ⟨rfl, hb3⟩; have HO3 := hid (HO2.out.below hb3); have HX3 := hid (HX2.out.below hb3); have HB3 := hid (below_then HB2.out hb3); clear hb3; obtain ⟨_, e0, e1, e2⟩ := HX3.out))
        | (go_at_call 12; go_must (refine (one_any _ _ _ _).mono ?_; rintro e w5 ⟨rfl, hb5⟩; have HO5 := hid (HO3.out.below hb5); have HX5 := hid (HX3.out.below hb5); have HB5 := hid (below_then HB3.out hb5); clear hb5 e0 e1 e2))
        | (go_at_call 11; go_must (refine (ins_any _ n n i L r _ p _ HN.out hs hi HO5.out.held).mono ?_; rintro e w6 ⟨g2, rfl, hO6, hb6⟩; have HO6 := hid hO6; have HX6 := hid (HX5.out.below hb6); have HB6 := hid (below_then HB5.out hb6); clear hO6 hb6))
        | (go_at_call 10; have _t := tok4; clear tok4; go_must (refine (zisAdmin_any _ (n + 1) (n + 1) _ _ HO6.out.1 (by omega) HO6.out.held).mono ?_; rintro e w7 ⟨rfl, hb7⟩; have HX7 := hid (HX6.out.below hb7); have HB7 := hid (below_then HB6.out hb7); clear hb7; obtain ⟨_, e0, e1, e2⟩ := HX7.out))
        | go_in)
      go_ret
      exact ⟨rfl, HB7.out⟩

set_option maxHeartbeats 2000000 in
theorem adm_no (a : Addr) (n cap : Nat) (L : List A3) (i k : Nat) (r : Int) (ad : Bool) (p : Int) (w : World) (hn : L.length = n) (hs : n ≤ 16384) (hi : i ≤ n) (hk : k ≤ n) (hL : Held w (some a) L)
    (x2 x4 : Bool) (h1 : admB (L.take k) = false) (h2 : admB (L.drop k) = x2) (h3 : admB L = x2) (h4 : admB (insAt L i (r, ad, p)) = (x2 || (ad && x4))) (h5 : (p == 0) = x4) (hkn : k < n) :
    Calls Try.prog 3 #[.slice (some a) n cap, .int .i64 i, .agg #[.int .i64 r, .bool ad, .int .i64 p], .int .i64 k] w fun e w' => e = .returned (.bool true) ∧ Below w.heap.size w w' := by
  have HL := hid hL
  have HN := hid hn
  have HT : Hid ((L.take k).length = k) := by simp only [Hid, List.length_take]; omega
  have HD : Hid ((L.drop k).length = n - k) := by simp only [Hid, List.length_drop]; omega
  clear hL hn
  have tok1 : True := trivial
  have tok2 : True := trivial
  have tok3 : True := trivial
  have tok4 : True := trivial
  have hkn' : ¬ n = k := by omega
  cases ad <;> cases x4 <;> cases x2
  all_goals
      simp only [Bool.false_and, Bool.true_and, Bool.or_false, Bool.or_true] at h4
      go_enter Try.func3, Try.ntmps3
      go_wp2_with (first
        | (go_at_call 9; go_must (refine (held_row a n cap L _ HN.out hs (HL.out.below (by exact ((Below.refl _ _).alloc (Nat.le_refl _) _).alloc (by simp) _))).mono ?_; rintro e w1 ⟨g, rfl, hO, hb1⟩; have HO1 := hid hO; clear hO; have HX1 := hid (bx_start hb1); have HB1 := hid (two_below hb1); clear hb1))
        | (go_at_call 10; have _t := tok1; clear tok1; go_must (refine (zisAdmin_any _ n n L _ HN.out (by omega) HO1.out.held).mono ?_; rintro e w2 ⟨rfl, hb2⟩; have HO2 := hid (HO1.out.below hb2); have HX2 := hid (HX1.out.below hb2); have HB2 := hid (below_then HB1.out hb2); clear hb2))
        | (go_at_call 10; have _t := tok2; clear tok2; go_must (refine (zisAdmin_any _ k n (L.take k) _ HT.out (by omega) (HO2.out.heldTake k)).mono ?_; rintro e w3 ⟨rfl, hb3⟩; have HO3 := hid (HO2.out.below hb3); have HX3 := hid (HX2.out.below hb3); have HB3 := hid (below_then HB2.out hb3); clear hb3))
        | (go_at_call 10; have _t := tok3; clear tok3; go_must (refine (zisAdmin_any _ (n - k) (n - k) (L.drop k) _ HD.out (by omega) (HO3.out.heldDrop k)).mono ?_; rintro e w4 ⟨rfl, hb4⟩; have HO4 := hid (HO3.out.below hb4); have HX4 := hid (HX3.out.below hb4); have HB4 := hid (below_then HB3.out hb4); clear hb4; obtain ⟨_, e0, e1, e2⟩ := HX4.out))
        | (go_at_call 12; go_must (refine (one_any _ _ _ _).mono ?_; rintro e w5 ⟨rfl, hb5⟩; have HO5 := hid (HO4.out.below hb5); have HX5 := hid (HX4.out.below hb5); have HB5 := hid (below_then HB4.out hb5); clear hb5 e0 e1 e2))
        | (go_at_call 11; go_must (refine (ins_any _ n n i L r _ p _ HN.out hs hi HO5.out.held).mono ?_; rintro e w6 ⟨g2, rfl, hO6, hb6⟩; have HO6 := hid hO6; have HX6 := hid (HX5.out.below hb6); have HB6 := hid (below_then HB5.out hb6); clear hO6 hb6))
        | (go_at_call 10; have _t := tok4; clear tok4; go_must (refine (zisAdmin_any _ (n + 1) (n + 1) _ _ HO6.out.1 (by omega) HO6.out.held).mono ?_; rintro e w7 ⟨rfl, hb7⟩; have HX7 := hid (HX6.out.below hb7); have HB7 := hid (below_then HB6.out hb7); clear hb7; obtain ⟨_, e0, e1, e2⟩ := HX7.out))
        | go_in)
      go_ret
      exact ⟨rfl, HB7.out⟩

end Go.Proofs.Qxb6618129a.Acc

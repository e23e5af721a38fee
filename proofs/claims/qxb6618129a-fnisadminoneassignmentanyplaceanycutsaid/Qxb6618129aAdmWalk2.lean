/-
  The walk of FnIsAdminOneAssignmentAnyPlaceAnyCut: the cut at the end; the nil list; all together.
-/
import Derived.Test.Qxb6618129aAdmWalk
namespace Go.Proofs.Qxb6618129a.Acc
open Go.ChangeShapes Go.WideShapes Go.ChangeAt Go.RowKit

set_option maxHeartbeats 2000000 in
theorem adm_end (a : Addr) (n cap : Nat) (L : List A3) (i : Nat) (r : Int) (ad : Bool) (p : Int) (w : World) (hn : L.length = n) (hs : n ≤ 16384) (hi : i ≤ n) (hL : Held w (some a) L)
    (x4 : Bool) (h3 : admB L = false) (h4 : admB (insAt L i (r, ad, p)) = (ad && x4)) (h5 : (p == 0) = x4) :
    Calls Try.prog 3 #[.slice (some a) n cap, .int .i64 i, .agg #[.int .i64 r, .bool ad, .int .i64 p], .int .i64 n] w fun e w' => e = .returned (.bool true) ∧ Below w.heap.size w w' := by
  have HL := hid hL
  have HN := hid hn
  clear hL hn
  have tok1 : True := trivial
  have tok2 : True := trivial
  have tok3 : True := trivial
  have tok4 : True := trivial
  cases ad <;> cases x4
  all_goals
      simp only [Bool.false_and, Bool.true_and] at h4
      go_enter Try.func3, Try.ntmps3
      go_wp2_with (first
        | (go_at_call 9; go_must (refine (held_row a n cap L _ HN.out hs (HL.out.below (by exact ((Below.refl _ _).alloc (Nat.le_refl _) _).alloc (by simp) _))).mono ?_; rintro e w1 ⟨g, rfl, hO, hb1⟩; have HO1 := hid hO; clear hO; have HX1 := hid (bx_start hb1); have HB1 := hid (two_below hb1); clear hb1))
        | (go_at_call 10; have _t := tok1; clear tok1; go_must (refine (zisAdmin_any _ n n L _ HN.out (by omega) HO1.out.held).mono ?_; rintro e w2 ⟨rfl, hb2⟩; have HO2 := hid (HO1.out.below hb2); have HX2 := hid (HX1.out.below hb2); have HB2 := hid (below_then HB1.out hb2); clear hb2))
        | (go_at_call 10; have _t := tok2; clear tok2; go_must (refine (zisAdmin_any _ n n L _ HN.out (by omega) HO2.out.held).mono ?_; rintro e w3 ⟨rfl, hb3⟩; have HO3 := hid (HO2.out.below hb3); have HX3 := hid (HX2.out.below hb3); have HB3 := hid (below_then HB2.out hb3); clear hb3))
        | (go_at_call 10; have _t := tok3; clear tok3; go_must (refine (zisAdmin_any _ 0 0 [] _ rfl (by omega) (.inl rfl)).mono ?_; rintro e w4 ⟨rfl, hb4⟩; have HO4 := hid (HO3.out.below hb4); have HX4 := hid (HX3.out.below hb4); have HB4 := hid (below_then HB3.out hb4); clear hb4; obtain ⟨_, e0, e1, e2⟩ := HX4.out))
        | (go_at_call 12; go_must (refine (one_any _ _ _ _).mono ?_; rintro e w5 ⟨rfl, hb5⟩; have HO5 := hid (HO4.out.below hb5); have HX5 := hid (HX4.out.below hb5); have HB5 := hid (below_then HB4.out hb5); clear hb5 e0 e1 e2))
        | (go_at_call 11; go_must (refine (ins_any _ n n i L r _ p _ HN.out hs hi HO5.out.held).mono ?_; rintro e w6 ⟨g2, rfl, hO6, hb6⟩; have HO6 := hid hO6; have HX6 := hid (HX5.out.below hb6); have HB6 := hid (below_then HB5.out hb6); clear hO6 hb6))
        | (go_at_call 10; have _t := tok4; clear tok4; go_must (refine (zisAdmin_any _ (n + 1) (n + 1) _ _ HO6.out.1 (by omega) HO6.out.held).mono ?_; rintro e w7 ⟨rfl, hb7⟩; have HX7 := hid (HX6.out.below hb7); have HB7 := hid (below_then HB6.out hb7); clear hb7; obtain ⟨_, e0, e1, e2⟩ := HX7.out))
        | go_in)
      go_ret
      exact ⟨rfl, HB7.out⟩

set_option maxHeartbeats 2000000 in
theorem adm_nil (r : Int) (ad : Bool) (p : Int) (w : World) (x4 : Bool) (h4 : admB (insAt [] 0 (r, ad, p)) = (ad && x4)) (h5 : (p == 0) = x4) :
    Calls Try.prog 3 #[.slice none 0 0, .int .i64 0, .agg #[.int .i64 r, .bool ad, .int .i64 p], .int .i64 0] w fun e w' => e = .returned (.bool true) ∧ Below w.heap.size w w' := by
  have h3 : admB [] = false := rfl
  have tok1 : True := trivial
  have tok2 : True := trivial
  have tok3 : True := trivial
  have tok4 : True := trivial
  cases ad <;> cases x4
  all_goals
      simp only [Bool.false_and, Bool.true_and] at h4
      go_enter Try.func3, Try.ntmps3
      go_wp2_with (first
        | (go_at_call 9; go_must (refine (held_nil _).mono ?_; rintro e w1 ⟨rfl, rfl⟩))
        | (go_at_call 10; have _t := tok1; clear tok1; go_must (refine (zisAdmin_any none 0 0 [] _ rfl (by omega) (.inl rfl)).mono ?_; rintro e w2 ⟨rfl, hb2⟩; have HX2 := hid (bx_start hb2); have HB2 := hid (two_below hb2); clear hb2))
        | (go_at_call 10; have _t := tok2; clear tok2; go_must (refine (zisAdmin_any none 0 0 [] _ rfl (by omega) (.inl rfl)).mono ?_; rintro e w3 ⟨rfl, hb3⟩; have HX3 := hid (HX2.out.below hb3); have HB3 := hid (below_then HB2.out hb3); clear hb3))
        | (go_at_call 10; have _t := tok3; clear tok3; go_must (refine (zisAdmin_any none 0 0 [] _ rfl (by omega) (.inl rfl)).mono ?_; rintro e w4 ⟨rfl, hb4⟩; have HX4 := hid (HX3.out.below hb4); have HB4 := hid (below_then HB3.out hb4); clear hb4; obtain ⟨_, e0, e1, e2⟩ := HX4.out))
        | (go_at_call 12; go_must (refine (one_any _ _ _ _).mono ?_; rintro e w5 ⟨rfl, hb5⟩; have HX5 := hid (HX4.out.below hb5); have HB5 := hid (below_then HB4.out hb5); clear hb5 e0 e1 e2))
        | (go_at_call 11; go_must (refine (ins_any none 0 0 0 [] r _ p _ rfl (by omega) (by omega) (.inl rfl)).mono ?_; rintro e w6 ⟨g2, rfl, hO6, hb6⟩; have HO6 := hid hO6; have HX6 := hid (HX5.out.below hb6); have HB6 := hid (below_then HB5.out hb6); clear hO6 hb6))
        | (go_at_call 10; have _t := tok4; clear tok4; go_must (refine (zisAdmin_any _ (0 + 1) (0 + 1) _ _ HO6.out.1 (by omega) HO6.out.held).mono ?_; rintro e w7 ⟨rfl, hb7⟩; have HX7 := hid (HX6.out.below hb7); have HB7 := hid (below_then HB6.out hb7); clear hb7; obtain ⟨_, e0, e1, e2⟩ := HX7.out))
        | go_in)
      go_ret
      exact ⟨rfl, HB7.out⟩

theorem adm_any (ao : Option Addr) (n cap : Nat) (i k : Int) (r : Int) (ad : Bool) (p : Int) (w : World) (hL : (ao = none ∧ n = 0 ∧ cap = 0) ∨ ∃ a L, ao = some a ∧ L.length = n ∧ n ≤ maxLen ∧ Held w (some a) L) :
    Calls Try.prog 3 #[.slice ao n cap, .int .i64 i, .agg #[.int .i64 r, .bool ad, .int .i64 p], .int .i64 k] w fun e w' => e = .returned (.bool true) ∧ Below w.heap.size w w' := by
  by_cases hbad : badIn n i k
  · exact adm_out ao n cap i k r ad p w (by rcases hL with ⟨_, rfl, _⟩ | ⟨_, _, _, _, h, _⟩; exact Nat.zero_le _; exact h) hbad
  have hg : n ≤ 16384 ∧ 0 ≤ i ∧ i ≤ n ∧ 0 ≤ k ∧ k ≤ n := by unfold badIn at hbad; omega
  clear hbad
  obtain ⟨i, rfl⟩ : ∃ j : Nat, i = j := ⟨i.toNat, by omega⟩
  obtain ⟨k, rfl⟩ : ∃ j : Nat, k = j := ⟨k.toNat, by omega⟩
  have ha : adm (r, ad, p) = (ad && (p == 0)) := rfl
  rcases hL with ⟨rfl, rfl, rfl⟩ | ⟨a, L, rfl, hn, _, hL⟩
  · obtain rfl : i = 0 := by omega
    obtain rfl : k = 0 := by omega
    exact adm_nil r ad p w (p == 0) (by rw [admB_ins, ha]; rfl) rfl
  · have hi : i ≤ n := by omega
    have hk : k ≤ n := by omega
    have hcut := admB_cut L k
    have hins := admB_ins L i (r, ad, p)
    rw [ha] at hins
    cases h1 : admB (L.take k) with
    | true =>
      rw [h1, Bool.true_or] at hcut
      rw [← hcut, Bool.true_or] at hins
      exact adm_yes a n cap L i k r ad p w hn hg.1 hi hk hL (p == 0) h1 hcut.symm hins rfl
    | false =>
      rw [h1, Bool.false_or] at hcut
      rw [← hcut] at hins
      by_cases hkn : k < n
      · exact adm_no a n cap L i k r ad p w hn hg.1 hi hk hL _ (p == 0) h1 rfl hcut.symm hins rfl hkn
      · obtain rfl : k = n := by omega
        have hd : admB (L.drop k) = false := by rw [List.drop_eq_nil_of_le (by omega)]; rfl
        rw [hd] at hcut hins
        exact adm_end a k cap L i r ad p w hn hg.1 hi hL (p == 0) hcut.symm (by rw [hins, Bool.false_or]) rfl

end Go.Proofs.Qxb6618129a.Acc

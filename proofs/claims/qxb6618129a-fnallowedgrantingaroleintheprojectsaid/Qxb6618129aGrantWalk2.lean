/-
  The walk of FnAllowedGrantingARoleInTheProject: the gate is open.
-/
import Derived.Test.Qxb6618129aGrantWalk
namespace Go.Proofs.Qxb6618129a.Acc
open Go.ChangeShapes Go.WideShapes Go.ChangeAt Go.RowKit

set_option maxHeartbeats 8000000 in
theorem grant_mid (s : ByteArray) (found : Bool) (pr : Int) (ah : Option Addr) (n ch : Nat) (direct : Bool) (ao : Option Addr) (m cm : Nat) (r q : Int) (i j : Nat) (L : List A3) (R : List Int) (w : World)
    (hz : s.size ≤ 4096) (hn : n ≤ 16384) (hm : m ≤ 65536) (hi : i ≤ n) (hj : j ≤ m) (hLn : L.length = n) (hL : (ah = none ∧ n = 0 ∧ ch = 0) ∨ ∃ a, ah = some a ∧ Held w (some a) L) (hRm : R.length = m) (hR : Nums w ao R)
    (x1 x2 x3 : Bool) (ht : (s.toList == [97, 99, 116, 105, 118, 101]) = true) (hg : found = true) (hx2 : x2 = true) (hx3 : x3 = true)
    (h1 : allowB (actB s) found pr L direct R = x1) (h2 : allowB (actB s) found pr L direct (insAt R j r) = x2) (h3 : allowB (actB s) found pr (insAt L i (r, false, q)) direct (insAt R j r) = x3) :
    Calls Try.prog 7 #[.string s, .bool found, .int .i64 pr, .slice ah n ch, .bool direct, .slice ao m cm, .int .i64 r, .int .i64 q, .int .i64 i, .int .i64 j] w fun e w' => e = .returned (.bool true) ∧ Below w.heap.size w w' := by
  have HLn := hid hLn
  have HL := hid hL
  have HRm := hid hRm
  have HR := hid hR
  have H1 := hid h1
  have H2 := hid h2
  have H3 := hid h3
  clear hLn hL hRm hR h1 h2 h3
  have tok1 : True := trivial
  have tok2 : True := trivial
  have tok3 : True := trivial
  subst hg hx2 hx3
  cases x1
  all_goals
    go_enter Try.func7, Try.ntmps7
    go_wp2_with (first
      | (go_at_call 9; go_must (refine (held_both ah n ch L _ HLn.out hn HL.out).mono ?_; rintro e w1 ⟨ao1, rfl, hh1, hb1⟩; have HH1 := hid hh1; have HB1 := hid hb1; clear hh1 hb1))
      | (go_at_call 19; have _t := tok1; clear tok1; go_must (refine (allowed_is _ s _ pr ao1 n n direct ao m cm L R _ _ H1.out (facts_new _ _ _ _ _ _ _ _ _ _ _) HLn.out (by omega) (HH1.out.below ((Below.refl _ _).alloc (Nat.le_refl _) _)) HRm.out (by omega) (HR.out.below (HB1.out.alloc HB1.out.size _))).mono ?_; rintro e w2 ⟨rfl, hb2⟩; have HB2 := hid (below_box HB1.out hb2); have HH2 := hid (HH1.out.below (below_box (Below.refl _ _) hb2)); clear hb2))
      | (go_at_call 17; go_must (refine (insN_any ao m cm j R r _ HRm.out hm hj (HR.out.below HB2.out)).mono ?_; rintro e w3 ⟨g3, rfl, hO3, hb3⟩; have HN3 := hid (And.intro hO3.1 hO3.nums); have HB3 := hid (below_then HB2.out hb3); have HH3 := hid (HH2.out.below hb3); clear hb3 hO3))
      | (go_at_call 19; have _t := tok2; clear tok2; go_must (refine (allowed_is _ s _ pr ao1 n n direct _ (m + 1) (m + 1) L _ _ _ H2.out (facts_new _ _ _ _ _ _ _ _ _ _ _) HLn.out (by omega) (HH3.out.below ((Below.refl _ _).alloc (Nat.le_refl _) _)) HN3.out.1 (by omega) (HN3.out.2.below ((Below.refl _ _).alloc (Nat.le_refl _) _))).mono ?_; rintro e w4 ⟨rfl, hb4⟩; have HB4 := hid (below_box HB3.out hb4); have HH4 := hid (HH3.out.below (below_box (Below.refl _ _) hb4)); have HN4 := hid (And.intro HN3.out.1 (HN3.out.2.below (below_box (Below.refl _ _) hb4))); clear hb4))
      | (go_at_call 11; go_must (refine (ins_any ao1 n n i L r false q _ HLn.out hn hi HH4.out).mono ?_; rintro e w5 ⟨g5, rfl, hO5, hb5⟩; have HO5 := hid hO5; have HB5 := hid (below_then HB4.out hb5); have HN5 := hid (And.intro HN4.out.1 (HN4.out.2.below hb5)); clear hO5 hb5))
      | (go_at_call 19; have _t := tok3; clear tok3; go_must (refine (allowed_is _ s _ pr _ (n + 1) (n + 1) direct _ (m + 1) (m + 1) _ _ _ _ H3.out (facts_new _ _ _ _ _ _ _ _ _ _ _) HO5.out.1 (by omega) (HO5.out.held.below ((Below.refl _ _).alloc (Nat.le_refl _) _)) HN5.out.1 (by omega) (HN5.out.2.below ((Below.refl _ _).alloc (Nat.le_refl _) _))).mono ?_; rintro e w6 ⟨rfl, hb6⟩; have HB6 := hid (below_box HB5.out hb6); clear hb6))
      | go_in)
    go_ret
    exact ⟨rfl, HB6.out⟩

set_option maxHeartbeats 8000000 in
theorem grant_new (s : ByteArray) (found : Bool) (pr : Int) (ah : Option Addr) (n ch : Nat) (direct : Bool) (ao : Option Addr) (m cm : Nat) (r q : Int) (i j : Nat) (L : List A3) (R : List Int) (w : World)
    (hz : s.size ≤ 4096) (hn : n ≤ 16384) (hm : m ≤ 65536) (hi : i ≤ n) (hj : j ≤ m) (hLn : L.length = n) (hL : (ah = none ∧ n = 0 ∧ ch = 0) ∨ ∃ a, ah = some a ∧ Held w (some a) L) (hRm : R.length = m) (hR : Nums w ao R)
    (x1 x2 x3 u1 u2 : Bool) (ht : (s.toList == [97, 99, 116, 105, 118, 101]) = true) (hg : found = true) (hx1 : x1 = false) (hx2 : x2 = false) (hx3 : x3 = (u1 || u2)) (hu1 : (q == 0) = u1) (hu2 : (q == pr) = u2)
    (h1 : allowB (actB s) found pr L direct R = x1) (h2 : allowB (actB s) found pr L direct (insAt R j r) = x2) (h3 : allowB (actB s) found pr (insAt L i (r, false, q)) direct (insAt R j r) = x3) :
    Calls Try.prog 7 #[.string s, .bool found, .int .i64 pr, .slice ah n ch, .bool direct, .slice ao m cm, .int .i64 r, .int .i64 q, .int .i64 i, .int .i64 j] w fun e w' => e = .returned (.bool true) ∧ Below w.heap.size w w' := by
  have HLn := hid hLn
  have HL := hid hL
  have HRm := hid hRm
  have HR := hid hR
  have H1 := hid h1
  have H2 := hid h2
  have H3 := hid h3
  clear hLn hL hRm hR h1 h2 h3
  have tok1 : True := trivial
  have tok2 : True := trivial
  have tok3 : True := trivial
  subst hg hx1 hx2
  cases u1 <;> cases u2 <;> simp only [Bool.or_true, Bool.or_false] at hx3 <;> subst hx3
  all_goals
    go_enter Try.func7, Try.ntmps7
    go_wp2_with (first
      | (go_at_call 9; go_must (refine (held_both ah n ch L _ HLn.out hn HL.out).mono ?_; rintro e w1 ⟨ao1, rfl, hh1, hb1⟩; have HH1 := hid hh1; have HB1 := hid hb1; clear hh1 hb1))
      | (go_at_call 19; have _t := tok1; clear tok1; go_must (refine (allowed_is _ s _ pr ao1 n n direct ao m cm L R _ _ H1.out (facts_new _ _ _ _ _ _ _ _ _ _ _) HLn.out (by omega) (HH1.out.below ((Below.refl _ _).alloc (Nat.le_refl _) _)) HRm.out (by omega) (HR.out.below (HB1.out.alloc HB1.out.size _))).mono ?_; rintro e w2 ⟨rfl, hb2⟩; have HB2 := hid (below_box HB1.out hb2); have HH2 := hid (HH1.out.below (below_box (Below.refl _ _) hb2)); clear hb2))
      | (go_at_call 17; go_must (refine (insN_any ao m cm j R r _ HRm.out hm hj (HR.out.below HB2.out)).mono ?_; rintro e w3 ⟨g3, rfl, hO3, hb3⟩; have HN3 := hid (And.intro hO3.1 hO3.nums); have HB3 := hid (below_then HB2.out hb3); have HH3 := hid (HH2.out.below hb3); clear hb3 hO3))
      | (go_at_call 19; have _t := tok2; clear tok2; go_must (refine (allowed_is _ s _ pr ao1 n n direct _ (m + 1) (m + 1) L _ _ _ H2.out (facts_new _ _ _ _ _ _ _ _ _ _ _) HLn.out (by omega) (HH3.out.below ((Below.refl _ _).alloc (Nat.le_refl _) _)) HN3.out.1 (by omega) (HN3.out.2.below ((Below.refl _ _).alloc (Nat.le_refl _) _))).mono ?_; rintro e w4 ⟨rfl, hb4⟩; have HB4 := hid (below_box HB3.out hb4); have HH4 := hid (HH3.out.below (below_box (Below.refl _ _) hb4)); have HN4 := hid (And.intro HN3.out.1 (HN3.out.2.below (below_box (Below.refl _ _) hb4))); clear hb4))
      | (go_at_call 11; go_must (refine (ins_any ao1 n n i L r false q _ HLn.out hn hi HH4.out).mono ?_; rintro e w5 ⟨g5, rfl, hO5, hb5⟩; have HO5 := hid hO5; have HB5 := hid (below_then HB4.out hb5); have HN5 := hid (And.intro HN4.out.1 (HN4.out.2.below hb5)); clear hO5 hb5))
      | (go_at_call 19; have _t := tok3; clear tok3; go_must (refine (allowed_is _ s _ pr _ (n + 1) (n + 1) direct _ (m + 1) (m + 1) _ _ _ _ H3.out (facts_new _ _ _ _ _ _ _ _ _ _ _) HO5.out.1 (by omega) (HO5.out.held.below ((Below.refl _ _).alloc (Nat.le_refl _) _)) HN5.out.1 (by omega) (HN5.out.2.below ((Below.refl _ _).alloc (Nat.le_refl _) _))).mono ?_; rintro e w6 ⟨rfl, hb6⟩; have HB6 := hid (below_box HB5.out hb6); clear hb6))
      | go_in)
    go_ret
    exact ⟨rfl, HB6.out⟩

theorem actB_is (s : ByteArray) : (s.toList == [97, 99, 116, 105, 118, 101]) = actB s := by
  unfold actB
  by_cases h : s.toList = [97, 99, 116, 105, 118, 101] <;> simp [h]

theorem grant_any (s : ByteArray) (found : Bool) (pr : Int) (ah : Option Addr) (n ch : Nat) (direct : Bool) (ao : Option Addr) (m cm : Nat) (r q i j : Int) (w : World) (hz : s.size ≤ maxLen)
    (hL : (ah = none ∧ n = 0 ∧ ch = 0) ∨ ∃ a L, ah = some a ∧ L.length = n ∧ n ≤ maxLen ∧ Held w (some a) L) (hR : ∃ R : List Int, R.length = m ∧ m ≤ maxLen ∧ Nums w ao R) :
    Calls Try.prog 7 #[.string s, .bool found, .int .i64 pr, .slice ah n ch, .bool direct, .slice ao m cm, .int .i64 r, .int .i64 q, .int .i64 i, .int .i64 j] w fun e w' => e = .returned (.bool true) ∧ Below w.heap.size w w' := by
  obtain ⟨R, hRm, hm, hR⟩ := hR
  obtain ⟨L, hLn, hn, hL⟩ : ∃ L : List A3, L.length = n ∧ n ≤ maxLen ∧ ((ah = none ∧ n = 0 ∧ ch = 0) ∨ ∃ a, ah = some a ∧ Held w (some a) L) := by
    rcases hL with ⟨h1, h2, h3⟩ | ⟨a, L, h1, h2, h3, h4⟩
    · exact ⟨[], by rw [h2]; rfl, by rw [h2]; exact Nat.zero_le _, .inl ⟨h1, h2, h3⟩⟩
    · exact ⟨L, h2, h3, .inr ⟨a, h1, h4⟩⟩
  by_cases hbad : grantBad s.size n m i j
  · exact grant_out s found pr ah n ch direct ao m cm r q i j w hz hn hm hbad
  have hg : s.size ≤ 4096 ∧ n ≤ 16384 ∧ m ≤ 65536 ∧ 0 ≤ i ∧ i ≤ n ∧ 0 ≤ j ∧ j ≤ m := by unfold grantBad at hbad; omega
  obtain ⟨i, rfl⟩ : ∃ k : Nat, i = k := ⟨i.toNat, by omega⟩
  obtain ⟨j, rfl⟩ : ∃ k : Nat, j = k := ⟨j.toNat, by omega⟩
  obtain ⟨l1, l2⟩ := grant_law (actB s) found pr L direct R i j r q
  have hi : i ≤ n := by omega
  have hj : j ≤ m := by omega
  have hsh : ∀ (x : List A3) (y : List Int), (actB s && found) = false → allowB (actB s) found pr x direct y = false := fun x y h => by unfold allowB; rw [h]; rfl
  cases hgt : (actB s && found) with
  | false =>
    exact grant_shut s found pr ah n ch direct ao m cm r q i j L R w hg.1 hg.2.1 hg.2.2.1 hi hj hLn hL hRm hR (actB s) _ _ _ (actB_is s) hgt (hsh _ _ hgt) (hsh _ _ hgt) (hsh _ _ hgt) rfl rfl rfl
  | true =>
    have hac : actB s = true ∧ found = true := by simpa using hgt
    cases h2 : allowB (actB s) found pr L direct (insAt R j r) with
    | true =>
      rw [h2] at l2
      exact grant_mid s found pr ah n ch direct ao m cm r q i j L R w hg.1 hg.2.1 hg.2.2.1 hi hj hLn hL hRm hR _ true _ ((actB_is s).trans hac.1) hac.2 rfl (by rw [l2]; rfl) rfl h2 rfl
    | false =>
      rw [h2, hgt] at l2
      rw [h2] at l1
      have h1 : allowB (actB s) found pr L direct R = false := by
        cases h : allowB (actB s) found pr L direct R with
        | false => rfl
        | true => rw [h] at l1; simp at l1
      exact grant_new s found pr ah n ch direct ao m cm r q i j L R w hg.1 hg.2.1 hg.2.2.1 hi hj hLn hL hRm hR false false _ (q == 0) (q == pr) ((actB_is s).trans hac.1) hac.2 rfl rfl (by rw [l2]; simp) rfl rfl h1 h2 rfl

end Go.Proofs.Qxb6618129a.Acc

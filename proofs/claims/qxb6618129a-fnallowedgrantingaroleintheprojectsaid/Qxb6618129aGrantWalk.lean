/-
  The walk of FnAllowedGrantingARoleInTheProject.
-/
import Derived.Test.Qxb6618129aAllC
namespace Go.Proofs.Qxb6618129a.Acc
open Go.ChangeShapes Go.WideShapes Go.ChangeAt Go.RowKit

def grantBad (z n m : Nat) (i j : Int) : Prop := 4096 < z ∨ 16384 < n ∨ 65536 < m ∨ i < 0 ∨ (n : Int) < i ∨ j < 0 ∨ (m : Int) < j

set_option maxHeartbeats 2000000 in
theorem grant_out (s : ByteArray) (found : Bool) (pr : Int) (ah : Option Addr) (n ch : Nat) (direct : Bool) (ao : Option Addr) (m cm : Nat) (r q i j : Int) (w : World) (hz : s.size ≤ maxLen) (hn : n ≤ maxLen) (hm : m ≤ maxLen) (hbad : grantBad s.size n m i j) :
    Calls Try.prog 7 #[.string s, .bool found, .int .i64 pr, .slice ah n ch, .bool direct, .slice ao m cm, .int .i64 r, .int .i64 q, .int .i64 i, .int .i64 j] w fun e w' => e = .returned (.bool true) ∧ Below w.heap.size w w' := by
  unfold maxLen at hz hn hm
  have HBad := hid hbad
  clear hbad
  by_cases h1 : 1048576 < s.size
  · go_enter Try.func7, Try.ntmps7
    go_wp2
    go_ret
    exact ⟨rfl, Below.refl _ _⟩
  by_cases h2 : 1048576 < n
  · go_enter Try.func7, Try.ntmps7
    go_wp2
    go_ret
    exact ⟨rfl, Below.refl _ _⟩
  by_cases h3 : 1048576 < s.size + n
  · go_enter Try.func7, Try.ntmps7
    go_wp2
    go_ret
    exact ⟨rfl, Below.refl _ _⟩
  by_cases h4 : 1048576 < m
  · go_enter Try.func7, Try.ntmps7
    go_wp2
    go_ret
    exact ⟨rfl, Below.refl _ _⟩
  by_cases h5 : 1048576 < s.size + n + m
  · go_enter Try.func7, Try.ntmps7
    go_wp2
    go_ret
    exact ⟨rfl, Below.refl _ _⟩
  by_cases h6 : 4096 < s.size
  · go_enter Try.func7, Try.ntmps7
    go_wp2
    go_ret
    exact ⟨rfl, Below.refl _ _⟩
  by_cases h7 : 16384 < n
  · go_enter Try.func7, Try.ntmps7
    go_wp2
    go_ret
    exact ⟨rfl, Below.refl _ _⟩
  by_cases h8 : 65536 < m
  · go_enter Try.func7, Try.ntmps7
    go_wp2
    go_ret
    exact ⟨rfl, Below.refl _ _⟩
  by_cases h9 : i < 0
  · go_enter Try.func7, Try.ntmps7
    go_wp2
    go_ret
    exact ⟨rfl, Below.refl _ _⟩
  by_cases h10 : (n : Int) < i
  · go_enter Try.func7, Try.ntmps7
    go_wp2
    go_ret
    exact ⟨rfl, Below.refl _ _⟩
  by_cases h11 : j < 0
  · go_enter Try.func7, Try.ntmps7
    go_wp2
    go_ret
    exact ⟨rfl, Below.refl _ _⟩
  by_cases h12 : (m : Int) < j
  · go_enter Try.func7, Try.ntmps7
    go_wp2
    go_ret
    exact ⟨rfl, Below.refl _ _⟩
  · have := HBad.out
    unfold grantBad at this; omega

set_option maxHeartbeats 8000000 in
theorem grant_shut (s : ByteArray) (found : Bool) (pr : Int) (ah : Option Addr) (n ch : Nat) (direct : Bool) (ao : Option Addr) (m cm : Nat) (r q : Int) (i j : Nat) (L : List A3) (R : List Int) (w : World)
    (hz : s.size ≤ 4096) (hn : n ≤ 16384) (hm : m ≤ 65536) (hi : i ≤ n) (hj : j ≤ m) (hLn : L.length = n) (hL : (ah = none ∧ n = 0 ∧ ch = 0) ∨ ∃ a, ah = some a ∧ Held w (some a) L) (hRm : R.length = m) (hR : Nums w ao R)
    (act x1 x2 x3 : Bool) (ht : (s.toList == [97, 99, 116, 105, 118, 101]) = act) (hg : (act && found) = false) (hx1 : x1 = false) (hx2 : x2 = false) (hx3 : x3 = false)
    (h1 : allowB (actB s) found pr L direct R = x1) (h2 : allowB (actB s) found pr L direct (insAt R j r) = x2) (h3 : allowB (actB s) found pr (insAt L i (r, false, q)) direct (insAt R j r) = x3) :
    Calls Try.prog 7 #[.string s, .bool found, .int .i64 pr, .slice ah n ch, .bool direct, .slice ao m cm, .int .i64 r, .int .i64 q, .int .i64 i, .int .i64 j] w fun e w' => e = .returned (.bool true) ∧ Below w.heap.size w w' := by
  have HLn := hid hLn
  have HL := hid hL
  have HRm := hid hRm
  have HR := hid hR
  have H1 := hid h1
  have H2 := hid h2
  have H3 := hid h3
  clear hLn hL hRm hR h1 h2 h3
  have tok1 : True := trivial
  have tok2 : True := trivial
  have tok3 : True := trivial
  subst hx1 hx2 hx3
  cases act <;> cases found <;> simp only [Bool.and_true, Bool.and_false, Bool.true_eq_false] at hg
  all_goals
    go_enter Try.func7, Try.ntmps7
    go_wp2_with (first
      | (go_at_call 9; go_must (refine (held_both ah n ch L _ HLn.out hn HL.out).mono ?_; rintro e w1 ⟨ao1, rfl, hh1, hb1⟩; have HH1 := hid hh1; have HB1 := hid hb1; clear hh1 hb1))
      | (go_at_call 19; have _t := tok1; clear tok1; go_must (refine (allowed_is _ s _ pr ao1 n n direct ao m cm L R _ _ H1.out (facts_new _ _ _ _ _ _ _ _ _ _ _) HLn.out (by omega) (HH1.out.below ((Below.refl _ _).alloc (Nat.le_refl _) _)) HRm.out (by omega) (HR.out.below (HB1.out.alloc HB1.out.size _))).mono ?_; rintro e w2 ⟨rfl, hb2⟩; have HB2 := hid (below_box HB1.out hb2); have HH2 := hid (HH1.out.below (below_box (Below.refl _ _) hb2)); clear hb2))
      | (go_at_call 17; go_must (refine (insN_any ao m cm j R r _ HRm.out hm hj (HR.out.below HB2.out)).mono ?_; rintro e w3 ⟨g3, rfl, hO3, hb3⟩; have HN3 := hid (And.intro hO3.1 hO3.nums); have HB3 := hid (below_then HB2.out hb3); have HH3 := hid (HH2.out.below hb3); clear hb3 hO3))
      | (go_at_call 19; have _t := tok2; clear tok2; go_must (refine (allowed_is _ s _ pr ao1 n n direct _ (m + 1) (m + 1) L _ _ _ H2.out (facts_new _ _ _ _ _ _ _ _ _ _ _) HLn.out (by omega) (HH3.out.below ((Below.refl _ _).alloc (Nat.le_refl _) _)) HN3.out.1 (by omega) (HN3.out.2.below ((Below.refl _ _).alloc (Nat.le_refl _) _))).mono ?_; rintro e w4 ⟨rfl, hb4⟩; have HB4 := hid (below_box HB3.out hb4); have HH4 := hid (HH3.out.below (below_box (Below.refl _ _) hb4)); have HN4 := hid (And.intro HN3.out.1 (HN3.out.2.below (below_box (Below.refl _ _) hb4))); clear hb4))
      | (go_at_call 11; go_must (refine (ins_any ao1 n n i L r false q _ HLn.out hn hi HH4.out).mono ?_; rintro e w5 ⟨g5, rfl, hO5, hb5⟩; have HO5 := hid hO5; have HB5 := hid (below_then HB4.out hb5); have HN5 := hid (And.intro HN4.out.1 (HN4.out.2.below hb5)); clear hO5 hb5))
      | (go_at_call 19; have _t := tok3; clear tok3; go_must (refine (allowed_is _ s _ pr _ (n + 1) (n + 1) direct _ (m + 1) (m + 1) _ _ _ _ H3.out (facts_new _ _ _ _ _ _ _ _ _ _ _) HO5.out.1 (by omega) (HO5.out.held.below ((Below.refl _ _).alloc (Nat.le_refl _) _)) HN5.out.1 (by omega) (HN5.out.2.below ((Below.refl _ _).alloc (Nat.le_refl _) _))).mono ?_; rintro e w6 ⟨rfl, hb6⟩; have HB6 := hid (below_box HB5.out hb6); clear hb6))
      | go_in)
    go_ret
    exact ⟨rfl, HB6.out⟩

end Go.Proofs.Qxb6618129a.Acc

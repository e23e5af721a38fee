/-
  The walk of FnAllowedOpensExactlyAtTheGate.
-/
import Derived.Test.Qxb6618129aAllC
namespace Go.Proofs.Qxb6618129a.Acc
open Go.ChangeShapes Go.WideShapes Go.ChangeAt Go.RowKit

theorem actB_eq (s : ByteArray) : (s.toList == [97, 99, 116, 105, 118, 101]) = actB s := by
  unfold actB
  by_cases h : s.toList = [97, 99, 116, 105, 118, 101] <;> simp [h]
def gateBad (z n m : Nat) (i : Int) : Prop := 4096 < z ∨ 16384 < n ∨ 65536 < m ∨ i < 0 ∨ (n : Int) < i

set_option maxHeartbeats 2000000 in
theorem gate_out (s : ByteArray) (found : Bool) (pr : Int) (ah : Option Addr) (n ch : Nat) (direct : Bool) (ao : Option Addr) (m cm : Nat) (i role : Int) (w : World) (hz : s.size ≤ maxLen) (hn : n ≤ maxLen) (hm : m ≤ maxLen) (hbad : gateBad s.size n m i) :
    Calls Try.prog 6 #[.string s, .bool found, .int .i64 pr, .slice ah n ch, .bool direct, .slice ao m cm, .int .i64 i, .int .i64 role] w fun e w' => e = .returned (.bool true) ∧ Below w.heap.size w w' := by
  unfold maxLen at hz hn hm
  have HBad := hid hbad
  clear hbad
  by_cases h1 : 1048576 < s.size
  · go_enter Try.func6, Try.ntmps6
    go_wp2
    go_ret
    exact ⟨rfl, Below.refl _ _⟩
  by_cases h2 : 1048576 < n
  · go_enter Try.func6, Try.ntmps6
    go_wp2
    go_ret
    exact ⟨rfl, Below.refl _ _⟩
  by_cases h3 : 1048576 < s.size + n
  · go_enter Try.func6, Try.ntmps6
    go_wp2
    go_ret
    exact ⟨rfl, Below.refl _ _⟩
  by_cases h4 : 1048576 < m
  · go_enter Try.func6, Try.ntmps6
    go_wp2
    go_ret
    exact ⟨rfl, Below.refl _ _⟩
  by_cases h5 : 1048576 < s.size + n + m
  · go_enter Try.func6, Try.ntmps6
    go_wp2
    go_ret
    exact ⟨rfl, Below.refl _ _⟩
  by_cases h6 : 4096 < s.size
  · go_enter Try.func6, Try.ntmps6
    go_wp2
    go_ret
    exact ⟨rfl, Below.refl _ _⟩
  by_cases h7 : 16384 < n
  · go_enter Try.func6, Try.ntmps6
    go_wp2
    go_ret
    exact ⟨rfl, Below.refl _ _⟩
  by_cases h8 : 65536 < m
  · go_enter Try.func6, Try.ntmps6
    go_wp2
    go_ret
    exact ⟨rfl, Below.refl _ _⟩
  by_cases h9 : i < 0
  · go_enter Try.func6, Try.ntmps6
    go_wp2
    go_ret
    exact ⟨rfl, Below.refl _ _⟩
  by_cases h10 : (n : Int) < i
  · go_enter Try.func6, Try.ntmps6
    go_wp2
    go_ret
    exact ⟨rfl, Below.refl _ _⟩
  · have := HBad.out
    unfold gateBad at this; omega

set_option maxHeartbeats 4000000 in
theorem gate_core (s : ByteArray) (found : Bool) (pr : Int) (ah : Option Addr) (n ch : Nat) (direct : Bool) (ao : Option Addr) (m cm : Nat) (i : Nat) (role : Int) (L : List A3) (R : List Int) (w : World)
    (hz : s.size ≤ 4096) (hn : n ≤ 16384) (hm : m ≤ 65536) (hi : i ≤ n) (hLn : L.length = n) (hL : (ah = none ∧ n = 0 ∧ ch = 0) ∨ ∃ a, ah = some a ∧ Held w (some a) L) (hRm : R.length = m) (hR : Nums w ao R)
    (act x1 gate : Bool) (ht : (s.toList == [97, 99, 116, 105, 118, 101]) = act) (hg : gate = (act && found)) (hx : (!x1 || gate) = true)
    (h1 : allowB (actB s) found pr L direct R = x1) (h2 : allowB (actB s) found pr L true R = gate) (h3 : allowB (actB s) found pr (insAt L i (role, true, 0)) direct R = gate) :
    Calls Try.prog 6 #[.string s, .bool found, .int .i64 pr, .slice ah n ch, .bool direct, .slice ao m cm, .int .i64 i, .int .i64 role] w fun e w' => e = .returned (.bool true) ∧ Below w.heap.size w w' := by
  have HLn := hid hLn
  have HL := hid hL
  have HRm := hid hRm
  have HR := hid hR
  have H1 := hid h1
  have H2 := hid h2
  have H3 := hid h3
  clear hLn hL hRm hR h1 h2 h3
  have tok1 : True := trivial
  have tok2 : True := trivial
  have tok3 : True := trivial
  cases act <;> cases found <;> cases x1 <;> simp only [Bool.and_true, Bool.and_false] at hg <;> subst hg <;> simp only [Bool.not_true, Bool.not_false, Bool.or_false, Bool.or_true, Bool.false_eq_true] at hx
  all_goals
    go_enter Try.func6, Try.ntmps6
    go_wp2_with (first
      | (go_at_call 9; go_must (refine (held_both ah n ch L _ HLn.out hn HL.out).mono ?_; rintro e w1 ⟨ao1, rfl, hh1, hb1⟩; have HH1 := hid hh1; have HB1 := hid hb1; clear hh1 hb1))
      | (go_at_call 19; have _t := tok1; clear tok1; go_must (refine (allowed_is _ s _ pr ao1 n n direct ao m cm L R _ _ H1.out (facts_new _ _ _ _ _ _ _ _ _ _ _) HLn.out (by omega) (HH1.out.below ((Below.refl _ _).alloc (Nat.le_refl _) _)) HRm.out (by omega) (HR.out.below (HB1.out.alloc HB1.out.size _))).mono ?_; rintro e w2 ⟨rfl, hb2⟩; have HB2 := hid (below_box HB1.out hb2); have HH2 := hid (HH1.out.below (below_box (Below.refl _ _) hb2)); clear hb2))
      | (go_at_call 19; have _t := tok2; clear tok2; go_must (refine (allowed_is _ s _ pr ao1 n n true ao m cm L R _ _ H2.out (facts_new _ _ _ _ _ _ _ _ _ _ _) HLn.out (by omega) (HH2.out.below ((Below.refl _ _).alloc (Nat.le_refl _) _)) HRm.out (by omega) (HR.out.below (HB2.out.alloc HB2.out.size _))).mono ?_; rintro e w3 ⟨rfl, hb3⟩; have HB3 := hid (below_box HB2.out hb3); have HH3 := hid (HH2.out.below (below_box (Below.refl _ _) hb3)); clear hb3))
      | (go_at_call 11; go_must (refine (ins_any ao1 n n i L role true 0 _ HLn.out hn hi HH3.out).mono ?_; rintro e w4 ⟨g4, rfl, hO4, hb4⟩; have HO4 := hid hO4; have HB4 := hid (below_then HB3.out hb4); clear hO4 hb4))
      | (go_at_call 19; have _t := tok3; clear tok3; go_must (refine (allowed_is _ s _ pr _ (n + 1) (n + 1) direct ao m cm _ R _ _ H3.out (facts_new _ _ _ _ _ _ _ _ _ _ _) HO4.out.1 (by omega) (HO4.out.held.below ((Below.refl _ _).alloc (Nat.le_refl _) _)) HRm.out (by omega) (HR.out.below (HB4.out.alloc HB4.out.size _))).mono ?_; rintro e w5 ⟨rfl, hb5⟩; have HB5 := hid (below_box HB4.out hb5); clear hb5))
      | go_in)
    go_ret
    exact ⟨rfl, HB5.out⟩

theorem gate_any (s : ByteArray) (found : Bool) (pr : Int) (ah : Option Addr) (n ch : Nat) (direct : Bool) (ao : Option Addr) (m cm : Nat) (i role : Int) (w : World) (hz : s.size ≤ maxLen)
    (hL : (ah = none ∧ n = 0 ∧ ch = 0) ∨ ∃ a L, ah = some a ∧ L.length = n ∧ n ≤ maxLen ∧ Held w (some a) L) (hR : ∃ R : List Int, R.length = m ∧ m ≤ maxLen ∧ Nums w ao R) :
    Calls Try.prog 6 #[.string s, .bool found, .int .i64 pr, .slice ah n ch, .bool direct, .slice ao m cm, .int .i64 i, .int .i64 role] w fun e w' => e = .returned (.bool true) ∧ Below w.heap.size w w' := by
  obtain ⟨R, hRm, hm, hR⟩ := hR
  obtain ⟨L, hLn, hn, hL⟩ : ∃ L : List A3, L.length = n ∧ n ≤ maxLen ∧ ((ah = none ∧ n = 0 ∧ ch = 0) ∨ ∃ a, ah = some a ∧ Held w (some a) L) := by
    rcases hL with ⟨h1, h2, h3⟩ | ⟨a, L, h1, h2, h3, h4⟩
    · exact ⟨[], by rw [h2]; rfl, by rw [h2]; exact Nat.zero_le _, .inl ⟨h1, h2, h3⟩⟩
    · exact ⟨L, h2, h3, .inr ⟨a, h1, h4⟩⟩
  by_cases hbad : gateBad s.size n m i
  · exact gate_out s found pr ah n ch direct ao m cm i role w hz hn hm hbad
  have hg : s.size ≤ 4096 ∧ n ≤ 16384 ∧ m ≤ 65536 ∧ 0 ≤ i ∧ i ≤ n := by unfold gateBad at hbad; omega
  obtain ⟨i, rfl⟩ : ∃ j : Nat, i = j := ⟨i.toNat, by omega⟩
  obtain ⟨l1, l2, l3⟩ := gate_law (actB s) found pr L direct R i role
  exact gate_core s found pr ah n ch direct ao m cm i role L R w hg.1 hg.2.1 hg.2.2.1 (by omega) hLn hL hRm hR (actB s) _ _ (actB_eq s) rfl l1 rfl l2 l3

end Go.Proofs.Qxb6618129a.Acc

/-
  The walk of (*AssetFacts).Allowed.
-/
import Derived.Test.Qxb6618129aAllB
import Derived.Test.Qxb6618129aAdmWalk
import Derived.Deep.RegionWith
import Derived.BigRegion
namespace Go.Proofs.Qxb6618129a.Acc
open Go.ChangeShapes Go.WideShapes Go.ChangeAt Go.RowKit

/-- Is it the one status that may? -/
def actB (s : ByteArray) : Bool := decide (s.toList = [97, 99, 116, 105, 118, 101])
theorem allowB_open (found : Bool) (pr : Int) (L : List A3) (direct : Bool) (R : List Int) (act : Bool) (b : Bool) (h : (act && found && (admB L || direct || holdB L R pr)) = b) : allowB act found pr L direct R = b := h

/-- The facts in memory, at ⟨g, 0⟩. -/
structure Facts (w : World) (g : Nat) (s : ByteArray) (found : Bool) (pr : Int) (ah : Option Addr) (n ch : Nat) (direct : Bool) (ao : Option Addr) (m cm : Nat) : Prop where
  lt : g < w.heap.size
  c0 : w.cell? ⟨g, 0, none⟩ = some (.string s)
  c1 : w.cell? ⟨g, 1, none⟩ = some (.bool found)
  c2 : w.cell? ⟨g, 2, none⟩ = some (.int .i64 pr)
  c3 : w.cell? ⟨g, 3, none⟩ = some (.slice ah n ch)
  c4 : w.cell? ⟨g, 4, none⟩ = some (.bool direct)
  c5 : w.cell? ⟨g, 5, none⟩ = some (.slice ao m cm)

set_option maxHeartbeats 2000000 in
theorem allowed_any (g : Nat) (s : ByteArray) (found : Bool) (pr : Int) (ah : Option Addr) (n ch : Nat) (direct : Bool) (ao : Option Addr) (m cm : Nat) (L : List A3) (R : List Int) (w : World)
    (hF : Facts w g s found pr ah n ch direct ao m cm) (hn : L.length = n) (hs : n ≤ 1048576) (hL : Held w ah L) (hm : R.length = m) (hms : m ≤ 1048576) (hR : Nums w ao R) :
    Calls Try.prog 19 #[.pointer (some ⟨g, 0, none⟩)] w fun e w' => e = .returned (.bool (allowB (actB s) found pr L direct R)) ∧ Below w.heap.size w w' := by
  have HL := hid hL
  have HN := hid hn
  have HR := hid hR
  have HM := hid hm
  obtain ⟨hlt, c0, c1, c2, c3, c4, c5⟩ := hF
  clear hL hn hR hm
  by_cases ht : s.toList = [97, 99, 116, 105, 118, 101]
  · have ha : actB s = true := by unfold actB; rw [ht]; rfl
    rw [ha]
    cases found
    · rw [allowB_open false pr L direct R true false rfl]
      go_enter Try.func19, Try.ntmps19
      go_wp2
      go_ret
      exact ⟨rfl, Below.refl _ _⟩
    · cases hA : admB L
      · cases direct
        · rw [allowB_open true pr L false R true (holdB L R pr) (by rw [hA]; rfl)]
          go_enter Try.func19, Try.ntmps19
          go_wp2_with (first
            | (go_at_call 21; go_must (refine (isAdmin_any ah n ch L _ HN.out hs HL.out).mono ?_; rintro e w2 ⟨rfl, hb2⟩; have HB2 := hid hb2; have d2 := (hb2.cell (p := ⟨g, 2, none⟩) hlt).trans c2; have d3 := (hb2.cell (p := ⟨g, 3, none⟩) hlt).trans c3; have d4 := (hb2.cell (p := ⟨g, 4, none⟩) hlt).trans c4; have d5 := (hb2.cell (p := ⟨g, 5, none⟩) hlt).trans c5; clear hb2 c0 c1 c2 c3 c4 c5)))
          have HLd := hid (HL.out.below HB2.out.drew)
          have HRd := hid (HR.out.below HB2.out.drew)
          go_region_with (go_at_call 22; go_must (refine (holds_any ah n ch L ao m cm R pr _ HN.out hs HLd.out HM.out hms HRd.out).mono ?_; rintro e w3 ⟨rfl, hb3⟩; have HB3 := hid (HB2.out.drew.trans (hb3.mono HB2.out.size)); clear hb3))
          all_goals
            go_wp2
            go_ret
            exact ⟨rfl, HB3.out⟩
        · rw [allowB_open true pr L true R true true (by rw [hA]; rfl)]
          go_enter Try.func19, Try.ntmps19
          go_wp2_with (first
            | (go_at_call 21; go_must (refine (isAdmin_any ah n ch L _ HN.out hs HL.out).mono ?_; rintro e w2 ⟨rfl, hb2⟩; have HB2 := hid hb2; have d4 := (hb2.cell (p := ⟨g, 4, none⟩) hlt).trans c4; clear hb2 c0 c1 c2 c3 c4 c5)))
          go_ret
          exact ⟨rfl, HB2.out⟩
      · rw [allowB_open true pr L direct R true true (by rw [hA]; rfl)]
        go_enter Try.func19, Try.ntmps19
        go_wp2_with (first
          | (go_at_call 21; go_must (refine (isAdmin_any ah n ch L _ HN.out hs HL.out).mono ?_; rintro e w2 ⟨rfl, hb2⟩; have HB2 := hid hb2; clear hb2 c0 c1 c2 c3 c4 c5)))
        go_ret
        exact ⟨rfl, HB2.out⟩
  · have ha : actB s = false := by unfold actB; simp [ht]
    rw [ha, allowB_open found pr L direct R false false rfl]
    go_enter Try.func19, Try.ntmps19
    go_wp2
    go_ret
    exact ⟨rfl, Below.refl _ _⟩

theorem allowed_is (g : Nat) (s : ByteArray) (found : Bool) (pr : Int) (ah : Option Addr) (n ch : Nat) (direct : Bool) (ao : Option Addr) (m cm : Nat) (L : List A3) (R : List Int) (w : World) (x : Bool) (hx : allowB (actB s) found pr L direct R = x)
    (hF : Facts w g s found pr ah n ch direct ao m cm) (hn : L.length = n) (hs : n ≤ 1048576) (hL : Held w ah L) (hm : R.length = m) (hms : m ≤ 1048576) (hR : Nums w ao R) :
    Calls Try.prog 19 #[.pointer (some ⟨g, 0, none⟩)] w fun e w' => e = .returned (.bool x) ∧ Below w.heap.size w w' := by
  subst hx
  exact allowed_any g s found pr ah n ch direct ao m cm L R w hF hn hs hL hm hms hR

/-- The facts, newly laid. -/
theorem facts_new (w : World) (s : ByteArray) (found : Bool) (pr : Int) (ah : Option Addr) (n ch : Nat) (direct : Bool) (ao : Option Addr) (m cm : Nat) :
    Facts (w.alloc (.cells #[.string s, .bool found, .int .i64 pr, .slice ah n ch, .bool direct, .slice ao m cm] 41)) w.heap.size s found pr ah n ch direct ao m cm := by
  refine ⟨by simp, ?_, ?_, ?_, ?_, ?_, ?_⟩ <;> simp

theorem held_both (ao : Option Addr) (n cap : Nat) (L : List A3) (w : World) (hn : L.length = n) (hs : n ≤ 16384) (hL : (ao = none ∧ n = 0 ∧ cap = 0) ∨ ∃ a, ao = some a ∧ Held w (some a) L) :
    Calls Try.prog 9 #[.slice ao n cap] w fun e w' => ∃ ah, e = .returned (.slice ah n n) ∧ Held w' ah L ∧ Below w.heap.size w w' := by
  rcases hL with ⟨rfl, rfl, rfl⟩ | ⟨a, rfl, hL⟩
  · exact (held_nil w).mono fun e w' ⟨h1, h2⟩ => ⟨none, h1, .inl (List.length_eq_zero_iff.1 hn), by rw [h2]; exact Below.refl _ _⟩
  · refine (held_row a n cap L w hn hs hL).mono fun e w' ⟨g, h1, h2, h3⟩ => ⟨_, h1, h2.held, h3⟩

end Go.Proofs.Qxb6618129a.Acc

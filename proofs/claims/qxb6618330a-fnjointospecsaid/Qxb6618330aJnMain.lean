/-
  The law: the guards, and all parts together.
-/
import Derived.Test.Qxb6618330aJnPartB
namespace Go.Proofs.Qxb6618330a.Jn
set_option linter.unusedVariables false
open Go.ChangeShapes Go.WideShapes Go.ChangeAt Go.RowKit

/-- The arguments as they came. -/
structure Came (w : World) (a1 : Option Addr) (n1 : Nat) (h1 : List ByteArray) (a2 : Option Addr) (n2 : Nat) (h2 : List ByteArray) (a3 : Option Addr) (n3 : Nat) (vs : List Value) (ro : List (Option (List ByteArray)))
    (a4 : Option Addr) (n4 : Nat) (h4 : List ByteArray) (a5 : Option Addr) (n5 : Nat) (h5 : List Int) : Prop where
  args : ArgsIn w a1 n1 h1 a2 n2 h2 a3 n3 vs (ro.map (fun r => r.getD [])) a4 n4 h4 n5
  e1 : a1 = none → n1 = 0
  e2 : a2 = none → n2 = 0
  rows : ∀ i (h : i < vs.length) (h' : i < ro.length), match ro[i] with
    | none => vs[i] = .slice none 0 0
    | some ss => ∃ a n c, vs[i] = .slice (some a) n c ∧ ss.length = n ∧ VRow w (some a) (strs ss)
  r5 : VRow w a5 (nums h5)
  l5 : h5.length = n5

theorem Came.env {w : World} {a1 : Option Addr} {n1 : Nat} {h1 : List ByteArray} {a2 : Option Addr} {n2 : Nat} {h2 : List ByteArray} {a3 : Option Addr} {n3 : Nat} {vs : List Value} {ro : List (Option (List ByteArray))}
    {a4 : Option Addr} {n4 : Nat} {h4 : List ByteArray} {a5 : Option Addr} {n5 : Nat} {h5 : List Int} (h : Came w a1 n1 h1 a2 n2 h2 a3 n3 vs ro a4 n4 h4 a5 n5 h5)
    (hz : n1 ≤ 4096 ∧ n2 ≤ 4096 ∧ n3 ≤ 4096 ∧ n4 ≤ 4096 ∧ n5 ≤ 4096 ∧ ∀ ss ∈ ro.map (fun r => r.getD []), ss.length ≤ 1048576) : Env w a1 n1 h1 a2 n2 h2 a3 n3 vs ro a4 n4 h4 a5 n5 h5 :=
  { r1 := h.args.r1, l1 := h.args.l1, z1 := hz.1, s1 := h.args.s1, r2 := h.args.r2, l2 := h.args.l2, z2 := hz.2.1, s2 := h.args.s2, r3 := h.args.r3, l3 := h.args.l3, z3 := hz.2.2.1, lr := by simpa using h.args.lr,
    rr := fun i hi hi' => by
      have hr := h.rows i hi hi'
      cases hro : ro[i] with
      | none => rw [hro] at hr; exact hr
      | some ss =>
        rw [hro] at hr
        obtain ⟨a, n, c, h1, h2, h3⟩ := hr
        refine ⟨a, n, c, h1, h2, ?_, h3⟩
        rw [← h2]
        exact hz.2.2.2.2.2 ss (List.mem_map.2 ⟨ro[i], List.getElem_mem _, by rw [hro]; rfl⟩),
    r4 := h.args.r4, l4 := h.args.l4, z4 := hz.2.2.2.1, s4 := h.args.s4, r5 := h.r5, l5 := h.l5, z5 := hz.2.2.2.2.1 }

set_option maxRecDepth 1000000 in
set_option maxHeartbeats 8000000 in
theorem law_any (x : Bool) (a1 : Option Addr) (n1 c1 : Nat) (h1 : List ByteArray) (a2 : Option Addr) (n2 c2 : Nat) (h2 : List ByteArray) (a3 : Option Addr) (n3 c3 : Nat) (vs : List Value) (ro : List (Option (List ByteArray)))
    (a4 : Option Addr) (n4 c4 : Nat) (h4 : List ByteArray) (a5 : Option Addr) (n5 c5 : Nat) (h5 : List Int) (w : World) (hA : Came w a1 n1 h1 a2 n2 h2 a3 n3 vs ro a4 n4 h4 a5 n5 h5) :
    Calls Try.prog 3 #[.bool x, .slice a1 n1 c1, .slice a2 n2 c2, .slice a3 n3 c3, .slice a4 n4 c4, .slice a5 n5 c5] w fun e w' => e = .returned (.bool true) ∧ Below w.heap.size w w' := by
  have m4 := hA.args.m4
  have m5 := hA.args.m5
  unfold maxLen at m4 m5
  have HA := hid hA
  clear hA
  go_enter Try.func3, Try.ntmps3
  go_upto_if 63 with (first
    | (go_at_call 4; go_must (refine (bytes_any x a1 n1 c1 h1 a2 n2 c2 h2 a3 n3 c3 vs _ a4 n4 c4 h4 a5 n5 c5 _ HA.out.args).mono ?_; rintro e w ⟨r, rfl, rfl⟩)))
  cases r
  · go_wp2
    go_ret
    exact ⟨rfl, Below.refl _ _⟩
  · go_upto_if 70 with (first
      | (go_at_call 5; go_must (refine (within_any a1 n1 c1 h1 a2 n2 c2 h2 a3 n3 c3 vs _ a4 n4 c4 h4 a5 n5 c5 _ HA.out.args).mono ?_; rintro e w ⟨r, rfl, hr, rfl⟩; have HRR := hid hr; clear hr)))
    cases r
    · go_wp2
      go_ret
      exact ⟨rfl, Below.refl _ _⟩
    · have HEN := hid (HA.out.env (HRR.out rfl))
      clear HRR
      go_upto_if 76 with fail
      go_cut [13] from 56 to 78 (fun v wx => ∃ m : Nat, v = .int .i64 m ∧ m ≤ n4 ∧ m ≤ n5 ∧ wx = w)
      case first =>
        by_cases h45 : n5 < n4
        · go_wp2
          go_meet
          case rel => exact ⟨n5, rfl, by omega, by omega, rfl⟩
        · go_wp2
          go_meet
          case rel => exact ⟨n4, rfl, by omega, by omega, rfl⟩
      case rest =>
        obtain ⟨m, rfl, hm4, hm5, rfl⟩ := hcut
        go_step
        exact partB HEN.out (Below.refl _ _) hm4 hm5 HA.out.e1 HA.out.e2

end Go.Proofs.Qxb6618330a.Jn

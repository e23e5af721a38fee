/-
  What the law's parts are told of the arguments and of what lies in memory.
-/
import Derived.Test.Qxb6618330aJnGuard2
import Derived.Test.Qxb6618330aJnJoinZ
import Derived.Deep.DeepCutAuto
import Derived.Deep.CutBlock
namespace Go.Proofs.Qxb6618330a.Jn
open Go.ChangeShapes Go.WideShapes Go.ChangeAt Go.RowKit

/-- What follows the first k statements. -/
def dropSeq : Nat → Code → Code
  | 0, c => c
  | n + 1, .seq _ b => dropSeq n b
  | _, c => c

/-- The arguments, in the world w. -/
structure Env (w : World) (a1 : Option Addr) (n1 : Nat) (h1 : List ByteArray) (a2 : Option Addr) (n2 : Nat) (h2 : List ByteArray) (a3 : Option Addr) (n3 : Nat) (vs : List Value) (ro : List (Option (List ByteArray)))
    (a4 : Option Addr) (n4 : Nat) (h4 : List ByteArray) (a5 : Option Addr) (n5 : Nat) (h5 : List Int) : Prop where
  r1 : VRow w a1 (strs h1)
  l1 : h1.length = n1
  z1 : n1 ≤ 4096
  s1 : ∀ s ∈ h1, s.size ≤ maxLen
  r2 : VRow w a2 (strs h2)
  l2 : h2.length = n2
  z2 : n2 ≤ 4096
  s2 : ∀ s ∈ h2, s.size ≤ maxLen
  r3 : VRow w a3 vs
  l3 : vs.length = n3
  z3 : n3 ≤ 4096
  lr : ro.length = n3
  rr : ∀ i (h : i < vs.length) (h' : i < ro.length), RowV w vs[i] ro[i]
  r4 : VRow w a4 (strs h4)
  l4 : h4.length = n4
  z4 : n4 ≤ 4096
  s4 : ∀ s ∈ h4, s.size ≤ maxLen
  r5 : VRow w a5 (nums h5)
  l5 : h5.length = n5
  z5 : n5 ≤ 4096

theorem Env.below {w w' : World} {a1 : Option Addr} {n1 : Nat} {h1 : List ByteArray} {a2 : Option Addr} {n2 : Nat} {h2 : List ByteArray} {a3 : Option Addr} {n3 : Nat} {vs : List Value} {ro : List (Option (List ByteArray))}
    {a4 : Option Addr} {n4 : Nat} {h4 : List ByteArray} {a5 : Option Addr} {n5 : Nat} {h5 : List Int} (h : Env w a1 n1 h1 a2 n2 h2 a3 n3 vs ro a4 n4 h4 a5 n5 h5) (hB : Below w.heap.size w w') : Env w' a1 n1 h1 a2 n2 h2 a3 n3 vs ro a4 n4 h4 a5 n5 h5 :=
  { h with r1 := h.r1.below hB, r2 := h.r2.below hB, r3 := h.r3.below hB, rr := fun i hi hi' => (h.rr i hi hi').below hB, r4 := h.r4.below hB, r5 := h.r5.below hB }

/-- Where block bc alone has turned. -/
theorem RowV.fr {w w' : World} {v : Value} {r : Option (List ByteArray)} {bc : Nat} (h : RowV w v r) (hF : Fr w.heap.size bc w w') (hm : ∃ es clock, w.heap[bc]? = some (.map es clock)) : RowV w' v r := by
  cases r with
  | none => exact h
  | some ss =>
    obtain ⟨a, n, c, h1, h2, h3, h4⟩ := h
    exact ⟨a, n, c, h1, h2, h3, h4.fr hF hm⟩
theorem Env.fr {w w' : World} {a1 : Option Addr} {n1 : Nat} {h1 : List ByteArray} {a2 : Option Addr} {n2 : Nat} {h2 : List ByteArray} {a3 : Option Addr} {n3 : Nat} {vs : List Value} {ro : List (Option (List ByteArray))}
    {a4 : Option Addr} {n4 : Nat} {h4 : List ByteArray} {a5 : Option Addr} {n5 : Nat} {h5 : List Int} {bc : Nat} (h : Env w a1 n1 h1 a2 n2 h2 a3 n3 vs ro a4 n4 h4 a5 n5 h5) (hF : Fr w.heap.size bc w w') (hm : ∃ es clock, w.heap[bc]? = some (.map es clock)) : Env w' a1 n1 h1 a2 n2 h2 a3 n3 vs ro a4 n4 h4 a5 n5 h5 :=
  { h with r1 := h.r1.fr hF hm, r2 := h.r2.fr hF hm, r3 := h.r3.fr hF hm, rr := fun i hi hi' => (h.rr i hi hi').fr hF hm, r4 := h.r4.fr hF hm, r5 := h.r5.fr hF hm }

/-- The row that goes with place i. -/
def rowOf (ro : List (Option (List ByteArray))) (i : Nat) : Option (List ByteArray) := (ro[i]?).getD none

/-- The lines' map, as far as place k. -/
structure LinesAt (w : World) (bl N : Nat) (h2 : List ByteArray) (ro : List (Option (List ByteArray))) (k : Nat) (us : List Value) : Prop where
  map : MapIs w bl N (last ((h2.take k).zip us)) (dist (h2.take k))
  len : us.length = k
  rows : ∀ i (h : i < us.length), RowV w us[i] (rowOf ro i)
/-- The lines, whole: nil where no ids came. -/
def LinesV (B : Nat) (w : World) (lm : Option Nat) (a2 : Option Addr) (n2 : Nat) (h2 : List ByteArray) (ro : List (Option (List ByteArray))) : Prop :=
  (lm = none ∧ a2 = none ∧ n2 = 0) ∨ ∃ bl us, lm = some bl ∧ a2 ≠ none ∧ B ≤ bl ∧ LinesAt w bl n2 h2 ro n2 us
theorem LinesAt.below {w w' : World} {bl N k : Nat} {h2 : List ByteArray} {ro : List (Option (List ByteArray))} {us : List Value} (h : LinesAt w bl N h2 ro k us) (hB : Below w.heap.size w w') : LinesAt w' bl N h2 ro k us :=
  ⟨h.map.below hB h.map.lt, h.len, fun i hi => (h.rows i hi).below hB⟩
theorem LinesV.below {B : Nat} {w w' : World} {lm : Option Nat} {a2 : Option Addr} {n2 : Nat} {h2 : List ByteArray} {ro : List (Option (List ByteArray))} (h : LinesV B w lm a2 n2 h2 ro) (hB : Below w.heap.size w w') : LinesV B w' lm a2 n2 h2 ro := by
  rcases h with h | ⟨bl, us, h1, h2, h3, h4⟩
  · exact .inl h
  · exact .inr ⟨bl, us, h1, h2, h3, h4.below hB⟩

/-- The columns' map ahead of the join. -/
abbrev psOf (h4 : List ByteArray) (h5 : List Int) (m : Nat) : List (ByteArray × Int) := (pairs h4 h5).take m

end Go.Proofs.Qxb6618330a.Jn

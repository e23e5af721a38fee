/-
  The two tables of the law's model: which names are new; where each name goes.
-/
import Derived.Test.Qxb6618330aJnLines
namespace Go.Proofs.Qxb6618330a.Jn
open Go.ChangeShapes Go.WideShapes Go.ChangeAt Go.RowKit

theorem info4 : (Try.prog.info? 4).map (fun i => (i.zero, i.size, i.bytes)) = some (some (.bool false), 1, 1) := by kernel_rfl
theorem info3 : (Try.prog.info? 3).map (fun i => (i.zero, i.size, i.bytes)) = some (some (.int .i64 0), 1, 8) := by kernel_rfl

/-- Is the name at place g new? -/
def frAt (ps : List (ByteArray × Int)) (h1 : List ByteArray) (g : Nat) : Bool := fr ps (h1.take g) (h1.getD g ByteArray.empty)
def wtAt (ps : List (ByteArray × Int)) (n0 : Nat) (h1 : List ByteArray) (g : Nat) : Int := want ps n0 h1 (h1.getD g ByteArray.empty)
def frs (ps : List (ByteArray × Int)) (h1 : List ByteArray) (n : Nat) : List Value := (List.range n).map fun g => .bool (frAt ps h1 g)
def wts (ps : List (ByteArray × Int)) (n0 : Nat) (h1 : List ByteArray) (n : Nat) : List Value := (List.range n).map fun g => .int .i64 (wtAt ps n0 h1 g)

/-- A table that is filled as far as place k. -/
def tab (f : Nat → Value) (z : Value) (n k : Nat) : List Value := (List.range k).map f ++ List.replicate (n - k) z
theorem tab_zero (f : Nat → Value) (z : Value) (n : Nat) : tab f z n 0 = List.replicate n z := by simp [tab]
theorem tab_end (f : Nat → Value) (z : Value) (n : Nat) : tab f z n n = (List.range n).map f := by simp [tab]
theorem tab_at (f : Nat → Value) (z : Value) (n k : Nat) (h : k < n) : (tab f z n k)[k]? = some z := by
  unfold tab
  rw [List.getElem?_append_right (by simp), show n - k = (n - (k + 1)) + 1 by omega, List.replicate_succ]
  simp
theorem tab_old (f : Nat → Value) (z : Value) (n k i : Nat) (h : i < k) : (tab f z n k)[i]? = some (f i) := by
  unfold tab
  rw [List.getElem?_append_left (by simpa using h)]
  simp [h]
theorem tab_set (f : Nat → Value) (z : Value) (n k : Nat) (h : k < n) (v : Value) (hv : v = f k) : (tab f z n k).set k v = tab f z n (k + 1) := by
  unfold tab
  rw [List.set_append_right _ _ (by simp)]
  simp only [List.length_map, List.length_range, Nat.sub_self]
  rw [show n - k = (n - (k + 1)) + 1 by omega, List.replicate_succ, List.set_cons_zero, List.range_succ, List.map_append, List.append_assoc, hv]
  rfl
theorem tab_keep (f : Nat → Value) (z : Value) (n k : Nat) (h : k < n) (hv : z = f k) : tab f z n k = tab f z n (k + 1) := by
  unfold tab
  rw [show n - k = (n - (k + 1)) + 1 by omega, List.replicate_succ, List.range_succ, List.map_append, List.append_assoc]
  simp only [List.map_cons, List.map_nil, ← hv]
  rfl
theorem range_at (f : Nat → Value) (n i : Nat) (h : i < n) : ((List.range n).map f)[i]? = some (f i) := by simp [h]

theorem getD_at (h1 : List ByteArray) (g : Nat) (h : g < h1.length) : h1.getD g ByteArray.empty = h1[g] := by
  simp [List.getD_eq_getElem?_getD, List.getElem?_eq_getElem h]
theorem rk_next (ps : List (ByteArray × Int)) (h1 : List ByteArray) (g : Nat) (h : g < h1.length) : rk ps (h1.take (g + 1)) = rk ps (h1.take g) + if frAt ps h1 g then 1 else 0 := by
  rw [take_next h1 g h, rk_snoc]
  unfold frAt
  rw [getD_at h1 g h]
theorem frAt_eq (ps : List (ByteArray × Int)) (h1 : List ByteArray) (g : Nat) (t : ByteArray) (h : g < h1.length) (ht : t = h1[g]) : frAt ps h1 g = (!(last ps t).isSome && !seen (h1.take g) t) := by
  unfold frAt fr
  rw [getD_at h1 g h, ← ht]
  cases last ps t <;> rfl

theorem wtAt_old (ps : List (ByteArray × Int)) (n0 : Nat) (h1 : List ByteArray) (k : Nat) (t : ByteArray) (h : k < h1.length) (ht : t = h1[k]) (v : Int) (hv : last ps t = some v) : wtAt ps n0 h1 k = v := by
  unfold wtAt want
  rw [getD_at h1 k h, ← ht, hv]
theorem wtAt_new (ps : List (ByteArray × Int)) (n0 : Nat) (h1 : List ByteArray) (k f : Nat) (t : ByteArray) (h : k < h1.length) (ht : t = h1[k]) (hv : last ps t = none) (hp : pre h1 t = h1.take f) : wtAt ps n0 h1 k = (n0 : Int) + (rk ps (h1.take f) : Nat) := by
  unfold wtAt want
  rw [getD_at h1 k h, ← ht, hv]
  simp only
  rw [hp]
theorem opt_none {α : Type} {o : Option α} (h : o.isSome = false) : o = none := by cases o with | none => rfl | some _ => simp at h
theorem opt_some {o : Option Int} (h : o.isSome = true) : o = some (o.getD 0) := by cases o with | none => simp at h | some _ => rfl

end Go.Proofs.Qxb6618330a.Jn

/-
  Rows and maps in memory, said plainly.
-/
import Derived.Test.Qxb6618330aRows
import Derived.WalkKit
import Derived.ProofKit
import Derived.OpenShut
import Derived.ShutString
import Derived.WalkSpells
import Derived.Lib.SliceRun
import Derived.Maps.OwnSet
namespace Go.Proofs.Qxb6618330a.Jn
open Go.ChangeShapes Go.WideShapes Go.ChangeAt Go.RowKit
open Go.Maps (Keyed string_keyed)

theorem hid {p : Prop} (h : p) : Hid p := h
theorem ret_bool {a b : Bool} (h : a = b) : Ending.returned (.bool a) = .returned (.bool b) := by rw [h]
theorem ret_int {k : IntKind} {a b : Int} (h : a = b) : Ending.returned (.int k a) = .returned (.int k b) := by rw [h]
theorem below_then {w v v' : World} (h : Below w.heap.size w v) (h2 : Below v.heap.size v v') : Below w.heap.size w v' := h.trans (h2.mono h.size)

/-! ### Rows -/

/-- The values vs lie behind the address ao, one cell each. -/
def VRow (w : World) (ao : Option Addr) (vs : List Value) : Prop :=
  vs = [] ∨ ∃ b off, ao = some ⟨b, off, none⟩ ∧ b < w.heap.size ∧ ∀ i (h : i < vs.length), w.cell? ⟨b, off + i, none⟩ = some vs[i]
theorem VRow.at {w : World} {ao : Option Addr} {vs : List Value} (h : VRow w ao vs) (hn : 0 < vs.length) :
    ∃ b off, ao = some ⟨b, off, none⟩ ∧ b < w.heap.size ∧ ∀ i (h : i < vs.length), w.cell? ⟨b, off + i, none⟩ = some vs[i] := by
  rcases h with rfl | h
  · simp at hn
  · exact h
/-- Carried over, where no block of it has turned. -/
theorem VRow.keep {w w' : World} {ao : Option Addr} {vs : List Value} (h : VRow w ao vs) (hs : w.heap.size ≤ w'.heap.size) (hk : ∀ b off, ao = some ⟨b, off, none⟩ → b < w.heap.size → w'.heap[b]? = w.heap[b]?) : VRow w' ao vs := by
  rcases h with h | ⟨b, off, h1, h2, h3⟩
  · exact .inl h
  · exact .inr ⟨b, off, h1, Nat.lt_of_lt_of_le h2 hs, fun i hi => (World.cell?_of_block (w := w) (a := ⟨b, off + i, none⟩) (hk b off h1 h2)).trans (h3 i hi)⟩
theorem VRow.below {w w' : World} {ao : Option Addr} {vs : List Value} (h : VRow w ao vs) (hB : Below w.heap.size w w') : VRow w' ao vs :=
  h.keep hB.size fun b _ _ hb => hB.block b hb

/-- Block g is a row of the call's own: just these cells, none frozen. -/
def Blk (w : World) (g : Nat) (e : TypeId) (vs : List Value) : Prop := w.heap[g]? = some (.cells vs.toArray e (0, 0))
theorem Blk.lt {w : World} {g : Nat} {e : TypeId} {vs : List Value} (h : Blk w g e vs) : g < w.heap.size := (Array.getElem?_eq_some_iff.1 h).1
theorem Blk.cell {w : World} {g : Nat} {e : TypeId} {vs : List Value} (h : Blk w g e vs) (j : Nat) : w.cell? ⟨g, j, none⟩ = vs[j]? := by
  rw [cell_of_row w g j vs.toArray e (0, 0) h]; simp
theorem Blk.free {w : World} {g : Nat} {e : TypeId} {vs : List Value} (h : Blk w g e vs) (j : Nat) : w.frozen? ⟨g, j, none⟩ = false := frozen_of_row w g j _ e h
theorem Blk.set {w : World} {g : Nat} {e : TypeId} {vs : List Value} (h : Blk w g e vs) (j : Nat) (u : Value) : Blk (w.setCell ⟨g, j, none⟩ u) g e (vs.set j u) := by
  have := heap_setCell_same w g j vs.toArray e u h
  unfold Blk
  rw [this]
  simp
theorem Blk.keep {w w' : World} {g : Nat} {e : TypeId} {vs : List Value} (h : Blk w g e vs) (hk : w'.heap[g]? = w.heap[g]?) : Blk w' g e vs := hk.trans h
theorem Blk.below {w w' : World} {g : Nat} {e : TypeId} {vs : List Value} {B : Nat} (h : Blk w g e vs) (hB : Below B w w') (hg : g < B) : Blk w' g e vs := h.keep (hB.block g hg)
theorem Blk.row {w : World} {g : Nat} {e : TypeId} {vs : List Value} (h : Blk w g e vs) : VRow w (some ⟨g, 0, none⟩) vs :=
  .inr ⟨g, 0, rfl, h.lt, fun i hi => by rw [h.cell]; simp [List.getElem?_eq_getElem hi]⟩
/-- What 'make' leaves. -/
theorem blk_made {w : World} {base g n : Nat} {e : TypeId} {xs : List Value} (h : w.ownsRow base e 1 (.slice (some ⟨g, 0, none⟩) n n) n xs) : Blk w g e xs := by
  rcases h.2 with ⟨h', _⟩ | ⟨g', cap', cur, h', _, hg, _, _, hcs, htake⟩
  · simp at h'
  · simp only [Value.slice.injEq, Option.some.injEq, Addr.mk.injEq, and_true, true_and] at h'
    obtain ⟨rfl, rfl⟩ := h'
    unfold Blk
    rw [hg, ← htake, List.take_of_length_le (by simp [hcs])]
theorem blk_zeros {w : World} {base g n : Nat} {e : TypeId} {z : Value} (hz : z.cells = #[z]) (h : w.ownsRow base e 1 (.slice (some ⟨g, 0, none⟩) n n) n (madeCells z.cells (n * 1)).toList) : Blk w g e (List.replicate n z) := by
  have := blk_made h
  rw [hz, Nat.mul_one, toList_madeCells_one] at this
  exact this
/-- A row that is filled from its head. -/
theorem fill_at {α : Type} (L : List α) (n k : Nat) (hn : L.length = n) (h : k < n) (z : α) : (L.take k ++ List.replicate (n - k) z)[k]? = some z := by
  have hk : (L.take k).length = k := by simp; omega
  rw [List.getElem?_append_right (by omega), hk, Nat.sub_self, show n - k = (n - (k + 1)) + 1 by omega, List.replicate_succ]
  rfl
theorem fill_set {α : Type} (L : List α) (n k : Nat) (hn : L.length = n) (h : k < n) (z x : α) (hx : x = L[k]'(by omega)) : (L.take k ++ List.replicate (n - k) z).set k x = L.take (k + 1) ++ List.replicate (n - (k + 1)) z := by
  have hk : (L.take k).length = k := by simp; omega
  rw [List.set_append_right _ _ (by omega), hk, Nat.sub_self, show n - k = (n - (k + 1)) + 1 by omega, List.replicate_succ, List.set_cons_zero,
    List.take_succ_eq_append_getElem (by omega), ← hx, List.append_assoc]
  rfl
theorem fill_end {α : Type} (L : List α) (n : Nat) (hn : L.length = n) (z : α) : L.take n ++ List.replicate (n - n) z = L := by
  simp [List.take_of_length_le (Nat.le_of_eq hn)]

/-! ### Maps keyed by strings -/

/-- How an element reads: as itself. -/
def tokR (v : Value) : Option (DataW Value × List MemPlace) := some (.held v, [])
theorem tokR_inv {v u : Value} {ps : List MemPlace} (h : tokR v = some (.held u, ps)) : v = u := by
  simp [tokR] at h; exact h.1

/-- Block b is a map: at the key s it holds 'f s'; it has c entries (and at most n). -/
def MapIs (w : World) (b n : Nat) (f : ByteArray → Option Value) (c : Nat) : Prop :=
  ∃ D : DataW Value, w.ownsMap Try.prog 9 tokR b n D ∧ (∀ s : ByteArray, Maps.has D (.string s.data.toList) = (f s).isSome ∧ ∀ z, D.atKey (.string s.data.toList) (.held z) = .held ((f s).getD z)) ∧ Maps.size D = c

theorem law9 : Keyed Try.prog 9 := string_keyed Try.underlying9

theorem MapIs.lt {w : World} {b n c : Nat} {f : ByteArray → Option Value} (h : MapIs w b n f c) : b < w.heap.size := by
  obtain ⟨D, h, _⟩ := h; exact h.lt
theorem MapIs.keep {w w' : World} {b n c : Nat} {f : ByteArray → Option Value} (h : MapIs w b n f c) (hk : w'.heap[b]? = w.heap[b]?) : MapIs w' b n f c := by
  obtain ⟨D, ⟨es, clock, hb, r⟩, h2⟩ := h
  exact ⟨D, ⟨es, clock, hk.trans hb, r⟩, h2⟩
theorem MapIs.below {w w' : World} {b n c B : Nat} {f : ByteArray → Option Value} (h : MapIs w b n f c) (hB : Below B w w') (hb : b < B) : MapIs w' b n f c := h.keep (hB.block b hb)
theorem MapIs.notRow {w : World} {b n c g : Nat} {f : ByteArray → Option Value} {e : TypeId} {vs : List Value} (h : MapIs w b n f c) (hg : Blk w g e vs) : g ≠ b := fun e => by
  subst e
  obtain ⟨D, ⟨es, clock, hb, _⟩, _⟩ := h
  unfold Blk at hg
  rw [hb] at hg
  simp at hg
theorem MapIs.size_le {w : World} {b n c : Nat} {f : ByteArray → Option Value} (h : MapIs w b n f c) : c ≤ n := by
  obtain ⟨D, h, _, rfl⟩ := h; exact h.size_le

theorem map_made (w : World) : MapIs (w.alloc (.map #[] 0)) w.heap.size 0 (fun _ => none) 0 :=
  ⟨.map [], World.ownsMap_made w _ _ _, fun _ => ⟨rfl, fun _ => rfl⟩, rfl⟩

/-- 'm[k]' and 'v, ok := m[k]'. -/
theorem MapIs.look {w : World} {b n c : Nat} {f : ByteArray → Option Value} (h : MapIs w b n f c) {t e : TypeId} (ht : Try.prog.underlying t = some (.map 9 e)) {z : Value} (hz : (zeroValue e).run Try.prog w = .ok z w) (s : ByteArray) (hs : s.size ≤ maxLen) :
    (Instr.lookup t (.map (some b)) (.string s) false).run Try.prog w = .ok ((f s).getD z) w := by
  obtain ⟨D, hD, hf, _⟩ := h
  obtain ⟨v, ps, hrun, hv⟩ := hD.lookup law9 ht hz (zd := .held z) (zp := []) rfl (WideMaps.keyOf_string_mk Try.underlying9 hs)
  rw [(hf s).2 z] at hv
  rw [hrun, tokR_inv hv]
theorem MapIs.lookOk {w : World} {b n c : Nat} {f : ByteArray → Option Value} (h : MapIs w b n f c) {t e : TypeId} (ht : Try.prog.underlying t = some (.map 9 e)) {z : Value} (hz : (zeroValue e).run Try.prog w = .ok z w) (s : ByteArray) (hs : s.size ≤ maxLen) :
    (Instr.lookup t (.map (some b)) (.string s) true).run Try.prog w = .ok (.tuple #[(f s).getD z, .bool (f s).isSome]) w := by
  obtain ⟨D, hD, hf, _⟩ := h
  obtain ⟨v, ps, hrun, hv⟩ := hD.look_ok law9 ht hz (zd := .held z) (zp := []) rfl (WideMaps.keyOf_string_mk Try.underlying9 hs)
  rw [(hf s).2 z] at hv
  rw [hrun, tokR_inv hv, (hf s).1]
theorem MapIs.len {w : World} {b n c : Nat} {f : ByteArray → Option Value} (h : MapIs w b n f c) {t e : TypeId} (ht : Try.prog.underlying t = some (.map 9 e)) (ty : TypeId) :
    (Builtin.len_ #[t] ty #[.map (some b)]).run Try.prog w = .ok (.int .i64 c) w := by
  obtain ⟨D, hD, _, rfl⟩ := h
  exact hD.len ht ty

/-- The map behind a store. -/
def upd (f : ByteArray → Option Value) (s : ByteArray) (v : Value) : ByteArray → Option Value := fun k => if k = s then some v else f k
theorem bytes_inj {a b : ByteArray} (h : a.data.toList = b.data.toList) : a = b := by
  cases a; cases b; simp_all
theorem MapIs.store {w : World} {b n c : Nat} {f : ByteArray → Option Value} (h : MapIs w b n f c) {t e : TypeId} (ht : Try.prog.underlying t = some (.map 9 e)) (hn : n < maxLen) (s : ByteArray) (hs : s.size ≤ maxLen) (v : Value) :
    ∃ w', (Instr.mapUpdate t (.map (some b)) (.string s) v).run Try.prog w = .ok () w' ∧ MapIs w' b (n + 1) (upd f s v) (if (f s).isSome then c else c + 1) ∧ w.grownBy w' (some b) := by
  obtain ⟨D, hD, hf, rfl⟩ := h
  obtain ⟨w', hrun, hD', hg⟩ := hD.update law9 ht hn (val := v) (d := .held v) (ps := []) (WideMaps.keyOf_string_mk Try.underlying9 hs) rfl
  refine ⟨w', hrun, ⟨_, hD', fun k => ?_, ?_⟩, hg⟩
  · by_cases hk : k = s
    · subst hk
      have hkl : WideAt.IsKeyLit (Lit.string k.data.toList) := by simp [WideAt.IsKeyLit]
      exact ⟨by rw [Maps.has_put_same hD.isMap hkl]; simp [upd], fun z => by rw [Maps.atKey_put_same hD.isMap hkl]; simp [upd]⟩
    · have hne : (Lit.string k.data.toList) ≠ .string s.data.toList := fun e => hk (bytes_inj (by simpa using e))
      exact ⟨by rw [Maps.has_put_other hne, (hf k).1]; simp [upd, hk], fun z => by rw [Maps.atKey_put_other hne, (hf k).2 z]; simp [upd, hk]⟩
  · rw [Maps.size_put (hD.tidy law9), (hf s).1]

end Go.Proofs.Qxb6618330a.Jn

/-
  The walk of (*Securities).joinTo.
-/
import Derived.Test.Qxb6618330aJnWalkC
import Derived.BigRegion
namespace Go.Proofs.Qxb6618330a.Jn
open Go.ChangeShapes Go.WideShapes Go.ChangeAt Go.RowKit

/-- Below block B, block bc aside, the world w' is as w was. -/
structure Fr (B bc : Nat) (w w' : World) : Prop where
  os : w'.os = w.os
  tape : w'.tape = w.tape
  output : w'.output = w.output
  size : w.heap.size ≤ w'.heap.size
  block : ∀ k, k < B → k ≠ bc → w'.heap[k]? = w.heap[k]?

theorem Fr.trans {B bc : Nat} {a b c : World} (h : Fr B bc a b) (k : Fr B bc b c) : Fr B bc a c :=
  ⟨k.os.trans h.os, k.tape.trans h.tape, k.output.trans h.output, Nat.le_trans h.size k.size, fun i hi hne => (k.block i hi hne).trans (h.block i hi hne)⟩
theorem Fr.of_below {B bc : Nat} {a b : World} (h : Below B a b) : Fr B bc a b := ⟨h.os, h.tape, h.output, h.size, fun k hk _ => h.block k hk⟩
theorem Fr.of_grown {B bc : Nat} {a b : World} (h : a.grownBy b (some bc)) (hB : B ≤ a.heap.size) : Fr B bc a b :=
  ⟨h.os, h.tape, h.output, h.size, fun k hk hne => h.block k (Nat.lt_of_lt_of_le hk hB) (fun e => hne (by simpa using e))⟩
theorem Fr.below {B0 B bc : Nat} {w0 a b : World} (h0 : Below B0 w0 a) (h : Fr B bc a b) (hB : B0 ≤ B) (hbc : B0 ≤ bc) : Below B0 w0 b :=
  h0.trans ⟨h.os, h.tape, h.output, h.size, fun k hk => h.block k (by omega) (by omega)⟩
theorem Fr.mono {B B' bc : Nat} {a b : World} (h : Fr B bc a b) (hB : B' ≤ B) : Fr B' bc a b := ⟨h.os, h.tape, h.output, h.size, fun k hk => h.block k (Nat.lt_of_lt_of_le hk hB)⟩
theorem VRow.fr {w w' : World} {ao : Option Addr} {vs : List Value} {bc : Nat} (h : VRow w ao vs) (hF : Fr w.heap.size bc w w') (hm : ∃ es clock, w.heap[bc]? = some (.map es clock)) : VRow w' ao vs := by
  rcases h with h | ⟨b, off, h1, h2, h3⟩
  · exact .inl h
  · by_cases hv : vs = []
    · exact .inl hv
    · refine .inr ⟨b, off, h1, Nat.lt_of_lt_of_le h2 hF.size, fun i hi => ?_⟩
      have hne : b ≠ bc := fun e => by
        subst e
        obtain ⟨es, clock, hm⟩ := hm
        have := h3 i hi
        simp [World.cell?, hm] at this
      exact (World.cell?_of_block (w := w) (a := ⟨b, off + i, none⟩) (hF.block b h2 hne)).trans (h3 i hi)
theorem MapIs.isMap {w : World} {b n c : Nat} {f : ByteArray → Option Value} (h : MapIs w b n f c) : ∃ es clock, w.heap[b]? = some (.map es clock) := by
  obtain ⟨D, ⟨es, clock, hb, _⟩, _⟩ := h
  exact ⟨es, clock, hb⟩

/-- The cells of the joined cells. -/
def flat2 : List (Int × Int) → List Value
  | [] => []
  | a :: L => .int .i64 a.1 :: .int .i64 a.2 :: flat2 L
theorem flat2_length : ∀ L, (flat2 L).length = L.length * 2
  | [] => rfl
  | a :: L => by simp only [flat2, List.length_cons, flat2_length L]; omega
theorem flat2_append : ∀ L M, flat2 (L ++ M) = flat2 L ++ flat2 M
  | [], _ => rfl
  | a :: L, M => by simp only [List.cons_append, flat2, flat2_append L M]
theorem flat2_at : ∀ (L : List (Int × Int)) (i : Nat) (h : i < L.length), (flat2 L)[i * 2]? = some (.int .i64 L[i].1) ∧ (flat2 L)[i * 2 + 1]? = some (.int .i64 L[i].2)
  | [], i, h => by simp at h
  | a :: L, 0, _ => by simp [flat2]
  | a :: L, i + 1, h => by
    have := flat2_at L i (by simpa using h)
    rw [show (i + 1) * 2 = i * 2 + 2 by omega]
    simp only [flat2, List.getElem_cons_succ]
    exact this

/-- The text of the security's column. -/
def idText : ByteArray := { data := #[115, 101, 99, 117, 114, 105, 116, 121, 95, 105, 100] }
/-- A map's values: numbers. -/
def asInt (f : ByteArray → Option Int) : ByteArray → Option Value := fun k => (f k).map (Value.int .i64)
theorem asInt_getD (f : ByteArray → Option Int) (k : ByteArray) : (asInt f k).getD (.int .i64 0) = .int .i64 ((f k).getD 0) := by
  unfold asInt; cases f k <;> rfl
theorem asInt_isSome (f : ByteArray → Option Int) (k : ByteArray) : (asInt f k).isSome = (f k).isSome := by
  unfold asInt; cases f k <;> rfl

set_option maxHeartbeats 400000 in
theorem join_nil (v : Value) (w : World) :
    Calls Try.prog 18 #[.pointer none, v] w fun e w' => e = .returned (.agg #[.map none, .int .i64 0, .int .i64 0, .slice none 0 0]) ∧ Below w.heap.size w w' := by
  go_enter Try.func18, Try.ntmps18
  go_wp2
  exact bodyPost_ret (v := .agg #[.map none, .int .i64 0, .int .i64 0, .slice none 0 0]) (by simp [results, Try.results18, go_sem]) rfl ⟨rfl, (Below.refl _ _).alloc (Nat.le_refl _) _⟩

theorem info51 : (Try.prog.info? 51).map (fun i => (i.zero, i.size, i.bytes)) = some (some (.agg #[.int .i64 0, .int .i64 0]), 2, 16) := by kernel_rfl

/-- What joinTo has in hand. -/
structure JS (w wr : World) (bc N : Nat) (f : ByteArray → Option Value) (cnt : Nat) (lm : Option Nat) (idv width : Int) (k : Nat) (vo : Option Addr) (vc : Nat) (L : List (Int × Int)) : Prop where
  map : MapIs wr bc N f cnt
  res : Blk wr w.heap.size 37 [.map none, .int .i64 0, .int .i64 0, .slice none 0 0]
  jb : Blk wr (w.heap.size + 1) 37 [.map lm, .int .i64 idv, .int .i64 width, .slice vo k vc]
  own : wr.ownsRow (w.heap.size + 2) 51 2 (.slice vo k vc) k (flat2 L)
  fr : Fr w.heap.size bc w wr
  sz : w.heap.size + 2 ≤ wr.heap.size
  lt : bc < w.heap.size

theorem own_block {w : World} {base e size n k cap : Nat} {vo : Option Addr} {xs : List Value} (h : w.ownsRow base e size (.slice vo k cap) n xs) : ∀ g, (Value.slice vo k cap).ownBlock = some g → base ≤ g := fun g hg => by
  rcases h.2 with ⟨h', _⟩ | ⟨g', cap', cur, h', hb, _⟩
  · rw [h'] at hg; simp [Value.ownBlock] at hg
  · rw [h'] at hg; simp [Value.ownBlock] at hg; omega

/-- A store into the join's own block. -/
theorem JS.setJ {w wr : World} {bc N cnt k vc : Nat} {f : ByteArray → Option Value} {lm : Option Nat} {idv width : Int} {vo : Option Addr} {L : List (Int × Int)} (h : JS w wr bc N f cnt lm idv width k vo vc L) (x : Int) :
    JS w (wr.setCell ⟨w.heap.size + 1, 2, none⟩ (.int .i64 x)) bc N f cnt lm idv x k vo vc L := by
  have hlt := h.lt
  refine ⟨h.map.keep (heap_setCell_other _ _ _ _ (by simp; omega)), h.res.keep (heap_setCell_other _ _ _ _ (by simp)), h.jb.set 2 _, ownsRow_setCell_below h.own (by simp) _, ?_, by simpa [World.setCell] using h.sz, hlt⟩
  exact h.fr.trans (Fr.of_below ((Below.refl _ _).setCell (p := ⟨w.heap.size + 1, 2, none⟩) (by simp) _))
/-- A store into the map. -/
theorem JS.putM {w wr w1 : World} {bc N cnt k vc N' cnt' : Nat} {f f' : ByteArray → Option Value} {lm : Option Nat} {idv width : Int} {vo : Option Addr} {L : List (Int × Int)} (h : JS w wr bc N f cnt lm idv width k vo vc L)
    (hM : MapIs w1 bc N' f' cnt') (hg : wr.grownBy w1 (some bc)) : JS w w1 bc N' f' cnt' lm idv width k vo vc L := by
  have hlt := h.lt
  have hsz := h.sz
  have hne : ∀ j, j < wr.heap.size → j ≠ bc → w1.heap[j]? = wr.heap[j]? := fun j hj hne => hg.block j hj (fun e => hne (by simpa using e))
  refine ⟨hM, h.res.keep (hne _ (by omega) (by omega)), h.jb.keep (hne _ (by omega) (by omega)), h.own.kept hg ?_, h.fr.trans (Fr.of_grown hg (by omega)), Nat.le_trans h.sz hg.size, hlt⟩
  cases hv : (Value.slice vo k vc).ownBlock with
  | none => exact .inl rfl
  | some g =>
    right
    have := own_block h.own g hv
    intro e
    simp at e
    omega
/-- The appended cell, stored back. -/
theorem JS.push {w wr w1 : World} {bc N cnt k vc : Nat} {f : ByteArray → Option Value} {lm : Option Nat} {idv width : Int} {vo : Option Addr} {L : List (Int × Int)} (h : JS w wr bc N f cnt lm idv width k vo vc L) {o : Obj} {v' : Value} {a b : Int}
    (hown : w1.ownsRow (w.heap.size + 2) 51 2 v' (k + 1) (flat2 L ++ [.int .i64 a, .int .i64 b])) (hg : (wr.alloc o).grownBy w1 (Value.slice vo k vc).ownBlock) :
    ∃ vo' vc', v' = .slice vo' (k + 1) vc' ∧ w1.cell? ⟨w.heap.size + 1, 3, none⟩ = some (.slice vo k vc) ∧ w1.frozen? ⟨w.heap.size + 1, 3, none⟩ = false ∧ JS w (w1.setCell ⟨w.heap.size + 1, 3, none⟩ (.slice vo' (k + 1) vc')) bc N f cnt lm idv width (k + 1) vo' vc' (L ++ [(a, b)]) := by
  have hlt := h.lt
  have hsz := h.sz
  obtain ⟨vo', vc', rfl⟩ : ∃ vo' vc', v' = .slice vo' (k + 1) vc' := by
    rcases hown.2 with ⟨_, h0⟩ | ⟨g, cap, cur, h', _⟩
    · omega
    · exact ⟨_, _, h'⟩
  have hbk : Below (w.heap.size + 2) (wr.alloc o) w1 := (Below.refl _ _).grown hg (by simp; omega) (fun j hj => own_block h.own j hj)
  have hb2 : Below (w.heap.size + 2) wr w1 := ((Below.refl _ wr).alloc (by omega) o).trans hbk
  have hj : Blk w1 (w.heap.size + 1) 37 [.map lm, .int .i64 idv, .int .i64 width, .slice vo k vc] := h.jb.below hb2 (by omega)
  refine ⟨vo', vc', rfl, by rw [hj.cell]; rfl, hj.free 3, ?_⟩
  refine ⟨(h.map.below hb2 (by omega)).keep (heap_setCell_other _ _ _ _ (by simp; omega)), (h.res.below hb2 (by omega)).keep (heap_setCell_other _ _ _ _ (by simp)), hj.set 3 _, ?_, ?_, ?_, hlt⟩
  · have e : flat2 (L ++ [(a, b)]) = flat2 L ++ [.int .i64 a, .int .i64 b] := by rw [flat2_append]; rfl
    rw [e]
    exact ownsRow_setCell_below hown (by simp) _
  · exact h.fr.trans (Fr.of_below ((hb2.mono (by omega)).setCell (p := ⟨w.heap.size + 1, 3, none⟩) (by simp) _))
  · have := hb2.size
    simp [World.setCell]
    omega

/-- The joined cells of the first k names. -/
def joined (ps : List (ByteArray × Int)) (n0 : Nat) (hs : List ByteArray) : Nat → List (Int × Int)
  | 0 => []
  | k + 1 => joined ps n0 hs k ++ [((k : Int), want ps n0 hs (hs.getD k ByteArray.empty))]
theorem joined_length (ps : List (ByteArray × Int)) (n0 : Nat) (hs : List ByteArray) : ∀ k, (joined ps n0 hs k).length = k
  | 0 => rfl
  | k + 1 => by simp [joined, joined_length ps n0 hs k]
theorem joined_at (ps : List (ByteArray × Int)) (n0 : Nat) (hs : List ByteArray) (k i : Nat) (h : i < k) : (joined ps n0 hs k)[i]'(by rw [joined_length]; exact h) = ((i : Int), want ps n0 hs (hs.getD i ByteArray.empty)) := by
  induction k with
  | zero => omega
  | succ k ih =>
    simp only [joined]
    by_cases e : i < k
    · rw [List.getElem_append_left (by rw [joined_length]; exact e)]
      exact ih e
    · obtain rfl : i = k := by omega
      rw [List.getElem_append_right (by rw [joined_length]; exact Nat.le_refl _)]
      simp [joined_length]

theorem asInt_upd (f : ByteArray → Option Int) (s : ByteArray) (x : Int) : upd (asInt f) s (.int .i64 x) = asInt (fun k => if k = s then some x else f k) := by
  funext k
  unfold upd asInt
  by_cases h : k = s <;> simp [h]

theorem two_new (wr : World) (a b : Value) (e : TypeId) : ∀ (j : Nat) (u : Value), [a, b][j]? = some u → (wr.alloc (.cells #[a, b] e)).cell? ((⟨wr.heap.size, 0, none⟩ : Addr).add j) = some u := by
  intro j u h
  have ea : (⟨wr.heap.size, 0, none⟩ : Addr).add j = ⟨wr.heap.size, j, none⟩ := by simp only [Addr.add, Nat.zero_add]; split <;> simp_all
  rw [ea]
  match j, h with
  | 0, h => simp at h; subst h; simp
  | 1, h => simp at h; subst h; simp
theorem two_newS (wr : World) (p : Addr) (x a b : Value) (e : TypeId) : ∀ (j : Nat) (u : Value), [a, b][j]? = some u → ((wr.setCell p x).alloc (.cells #[a, b] e)).cell? ((⟨wr.heap.size, 0, none⟩ : Addr).add j) = some u := by
  have h := two_new (wr.setCell p x) a b e
  have es : (wr.setCell p x).heap.size = wr.heap.size := by simp [World.setCell]
  rw [es] at h
  exact h
theorem two_one (a b : Int) : ∀ u ∈ [Value.int .i64 a, Value.int .i64 b], u.oneCell' = true := by
  intro u hu
  simp at hu
  rcases hu with rfl | rfl <;> rfl

theorem MapIs.mono {w : World} {b n n' c : Nat} {f : ByteArray → Option Value} (h : MapIs w b n f c) (hn : n ≤ n') : MapIs w b n' f c := by
  obtain ⟨D, h1, h2⟩ := h
  exact ⟨D, h1.mono hn, h2⟩
/-- The round's end, the name there. -/
theorem js_there {w wr : World} {bc N n0 k vc : Nat} {ps : List (ByteArray × Int)} {hs : List ByteArray} {lm : Option Nat} {idv x : Int} {vo : Option Addr} {t : ByteArray} (hk : k < hs.length) (ht : t = hs[k]) (hc : cols ps n0 (hs.take k) t = some x)
    (h : JS w wr bc (N + k) (asInt (cols ps n0 (hs.take k))) (n0 + rk ps (hs.take k)) lm idv ((n0 : Int) + (rk ps (hs.take k) : Nat)) (k + 1) vo vc (joined ps n0 hs k ++ [((k : Int), x)])) :
    JS w wr bc (N + (k + 1)) (asInt (cols ps n0 (hs.take (k + 1)))) (n0 + rk ps (hs.take (k + 1))) lm idv ((n0 : Int) + (rk ps (hs.take (k + 1)) : Nat)) (k + 1) vo vc (joined ps n0 hs (k + 1)) := by
  have e1 : cols ps n0 (hs.take (k + 1)) = cols ps n0 (hs.take k) := by
    funext y
    rw [take_next hs k hk, ← ht]
    exact cols_there ps n0 _ t y (by rw [hc]; rfl)
  have e2 : rk ps (hs.take (k + 1)) = rk ps (hs.take k) := by
    rw [take_next hs k hk, rk_snoc, ← ht, fr_eq ps n0, hc]
    rfl
  have e3 : joined ps n0 hs (k + 1) = joined ps n0 hs k ++ [((k : Int), x)] := by
    have hw := want_at ps n0 hs k hk
    rw [← ht, hc] at hw
    simp only [joined, List.getD_eq_getElem?_getD, List.getElem?_eq_getElem hk, Option.getD_some, ← ht, hw]
  rw [e1, e2, e3]
  exact ⟨h.map.mono (by omega), h.res, h.jb, h.own, h.fr, h.sz, h.lt⟩
/-- The round's end, the name new. -/
theorem js_new {w wr : World} {bc N n0 k vc : Nat} {ps : List (ByteArray × Int)} {hs : List ByteArray} {lm : Option Nat} {idv : Int} {vo : Option Addr} {t : ByteArray} (hk : k < hs.length) (ht : t = hs[k]) (hc : cols ps n0 (hs.take k) t = none)
    (h : JS w wr bc (N + k + 1) (upd (asInt (cols ps n0 (hs.take k))) t (.int .i64 ((n0 : Int) + (rk ps (hs.take k) : Nat)))) (n0 + rk ps (hs.take k) + 1) lm idv ((n0 : Int) + (rk ps (hs.take k) : Nat) + 1) (k + 1) vo vc (joined ps n0 hs k ++ [((k : Int), (n0 : Int) + (rk ps (hs.take k) : Nat))])) :
    JS w wr bc (N + (k + 1)) (asInt (cols ps n0 (hs.take (k + 1)))) (n0 + rk ps (hs.take (k + 1))) lm idv ((n0 : Int) + (rk ps (hs.take (k + 1)) : Nat)) (k + 1) vo vc (joined ps n0 hs (k + 1)) := by
  have e1 : asInt (cols ps n0 (hs.take (k + 1))) = upd (asInt (cols ps n0 (hs.take k))) t (.int .i64 ((n0 : Int) + (rk ps (hs.take k) : Nat))) := by
    rw [asInt_upd]
    congr 1
    funext y
    rw [take_next hs k hk, ← ht]
    exact cols_new ps n0 _ t y hc
  have e2 : rk ps (hs.take (k + 1)) = rk ps (hs.take k) + 1 := by
    rw [take_next hs k hk, rk_snoc, ← ht, fr_eq ps n0, hc]
    rfl
  have e3 : joined ps n0 hs (k + 1) = joined ps n0 hs k ++ [((k : Int), (n0 : Int) + (rk ps (hs.take k) : Nat))] := by
    have hw := want_at ps n0 hs k hk
    rw [← ht, hc] at hw
    simp only [joined, List.getD_eq_getElem?_getD, List.getElem?_eq_getElem hk, Option.getD_some, ← ht, hw, Option.getD_none]
  have e4 : (n0 : Int) + ((rk ps (hs.take k) + 1 : Nat) : Int) = (n0 : Int) + (rk ps (hs.take k) : Nat) + 1 := by omega
  rw [e1, e2, e3, e4]
  exact h

/-- The joined cells as they are handed back. -/
def CellsV (B : Nat) (w : World) (v : Value) (L : List (Int × Int)) : Prop :=
  ∃ vo vc, v = .slice vo L.length vc ∧ (L = [] ∨ ∃ g, vo = some ⟨g, 0, none⟩ ∧ B ≤ g ∧ g < w.heap.size ∧ ∀ i (h : i < L.length), w.cell? ⟨g, i * 2, none⟩ = some (.int .i64 L[i].1) ∧ w.cell? ⟨g, i * 2 + 1, none⟩ = some (.int .i64 L[i].2))
theorem cells_of_own {w : World} {base k vc : Nat} {vo : Option Addr} {L : List (Int × Int)} (h : w.ownsRow base 51 2 (.slice vo k vc) k (flat2 L)) {B : Nat} (hB : B ≤ base) (hk : L.length = k) : CellsV B w (.slice vo k vc) L := by
  subst hk
  refine ⟨vo, vc, rfl, ?_⟩
  by_cases h0 : L = []
  · exact .inl h0
  · right
    have hp : 0 < L.length := List.length_pos_iff.2 h0
    rcases h.2 with ⟨_, h0⟩ | ⟨g, cap, cur, h', hbg, hg, r⟩
    · omega
    · simp only [Value.slice.injEq, true_and] at h'
      obtain ⟨rfl, rfl⟩ := h'
      refine ⟨g, rfl, Nat.le_trans hB hbg, (Array.getElem?_eq_some_iff.1 hg).1, fun i hi => ?_⟩
      obtain ⟨a0, a1⟩ := flat2_at L i hi
      exact ⟨(h.cellAt _ (by omega)).trans a0, (h.cellAt _ (by omega)).trans a1⟩

/-- The result's four cells, written. -/
def put4 (w : World) (g : Nat) (a b c d : Value) : World := (((w.setCell ⟨g, 0, none⟩ a).setCell ⟨g, 1, none⟩ b).setCell ⟨g, 2, none⟩ c).setCell ⟨g, 3, none⟩ d
theorem put4_other (w : World) (g k : Nat) (a b c d : Value) (h : k ≠ g) : (put4 w g a b c d).heap[k]? = w.heap[k]? := by
  unfold put4
  rw [heap_setCell_other _ _ _ _ (by simpa using h), heap_setCell_other _ _ _ _ (by simpa using h), heap_setCell_other _ _ _ _ (by simpa using h), heap_setCell_other _ _ _ _ (by simpa using h)]
theorem js_end {w wr : World} {bc N n0 k vc : Nat} {ps : List (ByteArray × Int)} {hs : List ByteArray} {lm : Option Nat} {idv : Int} {vo : Option Addr} (hk : hs.length = k) (a b c d : Value)
    (h : JS w wr bc (N + k) (asInt (cols ps n0 (hs.take k))) (n0 + rk ps (hs.take k)) lm idv ((n0 : Int) + (rk ps (hs.take k) : Nat)) k vo vc (joined ps n0 hs k)) :
    CellsV w.heap.size (put4 wr w.heap.size a b c d) (.slice vo k vc) (joined ps n0 hs k) ∧ MapIs (put4 wr w.heap.size a b c d) bc (N + k) (asInt (cols ps n0 hs)) (n0 + rk ps hs) ∧ Fr w.heap.size bc w (put4 wr w.heap.size a b c d) := by
  have hlt := h.lt
  have et : hs.take k = hs := List.take_of_length_le (Nat.le_of_eq hk)
  have hM := h.map
  rw [et] at hM
  refine ⟨cells_of_own (base := w.heap.size + 2) ?_ (by omega) (joined_length _ _ _ _), hM.keep (put4_other _ _ _ _ _ _ _ (by omega)), h.fr.trans (Fr.of_below ?_)⟩
  · exact ownsRow_setCell_below (ownsRow_setCell_below (ownsRow_setCell_below (ownsRow_setCell_below h.own (by simp) _) (by simp) _) (by simp) _) (by simp) _
  · exact ((((Below.refl _ _).setCell (p := ⟨w.heap.size, 0, none⟩) (Nat.le_refl _) _).setCell (p := ⟨w.heap.size, 1, none⟩) (Nat.le_refl _) _).setCell (p := ⟨w.heap.size, 2, none⟩) (Nat.le_refl _) _).setCell (p := ⟨w.heap.size, 3, none⟩) (Nat.le_refl _) _

set_option maxHeartbeats 4000000 in
theorem join_some (gs : Nat) (ao : Option Addr) (n c : Nat) (hs : List ByteArray) (lm : Option Nat) (bc N n0 : Nat) (ps : List (ByteArray × Int)) (w : World)
    (hg : gs < w.heap.size) (c0 : w.cell? ⟨gs, 0, none⟩ = some (.slice ao n c)) (c1 : w.cell? ⟨gs, 1, none⟩ = some (.map lm)) (hn : hs.length = n) (hn4 : n ≤ 4096) (hR : VRow w ao (strs hs)) (hsz : ∀ s ∈ hs, s.size ≤ maxLen)
    (hM : MapIs w bc N (asInt (last ps)) n0) (hN : N ≤ 4096) :
    Calls Try.prog 18 #[.pointer (some ⟨gs, 0, none⟩), .map (some bc)] w fun e w' => ∃ v, e = .returned (.agg #[.map lm, .int .i64 ((last ps idText).getD 0), .int .i64 ((n0 : Int) + (rk ps hs : Nat)), v]) ∧
      CellsV w.heap.size w' v (joined ps n0 hs n) ∧ MapIs w' bc (N + n) (asInt (cols ps n0 hs)) (n0 + rk ps hs) ∧ Fr w.heap.size bc w w' := by
  have HR := hid hR
  have HN := hid hn
  have HM := hid hM
  have HS := hid hsz
  clear hR hn hM hsz
  have hbc := HM.out.lt
  obtain ⟨i0, hi0, hz0, hz1, hz2⟩ := info_parts info51
  obtain ⟨idv, hid1⟩ : ∃ x, x = (last ps idText).getD 0 := ⟨_, rfl⟩
  have hMW : ∀ W : World, W.heap[bc]? = w.heap[bc]? → (Instr.lookup 28 (.map (some bc)) (.string { data := #[115, 101, 99, 117, 114, 105, 116, 121, 95, 105, 100] }) false).run Try.prog W = .ok (.int .i64 idv) W := fun W hW => by
    have := (HM.out.keep hW).look Try.underlying28 (zero3 W) idText (by unfold maxLen; decide)
    rw [asInt_getD, ← hid1] at this
    exact this
  have hLW : ∀ W : World, W.heap[bc]? = w.heap[bc]? → (Builtin.len_ #[28] 3 #[.map (some bc)]).run Try.prog W = .ok (.int .i64 n0) W := fun W hW => (HM.out.keep hW).len Try.underlying28 3
  have k1 := hMW (w.alloc (.cells #[.map none, .int .i64 0, .int .i64 0, .slice none 0 0] 37)).drew (Below.heap_alloc w _ bc hbc)
  have l1 := hLW (w.alloc (.cells #[.map none, .int .i64 0, .int .i64 0, .slice none 0 0] 37)).drew (Below.heap_alloc w _ bc hbc)
  have k2 := hMW ((w.alloc (.cells #[.map none, .int .i64 0, .int .i64 0, .slice none 0 0] 37)).alloc (.cells #[.map none, .int .i64 0, .int .i64 0, .slice none 0 0] 37)).drew ((Below.heap_alloc _ _ bc (by simp; omega)).trans (Below.heap_alloc w _ bc hbc))
  have l2 := hLW ((w.alloc (.cells #[.map none, .int .i64 0, .int .i64 0, .slice none 0 0] 37)).alloc (.cells #[.map none, .int .i64 0, .int .i64 0, .slice none 0 0] 37)).drew ((Below.heap_alloc _ _ bc (by simp; omega)).trans (Below.heap_alloc w _ bc hbc))
  clear hMW hLW
  have HID := hid hid1
  clear hid1
  go_enter Try.func18, Try.ntmps18
  go_wp2
  go_region
  all_goals
    go_wp2
    clear k1 k2 l1 l2 c0 c1
    go_loopw [27] (fun i wr => ∃ (k : Nat) (vo : Option Addr) (vc : Nat), k ≤ n ∧ i = .int .i64 k ∧ JS w wr bc (N + k) (asInt (cols ps n0 (hs.take k))) (n0 + rk ps (hs.take k)) lm idv ((n0 : Int) + (rk ps (hs.take k) : Nat)) k vo vc (joined ps n0 hs k)) (fun i _ => n - (intOf i).toNat)
    case atStart =>
      refine ⟨0, none, 0, Nat.zero_le _, rfl, ?_⟩
      have e0 : asInt (cols ps n0 (hs.take 0)) = asInt (last ps) := by
        unfold asInt
        funext y
        rw [List.take_zero, cols_nil]
      rw [e0]
      refine ⟨(HM.out.keep ?_), ?_, ?_, World.ownsRow_nil _ _ _ _, Fr.of_below (((Below.refl _ _).alloc (Nat.le_refl _) _).alloc (by simp) _).drew, by simp, hbc⟩
      · exact (Below.heap_alloc _ _ bc (by simp; omega)).trans (Below.heap_alloc w _ bc hbc)
      · exact (Below.heap_alloc _ _ w.heap.size (by simp)).trans (heap_alloc_new w _)
      · have e1 : (w.alloc (.cells #[.map none, .int .i64 0, .int .i64 0, .slice none 0 0] 37)).heap.size = w.heap.size + 1 := by simp
        have := heap_alloc_new (w.alloc (.cells #[.map none, .int .i64 0, .int .i64 0, .slice none 0 0] 37)) (.cells #[.map lm, .int .i64 idv, .int .i64 n0, .slice none 0 0] 37)
        rw [e1] at this
        exact this
    case round =>
      obtain ⟨k, vo, vc, hk, rfl, hJ⟩ := hrel
      have HJ := hid hJ
      have d2 := hJ.jb.cell 2
      have d3 := hJ.jb.cell 3
      have f2 := hJ.jb.free 2
      have f3 := hJ.jb.free 3
      simp only [List.getElem?_cons_succ, List.getElem?_cons_zero] at d2 d3
      by_cases hlt : k < n
      · have hkL : k < hs.length := by rw [HN.out]; exact hlt
        obtain ⟨b, off, rfl, hbw, hc⟩ := (HR.out.fr hJ.fr HM.out.isMap).at (by simp; omega)
        have c0 := hc k (by simpa using hkL)
        rw [List.getElem_map] at c0
        obtain ⟨t, ht⟩ : ∃ t, t = hs[k] := ⟨_, rfl⟩
        rw [← ht] at c0
        have HT := hid ht
        have hts : t.size ≤ maxLen := HS.out t (by rw [ht]; exact List.getElem_mem _)
        have hlook := hJ.map.lookOk Try.underlying28 (zero3 wr) t hts
        rw [asInt_getD, asInt_isSome] at hlook
        cases hcol : cols ps n0 (hs.take k) t
        · rw [hcol] at hlook
          simp only [Option.getD_none, Option.isSome_none] at hlook
          obtain ⟨w1, hupd, hM1, hg1⟩ := hJ.map.store Try.underlying28 (by unfold maxLen; omega) t hts (.int .i64 ((n0 : Int) + (rk ps (hs.take k) : Nat)))
          rw [show (asInt (cols ps n0 (hs.take k)) t).isSome = false by rw [asInt_isSome, hcol]; rfl] at hM1
          have hJ1 := hJ.putM hM1 hg1
          have e2 := hJ1.jb.cell 2
          have e3 := hJ1.jb.cell 3
          have g2 := hJ1.jb.free 2
          have g3 := hJ1.jb.free 3
          simp only [List.getElem?_cons_succ, List.getElem?_cons_zero] at e2 e3
          have HJ1 := hid (hJ1.setJ ((n0 : Int) + (rk ps (hs.take k) : Nat) + 1))
          have hrb : rk ps (hs.take k) ≤ 4096 := Nat.le_trans (rk_le _ _) (by simp; omega)
          have hnb : n0 ≤ 4096 := Nat.le_trans HM.out.size_le hN
          have HC := hid hcol
          have HTS := hid hts
          clear hcol ht hc hJ hts hJ1 hM1 hg1
          go_wp2_with (first
            | (at_builtin; go_must (refine wpList_append_own _ rfl (.tmp 50) (.tmp 54) 35 rfl (w.heap.size + 2) 51 i0 (.agg #[.int .i64 0, .int .i64 0]) 2 16 Try.underlying35 hi0 hz0 hz1 hz2 rfl (by decide) _ _ _ rfl (HJ1.out.own.alloc _) ⟨w1.heap.size, 0, none⟩ 1 1 [.int .i64 k, .int .i64 ((n0 : Int) + (rk ps (hs.take k) : Nat))] rfl rfl (two_newS _ _ _ _ _ _) (two_one _ _) (by unfold maxLen; omega) (by omega) (by have := HJ1.out.sz; simp at this ⊢; omega) ?_; intro v' w2 hown1 hgrow1 _; obtain ⟨vo', vc', hv, g1, g2, hJ2⟩ := HJ1.out.push hown1 hgrow1; subst hv; have HJ2 := hid hJ2; clear hJ2 hown1 hgrow1)))
          go_roundw
          case rel => exact ⟨k + 1, vo', vc', by omega, by go_num, js_new hkL HT.out HC.out HJ2.out⟩
          case measure => simp [intOf]; omega
        · rename_i x
          rw [hcol] at hlook
          simp only [Option.getD_some, Option.isSome_some] at hlook
          have HC := hid hcol
          have HTS := hid hts
          clear hcol ht hc hJ hts
          go_wp2_with (first
            | (at_builtin; refine wpList_append_own _ rfl (.tmp 50) (.tmp 54) 35 rfl (w.heap.size + 2) 51 i0 (.agg #[.int .i64 0, .int .i64 0]) 2 16 Try.underlying35 hi0 hz0 hz1 hz2 rfl (by decide) _ _ _ rfl (HJ.out.own.alloc _) ⟨wr.heap.size, 0, none⟩ 1 1 [.int .i64 k, .int .i64 x] rfl rfl (two_new _ _ _ _) (two_one _ _) (by unfold maxLen; omega) (by omega) (by have := HJ.out.sz; simp; omega) ?_; intro v' w1 hown1 hgrow1 _; obtain ⟨vo', vc', hv, g1, g2, hJ2⟩ := HJ.out.push hown1 hgrow1; subst hv; have HJ2 := hid hJ2; clear hJ2 hown1 hgrow1))
          go_roundw
          case rel => exact ⟨k + 1, vo', vc', by omega, by go_num, js_there hkL HT.out HC.out HJ2.out⟩
          case measure => simp [intOf]; omega
      · obtain rfl : k = n := by omega
        have d0 := hJ.jb.cell 0
        have d1 := hJ.jb.cell 1
        have r0 := hJ.res.cell 0
        have r1 := hJ.res.cell 1
        have r2 := hJ.res.cell 2
        have r3 := hJ.res.cell 3
        have z0 := hJ.res.free 0
        have z1 := hJ.res.free 1
        have z2 := hJ.res.free 2
        have z3 := hJ.res.free 3
        simp only [List.getElem?_cons_succ, List.getElem?_cons_zero] at d0 d1 r0 r1 r2 r3
        clear hJ
        go_wp2
        have et : hs.take k = hs := List.take_of_length_le (Nat.le_of_eq HN.out)
        obtain ⟨q1, q2, q3⟩ := js_end HN.out (.map lm) (.int .i64 idv) (.int .i64 ((n0 : Int) + (rk ps (hs.take k) : Nat))) (.slice vo k vc) HJ.out
        refine bodyPost_ret (v := .agg #[.map lm, .int .i64 idv, .int .i64 ((n0 : Int) + (rk ps (hs.take k) : Nat)), .slice vo k vc]) (by simp [results, Try.results18, go_sem, r0, r1, r2, r3]) rfl ⟨.slice vo k vc, ?_, q1, q2, q3⟩
        rw [et, HID.out]

end Go.Proofs.Qxb6618330a.Jn

/-
  Small lemmas for the law's parts: the lines' map.
-/
import Derived.Test.Qxb6618330aJnEnv
namespace Go.Proofs.Qxb6618330a.Jn
open Go.ChangeShapes Go.WideShapes Go.ChangeAt Go.RowKit

theorem info9 : (Try.prog.info? 9).map (fun i => (i.zero, i.size, i.bytes)) = some (some (.string ByteArray.empty), 1, 16) := by kernel_rfl
theorem strs_len (hs : List ByteArray) : (strs hs).length = hs.length := by simp
theorem strs_at (hs : List ByteArray) (k : Nat) (h : k < hs.length) : (strs hs)[k]'(by simpa using h) = .string hs[k] := by simp
theorem vrow_nil {w : World} {ao : Option Addr} {hs : List ByteArray} (h : hs.length = 0) : VRow w ao (strs hs) := .inl (by rw [List.length_eq_zero_iff.1 h]; rfl)

theorem lines_start (w : World) (h2 : List ByteArray) (ro : List (Option (List ByteArray))) : LinesAt (w.alloc (.map #[] 0)) w.heap.size 0 h2 ro 0 [] :=
  ⟨by
    have e : last ((h2.take 0).zip ([] : List Value)) = fun _ => none := by funext y; simp [last_nil]
    rw [e]
    exact map_made w, rfl, fun i hi => by simp at hi⟩

theorem lines_step {w wc w1 : World} {bl k : Nat} {h2 : List ByteArray} {ro : List (Option (List ByteArray))} {us : List Value} {t : ByteArray} {u : Value} (h : LinesAt w bl k h2 ro k us) (hB : Below w.heap.size w wc) (hk : k < h2.length) (ht : t = h2[k]) (hu : RowV wc u (rowOf ro k))
    (hM : MapIs w1 bl (k + 1) (upd (last ((h2.take k).zip us)) t u) (if (last ((h2.take k).zip us) t).isSome then dist (h2.take k) else dist (h2.take k) + 1)) (hg : wc.grownBy w1 (some bl)) : LinesAt w1 bl (k + 1) h2 ro (k + 1) (us ++ [u]) := by
  have hc := h.below hB
  have hlk : (h2.take k).length = k := by simp; omega
  have hz : (h2.take (k + 1)).zip (us ++ [u]) = (h2.take k).zip us ++ [(t, u)] := by
    rw [take_next h2 k hk, List.zip_append (by rw [hlk, h.len]), ← ht]
    rfl
  have e1 : last ((h2.take (k + 1)).zip (us ++ [u])) = upd (last ((h2.take k).zip us)) t u := by
    funext y
    rw [hz, last_snoc]
    unfold upd
    by_cases hy : y = t
    · subst hy; simp
    · have hy' : ¬ t = y := fun e => hy e.symm
      simp [hy, hy']
  have e2 : dist (h2.take (k + 1)) = if (last ((h2.take k).zip us) t).isSome then dist (h2.take k) else dist (h2.take k) + 1 := by
    rw [take_next h2 k hk, dist_snoc, ← ht, last_seen]
    have e3 : ((h2.take k).zip us).map (·.1) = h2.take k := by
      rw [List.map_fst_zip]
      rw [hlk, h.len]
      exact Nat.le_refl _
    rw [e3]
    cases seen (h2.take k) t <;> rfl
  have hF : Fr wc.heap.size bl wc w1 := Fr.of_grown hg (Nat.le_refl _)
  refine ⟨by rw [e1, e2]; exact hM, by simp [h.len], fun i hi => ?_⟩
  by_cases hik : i < us.length
  · rw [List.getElem_append_left hik]
    exact (hc.rows i hik).fr hF hc.map.isMap
  · have hik' : i = us.length := by simp at hi; omega
    subst hik'
    rw [List.getElem_append_right (Nat.le_refl _)]
    simp only [Nat.sub_self, List.getElem_cons_zero]
    rw [h.len]
    exact hu.fr hF hc.map.isMap

theorem rowOf_at (ro : List (Option (List ByteArray))) (k : Nat) (h : k < ro.length) : rowOf ro k = ro[k] := by
  unfold rowOf; rw [List.getElem?_eq_getElem h]; rfl
theorem rowOf_out (ro : List (Option (List ByteArray))) (k : Nat) (h : ro.length ≤ k) : rowOf ro k = none := by
  unfold rowOf; rw [List.getElem?_eq_none h]; rfl

theorem ps_fst (h4 : List ByteArray) (h5 : List Int) (k : Nat) (h1 : k ≤ h4.length) (h2 : k ≤ h5.length) : (psOf h4 h5 k).map (·.1) = h4.take k := by
  apply List.ext_getElem
  · simp; omega
  · intro i _ _
    simp
theorem ps_next (h4 : List ByteArray) (h5 : List Int) (k : Nat) (h1 : k < h4.length) (h2 : k < h5.length) : psOf h4 h5 (k + 1) = psOf h4 h5 k ++ [(h4[k], h5[k])] := by
  unfold psOf pairs
  rw [take_next _ k (by simp; omega), List.getElem_zip]
theorem cols_step {w1 : World} {bc k : Nat} {h4 : List ByteArray} {h5 : List Int} {t : ByteArray} {x : Int} (hk1 : k < h4.length) (hk2 : k < h5.length) (ht : t = h4[k]) (hx : x = h5[k])
    (hM : MapIs w1 bc (k + 1) (upd (asInt (last (psOf h4 h5 k))) t (.int .i64 x)) (if (asInt (last (psOf h4 h5 k)) t).isSome then dist (h4.take k) else dist (h4.take k) + 1)) :
    MapIs w1 bc (k + 1) (asInt (last (psOf h4 h5 (k + 1)))) (dist (h4.take (k + 1))) := by
  have e1 : asInt (last (psOf h4 h5 (k + 1))) = upd (asInt (last (psOf h4 h5 k))) t (.int .i64 x) := by
    rw [asInt_upd, ps_next h4 h5 k hk1 hk2, ← ht, ← hx]
    congr 1
    funext y
    rw [last_snoc]
    by_cases hy : y = t
    · subst hy; simp
    · have hy' : ¬ t = y := fun e => hy e.symm
      simp [hy, hy']
  have e2 : dist (h4.take (k + 1)) = if (asInt (last (psOf h4 h5 k)) t).isSome then dist (h4.take k) else dist (h4.take k) + 1 := by
    rw [take_next h4 k hk1, dist_snoc, ← ht, asInt_isSome, last_seen, ps_fst h4 h5 k (by omega) (by omega)]
    cases seen (h4.take k) t <;> rfl
  rw [e1, e2]
  exact hM
theorem cols_start (w : World) (h4 : List ByteArray) (h5 : List Int) : MapIs (w.alloc (.map #[] 0)) w.heap.size 0 (asInt (last (psOf h4 h5 0))) (dist (h4.take 0)) := by
  have e : asInt (last (psOf h4 h5 0)) = fun _ => none := by funext y; simp [psOf, last_nil, asInt]
  rw [e]
  exact map_made w

end Go.Proofs.Qxb6618330a.Jn

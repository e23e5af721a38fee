/-
  The walk of zzB1InsertHeld.
-/
import Derived.Test.Qxb6618129aAccWalkB
namespace Go.Proofs.Qxb6618129a.Acc
open Go.ChangeShapes Go.WideShapes Go.ChangeAt Go.RowKit

theorem Held.at {w : World} {ao : Option Addr} {L : List A3} (h : Held w ao L) (hn : 0 < L.length) : ∃ b off, ao = some ⟨b, off, none⟩ ∧ b < w.heap.size ∧ Lies w b off L := by
  rcases h with rfl | h
  · simp at hn
  · exact h

/-- The world behind the boxing of the assignment. -/
def boxed (w : World) (a : A3) : World := w.alloc (.cells #[.int .i64 a.1, .bool a.2.1, .int .i64 a.2.2] 30)
theorem boxed_size (w : World) (a : A3) : (boxed w a).heap.size = w.heap.size + 1 := by simp [boxed]
theorem boxed_below {w wr : World} {a : A3} (h : Below (w.heap.size + 1) (boxed w a) wr) : Below w.heap.size w wr :=
  ((Below.refl _ w).alloc (Nat.le_refl _) _).trans (h.mono (Nat.le_succ _))
theorem boxed_cells {w wr : World} {r : Int} {ad : Bool} {p : Int} (h : Below (w.heap.size + 1) (boxed w (r, ad, p)) wr) :
    wr.cell? ⟨w.heap.size, 0, none⟩ = some (.int .i64 r) ∧ wr.cell? ⟨w.heap.size, 1, none⟩ = some (.bool ad) ∧ wr.cell? ⟨w.heap.size, 2, none⟩ = some (.int .i64 p) := by
  refine ⟨(h.cell (p := ⟨w.heap.size, 0, none⟩) (Nat.lt_succ_self _)).trans ?_, (h.cell (p := ⟨w.heap.size, 1, none⟩) (Nat.lt_succ_self _)).trans ?_, (h.cell (p := ⟨w.heap.size, 2, none⟩) (Nat.lt_succ_self _)).trans ?_⟩ <;>
    simp [boxed]

set_option maxHeartbeats 1000000 in
theorem ins_any (ao : Option Addr) (n cap i : Nat) (L : List A3) (r : Int) (ad : Bool) (p : Int) (w : World) (hn : L.length = n) (hs : n ≤ 16384) (hi : i ≤ n) (hL : Held w ao L) :
    Calls Try.prog 11 #[.slice ao n cap, .int .i64 i, .agg #[.int .i64 r, .bool ad, .int .i64 p]] w fun e w' => ∃ g, e = .returned (.slice (some ⟨g, 0, none⟩) (n + 1) (n + 1)) ∧ Own w' w.heap.size g (n + 1) (insAt L i (r, ad, p)) ∧ Below w.heap.size w w' := by
  obtain ⟨i0, hi0, hz0, hz1, hz2⟩ := info_parts info30
  have HL := hid hL
  have HN := hid hn
  clear hL hn
  go_enter Try.func11, Try.ntmps11
  go_wp2_with (first
    | (at_make; refine wpList_make_full _ rfl _ _ 26 rfl w.heap.size 30 i0 (.agg #[.int .i64 0, .bool false, .int .i64 0]) 3 Try.underlying26 hi0 hz0 hz1 .i64 .i64 _ _ (n + 1) rfl rfl (by omega) (by omega) (by rw [hz2]; omega) (by unfold maxLen; omega) (by simp) ?_; intro w1 hown1 hgrow1))
  have hb1 : Below (w.heap.size + 1) (boxed w (r, ad, p)) w1 := (Below.refl _ _).grown hgrow1 (by rw [boxed_size]; exact Nat.le_refl _) (by simp)
  have hown2 : Own w1 w.heap.size (w.heap.size + 1) (n + 1) (L.take 0 ++ List.replicate (n + 1 - 0) zer) := by
    refine ⟨by simp, ?_⟩
    simp only [List.take_zero, List.nil_append, Nat.sub_zero]
    rw [← flat_made]
    have e : (w.alloc (Obj.cells #[Value.int IntKind.i64 r, Value.bool ad, Value.int IntKind.i64 p] 30)).heap.size = w.heap.size + 1 := boxed_size w (r, ad, p)
    rw [e] at hown1
    exact hown1
  clear hown1 hgrow1
  go_loopw [8] (fun j wr => ∃ k : Nat, k ≤ i ∧ j = .int .i64 k ∧ Own wr w.heap.size (w.heap.size + 1) (n + 1) (L.take k ++ List.replicate (n + 1 - k) zer) ∧ Below (w.heap.size + 1) (boxed w (r, ad, p)) wr) (fun j _ => i - (intOf j).toNat)
  case atStart => exact ⟨0, Nat.zero_le _, rfl, hown2, hb1⟩
  case round =>
    clear hown2 hb1
    obtain ⟨k, hk, rfl, hown, hbl⟩ := hrel
    by_cases hlt : k < i
    · have hkn : k < n := by omega
      have hkL : k < L.length := by rw [HN.out]; exact hkn
      obtain ⟨b, off, rfl, hbw, hLi⟩ := HL.out.at (by omega)
      obtain ⟨c0, c1, c2⟩ := (hLi.below hbw (boxed_below hbl)) k hkL
      obtain ⟨⟨r', ad', p'⟩, hx⟩ : ∃ x, x = L[k] := ⟨_, rfl⟩
      rw [← hx] at c0 c1 c2
      simp only at c0 c1 c2
      have HX := hid hx
      obtain ⟨v0, v1, v2, d0, d1, d2⟩ := hown.there k (by omega)
      have f0 := hown.free (k * 3)
      have f1 := hown.free (k * 3 + 1)
      have f2 := hown.free (k * 3 + 2)
      have HP := hid (hown.put k (by omega) (r', ad', p'))
      have HB2 := hid (below_put3 hbl (Nat.le_refl _) k (r', ad', p') (g := w.heap.size + 1))
      have hne : w.heap.size + 1 ≠ b := by omega
      clear hx hown hLi hbl
      go_wp2
      have HP2 : Own (put3 wr (w.heap.size + 1) k (r', ad', p')) w.heap.size (w.heap.size + 1) (n + 1) (L.take (k + 1) ++ List.replicate (n + 1 - (k + 1)) zer) := by
        rw [← ins_fill L n k HN.out hkn zer (r', ad', p') HX.out]; exact HP.out
      go_roundw
      case rel => exact ⟨k + 1, by omega, by go_num, HP2, HB2.out⟩
      case measure => simp [intOf]; omega
    · obtain rfl : k = i := by omega
      obtain ⟨c0, c1, c2⟩ := boxed_cells hbl
      obtain ⟨v0, v1, v2, d0, d1, d2⟩ := hown.there k (by omega)
      have f0 := hown.free (k * 3)
      have f1 := hown.free (k * 3 + 1)
      have f2 := hown.free (k * 3 + 2)
      have HP := hid (hown.put k (by omega) (r, ad, p))
      have HB2 := hid (below_put3 hbl (Nat.le_refl _) k (r, ad, p) (g := w.heap.size + 1))
      clear hown hbl
      go_wp2
      have HP2 : Own (put3 wr (w.heap.size + 1) k (r, ad, p)) w.heap.size (w.heap.size + 1) (n + 1) (insAt (L.take k) k (r, ad, p) ++ List.replicate (n - k) zer) := by
        rw [← ins_mid L n k HN.out hi (r, ad, p) zer]; exact HP.out
      clear c0 c1 c2 d0 d1 d2 f0 f1 f2 HP
      go_loopw [9] (fun j wr => ∃ m : Nat, k ≤ m ∧ m ≤ n ∧ j = .int .i64 m ∧ Own wr w.heap.size (w.heap.size + 1) (n + 1) (insAt (L.take m) k (r, ad, p) ++ List.replicate (n - m) zer) ∧ Below (w.heap.size + 1) (boxed w (r, ad, p)) wr) (fun j _ => n - (intOf j).toNat)
      case atStart => exact ⟨k, Nat.le_refl _, hi, rfl, HP2, HB2.out⟩
      case round =>
        clear HP2 HB2
        obtain ⟨m, hkm, hm, rfl, hown, hbl⟩ := hrel
        by_cases hlt2 : m < n
        · have hkL : m < L.length := by rw [HN.out]; exact hlt2
          obtain ⟨b, off, rfl, hbw, hLi⟩ := HL.out.at (by omega)
          obtain ⟨c0, c1, c2⟩ := (hLi.below hbw (boxed_below hbl)) m hkL
          obtain ⟨⟨r', ad', p'⟩, hx⟩ : ∃ x, x = L[m] := ⟨_, rfl⟩
          rw [← hx] at c0 c1 c2
          simp only at c0 c1 c2
          have HX := hid hx
          obtain ⟨v0, v1, v2, d0, d1, d2⟩ := hown.there (m + 1) (by omega)
          have f0 := hown.free ((m + 1) * 3)
          have f1 := hown.free ((m + 1) * 3 + 1)
          have f2 := hown.free ((m + 1) * 3 + 2)
          have HP := hid (hown.put (m + 1) (by omega) (r', ad', p'))
          have HB2 := hid (below_put3 hbl (Nat.le_refl _) (m + 1) (r', ad', p') (g := w.heap.size + 1))
          have hne : w.heap.size + 1 ≠ b := by omega
          clear hx hown hLi hbl
          go_wp2
          have HP2 : Own (put3 wr (w.heap.size + 1) (m + 1) (r', ad', p')) w.heap.size (w.heap.size + 1) (n + 1) (insAt (L.take (m + 1)) k (r, ad, p) ++ List.replicate (n - (m + 1)) zer) := by
            rw [← ins_set L n k m HN.out hkm hlt2 (r, ad, p) zer (r', ad', p') HX.out]; exact HP.out
          go_roundw
          case rel => exact ⟨m + 1, by omega, by omega, by go_num, HP2, HB2.out⟩
          case measure => simp [intOf]; omega
        · obtain rfl : m = n := by omega
          rw [ins_end L m k HN.out] at hown
          have HO := hid hown
          have HB := hid (boxed_below hbl)
          clear hown hbl
          go_wp2
          go_ret
          exact ⟨_, rfl, HO.out, HB.out⟩

end Go.Proofs.Qxb6618129a.Acc

/-
  The walk of zzB1InsertRole.
-/
import Derived.Test.Qxb6618129aAllA
namespace Go.Proofs.Qxb6618129a.Acc
open Go.ChangeShapes Go.WideShapes Go.ChangeAt Go.RowKit

theorem info2 : (Try.prog.info? 2).map (fun i => (i.zero, i.size, i.bytes)) = some (some (.int .i64 0), 1, 8) := by kernel_rfl

/-- A row of numbers of the call's own, at block g. -/
def OwnN (w : World) (base g n : Nat) (R : List Int) : Prop :=
  R.length = n ∧ w.ownsRow base 2 1 (.slice (some ⟨g, 0, none⟩) n n) n (R.map (Value.int .i64))

theorem OwnN.lies {w : World} {base g n : Nat} {R : List Int} (h : OwnN w base g n R) : NLies w g 0 R := fun i hi => by
  have hl := h.1
  rw [Nat.zero_add, h.2.cellAt i (by omega)]
  simp [List.getElem?_eq_getElem hi]
theorem OwnN.there {w : World} {base g n : Nat} {R : List Int} (h : OwnN w base g n R) (i : Nat) (hi : i < n) : ∃ v, w.cell? ⟨g, i, none⟩ = some v := by
  have := h.lies i (by rw [h.1]; exact hi)
  rw [Nat.zero_add] at this
  exact ⟨_, this⟩
theorem OwnN.free {w : World} {base g n : Nat} {R : List Int} (h : OwnN w base g n R) (j : Nat) : w.frozen? ⟨g, j, none⟩ = false := h.2.frozenAt j
theorem OwnN.put {w : World} {base g n : Nat} {R : List Int} (h : OwnN w base g n R) (i : Nat) (x : Int) : OwnN (w.setCell ⟨g, i, none⟩ (.int .i64 x)) base g n (R.set i x) := by
  refine ⟨by simpa using h.1, ?_⟩
  have h1 := (h.2.stored i (.int .i64 x)).1
  rw [← List.map_set] at h1
  exact h1
theorem OwnN.block {w : World} {base g n : Nat} {R : List Int} (h : OwnN w base g n R) : g < w.heap.size ∧ base ≤ g := by
  rcases h.2.2 with ⟨h', _⟩ | ⟨g', cap', cur, h', hb, hg, _⟩
  · simp at h'
  · simp only [Value.slice.injEq, Option.some.injEq, Addr.mk.injEq, and_true, true_and] at h'
    obtain ⟨rfl, rfl⟩ := h'
    obtain ⟨hlt, _⟩ := Array.getElem?_eq_some_iff.1 hg
    exact ⟨hlt, hb⟩
theorem OwnN.nums {w : World} {base g n : Nat} {R : List Int} (h : OwnN w base g n R) : Nums w (some ⟨g, 0, none⟩) R := .inr ⟨g, 0, rfl, h.block.1, h.lies⟩

set_option maxHeartbeats 1000000 in
theorem insN_any (ao : Option Addr) (n cap i : Nat) (R : List Int) (x : Int) (w : World) (hn : R.length = n) (hs : n ≤ 65536) (hi : i ≤ n) (hR : Nums w ao R) :
    Calls Try.prog 17 #[.slice ao n cap, .int .i64 i, .int .i64 x] w fun e w' => ∃ g, e = .returned (.slice (some ⟨g, 0, none⟩) (n + 1) (n + 1)) ∧ OwnN w' w.heap.size g (n + 1) (insAt R i x) ∧ Below w.heap.size w w' := by
  obtain ⟨i0, hi0, hz0, hz1, hz2⟩ := info_parts info2
  have HR := hid hR
  have HN := hid hn
  clear hR hn
  go_enter Try.func17, Try.ntmps17
  go_wp2_with (first
    | (at_make; refine wpList_make_full _ rfl _ _ 32 rfl w.heap.size 2 i0 (.int .i64 0) 1 Try.underlying32 hi0 hz0 hz1 .i64 .i64 _ _ (n + 1) rfl rfl (by omega) (by omega) (by rw [hz2]; omega) (by unfold maxLen; omega) (Nat.le_refl _) ?_; intro w1 hown1 hgrow1))
  have hb1 : Below w.heap.size w w1 := (Below.refl _ _).grown hgrow1 (Nat.le_refl _) (by simp)
  have hown2 : OwnN w1 w.heap.size w.heap.size (n + 1) (R.take 0 ++ List.replicate (n + 1 - 0) 0) := by
    refine ⟨by simp, ?_⟩
    have e : (madeCells (Value.int IntKind.i64 0).cells ((n + 1) * 1)).toList = (R.take 0 ++ List.replicate (n + 1 - 0) 0).map (Value.int .i64) := by
      simp [Value.cells, toList_madeCells_one]
    rw [← e]
    exact hown1
  clear hown1 hgrow1
  go_loopw [8] (fun j wr => ∃ k : Nat, k ≤ i ∧ j = .int .i64 k ∧ OwnN wr w.heap.size w.heap.size (n + 1) (R.take k ++ List.replicate (n + 1 - k) 0) ∧ Below w.heap.size w wr) (fun j _ => i - (intOf j).toNat)
  case atStart => exact ⟨0, Nat.zero_le _, rfl, hown2, hb1⟩
  case round =>
    clear hown2 hb1
    obtain ⟨k, hk, rfl, hown, hbl⟩ := hrel
    by_cases hlt : k < i
    · have hkn : k < n := by omega
      have hkL : k < R.length := by rw [HN.out]; exact hkn
      obtain ⟨b, off, rfl, hbw, hLi⟩ := HR.out.at (by omega)
      have c0 := (hLi.below hbw hbl) k hkL
      obtain ⟨y, hx⟩ : ∃ y, y = R[k] := ⟨_, rfl⟩
      rw [← hx] at c0
      have HX := hid hx
      obtain ⟨v0, d0⟩ := hown.there k (by omega)
      have f0 := hown.free k
      have HP := hid (hown.put k y)
      have HB2 := hid (hbl.setCell (p := ⟨w.heap.size, k, none⟩) (Nat.le_refl _) (.int .i64 y))
      clear hx hown hLi hbl
      go_wp2
      have HP2 : OwnN (wr.setCell ⟨w.heap.size, k, none⟩ (.int .i64 y)) w.heap.size w.heap.size (n + 1) (R.take (k + 1) ++ List.replicate (n + 1 - (k + 1)) 0) := by
        rw [← ins_fill R n k HN.out hkn 0 y HX.out]; exact HP.out
      go_roundw
      case rel => exact ⟨k + 1, by omega, by go_num, HP2, HB2.out⟩
      case measure => simp [intOf]; omega
    · obtain rfl : k = i := by omega
      obtain ⟨v0, d0⟩ := hown.there k (by omega)
      have f0 := hown.free k
      have HP := hid (hown.put k x)
      have HB2 := hid (hbl.setCell (p := ⟨w.heap.size, k, none⟩) (Nat.le_refl _) (.int .i64 x))
      clear hown hbl
      go_wp2
      have HP2 : OwnN (wr.setCell ⟨w.heap.size, k, none⟩ (.int .i64 x)) w.heap.size w.heap.size (n + 1) (insAt (R.take k) k x ++ List.replicate (n - k) 0) := by
        rw [← ins_mid R n k HN.out hi x 0]; exact HP.out
      clear d0 f0 HP
      go_loopw [9] (fun j wr => ∃ m : Nat, k ≤ m ∧ m ≤ n ∧ j = .int .i64 m ∧ OwnN wr w.heap.size w.heap.size (n + 1) (insAt (R.take m) k x ++ List.replicate (n - m) 0) ∧ Below w.heap.size w wr) (fun j _ => n - (intOf j).toNat)
      case atStart => exact ⟨k, Nat.le_refl _, hi, rfl, HP2, HB2.out⟩
      case round =>
        clear HP2 HB2
        obtain ⟨m, hkm, hm, rfl, hown, hbl⟩ := hrel
        by_cases hlt2 : m < n
        · have hkL : m < R.length := by rw [HN.out]; exact hlt2
          obtain ⟨b, off, rfl, hbw, hLi⟩ := HR.out.at (by omega)
          have c0 := (hLi.below hbw hbl) m hkL
          obtain ⟨y, hx⟩ : ∃ y, y = R[m] := ⟨_, rfl⟩
          rw [← hx] at c0
          have HX := hid hx
          obtain ⟨v0, d0⟩ := hown.there (m + 1) (by omega)
          have f0 := hown.free (m + 1)
          have HP := hid (hown.put (m + 1) y)
          have HB2 := hid (hbl.setCell (p := ⟨w.heap.size, m + 1, none⟩) (Nat.le_refl _) (.int .i64 y))
          clear hx hown hLi hbl
          go_wp2
          have HP2 : OwnN (wr.setCell ⟨w.heap.size, m + 1, none⟩ (.int .i64 y)) w.heap.size w.heap.size (n + 1) (insAt (R.take (m + 1)) k x ++ List.replicate (n - (m + 1)) 0) := by
            rw [← ins_set R n k m HN.out hkm hlt2 x 0 y HX.out]; exact HP.out
          go_roundw
          case rel => exact ⟨m + 1, by omega, by omega, by go_num, HP2, HB2.out⟩
          case measure => simp [intOf]; omega
        · obtain rfl : m = n := by omega
          rw [ins_end R m k HN.out] at hown
          have HO := hid hown
          have HB := hid hbl
          clear hown hbl
          go_wp2
          go_ret
          exact ⟨_, rfl, HO.out, HB.out⟩

end Go.Proofs.Qxb6618129a.Acc

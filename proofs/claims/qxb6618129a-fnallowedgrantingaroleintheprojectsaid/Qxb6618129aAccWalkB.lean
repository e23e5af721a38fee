/-
  Walks: zzB1One, zzB1Held.
-/
import Derived.Test.Qxb6618129aAccRows
import Derived.Lib.SliceRun
import Derived.WalkSpells
namespace Go.Proofs.Qxb6618129a.Acc
open Go.ChangeShapes Go.WideShapes Go.ChangeAt Go.RowKit

theorem info30 : (Try.prog.info? 30).map (fun i => (i.zero, i.size, i.bytes)) = some (some (.agg #[.int .i64 0, .bool false, .int .i64 0]), 3, 24) := by kernel_rfl

/-- An assignment as a value. -/
def agg (a : A3) : Value := .agg #[.int .i64 a.1, .bool a.2.1, .int .i64 a.2.2]

set_option maxHeartbeats 400000 in
theorem one_any (r : Int) (ad : Bool) (p : Int) (w : World) :
    Calls Try.prog 12 #[.agg #[.int .i64 r, .bool ad, .int .i64 p]] w fun e w' => e = .returned (.agg #[.int .i64 r, .bool ad, .int .i64 p]) ∧ Below w.heap.size w w' := by
  go_enter Try.func12, Try.ntmps12
  go_wp2
  exact bodyPost_ret (v := .agg #[.int .i64 r, .bool ad, .int .i64 p]) (by simp [results, Try.results12, go_sem]) rfl ⟨rfl, ((Below.refl _ _).alloc (Nat.le_refl _) _).alloc (by simp) _⟩

set_option maxHeartbeats 800000 in
theorem held_some (b off : Nat) (a : Addr) (n cap : Nat) (L : List A3) (w : World) (hn : L.length = n) (hs : n ≤ 16384) (hb : 0 < n → a = ⟨b, off, none⟩ ∧ b < w.heap.size) (hL : Lies w b off L) :
    Calls Try.prog 9 #[.slice (some a) n cap] w fun e w' => ∃ g, e = .returned (.slice (some ⟨g, 0, none⟩) n n) ∧ Own w' w.heap.size g n L ∧ Below w.heap.size w w' := by
  obtain ⟨i0, hi, hz0, hz1, hz2⟩ := info_parts info30
  have HL : Hid (Lies w b off L) := hL
  have HN : Hid (L.length = n) := hn
  have HB : Hid (0 < n → a = ⟨b, off, none⟩ ∧ b < w.heap.size) := hb
  clear hL hn hb
  have q22 : ∀ (w : World) (a : Option Addr) (n c n' c' : Nat), (binOp .eql 22 (.slice a n c) (.slice none n' c')).run Try.prog w = .ok (.bool a.isNone) w := fun w a n c n' c' => Lib.run_eql_slice_nil w _ _ a n c n' c' Try.underlying22
  go_enter Try.func9, Try.ntmps9
  go_wp2_with (first
    | (at_make; refine wpList_make_full _ rfl _ _ 26 rfl w.heap.size 30 i0 (.agg #[.int .i64 0, .bool false, .int .i64 0]) 3 Try.underlying26 hi hz0 hz1 .i64 .i64 _ _ n rfl rfl rfl rfl (by rw [hz2]; omega) (by unfold maxLen; omega) (Nat.le_refl _) ?_; intro w1 hown1 hgrow1))
  have hb1 : Below w.heap.size w w1 := (Below.refl _ _).grown hgrow1 (Nat.le_refl _) (by simp)
  have hown2 : Own w1 w.heap.size w.heap.size n (L.take 0 ++ List.replicate (n - 0) zer) := by
    refine ⟨by simp, ?_⟩
    simp only [List.take_zero, List.nil_append, Nat.sub_zero]
    rw [← flat_made]; exact hown1
  clear hown1 hgrow1
  go_loopw [4] (fun i wr => ∃ k : Nat, k ≤ n ∧ i = .int .i64 k ∧ Own wr w.heap.size w.heap.size n (L.take k ++ List.replicate (n - k) zer) ∧ Below w.heap.size w wr) (fun i _ => n - (intOf i).toNat)
  case atStart => exact ⟨0, Nat.zero_le _, rfl, hown2, hb1⟩
  case round =>
    clear hown2 hb1
    obtain ⟨k, hk, rfl, hown, hbl⟩ := hrel
    by_cases hlt : k < n
    · obtain ⟨rfl, hbw⟩ := HB.out (by omega)
      have hkL : k < L.length := by rw [HN.out]; exact hlt
      obtain ⟨c0, c1, c2⟩ := (HL.out.below hbw hbl) k hkL
      obtain ⟨⟨r, ad, p⟩, hx⟩ : ∃ x, x = L[k] := ⟨_, rfl⟩
      rw [← hx] at c0 c1 c2
      simp only at c0 c1 c2
      have HX := hid hx
      have HO := hid hown
      clear hx hown
      go_wp2_with (first
        | (go_at_call 12; go_must (refine (one_any r ad p _).mono ?_; rintro e w2 ⟨rfl, hb2⟩; have hO2 := HO.out.below hb2; obtain ⟨v0, v1, v2, d0, d1, d2⟩ := hO2.there k hlt; have f0 := hO2.free (k * 3); have f1 := hO2.free (k * 3 + 1); have f2 := hO2.free (k * 3 + 2); have HP : Hid (Own (put3 w2 w.heap.size k (r, ad, p)) w.heap.size w.heap.size n _) := hO2.put k hlt (r, ad, p); have HB2 : Hid (Below w.heap.size w (put3 w2 w.heap.size k (r, ad, p))) := below_put3 (hbl.trans (hb2.mono hbl.size)) (Nat.le_refl _) k (r, ad, p); clear hO2 HO hb2 hbl c0 c1 c2)))
      have HP2 : Own (put3 w2 w.heap.size k (r, ad, p)) w.heap.size w.heap.size n (L.take (k + 1) ++ List.replicate (n - (k + 1)) zer) := by
        rw [← fill_set L n k HN.out hlt (r, ad, p) HX.out]; exact HP.out
      go_roundw
      case rel => exact ⟨k + 1, by omega, by go_num, HP2, HB2.out⟩
      case measure => simp [intOf]; omega
    · have ek : k = n := by omega
      subst ek
      rw [fill_end L k HN.out] at hown
      have HO := hid hown
      clear hown
      go_wp2
      go_ret
      exact ⟨_, rfl, HO.out, hbl⟩

set_option maxHeartbeats 400000 in
theorem held_nil (w : World) :
    Calls Try.prog 9 #[.slice none 0 0] w fun e w' => e = .returned (.slice none 0 0) ∧ w' = w := by
  have q22 : ∀ (w : World) (a : Option Addr) (n c n' c' : Nat), (binOp .eql 22 (.slice a n c) (.slice none n' c')).run Try.prog w = .ok (.bool a.isNone) w := fun w a n c n' c' => Lib.run_eql_slice_nil w _ _ a n c n' c' Try.underlying22
  go_enter Try.func9, Try.ntmps9
  go_wp2
  go_ret
  exact ⟨rfl, rfl⟩

end Go.Proofs.Qxb6618129a.Acc

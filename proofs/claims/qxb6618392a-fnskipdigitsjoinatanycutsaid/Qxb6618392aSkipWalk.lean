/-
  The walks: skipDigits, ZZskipDigits, the law.
-/
import Derived.Test.Qxb6618392aRows
import Derived.Test.Qxb6618392aSkipPlain
import Derived.WalkKit
import Derived.ProofKit
import Derived.OpenShut
import Derived.ShutString
import Derived.WalkSpells
namespace Go.Proofs.Qxb6618392a.Skip
open Go.ChangeShapes Go.WideShapes Go.ChangeAt Go.RowKit

theorem hid {p : Prop} (h : p) : Hid p := h
theorem ret_int {k : IntKind} {a b : Int} (h : a = b) : Ending.returned (.int k a) = .returned (.int k b) := by rw [h]
theorem ret_bool {a b : Bool} (h : a = b) : Ending.returned (.bool a) = .returned (.bool b) := by rw [h]
theorem at_list (s : ByteArray) (k : Nat) (h : k < s.size) : s[k] = s.data.toList[k]'(by simpa using h) := rfl
theorem len_list (s : ByteArray) : s.data.toList.length = s.size := by simp

set_option maxHeartbeats 400000 in
theorem skip_any (s : ByteArray) (i : Nat) (w : World) (hs : s.size ≤ maxLen) :
    Calls Try.prog 7 #[.string s, .int .i64 i] w fun e w' => e = .returned (.int .i64 (skip s.data.toList i : Nat)) ∧ w' = w := by
  unfold maxLen at hs
  go_enter Try.func7, Try.ntmps7
  go_wp2
  go_loop [1] (fun j => ∃ k : Nat, j = .int .i64 k ∧ Hid (skip s.data.toList k = skip s.data.toList i)) (fun j => s.size - (intOf j).toNat)
  case atStart => exact ⟨i, rfl, rfl⟩
  case round =>
    obtain ⟨k, rfl, HK⟩ := hrel
    by_cases hlt : k < s.size
    · by_cases hd : 48 ≤ s[k].toNat ∧ s[k].toNat ≤ 57
      · obtain ⟨hd1, hd2⟩ := hd
        have HN := hid (skip_next s.data.toList k (by simpa using hlt) ((isD_iff _).2 ⟨by rw [← at_list s k hlt]; exact hd1, by rw [← at_list s k hlt]; exact hd2⟩))
        go_wp2
        go_round
        case rel => exact ⟨k + 1, by go_num, by rw [← HN.out]; exact HK.out⟩
        case measure => simp [intOf]; omega
      · have HN := hid (skip_here s.data.toList k (by simpa using hlt) (by rw [← at_list s k hlt]; simp only [isD]; simp; omega))
        by_cases hd1 : 48 ≤ s[k].toNat
        · have hd2 : ¬ s[k].toNat ≤ 57 := fun h => hd ⟨hd1, h⟩
          clear hd
          go_wp2
          go_ret
          exact ⟨ret_int (by rw [← HK.out, HN.out]), rfl⟩
        · clear hd
          go_wp2
          go_ret
          exact ⟨ret_int (by rw [← HK.out, HN.out]), rfl⟩
    · have HN := hid (skip_past s.data.toList k (by simp; omega))
      go_wp2
      go_ret
      exact ⟨ret_int (by rw [← HK.out, HN.out]), rfl⟩

/-- Behind a law's own number: where the run ends. -/
theorem zskip_any (s : ByteArray) (x : Int) (i : Nat) (w : World) (hx : x = (i : Int)) (hs : s.size ≤ maxLen) :
    Calls Try.prog 5 #[.string s, .int .i64 x] w fun e w' => ∃ n : Nat, e = .returned (.int .i64 n) ∧ n = skip s.data.toList i ∧ w' = w := by
  subst hx
  go_enter Try.func5, Try.ntmps5
  go_wp2_with (go_at_call 7; refine (skip_any s i _ hs).mono ?_; rintro e w ⟨rfl, rfl⟩)
  go_ret
  exact ⟨_, rfl, rfl, rfl⟩

set_option maxHeartbeats 1000000 in
theorem law_out (a b : ByteArray) (x : Int) (w : World) (ha : a.size ≤ maxLen) (hb : b.size ≤ maxLen) (hbad : 524288 < a.size ∨ 524288 < b.size ∨ x < 0) :
    Calls Try.prog 3 #[.string a, .string b, .int .i64 x] w fun e w' => e = .returned (.bool true) ∧ Below w.heap.size w w' := by
  unfold maxLen at ha hb
  have HB := hid hbad
  clear hbad
  by_cases h1 : 1048576 < a.size
  · go_enter Try.func3, Try.ntmps3
    go_wp2
    go_ret
    exact ⟨rfl, Below.refl _ _⟩
  by_cases h2 : 1048576 < b.size
  · go_enter Try.func3, Try.ntmps3
    go_wp2
    go_ret
    exact ⟨rfl, Below.refl _ _⟩
  by_cases h3 : 1048576 < a.size + b.size
  · go_enter Try.func3, Try.ntmps3
    go_wp2
    go_ret
    exact ⟨rfl, Below.refl _ _⟩
  by_cases h4 : 524288 < a.size
  · go_enter Try.func3, Try.ntmps3
    go_wp2
    go_ret
    exact ⟨rfl, Below.refl _ _⟩
  by_cases h5 : 524288 < b.size
  · go_enter Try.func3, Try.ntmps3
    go_wp2
    go_ret
    exact ⟨rfl, Below.refl _ _⟩
  by_cases h6 : x < 0
  · go_enter Try.func3, Try.ntmps3
    go_wp2
    go_ret
    exact ⟨rfl, Below.refl _ _⟩
  · have := HB.out; omega

theorem skip_any_bd (s : ByteArray) (i : Nat) : skip s.data.toList i ≤ s.size ∨ skip s.data.toList i = i := by
  by_cases h : i ≤ s.size
  · left
    have := skip_bd s.data.toList i (by simpa using h)
    rw [len_list] at this
    exact this.2
  · right
    exact skip_past _ _ (by rw [len_list]; omega)
theorem app_list (a b : ByteArray) : (a ++ b).data.toList = a.data.toList ++ b.data.toList := by
  simp
theorem app_size (a b : ByteArray) : (a ++ b).size = a.size + b.size := by simp

set_option maxHeartbeats 1000000 in
theorem law_past (a b : ByteArray) (i : Nat) (w : World) (ha : a.size ≤ 524288) (hb : b.size ≤ 524288) (hi : a.size ≤ i) (hi2 : (i : Int) ≤ 9223372036854775807) :
    Calls Try.prog 3 #[.string a, .string b, .int .i64 i] w fun e w' => e = .returned (.bool true) ∧ Below w.heap.size w w' := by
  have HR := hid (cut_past a.data.toList b.data.toList i (by simpa using hi))
  have HA := hid (skip_past a.data.toList i (by simpa using hi))
  have tok1 : True := trivial
  have tok2 : True := trivial
  have tok3 : True := trivial
  go_enter Try.func3, Try.ntmps3
  go_wp2_with (first
    | (go_at_call 5; have _t := tok1; clear tok1; go_must (refine (zskip_any (a ++ b) _ i _ rfl (by rw [app_size]; unfold maxLen; omega)).mono ?_; rintro e w ⟨r, rfl, hr, rfl⟩; have H1 := hid hr; clear hr))
    | (go_at_call 5; have _t := tok2; clear tok2; go_must (refine (zskip_any a _ i _ rfl (by unfold maxLen; omega)).mono ?_; rintro e w ⟨ra, rfl, hra, rfl⟩; obtain rfl := hra.trans HA.out; clear hra))
    | (go_at_call 5; have _t := tok3; clear tok3; go_must (refine (zskip_any b _ (ra - a.size) _ (by omega) (by unfold maxLen; omega)).mono ?_; rintro e w ⟨y, rfl, hy, rfl⟩; have hyb : (a.size : Int) + (y : Int) ≤ 9223372036854775807 := (by have := skip_any_bd b (ra - a.size); omega); have hry : r = a.size + y := (by rw [H1.out, app_list, HR.out, hy, len_list]); clear hy))
    | go_in)
  go_ret
  exact ⟨ret_bool (by simp), Below.refl _ _⟩

theorem digit_at (a : ByteArray) (i k : Nat) (h1 : i ≤ k) (h2 : k < skip a.data.toList i) (hk : k < a.size) : 48 ≤ a[k].toNat ∧ a[k].toNat ≤ 57 := by
  have := skip_digit a.data.toList i k h1 h2 (by simpa using hk)
  rw [← at_list a k hk] at this
  exact (isD_iff _).1 this
theorem stop_at (a : ByteArray) (i k : Nat) (hs : k = skip a.data.toList i) (hk : k < a.size) : a[k].toNat < 48 ∨ 57 < a[k].toNat := by
  subst hs
  have := skip_stop a.data.toList i (by simpa using hk)
  rw [← at_list a _ hk] at this
  unfold isD at this
  simp at this
  omega

set_option maxHeartbeats 2000000 in
theorem law_in (a b : ByteArray) (i : Nat) (w : World) (ha : a.size ≤ 524288) (hb : b.size ≤ 524288) (hi : i < a.size) :
    Calls Try.prog 3 #[.string a, .string b, .int .i64 i] w fun e w' => e = .returned (.bool true) ∧ Below w.heap.size w w' := by
  have HI := hid (cut_in a.data.toList b.data.toList i (by simpa using hi))
  have HO := hid (cut_out a.data.toList b.data.toList i (by simpa using hi))
  have HB := hid (skip_bd a.data.toList i (by rw [len_list]; omega))
  have tok1 : True := trivial
  have tok2 : True := trivial
  go_enter Try.func3, Try.ntmps3
  go_wp2_with (first
    | (go_at_call 5; have _t := tok1; clear tok1; go_must (refine (zskip_any (a ++ b) _ i _ rfl (by rw [app_size]; unfold maxLen; omega)).mono ?_; rintro e w ⟨r, rfl, hr, rfl⟩; have H1 := hid hr; clear hr))
    | (go_at_call 5; have _t := tok2; clear tok2; go_must (refine (zskip_any a _ i _ rfl (by unfold maxLen; omega)).mono ?_; rintro e w ⟨ra, rfl, hra, rfl⟩; have H2 := hid hra; clear hra; have hr1 : i ≤ ra := (by rw [H2.out]; exact HB.out.1); have hr2 : ra ≤ a.size := (by rw [H2.out, ← len_list]; exact HB.out.2)))
    | go_in)
  go_loop [10] (fun j => ∃ k : Nat, i ≤ k ∧ k ≤ ra ∧ j = .int .i64 k) (fun j => ra - (intOf j).toNat)
  case atStart => exact ⟨i, Nat.le_refl _, hr1, rfl⟩
  case round =>
    obtain ⟨k, hk1, hk2, rfl⟩ := hrel
    by_cases hlt : k < ra
    · have hka : k < a.size := by omega
      obtain ⟨d1, d2⟩ := digit_at a i k hk1 (by rw [← H2.out]; exact hlt) hka
      have d3 : decide ((a[k].toNat : Int) ≤ 57) = true := by simp; omega
      go_wp2
      go_round
      case rel => exact ⟨k + 1, by omega, by omega, by go_num⟩
      case measure => simp [intOf]; omega
    · obtain rfl : k = ra := by omega
      by_cases hra : k < a.size
      · have er : r = k := by
          rw [H1.out, app_list, HI.out (by rw [← H2.out, len_list]; exact hra), H2.out]
        subst er
        rcases stop_at a i r H2.out hra with hd | hd
        · go_wp2
          go_ret
          exact ⟨ret_bool (by simp), Below.refl _ _⟩
        · have hd' : 48 ≤ a[r].toNat := by omega
          go_wp2
          go_ret
          exact ⟨ret_bool (by simp), Below.refl _ _⟩
      · have ek : k = a.size := by omega
        have er : r = a.size + skip b.data.toList 0 := by
          rw [H1.out, app_list, HO.out (by rw [← H2.out, len_list]; exact ek), len_list]
        have HE := hid er
        have hbb := skip_bd b.data.toList 0 (Nat.zero_le _)
        rw [len_list] at hbb
        have HBB := hid hbb
        clear er hbb
        go_wp2_with (first
          | (go_at_call 5; go_must (refine (zskip_any b _ 0 _ rfl (by unfold maxLen; omega)).mono ?_; rintro e w ⟨y, rfl, hy, rfl⟩; have hyb : y ≤ 524288 := (by have := HBB.out; omega); have er := HE.out; rw [← hy] at er; subst er; clear hy HE))
          | go_in)
        go_ret
        exact ⟨ret_bool (by simp), Below.refl _ _⟩

theorem law_any (a b : ByteArray) (x : Int) (w : World) (ha : a.size ≤ maxLen) (hb : b.size ≤ maxLen) (hx : x ≤ 9223372036854775807) :
    Calls Try.prog 3 #[.string a, .string b, .int .i64 x] w fun e w' => e = .returned (.bool true) ∧ Below w.heap.size w w' := by
  by_cases hbad : 524288 < a.size ∨ 524288 < b.size ∨ x < 0
  · exact law_out a b x w ha hb hbad
  obtain ⟨i, rfl⟩ : ∃ j : Nat, x = j := ⟨x.toNat, by omega⟩
  by_cases hi : i < a.size
  · exact law_in a b i w (by omega) (by omega) hi
  · exact law_past a b i w (by omega) (by omega) (by omega) hx

end Go.Proofs.Qxb6618392a.Skip

/-
  Walks of the callees that only read: zzAllDigits, zzDigitSumMod9, zzPow2Mod9.
-/
import Derived.Test.Qxb6618026aRows
import Derived.Test.Qxb6618026aMulPlain
import Derived.WalkKit
import Derived.ProofKit
import Derived.OpenShut
import Derived.ShutString
namespace Go.Proofs.Qxb6618026a.Mul
open Go.ChangeShapes Go.WideShapes Go.ChangeAt Go.RowKit

theorem take_snoc (s : ByteArray) (k : Nat) (h : k < s.size) : s.data.toList.take (k + 1) = s.data.toList.take k ++ [s[k]] := by
  rw [List.take_succ_eq_append_getElem (by simpa using h)]; rfl
theorem take_all (s : ByteArray) (k : Nat) (h : s.size ≤ k) : s.data.toList.take k = s.data.toList :=
  List.take_of_length_le (by simpa using h)
theorem adB_take (s : ByteArray) (k : Nat) (h : k < s.size) (hs : adB (s.data.toList.take k) = true) (hd : isD s[k] = true) : adB (s.data.toList.take (k + 1)) = true := by
  rw [take_snoc s k h, adB_append]; exact ⟨hs, by simpa [adB] using hd⟩
theorem adB_no (s : ByteArray) (k : Nat) (h : k < s.size) (hd : isD s[k] = false) : adB s.data.toList = false := by
  cases e : adB s.data.toList with
  | false => rfl
  | true =>
    have := (List.all_eq_true.1 e) s[k] (by
      have : s[k] = s.data.toList[k]'(by simpa using h) := rfl
      rw [this]; exact List.getElem_mem _)
    rw [hd] at this; simp at this
theorem ret_bool {a b : Bool} (h : a = b) : Ending.returned (.bool a) = .returned (.bool b) := by rw [h]

set_option maxHeartbeats 400000 in
theorem all_any (s : ByteArray) (w : World) (hs : s.size ≤ maxLen) :
    Calls Try.prog 13 #[.string s] w fun e w' => e = .returned (.bool (adB s.data.toList)) ∧ w' = w := by
  unfold maxLen at hs
  go_enter Try.func13, Try.ntmps13
  go_wp2
  go_loop [3] (fun i => ∃ k : Nat, k ≤ s.size ∧ i = .int .i64 k ∧ adB (s.data.toList.take k) = true) (fun i => s.size - (intOf i).toNat)
  case atStart => exact ⟨0, Nat.zero_le _, rfl, rfl⟩
  case round =>
    obtain ⟨k, hk, rfl, hr⟩ := hrel
    by_cases hlt : k < s.size
    · have HT : Hid (adB (s.data.toList.take k) = true) := hr
      clear hr
      go_wp2
      · go_ret
        exact ⟨ret_bool (adB_no s k hlt (by simp [isD]; omega)).symm, rfl⟩
      · go_round
        case rel => exact ⟨k + 1, by omega, by go_num, adB_take s k hlt HT.out ((isD_iff _).2 (by omega))⟩
        case measure => simp [intOf]; omega
      · go_ret
        exact ⟨ret_bool (adB_no s k hlt (by simp [isD]; omega)).symm, rfl⟩
    · have HT : Hid (adB (s.data.toList.take k) = true) := hr
      clear hr
      go_wp2
      go_ret
      exact ⟨ret_bool (by rw [← take_all s k (by omega), HT.out]), rfl⟩

theorem ret_int {k : IntKind} {a b : Int} (h : a = b) : Ending.returned (.int k a) = .returned (.int k b) := by rw [h]

theorem sum9_step (s : ByteArray) (k : Nat) (h : k < s.size) (hd : isD s[k] = true) :
    ((val (s.data.toList.take k) % 9 : Nat) + ((s[k].toNat : Int) - 48)) % 9 = ((val (s.data.toList.take (k + 1)) % 9 : Nat) : Int) := by
  rw [take_snoc s k h, val_snoc]
  have := (isD_iff _).1 hd
  unfold dv
  omega
theorem isD_at (s : ByteArray) (h : adB s.data.toList = true) (k : Nat) (hk : k < s.size) : isD s[k] = true := by
  have : s[k] = s.data.toList[k]'(by simpa using hk) := rfl
  rw [this]
  exact (List.all_eq_true.1 h) _ (List.getElem_mem _)

set_option maxHeartbeats 400000 in
theorem sum9_any (s : ByteArray) (w : World) (hs : s.size ≤ maxLen) (had : adB s.data.toList = true) :
    Calls Try.prog 17 #[.string s] w fun e w' => e = .returned (.int .i64 (val s.data.toList % 9 : Nat)) ∧ w' = w := by
  unfold maxLen at hs
  have HA : Hid (adB s.data.toList = true) := had
  clear had
  go_enter Try.func17, Try.ntmps17
  go_wp2
  go_loop [3, 4] (fun m i => ∃ k : Nat, k ≤ s.size ∧ i = .int .i64 k ∧ m = .int .i64 (val (s.data.toList.take k) % 9 : Nat)) (fun _ i => s.size - (intOf i).toNat)
  case atStart => exact ⟨0, Nat.zero_le _, rfl, rfl⟩
  case round =>
    obtain ⟨k, hk, rfl, rfl⟩ := hrel
    have hb : val (s.data.toList.take k) % 9 < 9 := Nat.mod_lt _ (by omega)
    by_cases hlt : k < s.size
    · have h1 := isD_at s HA.out k hlt
      have h2 := (isD_iff _).1 h1
      have HS : Hid (((val (s.data.toList.take k) % 9 : Nat) + ((s[k].toNat : Int) - 48)) % 9 = ((val (s.data.toList.take (k + 1)) % 9 : Nat) : Int)) := sum9_step s k hlt h1
      clear h1
      obtain ⟨x, hx⟩ : ∃ x, x = val (s.data.toList.take k) % 9 := ⟨_, rfl⟩
      rw [← hx] at hb HS ⊢
      clear hx
      go_wp2
      go_round
      case rel => exact ⟨k + 1, by omega, by go_num, by rw [HS.out]⟩
      case measure => simp [intOf]; omega
    · go_wp2
      go_ret
      exact ⟨ret_int (by rw [take_all s k (by omega)]), rfl⟩

theorem pow_step (j : Nat) : 2 ^ j % 9 * 2 % 9 = 2 ^ (j + 1) % 9 := by
  rw [Nat.pow_succ]; omega

set_option maxHeartbeats 400000 in
theorem pow_any (n : Nat) (w : World) (hn : n ≤ 65536) :
    Calls Try.prog 18 #[.int .u64 n] w fun e w' => e = .returned (.int .i64 (2 ^ n % 9 : Nat)) ∧ w' = w := by
  go_enter Try.func18, Try.ntmps18
  go_wp2
  go_loop [3, 4] (fun p i => ∃ k x : Nat, k ≤ n % 6 ∧ i = .int .u64 k ∧ p = .int .i64 x ∧ x < 9 ∧ Hid (x = 2 ^ k % 9)) (fun _ i => n % 6 - (intOf i).toNat)
  case atStart => exact ⟨0, 1, Nat.zero_le _, rfl, rfl, by omega, rfl⟩
  case round =>
    obtain ⟨k, x, hk, rfl, rfl, hx, HX⟩ := hrel
    by_cases hlt : k < n % 6
    · have hlt' : (k : Int) < (n : Int) % 6 := by omega
      go_wp2
      go_round
      case rel => exact ⟨k + 1, x * 2 % 9, by omega, by go_num, by go_num, by omega, by rw [HX.out]; exact pow_step k⟩
      case measure => simp [intOf]; omega
    · have hlt' : ¬ (k : Int) < (n : Int) % 6 := by omega
      go_wp2
      go_ret
      have e2 : x = 2 ^ n % 9 := by rw [HX.out, pow2_mod9 n, show k = n % 6 by omega]
      exact ⟨ret_int (by rw [e2]; simp), rfl⟩

end Go.Proofs.Qxb6618026a.Mul

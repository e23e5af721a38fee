/-
  The walk of FnMultipliedUndoneByDividing.
-/
import Derived.Test.Qxb6618026aMulWalkC
namespace Go.Proofs.Qxb6618026a.Mul
open Go.ChangeShapes Go.WideShapes Go.ChangeAt Go.RowKit

/-- One division of the text: no remainder, four leading zeros, and the text of the step before. -/
theorem undo_step (a : List UInt8) (ha : adB a = true) (m : Nat) (c qs : List UInt8) (rem n : Nat) (hc : val c = val a * 1024 ^ (m + 1)) (hl : c.length = a.length + 4 * (m + 1)) (hn : qs.length = n) (hq : adB qs = true) (hlen : n = c.length) (hv : val c = val qs * 1024 + rem) (hrem : rem < 1024) :
    rem = 0 ∧ ∃ r, qs = 48 :: 48 :: 48 :: 48 :: r ∧ r.length = a.length + 4 * m ∧ val r = val a * 1024 ^ m ∧ adB r = true := by
  rw [hc, Nat.pow_succ, ← Nat.mul_assoc] at hv
  have h0 : rem = 0 := by omega
  have hvq : val qs = val a * 1024 ^ m := by omega
  have hlt : val qs < 10 ^ (a.length + 4 * m) := by
    rw [hvq, Nat.pow_add]
    have h1 := val_lt a ha
    have h2 := pow1024_le m
    have p : 0 < 1024 ^ m := Nat.pow_pos (by omega)
    exact Nat.lt_of_lt_of_le (Nat.mul_lt_mul_of_pos_right h1 p) (Nat.mul_le_mul_left _ h2)
  obtain ⟨r, e, hr, hvr, har⟩ := lead_four qs hq (a.length + 4 * m) (by omega) hlt
  exact ⟨h0, r, e, hr, by rw [hvr, hvq], har⟩

theorem toList_length (s : ByteArray) : s.data.toList.length = s.size := by simp

set_option maxHeartbeats 1000000 in
theorem undo_walk (a0 : ByteArray) (n : Nat) (w0 : a0.size ≤ maxLen) (w : World) :
    Calls Try.prog 5 #[.string a0, .int .u64 n] w fun e w' => e = .returned (.bool true) ∧ Below w.heap.size w w' := by
  unfold maxLen at w0
  by_cases hA : 1048576 < a0.size
  · go_enter Try.func5, Try.ntmps5
    go_wp2
    go_ret
    exact ⟨rfl, Below.refl _ _⟩
  by_cases hB : 4096 < a0.size
  · go_enter Try.func5, Try.ntmps5
    go_wp2
    go_ret
    exact ⟨rfl, Below.refl _ _⟩
  by_cases hC : 65536 < n
  · go_enter Try.func5, Try.ntmps5
    go_wp2
    go_ret
    exact ⟨rfl, Below.refl _ _⟩
  by_cases hD : n % 10 = 0
  · obtain ⟨K, rfl⟩ : ∃ K, n = 10 * K := ⟨n / 10, by omega⟩
    by_cases hE : adB a0.data.toList = true
    · have HE : Hid (adB a0.data.toList = true) := hE
      go_enter Try.func5, Try.ntmps5
      go_wp2_with (first
        | (go_at_call 13; refine (all_any _ _ (by unfold maxLen; omega)).mono ?_; rintro e w ⟨rfl, rfl⟩)
        | (go_at_call 14; clear hE; refine (zmul_any a0 K _ (by omega) (by omega) HE.out).mono ?_; rintro e w1 ⟨t, rfl, hts, hta, htv, hb1⟩; have HTS : Hid (t.size = a0.size + 4 * K) := hts; have HTA : Hid (adB t.data.toList = true) := hta; clear hta; have HTV : Hid (val t.data.toList = val a0.data.toList * 1024 ^ K) := htv; clear htv)
        | go_in)
      clear hts
      go_loopw [7, 8] (fun d i wr => ∃ (c : ByteArray) (j : Nat), j ≤ K ∧ d = .string c ∧ i = .int .i64 j ∧ c.size ≤ 100000 ∧ Hid (c.size = a0.size + 4 * (K - j)) ∧ Hid (adB c.data.toList = true) ∧ Hid (val c.data.toList = val a0.data.toList * 1024 ^ (K - j)) ∧ Below w.heap.size w wr) (fun _ i _ => K - (intOf i).toNat)
      case atStart => exact ⟨t, 0, Nat.zero_le _, rfl, rfl, by have := HTS.out; omega, HTS, HTA, HTV, hb1⟩
      case round =>
        clear hb1 HTS HTA HTV
        obtain ⟨c, j, hj, rfl, rfl, hcs, HS, HA, HV, hb⟩ := hrel
        rename World => wo
        by_cases hlt : j < K
        · obtain ⟨m, hm⟩ : ∃ m, K - j = m + 1 := ⟨K - j - 1, by omega⟩
          have HM : Hid (K - j = m + 1) := hm
          clear hm
          have h4 : 4 ≤ c.size := by have := HS.out; have := HM.out; omega
          have hgb : w.heap.size ≤ wo.heap.size := hb.size
          go_wp2_with (first
            | (go_at_call 15; refine (div_any c _ (by omega) HA.out).mono ?_; rintro e w2 ⟨qs, rem, rfl, hql, hqa, hqv, hrem, hown, hb2⟩; obtain ⟨h0, r, hr, hrl, hrv, hra⟩ := undo_step a0.data.toList HE.out m c.data.toList qs rem c.size (by rw [HV.out, HM.out]) (by rw [toList_length, toList_length, HS.out, HM.out]) hql hqa (toList_length c).symm hqv hrem; subst h0; subst hr; have hc0 := hown.cellAt 0 (by omega); have hc1 := hown.cellAt 1 (by omega); have hc2 := hown.cellAt 2 (by omega); have hc3 := hown.cellAt 3 (by omega); simp [enc] at hc0 hc1 hc2 hc3; have hcv := backAt w2 wo.heap.size wo.heap.size c.size 4 _ hql hown r rfl (c.size - 4) (c.size - 4) (by simp at hql; omega); have hcvE := run_convert_bytes_back (P := Try.prog) w2 22 9 5 ⟨wo.heap.size, 0, none⟩ 0 [] Try.underlying22 Try.underlying5 Try.underlying9 (fun j hj => by simp at hj); simp only [List.length_nil] at hcvE; have HRL : Hid (r.length + 4 = c.size) := hql; have HR1 : Hid _ := hrl; have HR2 : Hid _ := hrv; have HR3 : Hid _ := hra; have HB : Below w.heap.size w w2 := hb.trans (hb2.mono hgb); clear hql hqa hqv hrem hown hb2 hrl hrv hra hb))
          · have e1 := HS.out
            have e2 := HM.out
            have e3 := HRL.out
            have e4 := HR1.out
            have e5 := HR2.out
            have e6 := toList_length a0
            have em : K - (j + 1) = m := by omega
            have er : r = [] := List.length_eq_zero_iff.1 (by omega)
            rw [er] at e4 e5
            go_roundw
            case rel =>
              exact ⟨⟨#[]⟩, j + 1, by omega, rfl, by go_num, Nat.zero_le _, by rw [em, ← e6]; exact e4, rfl, by rw [em]; simpa [Hid] using e5, HB⟩
            case measure => simp [intOf]; omega
          · have e1 := HS.out
            have e2 := HM.out
            have e3 := HRL.out
            have e4 := HR1.out
            have e5 := HR2.out
            have e6 := toList_length a0
            have e7 : (ByteArray.mk r.toArray).size = r.length := rfl
            have em : K - (j + 1) = m := by omega
            go_roundw
            case rel =>
              exact ⟨⟨r.toArray⟩, j + 1, by omega, rfl, by go_num, by omega, by rw [em, ← e6]; simp only [Hid]; omega, HR3, by rw [em]; exact e5, HB⟩
            case measure => simp [intOf]; omega
        · have ej : j = K := by omega
          have hk0 : K - j = 0 := by omega
          have hfin : c.data.toList = a0.data.toList := by
            have e1 := HS.out
            have e2 := HV.out
            rw [hk0] at e1 e2
            exact val_inj _ _ HA.out HE.out (by rw [toList_length, toList_length]; omega) (by simpa using e2)
          have hca : c = a0 := by
            cases c; cases a0; simp_all
          subst hca
          clear hk0 ej hfin
          go_wp2
          go_ret
          exact ⟨by simp, hb⟩
    · have hE' : adB a0.data.toList = false := by simpa using hE
      clear hE
      go_enter Try.func5, Try.ntmps5
      go_wp2_with (first
        | (go_at_call 13; refine (all_any _ _ (by unfold maxLen; omega)).mono ?_; rintro e w ⟨rfl, rfl⟩)
        | go_in)
      go_ret
      exact ⟨rfl, Below.refl _ _⟩
  · have hD' : ¬ ((n : Int) % 10 = 0) := by omega
    go_enter Try.func5, Try.ntmps5
    go_wp2
    go_ret
    exact ⟨rfl, Below.refl _ _⟩

end Go.Proofs.Qxb6618026a.Mul

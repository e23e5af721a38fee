/-
  The walk of FnMultipliedComposes.
-/
import Derived.Test.Qxb6618026aMulWalkC
namespace Go.Proofs.Qxb6618026a.Mul
open Go.ChangeShapes Go.WideShapes Go.ChangeAt Go.RowKit

/-- The plain law: two texts made in one step and in two. -/
theorem comp_same (s t u v : ByteArray) (A B : Nat) (h1 : t.size = s.size + 4 * A) (h2 : val t.data.toList = val s.data.toList * 1024 ^ A)
    (h3 : u.size = t.size + 4 * B) (h4 : val u.data.toList = val t.data.toList * 1024 ^ B) (h5 : adB u.data.toList = true)
    (h6 : v.size = s.size + 4 * (A + B)) (h7 : val v.data.toList = val s.data.toList * 1024 ^ (A + B)) (h8 : adB v.data.toList = true) : u = v := by
  have e : u.data.toList = v.data.toList := by
    refine val_inj _ _ h5 h8 ?_ ?_
    · have a1 : u.data.toList.length = u.size := by simp
      have a2 : v.data.toList.length = v.size := by simp
      omega
    · rw [h4, h2, h7, Nat.pow_add, Nat.mul_assoc]
  cases u; cases v; simp_all

theorem nine_same (s v C : Nat) (h : v = s * 1024 ^ C) : v % 9 = s % 9 * (2 ^ (10 * C) % 9) % 9 := by
  rw [h, pow1024, Nat.mul_mod]

theorem zmul_at (s : ByteArray) (x : Int) (K : Nat) (w : World) (hx : x = ((10 * K : Nat) : Int)) (hs : s.size ≤ 100000) (hK : K ≤ 6600) (had : adB s.data.toList = true) :
    Calls Try.prog 14 #[.string s, .int .u64 x] w fun e w' => ∃ t : ByteArray, e = .returned (.string t) ∧
      t.size = s.size + 4 * K ∧ adB t.data.toList = true ∧ val t.data.toList = val s.data.toList * 1024 ^ K ∧ Below w.heap.size w w' := by
  subst hx; exact zmul_any s K w hs hK had
theorem pow_at (x : Int) (n : Nat) (w : World) (hx : x = (n : Int)) (hn : n ≤ 65536) :
    Calls Try.prog 18 #[.int .u64 x] w fun e w' => ∃ p : Nat, e = .returned (.int .i64 p) ∧ p = 2 ^ n % 9 ∧ p < 9 ∧ w' = w := by
  subst hx; exact (pow_any n w hn).mono fun e w' h => ⟨_, h.1, rfl, Nat.mod_lt _ (by omega), h.2⟩
theorem sum9_at (s : ByteArray) (w : World) (hs : s.size ≤ maxLen) (had : adB s.data.toList = true) :
    Calls Try.prog 17 #[.string s] w fun e w' => ∃ p : Nat, e = .returned (.int .i64 p) ∧ p = val s.data.toList % 9 ∧ p < 9 ∧ w' = w :=
  (sum9_any s w hs had).mono fun e w' h => ⟨_, h.1, rfl, Nat.mod_lt _ (by omega), h.2⟩

set_option maxHeartbeats 1000000 in
theorem comp_walk (a0 : ByteArray) (n m : Nat) (w0 : a0.size ≤ maxLen) (w : World) :
    Calls Try.prog 6 #[.string a0, .int .u64 n, .int .u64 m] w fun e w' => e = .returned (.bool true) ∧ Below w.heap.size w w' := by
  unfold maxLen at w0
  by_cases hA : 1048576 < a0.size
  · go_enter Try.func6, Try.ntmps6
    go_wp2
    go_ret
    exact ⟨rfl, Below.refl _ _⟩
  by_cases hB : 4096 < a0.size
  · go_enter Try.func6, Try.ntmps6
    go_wp2
    go_ret
    exact ⟨rfl, Below.refl _ _⟩
  by_cases hC : 32768 < n
  · go_enter Try.func6, Try.ntmps6
    go_wp2
    go_ret
    exact ⟨rfl, Below.refl _ _⟩
  by_cases hC2 : 32768 < m
  · go_enter Try.func6, Try.ntmps6
    go_wp2
    go_ret
    exact ⟨rfl, Below.refl _ _⟩
  by_cases hD : n % 10 = 0
  · by_cases hD2 : m % 10 = 0
    · obtain ⟨K, rfl⟩ : ∃ K, n = 10 * K := ⟨n / 10, by omega⟩
      obtain ⟨L, rfl⟩ : ∃ L, m = 10 * L := ⟨m / 10, by omega⟩
      clear hD hD2
      by_cases hE : adB a0.data.toList = true
      · have HE : Hid (adB a0.data.toList = true) := hE
        have tok1 : True := trivial
        have tok2 : True := trivial
        have tok3 : True := trivial
        have tok4 : True := trivial
        have tok5 : True := trivial
        go_enter Try.func6, Try.ntmps6
        go_wp2_with (first
          | (go_at_call 13; refine (all_any _ _ (by unfold maxLen; omega)).mono ?_; rintro e w ⟨rfl, rfl⟩)
          | (go_at_call 14; have _t := tok1; clear hE; refine (zmul_any a0 K _ (by omega) (by omega) HE.out).mono ?_; rintro e w1 ⟨t, rfl, hts, hta, htv, hb1⟩; have HTS : Hid (t.size = a0.size + 4 * K) := hts; have HTA : Hid (adB t.data.toList = true) := hta; clear hta; have HTV : Hid (val t.data.toList = val a0.data.toList * 1024 ^ K) := htv; clear htv; clear tok1)
          | (go_at_call 14; have _t := tok2; refine (zmul_any t L _ (by omega) (by omega) HTA.out).mono ?_; rintro e w2 ⟨u, rfl, hus, hua, huv, hb2⟩; have HUS : Hid (u.size = t.size + 4 * L) := hus; have HUA : Hid (adB u.data.toList = true) := hua; clear hua; have HUV : Hid (val u.data.toList = val t.data.toList * 1024 ^ L) := huv; clear huv hus; clear tok2)
          | (go_at_call 14; have _t := tok3; refine (zmul_at a0 _ (K + L) _ (by omega) (by omega) (by omega) HE.out).mono ?_; rintro e w3 ⟨v, rfl, hvs, hva, hvv, hb3⟩; obtain rfl := comp_same a0 t u v K L HTS.out HTV.out HUS.out HUV.out HUA.out hvs hvv hva; have HVV : Hid (val u.data.toList = val a0.data.toList * 1024 ^ (K + L)) := hvv; clear hvv HTS HTV HUS HUV hts; clear tok3)
          | (go_at_call 17; have _t := tok4; clear hva; refine (sum9_at u _ (by unfold maxLen; omega) HUA.out).mono ?_; rintro e w4 ⟨x, rfl, hx, hx9, rfl⟩; have HX : Hid (x = val u.data.toList % 9) := hx; clear hx; clear tok4)
          | (go_at_call 17; have _t := tok5; refine (sum9_at a0 _ (by unfold maxLen; omega) HE.out).mono ?_; rintro e w4 ⟨y, rfl, hy, hy9, rfl⟩; have HY : Hid (y = val a0.data.toList % 9) := hy; clear hy; clear tok5)
          | (go_at_call 18; refine (pow_at _ (10 * (K + L)) _ (by omega) (by omega)).mono ?_; rintro e w4 ⟨p, rfl, hp, hp9, rfl⟩; have HP : Hid (p = 2 ^ (10 * (K + L)) % 9) := hp; clear hp; have hyp : y * p ≤ 64 := Nat.mul_le_mul (show y ≤ 8 by omega) (show p ≤ 8 by omega))
          | go_in)
        go_ret
        refine ⟨?_, ?_⟩
        · have e : x = y * p % 9 := by
            rw [HX.out, HY.out, HP.out]; exact nine_same _ _ _ HVV.out
          have e' : (x : Int) = (y : Int) * (p : Int) % 9 := by rw [e]; simp
          exact ret_bool (by rw [e']; simp)
        · have s1 := hb1.size
          have s2 := hb2.size
          exact (hb1.trans (hb2.mono s1)).trans (hb3.mono (Nat.le_trans s1 s2))
      · have hE' : adB a0.data.toList = false := by simpa using hE
        clear hE
        go_enter Try.func6, Try.ntmps6
        go_wp2_with (first
          | (go_at_call 13; refine (all_any _ _ (by unfold maxLen; omega)).mono ?_; rintro e w ⟨rfl, rfl⟩)
          | go_in)
        go_ret
        exact ⟨rfl, Below.refl _ _⟩
    · have hD' : (n : Int) % 10 = 0 := by omega
      have hD2' : ¬ ((m : Int) % 10 = 0) := by omega
      go_enter Try.func6, Try.ntmps6
      go_wp2
      go_ret
      exact ⟨rfl, Below.refl _ _⟩
  · have hD' : ¬ ((n : Int) % 10 = 0) := by omega
    go_enter Try.func6, Try.ntmps6
    go_wp2
    go_ret
    exact ⟨rfl, Below.refl _ _⟩

end Go.Proofs.Qxb6618026a.Mul

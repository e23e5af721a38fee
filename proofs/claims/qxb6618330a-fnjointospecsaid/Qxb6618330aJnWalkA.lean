/-
  Walks: joinToSeen, joinToLast, joinToLastIndex.
-/
import Derived.Test.Qxb6618330aJnBase
import Derived.Test.Qxb6618330aJnPlain
namespace Go.Proofs.Qxb6618330a.Jn
open Go.ChangeShapes Go.WideShapes Go.ChangeAt Go.RowKit

theorem toList_data (s : ByteArray) : s.toList = s.data.toList := ByteArray.toList_eq s
theorem str_eq (s t : ByteArray) (h : (s.toList == t.toList) = true) : s = t := by
  rw [toList_data, toList_data] at h
  exact bytes_inj (by simpa using h)
theorem str_ne (s t : ByteArray) (h : (s.toList == t.toList) = false) : s ≠ t := fun e => by
  subst e; simp at h
theorem str_eqB {s t : ByteArray} (h : s = t) : (s.toList == t.toList) = true := by subst h; simp
theorem str_neB {s t : ByteArray} (h : s ≠ t) : (s.toList == t.toList) = false := by
  cases e : (s.toList == t.toList) with
  | false => rfl
  | true => exact absurd (str_eq s t e) h

theorem take_next {α : Type} (l : List α) (k : Nat) (h : k < l.length) : l.take (k + 1) = l.take k ++ [l[k]] := List.take_succ_eq_append_getElem h

abbrev strs (xs : List ByteArray) : List Value := xs.map Value.string
abbrev nums (xs : List Int) : List Value := xs.map (Value.int .i64)

set_option maxHeartbeats 400000 in
theorem seen_any (ao : Option Addr) (n c k : Nat) (xs : List ByteArray) (s : ByteArray) (w : World) (hk : k ≤ xs.length) (hn : xs.length = n) (hs : n ≤ 1048576) (hR : VRow w ao (strs xs)) :
    Calls Try.prog 6 #[.slice ao n c, .int .i64 k, .string s] w fun e w' => e = .returned (.bool (seen (xs.take k) s)) ∧ w' = w := by
  have HR := hid hR
  have HN := hid hn
  have hkn : k ≤ n := by omega
  clear hR hn hk
  go_enter Try.func6, Try.ntmps6
  go_wp2
  go_loop [7] (fun i => ∃ j : Nat, j ≤ k ∧ i = .int .i64 j ∧ Hid (seen (xs.take j) s = false)) (fun i => k - (intOf i).toNat)
  case atStart => exact ⟨0, Nat.zero_le _, rfl, rfl⟩
  case round =>
    obtain ⟨j, hj, rfl, HS⟩ := hrel
    by_cases hlt : j < k
    · have hjx : j < xs.length := by rw [HN.out]; omega
      obtain ⟨b, off, rfl, hb, hc⟩ := HR.out.at (by simp; omega)
      have c0 := hc j (by simpa using hjx)
      rw [List.getElem_map] at c0
      obtain ⟨t, ht⟩ : ∃ t, t = xs[j] := ⟨_, rfl⟩
      rw [← ht] at c0
      have HT := hid ht
      have hjn : j < n := by omega
      clear hc ht
      have hst : seen (xs.take (j + 1)) s = (seen (xs.take j) s || decide (t = s)) := by rw [take_next xs j hjx, seen_snoc, HT.out]
      have HST := hid hst
      clear hst
      cases he : (t.toList == s.toList)
      · have HE := hid (str_ne t s he)
        go_wp2
        go_round
        case rel => exact ⟨j + 1, by omega, by go_num, by simp [Hid, HST.out, HS.out, HE.out]⟩
        case measure => simp [intOf]; omega
      · have HE := hid (str_eq t s he)
        go_wp2
        go_ret
        refine ⟨ret_bool ?_, rfl⟩
        have : s ∈ xs.take k := by
          rw [← HE.out, HT.out]
          exact List.mem_take_iff_getElem.2 ⟨j, by omega, rfl⟩
        exact ((seen_mem _ _).2 this).symm
    · obtain rfl : j = k := by omega
      go_wp2
      go_ret
      exact ⟨ret_bool HS.out.symm, rfl⟩

/-- The first m pairs of two rows. -/
abbrev pairs (names : List ByteArray) (vals : List Int) : List (ByteArray × Int) := names.zip vals

set_option maxHeartbeats 400000 in
theorem last_any (ao : Option Addr) (n c : Nat) (bo : Option Addr) (n2 c2 m : Nat) (names : List ByteArray) (vals : List Int) (s : ByteArray) (w : World) (hm1 : m ≤ names.length) (hm2 : m ≤ vals.length)
    (hn : names.length = n) (hn2 : vals.length = n2) (hs : n ≤ 1048576) (hR : VRow w ao (strs names)) (hR2 : VRow w bo (nums vals)) :
    Calls Try.prog 7 #[.slice ao n c, .slice bo n2 c2, .int .i64 m, .string s] w fun e w' => e = .returned (.tuple #[.int .i64 ((last ((pairs names vals).take m) s).getD 0), .bool (last ((pairs names vals).take m) s).isSome]) ∧ w' = w := by
  have HR := hid hR
  have HR2 := hid hR2
  have HN := hid hn
  have HN2 := hid hn2
  have hmn : m ≤ n := by omega
  have hmn2 : m ≤ n2 := by omega
  clear hR hR2 hn hn2 hm1 hm2
  go_enter Try.func7, Try.ntmps7
  go_wp2
  go_loop [10] (fun i => ∃ j : Nat, j ≤ m ∧ i = .int .i64 ((j : Int) - 1) ∧ Hid (last ((pairs names vals).take m) s = last ((pairs names vals).take j) s)) (fun i => (intOf i + 1).toNat)
  case atStart => exact ⟨m, Nat.le_refl _, rfl, rfl⟩
  case round =>
    obtain ⟨j, hj, rfl, HS⟩ := hrel
    by_cases hlt : 0 < j
    · obtain ⟨i, rfl⟩ : ∃ i, j = i + 1 := ⟨j - 1, by omega⟩
      have hi1 : i < names.length := by rw [HN.out]; omega
      have hi2 : i < vals.length := by rw [HN2.out]; omega
      obtain ⟨b, off, rfl, hb, hc⟩ := HR.out.at (by simp; omega)
      obtain ⟨b2, off2, rfl, hb2, hc2⟩ := HR2.out.at (by simp; omega)
      have c0 := hc i (by simpa using hi1)
      have c1 := hc2 i (by simpa using hi2)
      rw [List.getElem_map] at c0 c1
      obtain ⟨t, ht⟩ : ∃ t, t = names[i] := ⟨_, rfl⟩
      obtain ⟨x, hx⟩ : ∃ x, x = vals[i] := ⟨_, rfl⟩
      rw [← ht] at c0
      rw [← hx] at c1
      have hz : i < (pairs names vals).length := by simp; omega
      have hst : last ((pairs names vals).take (i + 1)) s = if t = s then some x else last ((pairs names vals).take i) s := by
        rw [take_next _ i hz, last_snoc, List.getElem_zip, ht, hx]
      have HST := hid hst
      have ei : ((i + 1 : Nat) : Int) - 1 = (i : Int) := by omega
      rw [ei]
      have hin : i < n := by omega
      have hin2 : i < n2 := by omega
      clear hc hc2 ht hx hst hz
      cases he : (t.toList == s.toList)
      · have HE := hid (str_ne t s he)
        go_wp2
        go_round
        case rel => exact ⟨i, by omega, rfl, by rw [HS.out, HST.out, if_neg HE.out]; rfl⟩
        case measure => simp [intOf]
      · have HE := hid (str_eq t s he)
        go_wp2
        go_ret2
        exact ⟨by rw [HS.out, HST.out, if_pos HE.out]; rfl, rfl⟩
    · obtain rfl : j = 0 := by omega
      go_wp2
      go_ret2
      exact ⟨by rw [HS.out]; rfl, rfl⟩

theorem last_is (ao : Option Addr) (n c : Nat) (bo : Option Addr) (n2 c2 m : Nat) (names : List ByteArray) (vals : List Int) (s : ByteArray) (w : World) (hm1 : m ≤ names.length) (hm2 : m ≤ vals.length)
    (hn : names.length = n) (hn2 : vals.length = n2) (hs : n ≤ 1048576) (hR : VRow w ao (strs names)) (hR2 : VRow w bo (nums vals)) (x : Int) (y : Bool) (hx : (last ((pairs names vals).take m) s).getD 0 = x) (hy : (last ((pairs names vals).take m) s).isSome = y) :
    Calls Try.prog 7 #[.slice ao n c, .slice bo n2 c2, .int .i64 m, .string s] w fun e w' => e = .returned (.tuple #[.int .i64 x, .bool y]) ∧ w' = w := by
  subst hx hy
  exact last_any ao n c bo n2 c2 m names vals s w hm1 hm2 hn hn2 hs hR hR2
theorem seen_is (ao : Option Addr) (n c k : Nat) (xs : List ByteArray) (s : ByteArray) (w : World) (hk : k ≤ xs.length) (hn : xs.length = n) (hs : n ≤ 1048576) (hR : VRow w ao (strs xs)) (y : Bool) (hy : seen (xs.take k) s = y) :
    Calls Try.prog 6 #[.slice ao n c, .int .i64 k, .string s] w fun e w' => e = .returned (.bool y) ∧ w' = w := by
  subst hy
  exact seen_any ao n c k xs s w hk hn hs hR

set_option maxHeartbeats 400000 in
theorem lastIdx_any (ao : Option Addr) (n c : Nat) (xs : List ByteArray) (s : ByteArray) (w : World) (hn : xs.length = n) (hs : n ≤ 1048576) (hR : VRow w ao (strs xs)) (hin : s ∈ xs) :
    Calls Try.prog 15 #[.slice ao n c, .string s] w fun e w' => ∃ i : Nat, e = .returned (.int .i64 i) ∧ (∃ h : i < xs.length, xs[i] = s) ∧ (∀ j (hj : j < xs.length), i < j → xs[j] ≠ s) ∧ w' = w := by
  have HR := hid hR
  have HN := hid hn
  have HI := hid hin
  clear hR hn hin
  go_enter Try.func15, Try.ntmps15
  go_wp2
  go_loop [5] (fun i => ∃ j : Nat, j ≤ n ∧ i = .int .i64 ((j : Int) - 1) ∧ Hid (∀ g (hg : g < xs.length), j ≤ g → xs[g] ≠ s)) (fun i => (intOf i + 1).toNat)
  case atStart => exact ⟨n, Nat.le_refl _, rfl, fun g hg h => by have := HN.out; omega⟩
  case round =>
    obtain ⟨j, hj, rfl, HS⟩ := hrel
    by_cases hlt : 0 < j
    · obtain ⟨i, rfl⟩ : ∃ i, j = i + 1 := ⟨j - 1, by omega⟩
      have hi1 : i < xs.length := by rw [HN.out]; omega
      obtain ⟨b, off, rfl, hb, hc⟩ := HR.out.at (by simp; omega)
      have c0 := hc i (by simpa using hi1)
      rw [List.getElem_map] at c0
      obtain ⟨t, ht⟩ : ∃ t, t = xs[i] := ⟨_, rfl⟩
      rw [← ht] at c0
      have HT := hid ht
      have ei : ((i + 1 : Nat) : Int) - 1 = (i : Int) := by omega
      rw [ei]
      have hin : i < n := by omega
      clear hc ht
      cases he : (t.toList == s.toList)
      · have HE := hid (str_ne t s he)
        go_wp2
        go_round
        case rel =>
          refine ⟨i, by omega, rfl, fun g hg h => ?_⟩
          by_cases hgi : g = i
          · subst hgi; rw [← HT.out]; exact HE.out
          · exact HS.out g hg (by omega)
        case measure => simp [intOf]
      · have HE := hid (str_eq t s he)
        go_wp2
        go_ret
        exact ⟨i, rfl, ⟨hi1, by rw [← HT.out]; exact HE.out⟩, fun g hg h => HS.out g hg (by omega), rfl⟩
    · obtain rfl : j = 0 := by omega
      exfalso
      obtain ⟨g, hg, e⟩ := List.mem_iff_getElem.1 HI.out
      exact HS.out g hg (Nat.zero_le _) e

end Go.Proofs.Qxb6618330a.Jn

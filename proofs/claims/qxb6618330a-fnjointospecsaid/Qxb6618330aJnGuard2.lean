/-
  The walk of joinToWithin.
-/
import Derived.Test.Qxb6618330aJnGuard
namespace Go.Proofs.Qxb6618330a.Jn
open Go.ChangeShapes Go.WideShapes Go.ChangeAt Go.RowKit

/-- It answers a bool; where that is true, the sizes are small. -/
def WithinB (n1 n2 n3 n4 n5 : Nat) (rs : List (List ByteArray)) (w : World) (e : Ending) (w' : World) : Prop :=
  ∃ r : Bool, e = .returned (.bool r) ∧ (r = true → n1 ≤ 4096 ∧ n2 ≤ 4096 ∧ n3 ≤ 4096 ∧ n4 ≤ 4096 ∧ n5 ≤ 4096 ∧ ∀ ss ∈ rs, ss.length ≤ 1048576) ∧ w' = w

set_option maxRecDepth 100000 in
set_option maxHeartbeats 8000000 in
theorem within_any (a1 : Option Addr) (n1 c1 : Nat) (h1 : List ByteArray) (a2 : Option Addr) (n2 c2 : Nat) (h2 : List ByteArray) (a3 : Option Addr) (n3 c3 : Nat) (vs : List Value) (rs : List (List ByteArray)) (a4 : Option Addr) (n4 c4 : Nat) (h4 : List ByteArray) (a5 : Option Addr) (n5 c5 : Nat) (w : World)
    (hA : ArgsIn w a1 n1 h1 a2 n2 h2 a3 n3 vs rs a4 n4 h4 n5) :
    Calls Try.prog 5 #[.slice a1 n1 c1, .slice a2 n2 c2, .slice a3 n3 c3, .slice a4 n4 c4, .slice a5 n5 c5] w fun e w' => WithinB n1 n2 n3 n4 n5 rs w e w' := by
  have m1 := hA.m1
  have m2 := hA.m2
  have m3 := hA.m3
  have m4 := hA.m4
  have m5 := hA.m5
  unfold maxLen at m1 m2 m3 m4 m5
  have HA := hid hA
  clear hA
  by_cases q1 : 4096 < n1
  · go_enter Try.func5, Try.ntmps5
    go_wp2
    go_ret
    exact ⟨_, rfl, fun h => (by simp at h), rfl⟩
  by_cases q2 : 4096 < n2
  · go_enter Try.func5, Try.ntmps5
    go_wp2
    go_ret
    exact ⟨_, rfl, fun h => (by simp at h), rfl⟩
  by_cases q3 : 4096 < n3
  · go_enter Try.func5, Try.ntmps5
    go_wp2
    go_ret
    exact ⟨_, rfl, fun h => (by simp at h), rfl⟩
  by_cases q4 : 4096 < n4
  · go_enter Try.func5, Try.ntmps5
    go_wp2
    go_ret
    exact ⟨_, rfl, fun h => (by simp at h), rfl⟩
  by_cases q5 : 4096 < n5
  · go_enter Try.func5, Try.ntmps5
    go_wp2
    go_ret
    exact ⟨_, rfl, fun h => (by simp at h), rfl⟩
  go_enter Try.func5, Try.ntmps5
  go_wp2
  go_loop [11, 12] (fun t i => ∃ (z : Int) (j : Nat), 0 ≤ z ∧ z ≤ 1048576 ∧ j ≤ n1 ∧ t = .int .i64 z ∧ i = .int .i64 j) (fun _ i => n1 - (intOf i).toNat)
  case atStart => exact ⟨_, 0, by omega, by omega, Nat.zero_le _, rfl, rfl⟩
  case round =>
    obtain ⟨z, j, hz0, hz1, hj, rfl, rfl⟩ := hrel
    by_cases hlt : j < n1
    · obtain ⟨b, off, t, e1, c0, hts⟩ := str_at HA.out.r1 HA.out.s1 j (by rw [HA.out.l1]; exact hlt)
      subst e1
      unfold maxLen at hts
      by_cases hb : 1048576 - z < t.size
      · go_wp2
        go_ret
        exact ⟨_, rfl, fun h => (by simp at h), rfl⟩
      · go_wp2
        go_round
        case rel => exact ⟨_, j + 1, by omega, by omega, by omega, rfl, by go_num⟩
        case measure => simp [intOf]; omega
    ·
      go_wp2
      go_loop [11, 13] (fun t i => ∃ (z : Int) (j : Nat), 0 ≤ z ∧ z ≤ 1048576 ∧ j ≤ n2 ∧ t = .int .i64 z ∧ i = .int .i64 j) (fun _ i => n2 - (intOf i).toNat)
      case atStart => exact ⟨_, 0, by omega, by omega, Nat.zero_le _, rfl, rfl⟩
      case round =>
        obtain ⟨z, j, hz0, hz1, hj, rfl, rfl⟩ := hrel
        by_cases hlt : j < n2
        · obtain ⟨b, off, t, e1, c0, hts⟩ := str_at HA.out.r2 HA.out.s2 j (by rw [HA.out.l2]; exact hlt)
          subst e1
          unfold maxLen at hts
          by_cases hb : 1048576 - z < t.size
          · go_wp2
            go_ret
            exact ⟨_, rfl, fun h => (by simp at h), rfl⟩
          · go_wp2
            go_round
            case rel => exact ⟨_, j + 1, by omega, by omega, by omega, rfl, by go_num⟩
            case measure => simp [intOf]; omega
        ·
          go_wp2
          go_loop [11, 14] (fun t i => ∃ (z : Int) (j : Nat), 0 ≤ z ∧ z ≤ 1048576 ∧ j ≤ n4 ∧ t = .int .i64 z ∧ i = .int .i64 j) (fun _ i => n4 - (intOf i).toNat)
          case atStart => exact ⟨_, 0, by omega, by omega, Nat.zero_le _, rfl, rfl⟩
          case round =>
            obtain ⟨z, j, hz0, hz1, hj, rfl, rfl⟩ := hrel
            by_cases hlt : j < n4
            · obtain ⟨b, off, t, e1, c0, hts⟩ := str_at HA.out.r4 HA.out.s4 j (by rw [HA.out.l4]; exact hlt)
              subst e1
              unfold maxLen at hts
              by_cases hb : 1048576 - z < t.size
              · go_wp2
                go_ret
                exact ⟨_, rfl, fun h => (by simp at h), rfl⟩
              · go_wp2
                go_round
                case rel => exact ⟨_, j + 1, by omega, by omega, by omega, rfl, by go_num⟩
                case measure => simp [intOf]; omega
            ·
              go_wp2
              go_loop [11, 15] (fun t i => ∃ (z : Int) (j : Nat), 0 ≤ z ∧ z ≤ 1048576 ∧ j ≤ n3 ∧ t = .int .i64 z ∧ i = .int .i64 j ∧ Hid (∀ k (h : k < rs.length), k < j → rs[k].length ≤ 1048576)) (fun _ i => n3 - (intOf i).toNat)
              case atStart => exact ⟨_, 0, by omega, by omega, Nat.zero_le _, rfl, rfl, fun k h h' => by omega⟩
              case round =>
                obtain ⟨z, j, hz0, hz1, hj, rfl, rfl, HK⟩ := hrel
                by_cases hlt : j < n3
                · obtain ⟨b, off, bo, nr, cr, e1, c0, hl, hm, hv, hss⟩ := row_at HA.out.r3 (by rw [HA.out.l3, HA.out.lr]) HA.out.rr j (by rw [HA.out.l3]; exact hlt)
                  subst e1
                  have HL := hid hl
                  have HV := hid hv
                  have HSS := hid hss
                  clear hl hv hss
                  unfold maxLen at hm
                  by_cases hb : 1048576 - z < nr
                  · go_wp2
                    go_ret
                    exact ⟨_, rfl, fun h => (by simp at h), rfl⟩
                  go_wp2
                  go_loop [11, 17] (fun t i => ∃ (z : Int) (k : Nat), 0 ≤ z ∧ z ≤ 1048576 ∧ k ≤ nr ∧ t = .int .i64 z ∧ i = .int .i64 k) (fun _ i => nr - (intOf i).toNat)
                  case atStart => exact ⟨_, 0, by omega, by omega, Nat.zero_le _, rfl, rfl⟩
                  case round =>
                    have hnr : nr ≤ 1048576 := by omega
                    clear hz0 hz1 hb
                    obtain ⟨z, k, hz0, hz1, hk, rfl, rfl⟩ := hrel
                    by_cases hlt2 : k < nr
                    · obtain ⟨b2, off2, t, e2, c1, hts⟩ := str_at HV.out HSS.out k (by rw [HL.out]; exact hlt2)
                      subst e2
                      unfold maxLen at hts
                      by_cases hb2 : 1048576 - z < t.size
                      · go_wp2
                        go_ret
                        exact ⟨_, rfl, fun h => (by simp at h), rfl⟩
                      · go_wp2
                        go_round
                        case rel => exact ⟨_, k + 1, by omega, by omega, by omega, rfl, by go_num⟩
                        case measure => simp [intOf]; omega
                    · go_wp2
                      go_round
                      case rel =>
                        refine ⟨_, j + 1, by omega, by omega, by omega, rfl, by go_num, fun i h h' => ?_⟩
                        by_cases e : i = j
                        · subst e; rw [HL.out]; exact hnr
                        · exact HK.out i h (by omega)
                      case measure => simp [intOf]; omega
                · go_wp2
                  go_ret
                  refine ⟨_, rfl, fun _ => ⟨by omega, by omega, by omega, by omega, by omega, fun ss hss => ?_⟩, rfl⟩
                  obtain ⟨i, hi, rfl⟩ := List.mem_iff_getElem.1 hss
                  exact HK.out i hi (by have := HA.out.lr; omega)

end Go.Proofs.Qxb6618330a.Jn

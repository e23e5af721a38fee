/-
  The walks of the two size guards: zzBytes_FnJoinToSpec, joinToWithin.
-/
import Derived.Test.Qxb6618330aJnWalkA
namespace Go.Proofs.Qxb6618330a.Jn
open Go.ChangeShapes Go.WideShapes Go.ChangeAt Go.RowKit

/-- A row of strings as a value. -/
def RowU (w : World) (v : Value) (ss : List ByteArray) : Prop := ∃ ao n c, v = .slice ao n c ∧ ss.length = n ∧ n ≤ maxLen ∧ VRow w ao (strs ss) ∧ ∀ s ∈ ss, s.size ≤ maxLen

/-- What the walk is told of the arguments. -/
structure ArgsIn (w : World) (a1 : Option Addr) (n1 : Nat) (h1 : List ByteArray) (a2 : Option Addr) (n2 : Nat) (h2 : List ByteArray) (a3 : Option Addr) (n3 : Nat) (vs : List Value) (rs : List (List ByteArray)) (a4 : Option Addr) (n4 : Nat) (h4 : List ByteArray) (n5 : Nat) : Prop where
  r1 : VRow w a1 (strs h1)
  l1 : h1.length = n1
  m1 : n1 ≤ maxLen
  s1 : ∀ s ∈ h1, s.size ≤ maxLen
  r2 : VRow w a2 (strs h2)
  l2 : h2.length = n2
  m2 : n2 ≤ maxLen
  s2 : ∀ s ∈ h2, s.size ≤ maxLen
  r3 : VRow w a3 vs
  l3 : vs.length = n3
  m3 : n3 ≤ maxLen
  lr : rs.length = n3
  rr : ∀ i (h : i < vs.length) (h' : i < rs.length), RowU w vs[i] rs[i]
  r4 : VRow w a4 (strs h4)
  l4 : h4.length = n4
  m4 : n4 ≤ maxLen
  s4 : ∀ s ∈ h4, s.size ≤ maxLen
  m5 : n5 ≤ maxLen

/-- It answers some bool and leaves the world alone. -/
def AnyB (w : World) (e : Ending) (w' : World) : Prop := ∃ r : Bool, e = .returned (.bool r) ∧ w' = w

/-- The string at place j of a row. -/
theorem str_at {w : World} {ao : Option Addr} {hs : List ByteArray} (h : VRow w ao (strs hs)) (hs' : ∀ s ∈ hs, s.size ≤ maxLen) (j : Nat) (hj : j < hs.length) : ∃ b off t, ao = some ⟨b, off, none⟩ ∧ w.cell? ⟨b, off + j, none⟩ = some (.string t) ∧ t.size ≤ maxLen := by
  obtain ⟨b, off, e, _, hc⟩ := h.at (by simp; omega)
  have c0 := hc j (by simpa using hj)
  rw [List.getElem_map] at c0
  exact ⟨b, off, _, e, c0, hs' _ (List.getElem_mem _)⟩
theorem row_at {w : World} {ao : Option Addr} {vs : List Value} {rs : List (List ByteArray)} (h : VRow w ao vs) (hl : vs.length = rs.length) (hr : ∀ i (h : i < vs.length) (h' : i < rs.length), RowU w vs[i] rs[i]) (j : Nat) (hj : j < vs.length) :
    ∃ b off bo n c, ao = some ⟨b, off, none⟩ ∧ w.cell? ⟨b, off + j, none⟩ = some (.slice bo n c) ∧ (rs[j]'(by omega)).length = n ∧ n ≤ maxLen ∧ VRow w bo (strs (rs[j]'(by omega))) ∧ ∀ s ∈ (rs[j]'(by omega)), s.size ≤ maxLen := by
  obtain ⟨b, off, e, _, hc⟩ := h.at (by omega)
  obtain ⟨bo, n, c, hv, h1, h2, h3, h4⟩ := hr j hj (by omega)
  have c0 := hc j hj
  rw [hv] at c0
  exact ⟨b, off, bo, n, c, e, c0, h1, h2, h3, h4⟩

set_option maxRecDepth 100000 in
set_option maxHeartbeats 8000000 in
theorem bytes_any (x : Bool) (a1 : Option Addr) (n1 c1 : Nat) (h1 : List ByteArray) (a2 : Option Addr) (n2 c2 : Nat) (h2 : List ByteArray) (a3 : Option Addr) (n3 c3 : Nat) (vs : List Value) (rs : List (List ByteArray)) (a4 : Option Addr) (n4 c4 : Nat) (h4 : List ByteArray) (a5 : Option Addr) (n5 c5 : Nat) (w : World)
    (hA : ArgsIn w a1 n1 h1 a2 n2 h2 a3 n3 vs rs a4 n4 h4 n5) :
    Calls Try.prog 4 #[.bool x, .slice a1 n1 c1, .slice a2 n2 c2, .slice a3 n3 c3, .slice a4 n4 c4, .slice a5 n5 c5] w fun e w' => AnyB w e w' := by
  have m1 := hA.m1
  have m2 := hA.m2
  have m3 := hA.m3
  have m4 := hA.m4
  have m5 := hA.m5
  unfold maxLen at m1 m2 m3 m4 m5
  have HA := hid hA
  clear hA
  by_cases q0 : 1048576 < n1
  · go_enter Try.func4, Try.ntmps4
    go_wp2
    go_ret
    exact ⟨_, rfl, rfl⟩
  go_enter Try.func4, Try.ntmps4
  go_wp2
  go_loop [13, 14] (fun t i => ∃ (z : Int) (j : Nat), 0 ≤ z ∧ z ≤ 1048576 ∧ j ≤ n1 ∧ t = .int .i64 z ∧ i = .int .i64 j) (fun _ i => n1 - (intOf i).toNat)
  case atStart => exact ⟨_, 0, by omega, by omega, Nat.zero_le _, rfl, rfl⟩
  case round =>
    obtain ⟨z, j, hz0, hz1, hj, rfl, rfl⟩ := hrel
    by_cases hlt : j < n1
    · obtain ⟨b, off, t, e1, c0, hts⟩ := str_at HA.out.r1 HA.out.s1 j (by rw [HA.out.l1]; exact hlt)
      subst e1
      unfold maxLen at hts
      by_cases hb : 1048576 < t.size
      · go_wp2
        go_ret
        exact ⟨_, rfl, rfl⟩
      · by_cases hsum : 1048576 < z + t.size
        · go_wp2
          go_ret
          exact ⟨_, rfl, rfl⟩
        · go_wp2
          go_round
          case rel => exact ⟨_, j + 1, by omega, by omega, by omega, rfl, by go_num⟩
          case measure => simp [intOf]; omega
    ·
      by_cases q1 : 1048576 < n2
      · go_wp2
        go_ret
        exact ⟨_, rfl, rfl⟩
      by_cases q2 : 1048576 < z + n2
      · go_wp2
        go_ret
        exact ⟨_, rfl, rfl⟩
      go_wp2
      go_loop [13, 15] (fun t i => ∃ (z : Int) (j : Nat), 0 ≤ z ∧ z ≤ 1048576 ∧ j ≤ n2 ∧ t = .int .i64 z ∧ i = .int .i64 j) (fun _ i => n2 - (intOf i).toNat)
      case atStart => exact ⟨_, 0, by omega, by omega, Nat.zero_le _, rfl, rfl⟩
      case round =>
        obtain ⟨z, j, hz0, hz1, hj, rfl, rfl⟩ := hrel
        by_cases hlt : j < n2
        · obtain ⟨b, off, t, e1, c0, hts⟩ := str_at HA.out.r2 HA.out.s2 j (by rw [HA.out.l2]; exact hlt)
          subst e1
          unfold maxLen at hts
          by_cases hb : 1048576 < t.size
          · go_wp2
            go_ret
            exact ⟨_, rfl, rfl⟩
          · by_cases hsum : 1048576 < z + t.size
            · go_wp2
              go_ret
              exact ⟨_, rfl, rfl⟩
            · go_wp2
              go_round
              case rel => exact ⟨_, j + 1, by omega, by omega, by omega, rfl, by go_num⟩
              case measure => simp [intOf]; omega
        ·
          by_cases q1 : 1048576 < n3
          · go_wp2
            go_ret
            exact ⟨_, rfl, rfl⟩
          by_cases q2 : 1048576 < z + n3
          · go_wp2
            go_ret
            exact ⟨_, rfl, rfl⟩
          go_wp2
          go_loop [13, 16] (fun t i => ∃ (z : Int) (j : Nat), 0 ≤ z ∧ z ≤ 1048576 ∧ j ≤ n3 ∧ t = .int .i64 z ∧ i = .int .i64 j) (fun _ i => n3 - (intOf i).toNat)
          case atStart => exact ⟨_, 0, by omega, by omega, Nat.zero_le _, rfl, rfl⟩
          case round =>
            obtain ⟨z, j, hz0, hz1, hj, rfl, rfl⟩ := hrel
            by_cases hlt : j < n3
            · obtain ⟨b, off, bo, nr, cr, e1, c0, hl, hm, hv, hss⟩ := row_at HA.out.r3 (by rw [HA.out.l3, HA.out.lr]) HA.out.rr j (by rw [HA.out.l3]; exact hlt)
              subst e1
              have HL := hid hl
              have HV := hid hv
              have HSS := hid hss
              clear hl hv hss
              unfold maxLen at hm
              by_cases hb : 1048576 < nr
              · go_wp2
                go_ret
                exact ⟨_, rfl, rfl⟩
              by_cases hsum : 1048576 < z + nr
              · go_wp2
                go_ret
                exact ⟨_, rfl, rfl⟩
              go_wp2
              go_loop [13, 17] (fun t i => ∃ (z : Int) (k : Nat), 0 ≤ z ∧ z ≤ 1048576 ∧ k ≤ nr ∧ t = .int .i64 z ∧ i = .int .i64 k) (fun _ i => nr - (intOf i).toNat)
              case atStart => exact ⟨_, 0, by omega, by omega, Nat.zero_le _, rfl, rfl⟩
              case round =>
                clear hz0 hz1 hsum
                obtain ⟨z, k, hz0, hz1, hk, rfl, rfl⟩ := hrel
                by_cases hlt2 : k < nr
                · obtain ⟨b2, off2, t, e2, c1, hts⟩ := str_at HV.out HSS.out k (by rw [HL.out]; exact hlt2)
                  subst e2
                  unfold maxLen at hts
                  by_cases hb2 : 1048576 < t.size
                  · go_wp2
                    go_ret
                    exact ⟨_, rfl, rfl⟩
                  · by_cases hsum2 : 1048576 < z + t.size
                    · go_wp2
                      go_ret
                      exact ⟨_, rfl, rfl⟩
                    · go_wp2
                      go_round
                      case rel => exact ⟨_, k + 1, by omega, by omega, by omega, rfl, by go_num⟩
                      case measure => simp [intOf]; omega
                · go_wp2
                  go_round
                  case rel => exact ⟨_, j + 1, by omega, by omega, by omega, rfl, by go_num⟩
                  case measure => simp [intOf]; omega
            ·
              by_cases q1 : 1048576 < n4
              · go_wp2
                go_ret
                exact ⟨_, rfl, rfl⟩
              by_cases q2 : 1048576 < z + n4
              · go_wp2
                go_ret
                exact ⟨_, rfl, rfl⟩
              go_wp2
              go_loop [13, 18] (fun t i => ∃ (z : Int) (j : Nat), 0 ≤ z ∧ z ≤ 1048576 ∧ j ≤ n4 ∧ t = .int .i64 z ∧ i = .int .i64 j) (fun _ i => n4 - (intOf i).toNat)
              case atStart => exact ⟨_, 0, by omega, by omega, Nat.zero_le _, rfl, rfl⟩
              case round =>
                obtain ⟨z, j, hz0, hz1, hj, rfl, rfl⟩ := hrel
                by_cases hlt : j < n4
                · obtain ⟨b, off, t, e1, c0, hts⟩ := str_at HA.out.r4 HA.out.s4 j (by rw [HA.out.l4]; exact hlt)
                  subst e1
                  unfold maxLen at hts
                  by_cases hb : 1048576 < t.size
                  · go_wp2
                    go_ret
                    exact ⟨_, rfl, rfl⟩
                  · by_cases hsum : 1048576 < z + t.size
                    · go_wp2
                      go_ret
                      exact ⟨_, rfl, rfl⟩
                    · go_wp2
                      go_round
                      case rel => exact ⟨_, j + 1, by omega, by omega, by omega, rfl, by go_num⟩
                      case measure => simp [intOf]; omega
                ·
                  by_cases q1 : 1048576 < n5
                  · go_wp2
                    go_ret
                    exact ⟨_, rfl, rfl⟩
                  by_cases q2 : 1048576 < z + n5
                  · go_wp2
                    go_ret
                    exact ⟨_, rfl, rfl⟩
                  go_wp2
                  go_ret
                  exact ⟨_, rfl, rfl⟩

end Go.Proofs.Qxb6618330a.Jn

/-
  Walks: joinToColumnsKept.
-/
import Derived.Test.Qxb6618330aJnWalkB
namespace Go.Proofs.Qxb6618330a.Jn
open Go.ChangeShapes Go.WideShapes Go.ChangeAt Go.RowKit

theorem zero3 (w : World) : (zeroValue 3).run Try.prog w = .ok (.int .i64 0) w := by kernel_rfl
theorem zero22 (w : World) : (zeroValue 22).run Try.prog w = .ok (.slice none 0 0) w := by kernel_rfl

set_option maxHeartbeats 800000 in
theorem kept_any (b N : Nat) (f : ByteArray → Option Value) (cnt : Nat) (ao : Option Addr) (n c : Nat) (bo : Option Addr) (n2 c2 m : Nat) (names : List ByteArray) (vals : List Int) (w : World) (hm1 : m ≤ names.length) (hm2 : m ≤ vals.length)
    (hn : names.length = n) (hn2 : vals.length = n2) (hs : n ≤ 1048576) (hR : VRow w ao (strs names)) (hR2 : VRow w bo (nums vals)) (hM : MapIs w b N f cnt) (hsz : ∀ s ∈ names, s.size ≤ maxLen)
    (hf : ∀ s ∈ names.take m, f s = some (.int .i64 ((last ((pairs names vals).take m) s).getD 0))) :
    Calls Try.prog 14 #[.map (some b), .slice ao n c, .slice bo n2 c2, .int .i64 m, .int .i64 cnt] w fun e w' => e = .returned (.bool true) ∧ w' = w := by
  have HR := hid hR
  have HR2 := hid hR2
  have HN := hid hn
  have HN2 := hid hn2
  have HM := hid hM
  have HS := hid hsz
  have HF := hid hf
  have hmn : m ≤ n := by omega
  have hm1' := hid hm1
  have hm2' := hid hm2
  have hlen := hM.len Try.underlying28 3
  clear hR hR2 hn hn2 hM hsz hf hm1 hm2
  go_enter Try.func14, Try.ntmps14
  go_wp2
  clear hlen
  go_loop [11] (fun i => ∃ j : Nat, j ≤ m ∧ i = .int .i64 j) (fun i => m - (intOf i).toNat)
  case atStart => exact ⟨0, Nat.zero_le _, rfl⟩
  case round =>
    obtain ⟨j, hj, rfl⟩ := hrel
    by_cases hlt : j < m
    · have hjx : j < names.length := by rw [HN.out]; omega
      obtain ⟨bb, off, e1, hb, hc⟩ := HR.out.at (by simp; omega)
      have c0 := hc j (by simpa using hjx)
      rw [List.getElem_map] at c0
      obtain ⟨t, ht⟩ : ∃ t, t = names[j] := ⟨_, rfl⟩
      rw [← ht] at c0
      have hjn : j < n := by omega
      have hft := HF.out t (by rw [ht]; exact List.mem_take_iff_getElem.2 ⟨j, by omega, rfl⟩)
      obtain ⟨x, hx⟩ : ∃ x, x = (last ((pairs names vals).take m) t).getD 0 := ⟨_, rfl⟩
      rw [← hx] at hft
      have hlook := HM.out.lookOk Try.underlying28 (zero3 w) t (HS.out t (by rw [ht]; exact List.getElem_mem _))
      rw [hft] at hlook
      simp only [Option.getD_some, Option.isSome_some] at hlook
      have HX := hid hx
      subst e1
      clear hc ht hx hft
      go_wp2_with (first
        | (go_at_call 7; go_must (refine (last_is _ n c bo n2 c2 m names vals t _ hm1'.out hm2'.out HN.out HN2.out hs HR.out HR2.out x _ HX.out.symm rfl).mono ?_; rintro e w ⟨rfl, rfl⟩)))
      go_round
      case rel => exact ⟨j + 1, by omega, by go_num⟩
      case measure => simp [intOf]; omega
    · go_wp2
      go_ret
      exact ⟨rfl, rfl⟩

end Go.Proofs.Qxb6618330a.Jn

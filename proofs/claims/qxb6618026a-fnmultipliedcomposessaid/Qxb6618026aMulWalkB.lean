/-
  The walk of zzDiv1024.
-/
import Derived.Test.Qxb6618026aMulWalkA
namespace Go.Proofs.Qxb6618026a.Mul
open Go.ChangeShapes Go.WideShapes Go.ChangeAt Go.RowKit

theorem info5 : (Try.prog.info? 5).map (fun i => (i.zero, i.size, i.bytes)) = some (some (.int .u8 0), 1, 1) := by kernel_rfl

/-- A byte as a cell holds it. -/
def enc (b : UInt8) : Value := .int .u8 (b.toNat : Int)
/-- A row of bytes that is filled from its head. -/
def rowA (qs : List UInt8) (m : Nat) : List Value := qs.map enc ++ List.replicate m (.int .u8 0)
/-- A row of bytes that is filled from its end. -/
def rowZ (m : Nat) (qs : List UInt8) : List Value := List.replicate m (.int .u8 0) ++ qs.map enc

theorem rowA_set (qs : List UInt8) (m : Nat) (b : UInt8) : (rowA qs (m + 1)).set qs.length (enc b) = rowA (qs ++ [b]) m := by
  unfold rowA
  rw [List.set_append_right _ _ (by simp)]
  simp [List.replicate_succ]
theorem rowZ_set (qs : List UInt8) (m : Nat) (b : UInt8) : (rowZ (m + 1) qs).set m (enc b) = rowZ m (b :: qs) := by
  unfold rowZ
  rw [List.replicate_succ', List.append_assoc, List.set_append_right _ _ (by simp)]
  simp
theorem rowZ_at (qs : List UInt8) (m : Nat) : (rowZ (m + 1) qs)[m]? = some (.int .u8 0) := by
  unfold rowZ
  rw [List.getElem?_append_left (by simp)]
  simp
theorem rowA_at (qs : List UInt8) (m : Nat) : (rowA qs (m + 1))[qs.length]? = some (.int .u8 0) := by
  unfold rowA
  rw [List.getElem?_append_right (by simp)]
  simp

theorem enc_mk (n : Nat) (h : n ≤ 9) : enc (mk n) = .int .u8 (48 + (n : Int)) := by
  unfold enc; rw [mk_toNat n h]; simp

/-- One digit of the long division. -/
theorem div_step (s : ByteArray) (k : Nat) (h : k < s.size) (hd : isD s[k] = true) (qs : List UInt8) (rem : Nat) (hrem : rem < 1024) (hq : adB qs = true)
    (hv : val (s.data.toList.take k) = val qs * 1024 + rem) :
    (rem * 10 + (s[k].toNat - 48)) / 1024 ≤ 9 ∧ adB (qs ++ [mk ((rem * 10 + (s[k].toNat - 48)) / 1024)]) = true ∧
    val (s.data.toList.take (k + 1)) = val (qs ++ [mk ((rem * 10 + (s[k].toNat - 48)) / 1024)]) * 1024 + (rem * 10 + (s[k].toNat - 48)) % 1024 := by
  have hd' := (isD_iff _).1 hd
  have h9 : (rem * 10 + (s[k].toNat - 48)) / 1024 ≤ 9 := by omega
  refine ⟨h9, (adB_append _ _).2 ⟨hq, by simpa [adB] using isD_mk _ h9⟩, ?_⟩
  rw [take_snoc s k h, val_snoc, val_snoc, dv_mk _ h9, hv]
  unfold dv
  omega

set_option maxHeartbeats 800000 in
theorem div_any (s : ByteArray) (w : World) (hs : s.size ≤ 1048576) (had : adB s.data.toList = true) :
    Calls Try.prog 15 #[.string s] w fun e w' => ∃ (qs : List UInt8) (rem : Nat),
      e = .returned (.tuple #[.slice (some ⟨w.heap.size, 0, none⟩) s.size s.size, .int .i64 rem, .bool true]) ∧
      qs.length = s.size ∧ adB qs = true ∧ val s.data.toList = val qs * 1024 + rem ∧ rem < 1024 ∧
      w'.ownsRow w.heap.size 5 1 (.slice (some ⟨w.heap.size, 0, none⟩) s.size s.size) s.size (qs.map enc) ∧ Below w.heap.size w w' := by
  obtain ⟨i0, hi, hz0, hz1, hz2⟩ := info_parts info5
  have HA : Hid (adB s.data.toList = true) := had
  clear had
  go_enter Try.func15, Try.ntmps15
  go_wp2_with (first
    | (at_make; refine wpList_make_full _ rfl _ _ 22 rfl w.heap.size 5 i0 (.int .u8 0) 1 Try.underlying22 hi hz0 hz1 .i64 .i64 _ _ s.size rfl rfl rfl rfl (by rw [hz2]; omega) (by unfold maxLen; omega) (Nat.le_refl _) ?_; intro w1 hown1 hgrow1))
  have hb1 : Below w.heap.size w w1 := (Below.refl _ _).grown hgrow1 (Nat.le_refl _) (by simp)
  have hown2 : w1.ownsRow w.heap.size 5 1 (.slice (some ⟨w.heap.size, 0, none⟩) s.size s.size) s.size (rowA [] s.size) := by
    have e : (madeCells (Value.int IntKind.u8 0).cells (s.size * 1)).toList = rowA [] s.size := by
      simp [Value.cells, toList_madeCells_one, rowA]
    rw [← e]; exact hown1
  clear hown1 hgrow1
  go_loopw [6, 7] (fun r i wr => ∃ (k rem : Nat) (qs : List UInt8), k ≤ s.size ∧ i = .int .i64 k ∧ r = .int .i64 rem ∧ rem < 1024 ∧ Hid (qs.length = k) ∧ Hid (adB qs = true) ∧ Hid (val (s.data.toList.take k) = val qs * 1024 + rem) ∧
      wr.ownsRow w.heap.size 5 1 (.slice (some ⟨w.heap.size, 0, none⟩) s.size s.size) s.size (rowA qs (s.size - k)) ∧ Below w.heap.size w wr) (fun _ i _ => s.size - (intOf i).toNat)
  case atStart => exact ⟨0, 0, [], Nat.zero_le _, rfl, rfl, by omega, rfl, rfl, rfl, hown2, hb1⟩
  case round =>
    obtain ⟨k, rem, qs, hk, rfl, rfl, hrem, HL, HQ, HV, hown, hb⟩ := hrel
    by_cases hlt : k < s.size
    · have hd := isD_at s HA.out k hlt
      have hd2 := (isD_iff _).1 hd
      obtain ⟨h9, hq2, hv2⟩ := div_step s k hlt hd qs rem hrem HQ.out HV.out
      have HQ2 : Hid (adB (qs ++ [mk ((rem * 10 + (s[k].toNat - 48)) / 1024)]) = true) := hq2
      have HV2 : Hid (val (s.data.toList.take (k + 1)) = val (qs ++ [mk ((rem * 10 + (s[k].toNat - 48)) / 1024)]) * 1024 + (rem * 10 + (s[k].toNat - 48)) % 1024) := hv2
      have em : s.size - k = (s.size - (k + 1)) + 1 := by omega
      have hcell : wr.cell? ⟨w.heap.size, k, none⟩ = some (.int .u8 0) := by
        rw [hown.cellAt k (by omega), em, ← HL.out]; exact rowA_at _ _
      have hfr : wr.frozen? ⟨w.heap.size, k, none⟩ = false := hown.frozenAt k
      have hst := (hown.stored k (enc (mk ((rem * 10 + (s[k].toNat - 48)) / 1024)))).1
      have hset : (rowA qs (s.size - k)).set k (enc (mk ((rem * 10 + (s[k].toNat - 48)) / 1024))) = rowA (qs ++ [mk ((rem * 10 + (s[k].toNat - 48)) / 1024)]) (s.size - (k + 1)) := by
        rw [em]; have := HL.out; subst this; exact rowA_set _ _ _
      rw [hset, enc_mk _ h9] at hst
      have hb2 := hb.setCell (p := ⟨w.heap.size, k, none⟩) (Nat.le_refl _) (.int .u8 (48 + (((rem * 10 + (s[k].toNat - 48)) / 1024 : Nat) : Int)))
      clear hd hq2 hv2 hset hown em
      have HST : Hid _ := hst
      have HB2 : Hid _ := hb2
      clear hst hb2
      go_wp2
      have eV : (48 + ((rem : Int) * 10 + ((s[k].toNat : Int) - 48)) / 1024) = 48 + (((rem * 10 + (s[k].toNat - 48)) / 1024 : Nat) : Int) := by omega
      have eR : ((rem : Int) * 10 + ((s[k].toNat : Int) - 48)) % 1024 = (((rem * 10 + (s[k].toNat - 48)) % 1024 : Nat) : Int) := by omega
      rw [eV, eR]
      go_roundw
      case rel => exact ⟨k + 1, _, _, by omega, by go_num, rfl, by omega, by rw [List.length_append, HL.out]; rfl, HQ2, HV2, HST.out, HB2.out⟩
      case measure => simp [intOf]; omega
    · have ek : k = s.size := by omega
      have H1 : Hid (qs.length = s.size) := by rw [HL.out, ek]; rfl
      have hv : val s.data.toList = val qs * 1024 + rem := by rw [← take_all s k (by omega)]; exact HV.out
      have H2 : Hid (val s.data.toList = val qs * 1024 + rem) := hv
      have hr : rowA qs (s.size - k) = qs.map enc := by rw [ek]; simp [rowA]
      rw [hr] at hown
      have H3 : Hid _ := hown
      clear hv hr HL HV ek hown
      go_wp2
      go_ret3
      exact ⟨qs, rem, rfl, H1, HQ, H2, hrem, H3, hb⟩

end Go.Proofs.Qxb6618026a.Mul

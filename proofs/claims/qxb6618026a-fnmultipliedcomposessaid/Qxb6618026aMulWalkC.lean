/-
  The walk of sim.multiplied.
-/
import Derived.Test.Qxb6618026aMulWalkB
import Derived.Laws.IdiomStrings
namespace Go.Proofs.Qxb6618026a.Mul
open Go.ChangeShapes Go.WideShapes Go.ChangeAt Go.RowKit

/-- 'string(b[off:])', b a row of the call's own. -/
theorem backAt (w : World) (base g n off : Nat) (l : List UInt8) (hl : l.length = n) (hown : w.ownsRow base 5 1 (.slice (some ⟨g, 0, none⟩) n n) n (l.map enc)) (r : List UInt8) (hr : r = l.drop off) (m c : Nat) (hm : r.length = m) :
    (convert 22 9 (.slice (some ⟨g, off, none⟩) m c)).run Try.prog w = .ok (.string ⟨r.toArray⟩) w := by
  subst hm
  refine run_convert_bytes_back (P := Try.prog) w 22 9 5 ⟨g, off, none⟩ c r Try.underlying22 Try.underlying5 Try.underlying9 (fun j hj => ?_)
  subst hr
  have hj' : off + j < l.length := by simp at hj; omega
  have ea : (⟨g, off, none⟩ : Addr).add j = ⟨g, off + j, none⟩ := by simp [Addr.add]
  rw [ea, hown.cellAt (off + j) (by omega)]
  simp [enc, List.getElem?_eq_getElem hj']

/-- One digit of the multiplication. -/
theorem mul_step (t : ByteArray) (j : Nat) (h : j < t.size) (hd : isD t[j] = true) (qs : List UInt8) (c : Nat) (hc : c ≤ 1023) (hq : adB qs = true) (hl : qs.length = t.size - (j + 1))
    (hv : val qs + c * 10 ^ (t.size - (j + 1)) = 1024 * val (t.data.toList.drop (j + 1))) :
    adB (mk ((c + (t[j].toNat - 48) * 1024) % 10) :: qs) = true ∧ (c + (t[j].toNat - 48) * 1024) / 10 ≤ 1023 ∧
    val (mk ((c + (t[j].toNat - 48) * 1024) % 10) :: qs) + (c + (t[j].toNat - 48) * 1024) / 10 * 10 ^ (t.size - j) = 1024 * val (t.data.toList.drop j) := by
  have hd' := (isD_iff _).1 hd
  have h9 : (c + (t[j].toNat - 48) * 1024) % 10 ≤ 9 := by omega
  refine ⟨(adB_cons _ _).2 ⟨isD_mk _ h9, hq⟩, by omega, ?_⟩
  have ed : t.data.toList.drop j = t[j] :: t.data.toList.drop (j + 1) := by
    rw [List.drop_eq_getElem_cons (by simpa using h)]; rfl
  have el : (t.data.toList.drop (j + 1)).length = t.size - (j + 1) := by simp
  rw [ed]
  simp only [val, dv_mk _ h9, hl, el]
  have ep : t.size - j = t.size - (j + 1) + 1 := by omega
  rw [ep, Nat.pow_succ]
  generalize 10 ^ (t.size - (j + 1)) = p at hv ⊢
  unfold dv
  generalize t[j].toNat - 48 = d at *
  have e1 : (c + d * 1024) / 10 * (p * 10) = (c + d * 1024) / 10 * 10 * p := by rw [Nat.mul_comm p 10, Nat.mul_assoc]
  have e2 : (c + d * 1024) % 10 * p + (c + d * 1024) / 10 * 10 * p = (c + d * 1024) * p := by
    rw [← Nat.add_mul]; congr 1; omega
  have e3 : (c + d * 1024) * p = c * p + 1024 * (d * p) := by rw [Nat.add_mul, Nat.mul_comm d 1024, Nat.mul_assoc]
  rw [e1, Nat.mul_add]
  omega

/-- One digit of what is carried at the end. -/
theorem carry_step (qs : List UInt8) (c j L V : Nat) (hq : adB qs = true) (hc : c < 10 ^ (j + 1)) (hl : qs.length = L) (hv : val qs + c * 10 ^ L = V) :
    adB (mk (c % 10) :: qs) = true ∧ c / 10 < 10 ^ j ∧ val (mk (c % 10) :: qs) + c / 10 * 10 ^ (L + 1) = V := by
  have h9 : c % 10 ≤ 9 := by omega
  refine ⟨(adB_cons _ _).2 ⟨isD_mk _ h9, hq⟩, by rw [Nat.pow_succ] at hc; omega, ?_⟩
  simp only [val, dv_mk _ h9, hl]
  rw [Nat.pow_succ]
  generalize 10 ^ L = p at hv ⊢
  have e1 : c / 10 * (p * 10) = c / 10 * 10 * p := by rw [Nat.mul_comm p 10, Nat.mul_assoc]
  have e2 : c % 10 * p + c / 10 * 10 * p = c * p := by
    rw [← Nat.add_mul]; congr 1; omega
  omega

set_option maxHeartbeats 2000000 in
theorem mul_any (s : ByteArray) (K : Nat) (w : World) (hs : s.size ≤ 100000) (hK : K ≤ 6600) (had : adB s.data.toList = true) :
    Calls Try.prog 22 #[.string s, .int .u64 (10 * K : Nat)] w fun e w' => ∃ t : ByteArray, e = .returned (.string t) ∧
      t.size = s.size + 4 * K ∧ adB t.data.toList = true ∧ val t.data.toList = val s.data.toList * 1024 ^ K ∧ Below w.heap.size w w' := by
  obtain ⟨i0, hi, hz0, hz1, hz2⟩ := info_parts info5
  have HA : Hid (adB s.data.toList = true) := had
  clear had
  go_enter Try.func22, Try.ntmps22
  go_wp2
  go_loopw [0, 1] (fun d f wr => ∃ (t : ByteArray) (J : Nat), J ≤ K ∧ d = .string t ∧ f = .int .u64 (10 * J : Nat) ∧ Hid (t.size = s.size + 4 * (K - J)) ∧ Hid (adB t.data.toList = true) ∧ Hid (val t.data.toList = val s.data.toList * 1024 ^ (K - J)) ∧ Below w.heap.size w wr) (fun _ f _ => (intOf f).toNat)
  case atStart => exact ⟨s, K, Nat.le_refl _, rfl, rfl, by simp [Hid], HA, by simp [Hid], Below.refl _ _⟩
  case round =>
    obtain ⟨t, J, hJ, rfl, rfl, HS, HD, HV, hb⟩ := hrel
    have hts : t.size ≤ 200000 := by have := HS.out; omega
    rename World => wo
    by_cases hlt : 0 < J
    · have hlt' : (0 : Int) < ((10 * J : Nat) : Int) := by omega
      go_wp2_with (first
        | (at_make; refine wpList_make_full _ rfl _ _ 22 rfl w.heap.size 5 i0 (.int .u8 0) 1 Try.underlying22 hi hz0 hz1 .i64 .i64 _ _ (t.size + 4) rfl rfl (by omega) (by omega) (by rw [hz2]; omega) (by unfold maxLen; omega) hb.size ?_; intro w1 hown1 hgrow1))
      have hb1 : Below w.heap.size w w1 := hb.grown hgrow1 hb.size (by simp)
      have hown2 : w1.ownsRow w.heap.size 5 1 (.slice (some ⟨wo.heap.size, 0, none⟩) (t.size + 4) (t.size + 4)) (t.size + 4) (rowZ (t.size + 4) []) := by
        have e : (madeCells (Value.int IntKind.u8 0).cells ((t.size + 4) * 1)).toList = rowZ (t.size + 4) [] := by
          simp [Value.cells, toList_madeCells_one, rowZ]
        rw [← e]; exact hown1
      clear hown1 hgrow1
      have hgb : w.heap.size ≤ wo.heap.size := hb.size
      go_loopw [6, 7] (fun r i wr => ∃ (j c : Nat) (qs : List UInt8), j ≤ t.size ∧ i = .int .i64 ((j : Int) - 1) ∧ r = .int .i64 c ∧ c ≤ 1023 ∧ Hid (qs.length = t.size - j) ∧ Hid (adB qs = true) ∧ Hid (val qs + c * 10 ^ (t.size - j) = 1024 * val (t.data.toList.drop j)) ∧
          wr.ownsRow w.heap.size 5 1 (.slice (some ⟨wo.heap.size, 0, none⟩) (t.size + 4) (t.size + 4)) (t.size + 4) (rowZ (j + 4) qs) ∧ Below w.heap.size w wr) (fun _ i _ => (intOf i + 1).toNat)
      case atStart => exact ⟨t.size, 0, [], Nat.le_refl _, rfl, rfl, by omega, by simp [Hid], rfl, by simp [Hid, val, List.drop_eq_nil_of_le], hown2, hb1⟩
      case round =>
        clear hown2 hb1
        obtain ⟨j, c, qs, hj, rfl, rfl, hc, HL, HQ, HV1, hown, hb1⟩ := hrel
        by_cases hjz : 0 < j
        · obtain ⟨i, rfl⟩ : ∃ i, j = i + 1 := ⟨j - 1, by omega⟩
          have hit : i < t.size := by omega
          have ei : ((i + 1 : Nat) : Int) - 1 = (i : Int) := by omega
          rw [ei]
          have hd := isD_at t HD.out i hit
          have hd2 := (isD_iff _).1 hd
          obtain ⟨hq2, hc2, hv2⟩ := mul_step t i hit hd qs c hc HQ.out HL.out HV1.out
          have HQ2 : Hid _ := hq2
          have HV2 : Hid _ := hv2
          have hcell : wr.cell? ⟨wo.heap.size, i + 4, none⟩ = some (.int .u8 0) := by
            rw [hown.cellAt (i + 4) (by omega)]
            exact rowZ_at qs (i + 4)
          have hfr : wr.frozen? ⟨wo.heap.size, i + 4, none⟩ = false := hown.frozenAt (i + 4)
          have h9 : (c + (t[i].toNat - 48) * 1024) % 10 ≤ 9 := by omega
          have hst := (hown.stored (i + 4) (enc (mk ((c + (t[i].toNat - 48) * 1024) % 10)))).1
          have hset : (rowZ (i + 1 + 4) qs).set (i + 4) (enc (mk ((c + (t[i].toNat - 48) * 1024) % 10))) = rowZ (i + 4) (mk ((c + (t[i].toNat - 48) * 1024) % 10) :: qs) := by
            rw [show i + 1 + 4 = (i + 4) + 1 by omega]; exact rowZ_set _ _ _
          rw [hset, enc_mk _ h9] at hst
          have hb2 := hb1.setCell (p := ⟨wo.heap.size, i + 4, none⟩) hgb (.int .u8 (48 + (((c + (t[i].toNat - 48) * 1024) % 10 : Nat) : Int)))
          have HST : Hid _ := hst
          have HB2 : Hid _ := hb2
          clear hst hb2 hd hq2 hv2 hset hown h9
          go_wp2
          have eV : (48 + ((c : Int) + ((t[i].toNat : Int) - 48) * 1024) % 10) = 48 + (((c + (t[i].toNat - 48) * 1024) % 10 : Nat) : Int) := by omega
          have eC : ((c : Int) + ((t[i].toNat : Int) - 48) * 1024) / 10 = (((c + (t[i].toNat - 48) * 1024) / 10 : Nat) : Int) := by omega
          rw [eV, eC]
          go_roundw
          case rel => exact ⟨i, _, _, by omega, rfl, rfl, hc2, by have := HL.out; simp only [Hid, List.length_cons]; omega, HQ2, HV2, HST.out, HB2.out⟩
          case measure => simp [intOf]
        · obtain rfl : j = 0 := by omega
          go_wp2
          have HVt : Hid (val qs + c * 10 ^ t.size = 1024 * val t.data.toList) := HV1
          rename World => w2
          go_loopw [6, 8] (fun r i wr => ∃ (j c L : Nat) (qs : List UInt8), j ≤ 4 ∧ i = .int .i64 ((j : Int) - 1) ∧ r = .int .i64 c ∧ c ≤ 1023 ∧ L + j = t.size + 4 ∧ Hid (c < 10 ^ j) ∧ Hid (qs.length = L) ∧ Hid (adB qs = true) ∧ Hid (val qs + c * 10 ^ L = 1024 * val t.data.toList) ∧
              wr.ownsRow w.heap.size 5 1 (.slice (some ⟨wo.heap.size, 0, none⟩) (t.size + 4) (t.size + 4)) (t.size + 4) (rowZ j qs) ∧ Below w.heap.size w wr) (fun _ i _ => (intOf i + 1).toNat)
          case atStart => exact ⟨4, c, t.size, qs, Nat.le_refl _, rfl, rfl, hc, by omega, by simp only [Hid]; omega, HL, HQ, HVt, hown, hb1⟩
          case round =>
            clear hown hb1 HL HQ HVt HV1 hc
            obtain ⟨j, c, L, qs, hj, rfl, rfl, hc, hL, HC, HL, HQ, HV1, hown, hb1⟩ := hrel
            by_cases hjz : 0 < j
            · obtain ⟨i, rfl⟩ : ∃ i, j = i + 1 := ⟨j - 1, by omega⟩
              have ei : ((i + 1 : Nat) : Int) - 1 = (i : Int) := by omega
              rw [ei]
              obtain ⟨hq2, hc2, hv2⟩ := carry_step qs c i L _ HQ.out HC.out HL.out HV1.out
              have HC2 : Hid _ := hc2
              have HQ2 : Hid _ := hq2
              have HV2 : Hid _ := hv2
              have hcell : wr.cell? ⟨wo.heap.size, i, none⟩ = some (.int .u8 0) := by
                rw [hown.cellAt i (by omega)]
                exact rowZ_at qs i
              have hfr : wr.frozen? ⟨wo.heap.size, i, none⟩ = false := hown.frozenAt i
              have h9 : c % 10 ≤ 9 := by omega
              have hst := (hown.stored i (enc (mk (c % 10)))).1
              rw [rowZ_set, enc_mk _ h9] at hst
              have hb2 := hb1.setCell (p := ⟨wo.heap.size, i, none⟩) hgb (.int .u8 (48 + ((c % 10 : Nat) : Int)))
              have HST : Hid _ := hst
              have HB2 : Hid _ := hb2
              clear hst hb2 hc2 hq2 hv2 hown h9
              go_wp2
              have eV : (48 + (c : Int) % 10) = 48 + ((c % 10 : Nat) : Int) := by omega
              have eC : (c : Int) / 10 = ((c / 10 : Nat) : Int) := by omega
              rw [eV, eC]
              go_roundw
              case rel => exact ⟨i, _, L + 1, _, by omega, rfl, rfl, by omega, by omega, HC2, by have := HL.out; simp only [Hid, List.length_cons]; omega, HQ2, HV2, HST.out, HB2.out⟩
              case measure => simp [intOf]
            · obtain rfl : j = 0 := by omega
              obtain rfl : c = 0 := by have := HC.out; simp at this; omega
              obtain rfl : L = t.size + 4 := by omega
              have hrow : rowZ 0 qs = qs.map enc := by simp [rowZ]
              rw [hrow] at hown
              have hcv := backAt wr w.heap.size wo.heap.size (t.size + 4) 0 qs HL.out hown qs rfl (t.size + 4) (t.size + 4) HL.out
              have HVq : Hid (val qs = 1024 * val t.data.toList) := by have := HV1.out; simp only [Hid]; omega
              clear hown hrow HV1 HC
              go_wp2
              go_roundw
              case rel =>
                refine ⟨⟨qs.toArray⟩, J - 1, by omega, rfl, ?_, ?_, HQ, ?_, hb1⟩
                · go_num
                · have h1 := HS.out
                  have h2 := HL.out
                  have h3 : (ByteArray.mk qs.toArray).size = qs.length := rfl
                  simp only [Hid]
                  omega
                · have h1 := HV.out
                  have h2 := HVq.out
                  show val qs = _
                  rw [h2, h1, show K - (J - 1) = K - J + 1 by omega, Nat.pow_succ, Nat.mul_comm 1024, Nat.mul_assoc]
              case measure => simp [intOf]; omega
    · obtain rfl : J = 0 := by omega
      go_wp2
      go_ret
      exact ⟨t, rfl, HS, HD, HV, hb⟩

/-- The law's own door: it hands on. -/
theorem zmul_any (s : ByteArray) (K : Nat) (w : World) (hs : s.size ≤ 100000) (hK : K ≤ 6600) (had : adB s.data.toList = true) :
    Calls Try.prog 14 #[.string s, .int .u64 (10 * K : Nat)] w fun e w' => ∃ t : ByteArray, e = .returned (.string t) ∧
      t.size = s.size + 4 * K ∧ adB t.data.toList = true ∧ val t.data.toList = val s.data.toList * 1024 ^ K ∧ Below w.heap.size w w' := by
  have HC : Hid (adB s.data.toList = true) := had
  clear had
  go_enter Try.func14, Try.ntmps14
  go_wp2_with (go_at_call 22; refine (mul_any s K _ hs hK HC.out).mono ?_; rintro e w' ⟨t, rfl, h1, h2, h3, h4⟩)
  go_ret
  exact ⟨t, rfl, h1, h2, h3, h4⟩

end Go.Proofs.Qxb6618026a.Mul

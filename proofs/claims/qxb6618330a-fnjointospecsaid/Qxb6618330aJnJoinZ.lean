/-
  The walks of ZZNewSecurities and ZZJoinTo.
-/
import Derived.Test.Qxb6618330aJnJoin
namespace Go.Proofs.Qxb6618330a.Jn
open Go.ChangeShapes Go.WideShapes Go.ChangeAt Go.RowKit

set_option maxHeartbeats 400000 in
theorem new_any (ao : Option Addr) (n c : Nat) (lm : Option Nat) (w : World) :
    Calls Try.prog 8 #[.slice ao n c, .map lm] w fun e w' => e = .returned (.pointer (some ⟨w.heap.size, 0, none⟩)) ∧ w' = w.alloc (.cells #[.slice ao n c, .map lm] 48) := by
  go_enter Try.func8, Try.ntmps8
  go_wp2
  go_ret
  exact ⟨rfl, rfl⟩

set_option maxHeartbeats 800000 in
theorem zjoin_nil (v : Value) (w : World) :
    Calls Try.prog 9 #[.pointer none, v] w fun e w' => e = .returned (.agg #[.map none, .int .i64 0, .int .i64 0, .slice none 0 0]) ∧ Below w.heap.size w w' := by
  go_enter Try.func9, Try.ntmps9
  go_wp2_with (first
    | (go_at_call 18; go_must (refine (join_nil v _).mono ?_; rintro e w1 ⟨rfl, hb1⟩; have hj : Blk w1 w.heap.size 37 [.map none, .int .i64 0, .int .i64 0, .slice none 0 0] := Blk.below (heap_alloc_new w _) hb1 (by simp); have r0 := hj.cell 0; have r1 := hj.cell 1; have r2 := hj.cell 2; have r3 := hj.cell 3; have z0 := hj.free 0; have z1 := hj.free 1; have z2 := hj.free 2; have z3 := hj.free 3; simp only [List.getElem?_cons_succ, List.getElem?_cons_zero] at r0 r1 r2 r3; have HB := hid (below_then ((Below.refl _ _).alloc (Nat.le_refl _) _) hb1); clear hj hb1)))
  refine bodyPost_ret (v := .agg #[.map none, .int .i64 0, .int .i64 0, .slice none 0 0]) (by simp [results, Try.results9, go_sem, r0, r1, r2, r3]) rfl ⟨rfl, ?_⟩
  exact (((HB.out.setCell (p := ⟨w.heap.size, 0, none⟩) (Nat.le_refl _) _).setCell (p := ⟨w.heap.size, 1, none⟩) (Nat.le_refl _) _).setCell (p := ⟨w.heap.size, 2, none⟩) (Nat.le_refl _) _).setCell (p := ⟨w.heap.size, 3, none⟩) (Nat.le_refl _) _

theorem CellsV.keep {B : Nat} {w w' : World} {v : Value} {L : List (Int × Int)} (h : CellsV B w v L) (hs : w.heap.size ≤ w'.heap.size) (hk : ∀ n c g, v = .slice (some ⟨g, 0, none⟩) n c → B ≤ g → g < w.heap.size → w'.heap[g]? = w.heap[g]?) : CellsV B w' v L := by
  obtain ⟨vo, vc, rfl, h⟩ := h
  refine ⟨vo, vc, rfl, ?_⟩
  rcases h with h | ⟨g, rfl, hbg, hg, hc⟩
  · exact .inl h
  · refine .inr ⟨g, rfl, hbg, Nat.lt_of_lt_of_le hg hs, fun i hi => ?_⟩
    have hb := hk _ _ g rfl hbg hg
    exact ⟨(World.cell?_of_block (w := w) (a := ⟨g, i * 2, none⟩) hb).trans (hc i hi).1, (World.cell?_of_block (w := w) (a := ⟨g, i * 2 + 1, none⟩) hb).trans (hc i hi).2⟩
theorem CellsV.below {B : Nat} {w w' : World} {v : Value} {L : List (Int × Int)} (h : CellsV B w v L) (hB : Below w.heap.size w w') : CellsV B w' v L := h.keep hB.size fun _ _ g _ _ hg => hB.block g hg

set_option maxHeartbeats 1000000 in
theorem zjoin_some (gs : Nat) (ao : Option Addr) (n c : Nat) (hs : List ByteArray) (lm : Option Nat) (bc N n0 : Nat) (ps : List (ByteArray × Int)) (w : World)
    (hg : gs < w.heap.size) (c0 : w.cell? ⟨gs, 0, none⟩ = some (.slice ao n c)) (c1 : w.cell? ⟨gs, 1, none⟩ = some (.map lm)) (hn : hs.length = n) (hn4 : n ≤ 4096) (hR : VRow w ao (strs hs)) (hsz : ∀ s ∈ hs, s.size ≤ maxLen)
    (hM : MapIs w bc N (asInt (last ps)) n0) (hN : N ≤ 4096) :
    Calls Try.prog 9 #[.pointer (some ⟨gs, 0, none⟩), .map (some bc)] w fun e w' => ∃ vo vc, e = .returned (.agg #[.map lm, .int .i64 ((last ps idText).getD 0), .int .i64 ((n0 : Int) + (rk ps hs : Nat)), .slice vo n vc]) ∧
      CellsV w.heap.size w' (.slice vo n vc) (joined ps n0 hs n) ∧ MapIs w' bc (N + n) (asInt (cols ps n0 hs)) (n0 + rk ps hs) ∧ Fr w.heap.size bc w w' := by
  have HR := hid hR
  have HN := hid hn
  have HM := hid hM
  have HS := hid hsz
  have hbc := hM.lt
  clear hR hn hM hsz
  have d0 : ∀ o : Obj, (w.alloc o).cell? ⟨gs, 0, none⟩ = some (.slice ao n c) := fun o => (World.cell?_of_block (w := w) (a := ⟨gs, 0, none⟩) (Below.heap_alloc w o gs hg)).trans c0
  have d1 : ∀ o : Obj, (w.alloc o).cell? ⟨gs, 1, none⟩ = some (.map lm) := fun o => (World.cell?_of_block (w := w) (a := ⟨gs, 1, none⟩) (Below.heap_alloc w o gs hg)).trans c1
  have HD0 := hid d0
  have HD1 := hid d1
  clear c0 c1 d0 d1
  go_enter Try.func9, Try.ntmps9
  go_wp2_with (first
    | (go_at_call 18; go_must (refine (join_some gs ao n c hs lm bc N n0 ps _ (by simp; omega) (HD0.out _) (HD1.out _) HN.out hn4 (HR.out.below ((Below.refl _ _).alloc (Nat.le_refl _) _)) HS.out (HM.out.keep (Below.heap_alloc w _ bc hbc)) hN).mono ?_; rintro e w1 ⟨v, rfl, hC, hM1, hF⟩; obtain ⟨vo, vc, hv, hC'⟩ := hC; rw [joined_length] at hv; subst hv; have hj : Blk w1 w.heap.size 37 [.map none, .int .i64 0, .int .i64 0, .slice none 0 0] := Blk.keep (heap_alloc_new w _) (hF.block _ (by simp) (by omega)); have r0 := hj.cell 0; have r1 := hj.cell 1; have r2 := hj.cell 2; have r3 := hj.cell 3; have z0 := hj.free 0; have z1 := hj.free 1; have z2 := hj.free 2; have z3 := hj.free 3; simp only [List.getElem?_cons_succ, List.getElem?_cons_zero] at r0 r1 r2 r3; have HC := hid hC'; have HM1 := hid hM1; have HF := hid hF; clear hj hC' hM1 hF)))
  have hsz2 : (w.alloc (Obj.cells #[Value.map none, Value.int IntKind.i64 0, Value.int IntKind.i64 0, Value.slice none 0 0] 37)).heap.size = w.heap.size + 1 := by simp
  have hF := HF.out
  rw [hsz2] at hF
  have hcells : CellsV (w.heap.size + 1) w1 (.slice vo n vc) (joined ps n0 hs n) := by
    have hc := HC.out
    rw [hsz2] at hc
    exact ⟨vo, vc, by rw [joined_length], hc⟩
  have hfr : Fr w.heap.size bc w (put4 w1 w.heap.size (.map lm) (.int .i64 ((last ps idText).getD 0)) (.int .i64 ((n0 : Int) + (rk ps hs : Nat))) (.slice vo n vc)) := by
    refine ((Fr.of_below ((Below.refl _ _).alloc (Nat.le_refl _) _)).trans (hF.mono (Nat.le_succ _))).trans (Fr.of_below ?_)
    exact ((((Below.refl _ _).setCell (p := ⟨w.heap.size, 0, none⟩) (Nat.le_refl _) _).setCell (p := ⟨w.heap.size, 1, none⟩) (Nat.le_refl _) _).setCell (p := ⟨w.heap.size, 2, none⟩) (Nat.le_refl _) _).setCell (p := ⟨w.heap.size, 3, none⟩) (Nat.le_refl _) _
  have hszp : w1.heap.size ≤ (put4 w1 w.heap.size (.map lm) (.int .i64 ((last ps idText).getD 0)) (.int .i64 ((n0 : Int) + (rk ps hs : Nat))) (.slice vo n vc)).heap.size := by simp [put4, World.setCell]
  have hc2 := hcells.keep hszp (fun _ _ g _ hbg _ => put4_other w1 w.heap.size g _ _ _ _ (by omega))
  have hm2 := HM1.out.keep (put4_other w1 w.heap.size bc (.map lm) (.int .i64 ((last ps idText).getD 0)) (.int .i64 ((n0 : Int) + (rk ps hs : Nat))) (.slice vo n vc) (by omega))
  refine bodyPost_ret (v := .agg #[.map lm, .int .i64 ((last ps idText).getD 0), .int .i64 ((n0 : Int) + (rk ps hs : Nat)), .slice vo n vc]) (by simp [results, Try.results9, go_sem, r0, r1, r2, r3]) rfl ⟨vo, vc, rfl, ?_, hm2, hfr⟩
  obtain ⟨a, b, h1, h2⟩ := hc2
  refine ⟨a, b, h1, ?_⟩
  rcases h2 with h2 | ⟨g, h3, h4, h5⟩
  · exact .inl h2
  · exact .inr ⟨g, h3, by omega, h5⟩

end Go.Proofs.Qxb6618330a.Jn

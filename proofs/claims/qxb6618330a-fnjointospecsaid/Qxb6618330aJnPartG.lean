/-
  The law's part: where each name goes.
-/
import Derived.Test.Qxb6618330aJnPartH
import Derived.Deep.QuietTactic
import Derived.BigQuiet
namespace Go.Proofs.Qxb6618330a.Jn
set_option linter.unusedVariables false
open Go.ChangeShapes Go.WideShapes Go.ChangeAt Go.RowKit

set_option maxRecDepth 1000000 in
set_option maxHeartbeats 8000000 in
theorem partG {x : Bool} {a1 : Option Addr} {n1 c1 : Nat} {h1 : List ByteArray} {a2 : Option Addr} {n2 c2 : Nat} {h2 : List ByteArray} {a3 : Option Addr} {n3 c3 : Nat} {vs : List Value} {ro : List (Option (List ByteArray))} {a4 : Option Addr} {n4 c4 : Nat} {h4 : List ByteArray} {a5 : Option Addr} {n5 c5 : Nat} {h5 : List Int} {m : Nat} {w0 wa : World} {ho : Option Addr} {hcap : Nat} {lm : Option Nat} {bc : Nat} {gf : Nat} {s6 s7 s8 s9 s10 s11 s12 s15 s17 s18 s19 s20 s22 s24 s26 s30 s31 s32 s33 s34 s35 s36 s37 s38 s39 s40 s41 s42 s43 s44 s45 s46 s47 s48 s49 s50 s51 s52 s53 s54 s55 s56 s57 s58 s59 s60 s61 s62 s63 s64 s65 s66 s67 s68 s69 s70 s71 s72 s73 s74 s75 s76 s77 s78 s79 s80 s81 s82 s83 s84 s85 s86 s87 s88 s89 s90 s91 s92 s93 s94 s95 s96 s97 s98 s99 s100 s101 s102 s103 s104 s105 s106 s107 s108 s109 s110 s111 s112 s113 s114 s115 s116 s117 s118 s119 s120 s121 s122 s123 s124 s125 s126 s127 s128 s129 s130 s131 s132 s133 s134 s135 s136 s137 s138 s139 s140 s141 s142 s143 s144 s145 s146 s147 s148 s149 s150 s151 s152 s153 s154 s155 s156 s157 s158 s159 s160 s161 s162 s163 s164 s165 s166 s167 s168 s169 s170 s171 s172 s173 s174 s175 s176 s177 s178 s179 s180 s181 s182 s183 s184 s185 s186 s187 s188 s189 s190 s191 s192 s193 s194 s195 s196 s197 s198 s199 s200 s201 s202 s203 s204 s205 s206 s207 s208 s209 s210 s211 s212 s213 s214 s215 s216 s217 s218 s219 s220 s221 s222 s223 s224 s225 s226 s227 s228 s229 s230 s231 s232 s233 s234 s235 s236 s237 s238 s239 s240 s241 s242 s243 s244 s245 s246 s247 s248 s249 s250 s251 s252 s253 s254 s255 s256 s257 s258 s259 s260 s261 s262 s263 s264 s265 s266 s267 s268 s269 s270 s271 s272 s273 s274 s275 s276 s277 s278 s279 s280 s281 s282 s283 s284 s285 s286 s287 s288 s289 s290 s291 s292 s293 s294 s295 s296 s297 s298 s299 s300 s301 s302 s303 s304 s305 s306 s307 s308 s309 s310 s311 s312 s313 s314 s315 s316 s317 s318 s319 s320 s321 s322 s323 s324 s325 s326 s327 s328 s329 s330 s331 s332 s333 s334 s335 s336 s337 s338 s339 s340 s341 s342 s343 s344 s345 s346 s347 s348 s349 s350 s351 s352 s353 s354 s355 s356 s357 s358 s359 s360 s361 s362 s363 s364 s365 s366 s367 s368 s369 s370 s371 s372 s373 s374 s375 s376 s377 s378 s379 s380 s381 s382 s383 s384 s385 s386 s387 s388 s389 s390 s391 s392 s393 s394 s395 s396 s397 s398 s399 s400 s401 s402 s403 s404 s405 s406 s407 s408 s409 s410 s411 s412 s413 s414 s415 s416 s417 s418 s419 s420 s421 s422 s423 s424 s425 s426 s427 s428 s429 s430 s431 s432 s433 s434 s435 s436 s437 s438 s439 s440 s441 s442 s443 s444 s445 : Value}
    (hE : Env wa a1 n1 h1 a2 n2 h2 a3 n3 vs ro a4 n4 h4 a5 n5 h5) (hB : Below w0.heap.size w0 wa) (hm4 : m ≤ n4) (hm5 : m ≤ n5) (hH : VRow wa ho (strs h1)) (hL : LinesV w0.heap.size wa lm a2 n2 h2 ro) (hM : MapIs wa bc m (asInt (last (psOf h4 h5 m))) (dist (h4.take m))) (hbc : w0.heap.size ≤ bc) (hbl : lm ≠ some bc) (hF : Blk wa gf 4 (frs (psOf h4 h5 m) h1 n1)) :
    Code.wp Try.prog (dropSeq 18 (Try.f3.body.getD .skip)) (bodyPost Try.prog Try.f3 (fun e w' => e = .returned (.bool true) ∧ Below w0.heap.size w0 w')) ⟨#[.bool x, .slice a1 n1 c1, .slice a2 n2 c2, .slice a3 n3 c3, .slice a4 n4 c4, .slice a5 n5 c5, s6, s7, s8, s9, s10, s11, s12, .int .i64 m, .slice ho n1 hcap, s15, .map lm, s17, s18, s19, s20, .map (some bc), s22, .int .i64 ((dist (h4.take m)) : Nat), s24, .int .i64 ((last (psOf h4 h5 m) idText).getD 0), s26, .int .i64 n1, .slice (some ⟨gf, 0, none⟩) n1 n1, .int .i64 (rk (psOf h4 h5 m) h1 : Nat), s30, s31, s32, s33, s34, s35, s36, s37, s38, s39, s40, s41, s42, s43, s44, s45, s46, s47, s48, s49, s50, s51, s52, s53, s54, s55, s56, s57, s58, s59, s60, s61, s62, s63, s64, s65, s66, s67, s68, s69, s70, s71, s72, s73, s74, s75, s76, s77, s78, s79, s80, s81, s82, s83, s84, s85, s86, s87, s88, s89, s90, s91, s92, s93, s94, s95, s96, s97, s98, s99, s100, s101, s102, s103, s104, s105, s106, s107, s108, s109, s110, s111, s112, s113, s114, s115, s116, s117, s118, s119, s120, s121, s122, s123, s124, s125, s126, s127, s128, s129, s130, s131, s132, s133, s134, s135, s136, s137, s138, s139, s140, s141, s142, s143, s144, s145, s146, s147, s148, s149, s150, s151, s152, s153, s154, s155, s156, s157, s158, s159, s160, s161, s162, s163, s164, s165, s166, s167, s168, s169, s170, s171, s172, s173, s174, s175, s176, s177, s178, s179, s180, s181, s182, s183, s184, s185, s186, s187, s188, s189, s190, s191, s192, s193, s194, s195, s196, s197, s198, s199, s200, s201, s202, s203, s204, s205, s206, s207, s208, s209, s210, s211, s212, s213, s214, s215, s216, s217, s218, s219, s220, s221, s222, s223, s224, s225, s226, s227, s228, s229, s230, s231, s232, s233, s234, s235, s236, s237, s238, s239, s240, s241, s242, s243, s244, s245, s246, s247, s248, s249, s250, s251, s252, s253, s254, s255, s256, s257, s258, s259, s260, s261, s262, s263, s264, s265, s266, s267, s268, s269, s270, s271, s272, s273, s274, s275, s276, s277, s278, s279, s280, s281, s282, s283, s284, s285, s286, s287, s288, s289, s290, s291, s292, s293, s294, s295, s296, s297, s298, s299, s300, s301, s302, s303, s304, s305, s306, s307, s308, s309, s310, s311, s312, s313, s314, s315, s316, s317, s318, s319, s320, s321, s322, s323, s324, s325, s326, s327, s328, s329, s330, s331, s332, s333, s334, s335, s336, s337, s338, s339, s340, s341, s342, s343, s344, s345, s346, s347, s348, s349, s350, s351, s352, s353, s354, s355, s356, s357, s358, s359, s360, s361, s362, s363, s364, s365, s366, s367, s368, s369, s370, s371, s372, s373, s374, s375, s376, s377, s378, s379, s380, s381, s382, s383, s384, s385, s386, s387, s388, s389, s390, s391, s392, s393, s394, s395, s396, s397, s398, s399, s400, s401, s402, s403, s404, s405, s406, s407, s408, s409, s410, s411, s412, s413, s414, s415, s416, s417, s418, s419, s420, s421, s422, s423, s424, s425, s426, s427, s428, s429, s430, s431, s432, s433, s434, s435, s436, s437, s438, s439, s440, s441, s442, s443, s444, s445], []⟩ wa := by
  obtain ⟨i0, hi0, hz0, hz1, hz2⟩ := info_parts info3
  have HE := hid hE
  have hz := hE.z1
  have hz4 := hE.z4
  have hz5 := hE.z5
  have HM := hid hM
  have HB := hid hB
  have HH := hid hH
  have HL := hid hL
  have HF := hid hF
  have HBL := hid hbl
  have hnb : dist (h4.take m) ≤ 4096 := Nat.le_trans (dist_le _) (by simp; omega)
  clear hE hM hB hH hL hbl hF
  conv => arg 2; whnf
  go_upto_block 12 with (first
    | (at_make; go_must (refine wpList_make_full _ rfl _ _ 24 rfl wa.heap.size 3 i0 (.int .i64 0) 1 Try.underlying24 hi0 hz0 hz1 .i64 .i64 _ _ n1 rfl rfl rfl rfl (by rw [hz2]; omega) (by unfold maxLen; omega) (Nat.le_refl _) ?_; intro w1 hown1 hgrow1)))
  have hb1 : Below wa.heap.size wa w1 := (Below.refl _ _).grown hgrow1 (Nat.le_refl _) (by simp)
  have hk1 : Blk w1 wa.heap.size 3 (tab (fun g => .int .i64 (wtAt (psOf h4 h5 m) (dist (h4.take m)) h1 g)) (.int .i64 0) n1 0) := by rw [tab_zero]; exact blk_zeros rfl hown1
  clear hown1 hgrow1
  go_cut [34] from 219 to 272 (fun _ wx => Blk wx wa.heap.size 3 (wts (psOf h4 h5 m) (dist (h4.take m)) h1 n1) ∧ Below wa.heap.size wa wx)
  case rest =>
    obtain ⟨hW, hb⟩ := hcut
    go_step
    exact partH (HE.out.below hb) (below_then HB.out hb) hm4 hm5 (HH.out.below hb) (HL.out.below hb) (HM.out.below hb HM.out.lt) hbc HBL.out (HF.out.below hb HF.out.lt) hW
  case first =>
    go_wp2
    go_loopw [34] (fun i wx => ∃ k : Nat, k ≤ n1 ∧ i = .int .i64 k ∧ Blk wx wa.heap.size 3 (tab (fun g => .int .i64 (wtAt (psOf h4 h5 m) (dist (h4.take m)) h1 g)) (.int .i64 0) n1 k) ∧ Below wa.heap.size wa wx) (fun i _ => n1 - (intOf i).toNat)
    case atStart => exact ⟨0, Nat.zero_le _, rfl, hk1, hb1⟩
    case round =>
      clear hk1 hb1
      obtain ⟨k, hk, rfl, hbk, hbo⟩ := hrel
      rename World => wo
      by_cases hlt : k < n1
      · have hk1 : k < h1.length := by rw [HE.out.l1]; omega
        obtain ⟨b1, off1, e1, hbw1, hc1⟩ := (HE.out.r1.below hbo).at (by simp; omega)
        have c1 := hc1 k (by simpa using hk1)
        rw [List.getElem_map] at c1
        obtain ⟨t, ht⟩ : ∃ t, t = h1[k] := ⟨_, rfl⟩
        rw [← ht] at c1
        subst e1
        have i1 : (k : Int) < (n1 : Int) := by omega
        have HC1 := hid hc1
        have HT := hid ht
        have HBO := hid hbo
        have HBK := hid hbk
        clear hc1 ht hbo
        cases hls : (last (psOf h4 h5 m) t).isSome
        · have HLS := hid hls
          clear hls hbk
          go_upto_block 14 with (first
            | (go_at_call 7; go_must (refine (last_is _ n4 _ _ n5 _ m h4 h5 t _ (by rw [HE.out.l4]; exact hm4) (by rw [HE.out.l5]; exact hm5) HE.out.l4 HE.out.l5 (by omega) (HE.out.r4.below HBO.out) (HE.out.r5.below HBO.out) _ false rfl HLS.out).mono ?_; rintro e wo ⟨rfl, rfl⟩)))
          go_cut [37] from 240 to 255 (fun v wx => ∃ f : Nat, f ≤ k ∧ v = .int .i64 f ∧ Hid (pre h1 t = h1.take f) ∧ Below wo.heap.size wo wx)
          case first =>
            go_wp2
            go_loopw [37] (fun v wx => ∃ f : Nat, f ≤ k ∧ v = .int .i64 f ∧ Hid (∀ g (_ : g < f) (hg : g < h1.length), h1[g] ≠ t) ∧ Below wo.heap.size wo wx) (fun v _ => k - (intOf v).toNat)
            case atStart => exact ⟨0, Nat.zero_le _, rfl, fun g h => absurd h (Nat.not_lt_zero _), Below.refl _ _⟩
            case round =>
              obtain ⟨f, hf, rfl, HG, hbf⟩ := hrel
              have hfL : f < h1.length := by omega
              have c2 := (hbf.cell (p := ⟨b1, off1 + k, none⟩) hbw1).trans c1
              by_cases hfk : f < k
              · have c3 := HC1.out f (by simpa using hfL)
                rw [List.getElem_map] at c3
                obtain ⟨s, hs⟩ : ∃ s, s = h1[f] := ⟨_, rfl⟩
                rw [← hs] at c3
                have c4 := (hbf.cell (p := ⟨b1, off1 + f, none⟩) hbw1).trans c3
                have HS := hid hs
                have HBF := hid hbf
                have j1 : (f : Int) < (k : Int) := by omega
                have j2 : (f : Int) < (n1 : Int) := by omega
                clear hs hbf c3
                cases he : (s.toList == t.toList)
                · have hne : (s.toList != t.toList) = true := by rw [bne, he]; rfl
                  have HNE := hid (str_ne s t he)
                  go_wp2
                  go_quiet (fail)
                  go_wp2
                  go_roundw
                  case rel =>
                    refine ⟨f + 1, by omega, by go_num, fun g hg hgl => ?_, below_drewN HBF.out _⟩
                    by_cases hgf : g = f
                    · subst hgf; rw [← HS.out]; exact HNE.out
                    · exact HG.out g (by omega) hgl
                  case measure => simp [intOf]; omega
                · have hne : (s.toList != t.toList) = false := by rw [bne, he]; rfl
                  have HEQ := hid (str_eq s t he)
                  go_wp2
                  go_quiet (fail)
                  go_wp2
                  go_meet
                  case rel => exact ⟨f, by omega, rfl, pre_take h1 f t (by omega) (fun g hg => HG.out g hg (by omega)) ⟨hfL, by rw [← HS.out]; exact HEQ.out⟩, below_drewN HBF.out _⟩
              · obtain rfl : f = k := by omega
                have hd : decide ((f : Int) < (f : Int)) = false := by simp
                have HBF := hid hbf
                clear hbf
                go_wp2
                go_quiet (fail)
                go_wp2
                go_meet
                case rel => exact ⟨f, Nat.le_refl _, rfl, pre_take h1 f t (by omega) (fun g hg => HG.out g hg (by omega)) ⟨hfL, HT.out.symm⟩, below_drewN HBF.out _⟩
          case rest =>
            obtain ⟨f, hf, rfl, HPR, hbf⟩ := hcut
            have HBF := hid hbf
            have hblk := HBK.out.below hbf (by have := HBK.out.lt; exact this)
            have HFc := hid ((HF.out.below HBO.out HF.out.lt).below hbf (Nat.lt_of_lt_of_le HF.out.lt HBO.out.size))
            have d0 := hblk.cell k
            rw [tab_at _ _ n1 k hlt] at d0
            have f0 := hblk.free k
            have hrb : rk (psOf h4 h5 m) (h1.take f) ≤ 4096 := Nat.le_trans (rk_le _ _) (by simp; omega)
            have HP := hid (hblk.set k (.int .i64 ((dist (h4.take m) : Int) + (rk (psOf h4 h5 m) (h1.take f) : Nat))))
            rw [tab_set _ _ n1 k hlt (.int .i64 ((dist (h4.take m) : Int) + (rk (psOf h4 h5 m) (h1.take f) : Nat))) (by rw [wtAt_new (psOf h4 h5 m) (dist (h4.take m)) h1 k f t hk1 HT.out (opt_none HLS.out) HPR.out])] at HP
            have HB2 := hid ((HBO.out.trans (hbf.mono HBO.out.size)).setCell (p := ⟨wa.heap.size, k, none⟩) (Nat.le_refl _) (.int .i64 ((dist (h4.take m) : Int) + (rk (psOf h4 h5 m) (h1.take f) : Nat))))
            clear hbf hblk c1
            go_wp2
            go_loop [38, 39] (fun v i => ∃ g : Nat, g ≤ f ∧ i = .int .i64 g ∧ v = .int .i64 (rk (psOf h4 h5 m) (h1.take g) : Nat)) (fun _ i => f - (intOf i).toNat)
            case atStart => exact ⟨0, Nat.zero_le _, rfl, rfl⟩
            case round =>
              obtain ⟨g, hg, rfl, rfl⟩ := hrel
              by_cases hgf : g < f
              · have hgn : g < n1 := by omega
                have hgL : g < h1.length := by omega
                have cg := HFc.out.cell g
                rw [show (frs (psOf h4 h5 m) h1 n1)[g]? = some (.bool (frAt (psOf h4 h5 m) h1 g)) from range_at _ n1 g hgn] at cg
                have hrk := rk_next (psOf h4 h5 m) h1 g hgL
                have hrg : rk (psOf h4 h5 m) (h1.take g) ≤ 4096 := Nat.le_trans (rk_le _ _) (by simp; omega)
                cases hfa : frAt (psOf h4 h5 m) h1 g
                · rw [hfa] at cg hrk
                  have HRK : Hid (rk (psOf h4 h5 m) (h1.take (g + 1)) = rk (psOf h4 h5 m) (h1.take g)) := hrk
                  clear hrk hfa
                  go_wp2
                  go_round
                  case rel => exact ⟨g + 1, by omega, by go_num, by rw [HRK.out]⟩
                  case measure => simp [intOf]; omega
                · rw [hfa] at cg hrk
                  have HRK : Hid (rk (psOf h4 h5 m) (h1.take (g + 1)) = rk (psOf h4 h5 m) (h1.take g) + 1) := hrk
                  clear hrk hfa
                  go_wp2
                  go_round
                  case rel => exact ⟨g + 1, by omega, by go_num, by rw [HRK.out]; go_num⟩
                  case measure => simp [intOf]; omega
              · obtain rfl : g = f := by omega
                go_wp2
                go_roundw
                case rel => exact ⟨k + 1, by omega, by go_num, HP.out, HB2.out⟩
                case measure => simp [intOf]; omega
        · have d0 := hbk.cell k
          rw [tab_at _ _ n1 k hlt] at d0
          have f0 := hbk.free k
          have HP := hid (hbk.set k (.int .i64 ((last (psOf h4 h5 m) t).getD 0)))
          rw [tab_set _ _ n1 k hlt (.int .i64 ((last (psOf h4 h5 m) t).getD 0)) (by rw [wtAt_old (psOf h4 h5 m) (dist (h4.take m)) h1 k t hk1 HT.out _ (opt_some hls)])] at HP
          have HB2 := hid (HBO.out.setCell (p := ⟨wa.heap.size, k, none⟩) (Nat.le_refl _) (.int .i64 ((last (psOf h4 h5 m) t).getD 0)))
          have HLS := hid hls
          clear hls hbk
          go_wp2_with (first
            | (go_at_call 7; go_must (refine (last_is _ n4 _ _ n5 _ m h4 h5 t _ (by rw [HE.out.l4]; exact hm4) (by rw [HE.out.l5]; exact hm5) HE.out.l4 HE.out.l5 (by omega) (HE.out.r4.below HBO.out) (HE.out.r5.below HBO.out) _ true rfl HLS.out).mono ?_; rintro e wo ⟨rfl, rfl⟩)))
          go_roundw
          case rel => exact ⟨k + 1, by omega, by go_num, HP.out, HB2.out⟩
          case measure => simp [intOf]; omega
      · obtain rfl : k = n1 := by omega
        have HP := hid hbk
        rw [tab_end] at HP
        have HBO := hid hbo
        clear hbk hbo
        go_wp2
        go_meet
        case rel => exact ⟨HP.out, HBO.out⟩

end Go.Proofs.Qxb6618330a.Jn

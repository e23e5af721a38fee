/-
  The law's part: the copy of the header.
-/
import Derived.Test.Qxb6618330aJnPartC
namespace Go.Proofs.Qxb6618330a.Jn
set_option linter.unusedVariables false
open Go.ChangeShapes Go.WideShapes Go.ChangeAt Go.RowKit

set_option maxRecDepth 1000000 in
set_option maxHeartbeats 8000000 in
theorem partB {x : Bool} {a1 : Option Addr} {n1 c1 : Nat} {h1 : List ByteArray} {a2 : Option Addr} {n2 c2 : Nat} {h2 : List ByteArray} {a3 : Option Addr} {n3 c3 : Nat} {vs : List Value} {ro : List (Option (List ByteArray))} {a4 : Option Addr} {n4 c4 : Nat} {h4 : List ByteArray} {a5 : Option Addr} {n5 c5 : Nat} {h5 : List Int} {m : Nat} {w0 wa : World}  {s6 s7 s8 s9 s10 s11 s12 s14 s15 s16 s17 s18 s19 s20 s21 s22 s23 s24 s25 s26 s27 s28 s29 s30 s31 s32 s33 s34 s35 s36 s37 s38 s39 s40 s41 s42 s43 s44 s45 s46 s47 s48 s49 s50 s51 s52 s53 s54 s55 s56 s57 s58 s59 s60 s61 s62 s63 s64 s65 s66 s67 s68 s69 s70 s71 s72 s73 s74 s75 s76 s77 s78 s79 s80 s81 s82 s83 s84 s85 s86 s87 s88 s89 s90 s91 s92 s93 s94 s95 s96 s97 s98 s99 s100 s101 s102 s103 s104 s105 s106 s107 s108 s109 s110 s111 s112 s113 s114 s115 s116 s117 s118 s119 s120 s121 s122 s123 s124 s125 s126 s127 s128 s129 s130 s131 s132 s133 s134 s135 s136 s137 s138 s139 s140 s141 s142 s143 s144 s145 s146 s147 s148 s149 s150 s151 s152 s153 s154 s155 s156 s157 s158 s159 s160 s161 s162 s163 s164 s165 s166 s167 s168 s169 s170 s171 s172 s173 s174 s175 s176 s177 s178 s179 s180 s181 s182 s183 s184 s185 s186 s187 s188 s189 s190 s191 s192 s193 s194 s195 s196 s197 s198 s199 s200 s201 s202 s203 s204 s205 s206 s207 s208 s209 s210 s211 s212 s213 s214 s215 s216 s217 s218 s219 s220 s221 s222 s223 s224 s225 s226 s227 s228 s229 s230 s231 s232 s233 s234 s235 s236 s237 s238 s239 s240 s241 s242 s243 s244 s245 s246 s247 s248 s249 s250 s251 s252 s253 s254 s255 s256 s257 s258 s259 s260 s261 s262 s263 s264 s265 s266 s267 s268 s269 s270 s271 s272 s273 s274 s275 s276 s277 s278 s279 s280 s281 s282 s283 s284 s285 s286 s287 s288 s289 s290 s291 s292 s293 s294 s295 s296 s297 s298 s299 s300 s301 s302 s303 s304 s305 s306 s307 s308 s309 s310 s311 s312 s313 s314 s315 s316 s317 s318 s319 s320 s321 s322 s323 s324 s325 s326 s327 s328 s329 s330 s331 s332 s333 s334 s335 s336 s337 s338 s339 s340 s341 s342 s343 s344 s345 s346 s347 s348 s349 s350 s351 s352 s353 s354 s355 s356 s357 s358 s359 s360 s361 s362 s363 s364 s365 s366 s367 s368 s369 s370 s371 s372 s373 s374 s375 s376 s377 s378 s379 s380 s381 s382 s383 s384 s385 s386 s387 s388 s389 s390 s391 s392 s393 s394 s395 s396 s397 s398 s399 s400 s401 s402 s403 s404 s405 s406 s407 s408 s409 s410 s411 s412 s413 s414 s415 s416 s417 s418 s419 s420 s421 s422 s423 s424 s425 s426 s427 s428 s429 s430 s431 s432 s433 s434 s435 s436 s437 s438 s439 s440 s441 s442 s443 s444 s445 : Value}
    (hE : Env wa a1 n1 h1 a2 n2 h2 a3 n3 vs ro a4 n4 h4 a5 n5 h5) (hB : Below w0.heap.size w0 wa) (hm4 : m ≤ n4) (hm5 : m ≤ n5) (he1 : a1 = none → n1 = 0) (he2 : a2 = none → n2 = 0) :
    Code.wp Try.prog (dropSeq 5 (Try.f3.body.getD .skip)) (bodyPost Try.prog Try.f3 (fun e w' => e = .returned (.bool true) ∧ Below w0.heap.size w0 w')) ⟨#[.bool x, .slice a1 n1 c1, .slice a2 n2 c2, .slice a3 n3 c3, .slice a4 n4 c4, .slice a5 n5 c5, s6, s7, s8, s9, s10, s11, s12, .int .i64 m, s14, s15, s16, s17, s18, s19, s20, s21, s22, s23, s24, s25, s26, s27, s28, s29, s30, s31, s32, s33, s34, s35, s36, s37, s38, s39, s40, s41, s42, s43, s44, s45, s46, s47, s48, s49, s50, s51, s52, s53, s54, s55, s56, s57, s58, s59, s60, s61, s62, s63, s64, s65, s66, s67, s68, s69, s70, s71, s72, s73, s74, s75, s76, s77, s78, s79, s80, s81, s82, s83, s84, s85, s86, s87, s88, s89, s90, s91, s92, s93, s94, s95, s96, s97, s98, s99, s100, s101, s102, s103, s104, s105, s106, s107, s108, s109, s110, s111, s112, s113, s114, s115, s116, s117, s118, s119, s120, s121, s122, s123, s124, s125, s126, s127, s128, s129, s130, s131, s132, s133, s134, s135, s136, s137, s138, s139, s140, s141, s142, s143, s144, s145, s146, s147, s148, s149, s150, s151, s152, s153, s154, s155, s156, s157, s158, s159, s160, s161, s162, s163, s164, s165, s166, s167, s168, s169, s170, s171, s172, s173, s174, s175, s176, s177, s178, s179, s180, s181, s182, s183, s184, s185, s186, s187, s188, s189, s190, s191, s192, s193, s194, s195, s196, s197, s198, s199, s200, s201, s202, s203, s204, s205, s206, s207, s208, s209, s210, s211, s212, s213, s214, s215, s216, s217, s218, s219, s220, s221, s222, s223, s224, s225, s226, s227, s228, s229, s230, s231, s232, s233, s234, s235, s236, s237, s238, s239, s240, s241, s242, s243, s244, s245, s246, s247, s248, s249, s250, s251, s252, s253, s254, s255, s256, s257, s258, s259, s260, s261, s262, s263, s264, s265, s266, s267, s268, s269, s270, s271, s272, s273, s274, s275, s276, s277, s278, s279, s280, s281, s282, s283, s284, s285, s286, s287, s288, s289, s290, s291, s292, s293, s294, s295, s296, s297, s298, s299, s300, s301, s302, s303, s304, s305, s306, s307, s308, s309, s310, s311, s312, s313, s314, s315, s316, s317, s318, s319, s320, s321, s322, s323, s324, s325, s326, s327, s328, s329, s330, s331, s332, s333, s334, s335, s336, s337, s338, s339, s340, s341, s342, s343, s344, s345, s346, s347, s348, s349, s350, s351, s352, s353, s354, s355, s356, s357, s358, s359, s360, s361, s362, s363, s364, s365, s366, s367, s368, s369, s370, s371, s372, s373, s374, s375, s376, s377, s378, s379, s380, s381, s382, s383, s384, s385, s386, s387, s388, s389, s390, s391, s392, s393, s394, s395, s396, s397, s398, s399, s400, s401, s402, s403, s404, s405, s406, s407, s408, s409, s410, s411, s412, s413, s414, s415, s416, s417, s418, s419, s420, s421, s422, s423, s424, s425, s426, s427, s428, s429, s430, s431, s432, s433, s434, s435, s436, s437, s438, s439, s440, s441, s442, s443, s444, s445], []⟩ wa := by
  have q22n : ∀ (w : World) (a : Option Addr) (n c n' c' : Nat), (binOp .neq 22 (.slice a n c) (.slice none n' c')).run Try.prog w = .ok (.bool (!a.isNone)) w := fun w a n c n' c' => run_neq_slice_nil_any w _ _ a n c n' c' Try.underlying22
  obtain ⟨i0, hi0, hz0, hz1, hz2⟩ := info_parts info9
  have HE := hid hE
  have HB := hid hB
  have hz := hE.z1
  have HE1 := hid he1
  have HE2 := hid he2
  clear hE hB he1 he2
  conv => arg 2; whnf
  go_upto_if 80 with fail
  go_cut [14] from 79 to 96 (fun v wx => ∃ ho hcap, v = .slice ho n1 hcap ∧ VRow wx ho (strs h1) ∧ Below wa.heap.size wa wx)
  case rest =>
    obtain ⟨ho, hcap, rfl, hH, hb⟩ := hcut
    clear q22n
    go_step
    exact partC (HE.out.below hb) (below_then HB.out hb) hm4 hm5 hH HE2.out
  case first =>
    cases a1 with
    | none =>
      go_wp2
      go_meet
      case rel => exact ⟨none, 0, by rw [HE1.out (by trivial)], vrow_nil (by rw [HE.out.l1, HE1.out (by trivial)]), Below.refl _ _⟩
    | some a =>
      go_wp2_with (first
        | (at_make; go_must (refine wpList_make_full _ rfl _ _ 22 rfl wa.heap.size 9 i0 (.string ByteArray.empty) 1 Try.underlying22 hi0 hz0 hz1 .i64 .i64 _ _ n1 rfl rfl rfl rfl (by rw [hz2]; omega) (by unfold maxLen; omega) (Nat.le_refl _) ?_; intro w1 hown1 hgrow1)))
      have hb1 : Below wa.heap.size wa w1 := (Below.refl _ _).grown hgrow1 (Nat.le_refl _) (by simp)
      have hk1 : Blk w1 wa.heap.size 9 ((strs h1).take 0 ++ List.replicate (n1 - 0) (.string ByteArray.empty)) := blk_zeros rfl hown1
      clear hown1 hgrow1 q22n
      go_loopw [15] (fun i wx => ∃ k : Nat, k ≤ n1 ∧ i = .int .i64 k ∧ Blk wx wa.heap.size 9 ((strs h1).take k ++ List.replicate (n1 - k) (.string ByteArray.empty)) ∧ Below wa.heap.size wa wx) (fun i _ => n1 - (intOf i).toNat)
      case atStart => exact ⟨0, Nat.zero_le _, rfl, hk1, hb1⟩
      case round =>
        clear hk1 hb1
        obtain ⟨k, hk, rfl, hbk, hbl⟩ := hrel
        by_cases hlt : k < n1
        · have hkL : k < h1.length := by rw [HE.out.l1]; exact hlt
          obtain ⟨b, off, e1, hbw, hc⟩ := (HE.out.r1.below hbl).at (by simp; omega)
          obtain rfl := Option.some.inj e1
          have c0 := hc k (by simpa using hkL)
          rw [List.getElem_map] at c0
          obtain ⟨t, ht⟩ : ∃ t, t = h1[k] := ⟨_, rfl⟩
          rw [← ht] at c0
          have hls : (strs h1).length = n1 := by rw [strs_len]; exact HE.out.l1
          have d0 := hbk.cell k
          rw [fill_at (strs h1) n1 k hls hlt] at d0
          have f0 := hbk.free k
          have HP := hid (hbk.set k (.string t))
          rw [fill_set (strs h1) n1 k hls hlt _ (.string t) (by rw [ht]; simp)] at HP
          have HB2 := hid (hbl.setCell (p := ⟨wa.heap.size, k, none⟩) (Nat.le_refl _) (.string t))
          clear hc hbk hbl ht hls e1
          go_wp2
          go_roundw
          case rel => exact ⟨k + 1, by omega, by go_num, HP.out, HB2.out⟩
          case measure => simp [intOf]; omega
        · obtain rfl : k = n1 := by omega
          rw [fill_end (strs h1) k (by rw [strs_len]; exact HE.out.l1)] at hbk
          have HP := hid hbk.row
          have HB2 := hid hbl
          clear hbk hbl
          go_wp2
          go_meet
          case rel => exact ⟨_, _, rfl, HP.out, HB2.out⟩

end Go.Proofs.Qxb6618330a.Jn

/-
  The law's part: the book's columns.
-/
import Derived.Test.Qxb6618330aJnPartE
namespace Go.Proofs.Qxb6618330a.Jn
set_option linter.unusedVariables false
open Go.ChangeShapes Go.WideShapes Go.ChangeAt Go.RowKit

set_option maxRecDepth 1000000 in
set_option maxHeartbeats 8000000 in
theorem partD {x : Bool} {a1 : Option Addr} {n1 c1 : Nat} {h1 : List ByteArray} {a2 : Option Addr} {n2 c2 : Nat} {h2 : List ByteArray} {a3 : Option Addr} {n3 c3 : Nat} {vs : List Value} {ro : List (Option (List ByteArray))} {a4 : Option Addr} {n4 c4 : Nat} {h4 : List ByteArray} {a5 : Option Addr} {n5 c5 : Nat} {h5 : List Int} {m : Nat} {w0 wa : World} {ho : Option Addr} {hcap : Nat} {lm : Option Nat} {s6 s7 s8 s9 s10 s11 s12 s15 s17 s18 s19 s20 s21 s22 s23 s24 s25 s26 s27 s28 s29 s30 s31 s32 s33 s34 s35 s36 s37 s38 s39 s40 s41 s42 s43 s44 s45 s46 s47 s48 s49 s50 s51 s52 s53 s54 s55 s56 s57 s58 s59 s60 s61 s62 s63 s64 s65 s66 s67 s68 s69 s70 s71 s72 s73 s74 s75 s76 s77 s78 s79 s80 s81 s82 s83 s84 s85 s86 s87 s88 s89 s90 s91 s92 s93 s94 s95 s96 s97 s98 s99 s100 s101 s102 s103 s104 s105 s106 s107 s108 s109 s110 s111 s112 s113 s114 s115 s116 s117 s118 s119 s120 s121 s122 s123 s124 s125 s126 s127 s128 s129 s130 s131 s132 s133 s134 s135 s136 s137 s138 s139 s140 s141 s142 s143 s144 s145 s146 s147 s148 s149 s150 s151 s152 s153 s154 s155 s156 s157 s158 s159 s160 s161 s162 s163 s164 s165 s166 s167 s168 s169 s170 s171 s172 s173 s174 s175 s176 s177 s178 s179 s180 s181 s182 s183 s184 s185 s186 s187 s188 s189 s190 s191 s192 s193 s194 s195 s196 s197 s198 s199 s200 s201 s202 s203 s204 s205 s206 s207 s208 s209 s210 s211 s212 s213 s214 s215 s216 s217 s218 s219 s220 s221 s222 s223 s224 s225 s226 s227 s228 s229 s230 s231 s232 s233 s234 s235 s236 s237 s238 s239 s240 s241 s242 s243 s244 s245 s246 s247 s248 s249 s250 s251 s252 s253 s254 s255 s256 s257 s258 s259 s260 s261 s262 s263 s264 s265 s266 s267 s268 s269 s270 s271 s272 s273 s274 s275 s276 s277 s278 s279 s280 s281 s282 s283 s284 s285 s286 s287 s288 s289 s290 s291 s292 s293 s294 s295 s296 s297 s298 s299 s300 s301 s302 s303 s304 s305 s306 s307 s308 s309 s310 s311 s312 s313 s314 s315 s316 s317 s318 s319 s320 s321 s322 s323 s324 s325 s326 s327 s328 s329 s330 s331 s332 s333 s334 s335 s336 s337 s338 s339 s340 s341 s342 s343 s344 s345 s346 s347 s348 s349 s350 s351 s352 s353 s354 s355 s356 s357 s358 s359 s360 s361 s362 s363 s364 s365 s366 s367 s368 s369 s370 s371 s372 s373 s374 s375 s376 s377 s378 s379 s380 s381 s382 s383 s384 s385 s386 s387 s388 s389 s390 s391 s392 s393 s394 s395 s396 s397 s398 s399 s400 s401 s402 s403 s404 s405 s406 s407 s408 s409 s410 s411 s412 s413 s414 s415 s416 s417 s418 s419 s420 s421 s422 s423 s424 s425 s426 s427 s428 s429 s430 s431 s432 s433 s434 s435 s436 s437 s438 s439 s440 s441 s442 s443 s444 s445 : Value}
    (hE : Env wa a1 n1 h1 a2 n2 h2 a3 n3 vs ro a4 n4 h4 a5 n5 h5) (hB : Below w0.heap.size w0 wa) (hm4 : m ≤ n4) (hm5 : m ≤ n5) (hH : VRow wa ho (strs h1)) (hL : LinesV w0.heap.size wa lm a2 n2 h2 ro) :
    Code.wp Try.prog (dropSeq 9 (Try.f3.body.getD .skip)) (bodyPost Try.prog Try.f3 (fun e w' => e = .returned (.bool true) ∧ Below w0.heap.size w0 w')) ⟨#[.bool x, .slice a1 n1 c1, .slice a2 n2 c2, .slice a3 n3 c3, .slice a4 n4 c4, .slice a5 n5 c5, s6, s7, s8, s9, s10, s11, s12, .int .i64 m, .slice ho n1 hcap, s15, .map lm, s17, s18, s19, s20, s21, s22, s23, s24, s25, s26, s27, s28, s29, s30, s31, s32, s33, s34, s35, s36, s37, s38, s39, s40, s41, s42, s43, s44, s45, s46, s47, s48, s49, s50, s51, s52, s53, s54, s55, s56, s57, s58, s59, s60, s61, s62, s63, s64, s65, s66, s67, s68, s69, s70, s71, s72, s73, s74, s75, s76, s77, s78, s79, s80, s81, s82, s83, s84, s85, s86, s87, s88, s89, s90, s91, s92, s93, s94, s95, s96, s97, s98, s99, s100, s101, s102, s103, s104, s105, s106, s107, s108, s109, s110, s111, s112, s113, s114, s115, s116, s117, s118, s119, s120, s121, s122, s123, s124, s125, s126, s127, s128, s129, s130, s131, s132, s133, s134, s135, s136, s137, s138, s139, s140, s141, s142, s143, s144, s145, s146, s147, s148, s149, s150, s151, s152, s153, s154, s155, s156, s157, s158, s159, s160, s161, s162, s163, s164, s165, s166, s167, s168, s169, s170, s171, s172, s173, s174, s175, s176, s177, s178, s179, s180, s181, s182, s183, s184, s185, s186, s187, s188, s189, s190, s191, s192, s193, s194, s195, s196, s197, s198, s199, s200, s201, s202, s203, s204, s205, s206, s207, s208, s209, s210, s211, s212, s213, s214, s215, s216, s217, s218, s219, s220, s221, s222, s223, s224, s225, s226, s227, s228, s229, s230, s231, s232, s233, s234, s235, s236, s237, s238, s239, s240, s241, s242, s243, s244, s245, s246, s247, s248, s249, s250, s251, s252, s253, s254, s255, s256, s257, s258, s259, s260, s261, s262, s263, s264, s265, s266, s267, s268, s269, s270, s271, s272, s273, s274, s275, s276, s277, s278, s279, s280, s281, s282, s283, s284, s285, s286, s287, s288, s289, s290, s291, s292, s293, s294, s295, s296, s297, s298, s299, s300, s301, s302, s303, s304, s305, s306, s307, s308, s309, s310, s311, s312, s313, s314, s315, s316, s317, s318, s319, s320, s321, s322, s323, s324, s325, s326, s327, s328, s329, s330, s331, s332, s333, s334, s335, s336, s337, s338, s339, s340, s341, s342, s343, s344, s345, s346, s347, s348, s349, s350, s351, s352, s353, s354, s355, s356, s357, s358, s359, s360, s361, s362, s363, s364, s365, s366, s367, s368, s369, s370, s371, s372, s373, s374, s375, s376, s377, s378, s379, s380, s381, s382, s383, s384, s385, s386, s387, s388, s389, s390, s391, s392, s393, s394, s395, s396, s397, s398, s399, s400, s401, s402, s403, s404, s405, s406, s407, s408, s409, s410, s411, s412, s413, s414, s415, s416, s417, s418, s419, s420, s421, s422, s423, s424, s425, s426, s427, s428, s429, s430, s431, s432, s433, s434, s435, s436, s437, s438, s439, s440, s441, s442, s443, s444, s445], []⟩ wa := by
  have HE := hid hE
  have HB := hid hB
  have HH := hid hH
  have HL := hid hL
  have hz := hE.z4
  have hz5 := hE.z5
  have hmm := @run_makeMap Try.prog
  clear hE hB hH hL
  conv => arg 2; whnf
  go_upto_block 6 with fail
  clear hmm
  go_cut [22] from 144 to 157 (fun _ wx => MapIs wx wa.heap.size m (asInt (last (psOf h4 h5 m))) (dist (h4.take m)) ∧ Below wa.heap.size wa wx)
  case rest =>
    obtain ⟨hM, hb⟩ := hcut
    go_step
    refine partE (HE.out.below hb) (below_then HB.out hb) hm4 hm5 (HH.out.below hb) (HL.out.below hb) hM HB.out.size ?_
    rcases HL.out with ⟨rfl, _⟩ | ⟨bl, us, rfl, _, _, hla⟩
    · simp
    · intro e
      have := hla.map.lt
      simp at e
      omega
  case first =>
    go_wp2
    go_loopw [22] (fun i wx => ∃ k : Nat, k ≤ m ∧ i = .int .i64 k ∧ MapIs wx wa.heap.size k (asInt (last (psOf h4 h5 k))) (dist (h4.take k)) ∧ Below wa.heap.size wa wx) (fun i _ => m - (intOf i).toNat)
    case atStart => exact ⟨0, Nat.zero_le _, rfl, cols_start wa h4 h5, (Below.refl _ _).alloc (Nat.le_refl _) _⟩
    case round =>
      obtain ⟨k, hk, rfl, hM, hbl⟩ := hrel
      by_cases hlt : k < m
      · have hk4 : k < h4.length := by rw [HE.out.l4]; omega
        have hk5 : k < h5.length := by rw [HE.out.l5]; omega
        have HEo := HE.out.below hbl
        obtain ⟨b4, off4, e4, hbw4, hc4⟩ := HEo.r4.at (by simp; omega)
        obtain ⟨b5, off5, e5, hbw5, hc5⟩ := HEo.r5.at (by simp; omega)
        have c4 := hc4 k (by simpa using hk4)
        have c5 := hc5 k (by simpa using hk5)
        rw [List.getElem_map] at c4 c5
        obtain ⟨t, ht⟩ : ∃ t, t = h4[k] := ⟨_, rfl⟩
        obtain ⟨y, hy⟩ : ∃ y, y = h5[k] := ⟨_, rfl⟩
        rw [← ht] at c4
        rw [← hy] at c5
        have hMd : MapIs wr.drew wa.heap.size k (asInt (last (psOf h4 h5 k))) (dist (h4.take k)) := hM.keep rfl
        obtain ⟨w1, hupd, hM1, hg1⟩ := hMd.store Try.underlying28 (by unfold maxLen; omega) t (HEo.s4 t (by rw [ht]; exact List.getElem_mem _)) (.int .i64 y)
        have HM1 := hid (cols_step hk4 hk5 ht hy hM1)
        have HB2 := hid (hbl.drew.grown hg1 hbl.size (fun j hj => by cases hj; exact Nat.le_refl _))
        subst e4 e5
        have i4 : (k : Int) < (n4 : Int) := by omega
        have i5 : (k : Int) < (n5 : Int) := by omega
        clear hc4 hc5 ht hy hM hM1 hg1 hMd hbl HEo
        go_wp2
        go_region
        all_goals
          go_wp2
          go_roundw
          case rel => exact ⟨k + 1, by omega, by go_num, HM1.out, HB2.out⟩
          case measure => simp [intOf]; omega
      · obtain rfl : k = m := by omega
        have HM := hid hM
        have HB2 := hid hbl
        clear hM hbl
        go_wp2
        go_meet
        case rel => exact ⟨HM.out, HB2.out⟩

end Go.Proofs.Qxb6618330a.Jn

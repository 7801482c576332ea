/-
  THE MODEL's LOOP OVER THE ELEMENTS. The frame's other slots are letters.
-/
import Derived.Test.YbulkdxjmDoorHeads
import Derived.Deep.RegionHeld3
import Derived.Deep.RegionLaw
import Derived.Deep.DeepCutAuto
import Derived.Deep.CutBlock
namespace Go.Proofs.YbulkdxjmDoor
open Go.RowKit
set_option linter.unusedVariables false
set_option linter.unusedSimpArgs false
noncomputable def code_St6 : Code := ((Ybad.f3.body.bind (findBlock 10)).getD .skip)

set_option maxRecDepth 1000000 in
set_option maxHeartbeats 4000000 in
theorem St6 {s3 s4 s5 s7 s8 s9 s10 s11 s12 s13 s14 s15 s16 s17 s18 s19 s20 s21 s22 s23 s28 s29 s30 s31 s32 s33 s34 s35 s36 s37 s38 s39 s40 s41 s42 s43 s44 s45 s46 s47 s48 s49 s50 s51 s52 s53 s54 s55 s56 s57 s58 s59 s60 s61 s62 s63 s64 s65 s66 s67 s68 s69 s70 s71 s72 s73 s74 s75 s76 s77 s78 s79 s80 s81 s82 s83 s84 s85 s86 s87 s88 s89 s90 s91 s92 s93 s94 s95 s96 s97 s98 s99 s100 s101 s102 s103 s104 s105 s106 s107 s108 s109 s110 s111 s112 s113 s114 s115 s116 s117 s118 s119 s120 s121 s122 s123 s124 s125 s126 s127 s128 s129 s130 s131 s132 s133 s134 s135 s136 s137 s138 s139 s140 s141 s142 s143 s144 s145 s146 s147 s148 s149 s150 s151 s152 s153 s154 s155 s156 s157 s158 s159 s160 s161 s162 s163 s164 s165 s166 s167 s168 s169 s170 s171 s172 s173 s174 s175 s176 s177 s178 s179 s180 s181 s182 s183 s184 s185 s186 s187 s188 s189 s190 s191 s192 s193 s194 s195 s196 s197 s198 s199 s200 s201 s202 s203 s204 s205 s206 s207 s208 s209 s210 s211 s212 s213 s214 s215 s216 s217 s218 s219 s220 s221 s222 s223 s224 s225 s226 s227 s228 s229 s230 s231 s232 s233 s234 s235 s236 s237 s238 s239 s240 s241 s242 s243 s244 s245 s246 s247 s248 s249 s250 s251 s252 s253 s254 s255 s256 s257 s258 s259 s260 s261 s262 s263 s264 s265 s266 s267 s268 s269 s270 s271 s272 s273 s274 s275 s276 s277 s278 s279 s280 s281 s282 s283 s284 s285 s286 s287 s288 s289 s290 s291 s292 s293 s294 s295 s296 s297 s298 s299 s300 s301 s302 s303 s304 s305 s306 s307 s308 s309 s310 s311 s312 s313 s314 s315 s316 s317 s318 s319 s320 s321 s322 s323 s324 s325 s326 s327 s328 s329 s330 s331 s332 s333 s334 s335 s336 s337 s338 s339 s340 s341 s342 s343 s344 s345 s346 s347 s348 s349 s350 s351 s352 s353 s354 s355 s356 s357 s358 s359 s360 s361 s362 : Value} (p4 p6 : Addr) (W A6 : World) (HE : Hid (Env W p4 p6)) (a0 a1 a2 a6 : Option Addr) (n0 c0 n1 c1 n2 c2 n6 c6 : Nat) (ls : List Ep) (zs : List Int) (ps es : List Ep) (H0 : Hid (EpsAt W a0 ls)) (H1 : Hid (BytesAt W a1 zs)) (H2 : Hid (EpsAt W a2 ps)) (H6 : Hid (EpsAt W a6 es)) (L0 : Hid (ls.length = n0)) (L1 : Hid (zs.length = n1)) (L2 : Hid (ps.length = n2)) (L6 : Hid (es.length = n6)) (hbig : n0 + n1 + n2 + n6 ≤ 4096) (HC6 : Hid (n6 ≤ c6)) (hbr6 : Below W.heap.size W A6) (FB : Nat → Option Int) (HFB : Hid (FB = firstBad zs ls (keyIn ps) es)) :
    Code.wp Ybad.prog code_St6 (OnlyNormal fun a wr => ∃ y27 y28 y167 y168 y169 y170 y171 y172 y173 y174 y175 y176 y177 y178 y179 y180 y181 y182 y183 y184 y185 y186 y187 y188 y189 y190 y191 y192 y193 y194 y195 y196 y197 y198 y199 y200 y201 y202 y203 y204 y205 : Value, a = ⟨#[.slice a0 n0 c0, .slice a1 n1 c1, .slice a2 n2 c2, s3, s4, s5, .slice a6 n6 c6, s7, s8, s9, s10, s11, s12, s13, s14, s15, s16, s17, s18, s19, s20, s21, s22, s23, .int .u8 ((FB n6).getD 0), .bool (FB n6).isSome, .bool (FB n6).isSome, y27, y28, s29, s30, s31, s32, s33, s34, s35, s36, s37, s38, s39, s40, s41, s42, s43, s44, s45, s46, s47, s48, s49, s50, s51, s52, s53, s54, s55, s56, s57, s58, s59, s60, s61, s62, s63, s64, s65, s66, s67, s68, s69, s70, s71, s72, s73, s74, s75, s76, s77, s78, s79, s80, s81, s82, s83, s84, s85, s86, s87, s88, s89, s90, s91, s92, s93, s94, s95, s96, s97, s98, s99, s100, s101, s102, s103, s104, s105, s106, s107, s108, s109, s110, s111, s112, s113, s114, s115, s116, s117, s118, s119, s120, s121, s122, s123, s124, s125, s126, s127, s128, s129, s130, s131, s132, s133, s134, s135, s136, s137, s138, s139, s140, s141, s142, s143, s144, s145, s146, s147, s148, s149, s150, s151, s152, s153, s154, s155, s156, s157, s158, s159, s160, s161, s162, s163, s164, s165, s166, y167, y168, y169, y170, y171, y172, y173, y174, y175, y176, y177, y178, y179, y180, y181, y182, y183, y184, y185, y186, y187, y188, y189, y190, y191, y192, y193, y194, y195, y196, y197, y198, y199, y200, y201, y202, y203, y204, y205, s206, s207, s208, s209, s210, s211, s212, s213, s214, s215, s216, s217, s218, s219, s220, s221, s222, s223, s224, s225, s226, s227, s228, s229, s230, s231, s232, s233, s234, s235, s236, s237, s238, s239, s240, s241, s242, s243, s244, s245, s246, s247, s248, s249, s250, s251, s252, s253, s254, s255, s256, s257, s258, s259, s260, s261, s262, s263, s264, s265, s266, s267, s268, s269, s270, s271, s272, s273, s274, s275, s276, s277, s278, s279, s280, s281, s282, s283, s284, s285, s286, s287, s288, s289, s290, s291, s292, s293, s294, s295, s296, s297, s298, s299, s300, s301, s302, s303, s304, s305, s306, s307, s308, s309, s310, s311, s312, s313, s314, s315, s316, s317, s318, s319, s320, s321, s322, s323, s324, s325, s326, s327, s328, s329, s330, s331, s332, s333, s334, s335, s336, s337, s338, s339, s340, s341, s342, s343, s344, s345, s346, s347, s348, s349, s350, s351, s352, s353, s354, s355, s356, s357, s358, s359, s360, s361, s362], []⟩ ∧ Hid (Below A6.heap.size A6 wr)) ⟨#[.slice a0 n0 c0, .slice a1 n1 c1, .slice a2 n2 c2, s3, s4, s5, .slice a6 n6 c6, s7, s8, s9, s10, s11, s12, s13, s14, s15, s16, s17, s18, s19, s20, s21, s22, s23, .int .u8 0, .bool false, .bool false, .int .i64 0, s28, s29, s30, s31, s32, s33, s34, s35, s36, s37, s38, s39, s40, s41, s42, s43, s44, s45, s46, s47, s48, s49, s50, s51, s52, s53, s54, s55, s56, s57, s58, s59, s60, s61, s62, s63, s64, s65, s66, s67, s68, s69, s70, s71, s72, s73, s74, s75, s76, s77, s78, s79, s80, s81, s82, s83, s84, s85, s86, s87, s88, s89, s90, s91, s92, s93, s94, s95, s96, s97, s98, s99, s100, s101, s102, s103, s104, s105, s106, s107, s108, s109, s110, s111, s112, s113, s114, s115, s116, s117, s118, s119, s120, s121, s122, s123, s124, s125, s126, s127, s128, s129, s130, s131, s132, s133, s134, s135, s136, s137, s138, s139, s140, s141, s142, s143, s144, s145, s146, s147, s148, s149, s150, s151, s152, s153, s154, s155, s156, s157, s158, s159, s160, s161, s162, s163, s164, s165, s166, s167, s168, s169, s170, s171, s172, s173, s174, s175, s176, s177, s178, s179, s180, s181, s182, s183, s184, s185, s186, s187, s188, s189, s190, s191, s192, s193, s194, s195, s196, s197, s198, s199, s200, s201, s202, s203, s204, s205, s206, s207, s208, s209, s210, s211, s212, s213, s214, s215, s216, s217, s218, s219, s220, s221, s222, s223, s224, s225, s226, s227, s228, s229, s230, s231, s232, s233, s234, s235, s236, s237, s238, s239, s240, s241, s242, s243, s244, s245, s246, s247, s248, s249, s250, s251, s252, s253, s254, s255, s256, s257, s258, s259, s260, s261, s262, s263, s264, s265, s266, s267, s268, s269, s270, s271, s272, s273, s274, s275, s276, s277, s278, s279, s280, s281, s282, s283, s284, s285, s286, s287, s288, s289, s290, s291, s292, s293, s294, s295, s296, s297, s298, s299, s300, s301, s302, s303, s304, s305, s306, s307, s308, s309, s310, s311, s312, s313, s314, s315, s316, s317, s318, s319, s320, s321, s322, s323, s324, s325, s326, s327, s328, s329, s330, s331, s332, s333, s334, s335, s336, s337, s338, s339, s340, s341, s342, s343, s344, s345, s346, s347, s348, s349, s350, s351, s352, s353, s354, s355, s356, s357, s358, s359, s360, s361, s362], []⟩ A6 := by
  conv => arg 2; whnf
  go_wp2
  go_loopw [24, 25, 26, 27] (fun want wref dn i wr => ∃ j : Nat, j ≤ n6 ∧ i = .int .i64 j ∧ want = .int .u8 ((FB j).getD 0) ∧ wref = .bool (FB j).isSome ∧ dn = .bool (FB j).isSome ∧ Below A6.heap.size A6 wr) (fun want wref dn i _ => n6 - (intOf i).toNat)
  case atStart => exact ⟨0, Nat.zero_le _, rfl, by rw [HFB.out] <;> rfl, by rw [HFB.out] <;> rfl, by rw [HFB.out] <;> rfl, Below.refl _ _⟩
  case round =>
    obtain ⟨j, hj, rfl, rfl, rfl, rfl, hb6⟩ := hrel
    have hbr : Below W.heap.size W wr := hbr6.trans (hb6.mono hbr6.size)
    cases hfb : FB j with
    | some cc =>
      have hfn : FB n6 = some cc := by rw [HFB.out] at hfb ⊢; exact firstBad_mono hfb n6 hj
      clear hfb
      by_cases hlt : j < n6
      · go_wp2
        first
          | exact ⟨⟨_, _, _, _, _, _, _, _, _, _, _, _, _, _, _, _, _, _, _, _, _, _, _, _, _, _, _, _, _, _, _, _, _, _, _, _, _, _, _, _, _, rfl⟩, hide (hb6)⟩
          | exact hide (hb6)
          | exact ⟨_, _, _, _, _, _, _, _, _, _, _, _, _, _, _, _, _, _, _, _, _, _, _, _, _, _, _, _, _, _, _, _, _, _, _, _, _, _, _, _, _, rfl, hide (hb6)⟩
      · go_wp2
        first
          | exact ⟨⟨_, _, _, _, _, _, _, _, _, _, _, _, _, _, _, _, _, _, _, _, _, _, _, _, _, _, _, _, _, _, _, _, _, _, _, _, _, _, _, _, _, rfl⟩, hide (hb6)⟩
          | exact hide (hb6)
          | exact ⟨_, _, _, _, _, _, _, _, _, _, _, _, _, _, _, _, _, _, _, _, _, _, _, _, _, _, _, _, _, _, _, _, _, _, _, _, _, _, _, _, _, rfl, hide (hb6)⟩
    | none =>
      have HNO := hide hfb
      clear hfb
      by_cases hlt : j < n6
      · skip
        obtain ⟨x, hx⟩ : ∃ x, es[j]? = some x := ⟨_, List.getElem?_eq_getElem (by have := L6.out; omega)⟩
        obtain ⟨b, o, rfl, hb, hc⟩ := H6.out.2 (by have := L6.out; omega)
        obtain ⟨q0, q1, q2, q3⟩ := hc j x hx
        obtain ⟨x0, x1, y0, y1, _⟩ := H6.out.1 x (List.mem_of_getElem? hx)
        have HST : Hid (FB (j + 1) = badAt zs ls (keyIn ps) (es.take j) x) := by have := HNO.out; rw [HFB.out] at this ⊢; exact hide (firstBad_step this hx)
        have k0 := (hbr.cell hb).trans q0
        have k1 := (hbr.cell hb).trans q1
        have k2 := (hbr.cell hb).trans q2
        have k3 := (hbr.cell hb).trans q3
        clear q0 q1 q2 q3 hc hx
        have hB := Boxes.one wr 70 [.int .u8 x.a, .int .u16 x.p, .int .u8 x.s, .int .u8 x.d]
        have hcr := hide (creach_calls x.a x.p x.s x.d (wr.alloc (.cells #[.int .u8 x.a, .int .u16 x.p, .int .u8 x.s, .int .u8 x.d] 70)) x0 x1 y0 y1)
        go_wp2_with fail
        refine (show Calls Ybad.prog 7 _ _ (fun e w' => e = .returned (.bool (reachB x.a x.p)) ∧ _) from hcr.out).mono ?_
        rintro e w1 ⟨rfl, hb1⟩
        have hB1 := hB.later hb1
        have hb61 := hb6.trans (hB1.1.mono hb6.size)
        clear hcr k0 k1 k2 k3 hB hb1
        cases hr : reachB x.a x.p with
        | false =>
          have HR := hide hr
          clear hr
          go_wp2
          go_roundw
          case rel =>
            have hs : FB (j + 1) = some 12 := by rw [HST.out]; simp [badAt, HR.out]
            exact ⟨j + 1, by omega, by go_num, by rw [hs] <;> rfl, by rw [hs] <;> rfl, by rw [hs] <;> rfl, hb61⟩
          case measure => simp [intOf]; omega
        | true =>
          have HR := hide hr
          clear hr
          obtain ⟨hc, hf⟩ := hB1.res (i := 0) rfl
          simp only [Nat.add_zero] at hc hf
          have d0 := hc 0 _ rfl
          have d1 := hc 1 _ rfl
          have d2 := hc 2 _ rfl
          have d3 := hc 3 _ rfl
          clear hc hf
          have hbr1 := hbr6.trans (hb61.mono hbr6.size)
          have hca := hide (cadmits_calls x.a x.p x.s x.d w1 x0 x1 a1 n1 c1 zs L1.out (by omega) (H1.out.below hbr1))
          go_wp2_with fail
          refine (show Calls Ybad.prog 8 _ _ (fun e w' => e = .returned (.bool (admitB x.a zs)) ∧ _) from hca.out).mono ?_
          rintro e w2 ⟨rfl, hb2⟩
          have hB2 := hB1.later hb2
          have hb62 := hb6.trans (hB2.1.mono hb6.size)
          clear hca d0 d1 d2 d3 hB1 hb2 hb61 hbr1
          cases had : admitB x.a zs with
          | false =>
            have HAD := hide had
            clear had
            go_wp2
            go_roundw
            case rel =>
              have hs : FB (j + 1) = some 11 := by rw [HST.out]; simp [badAt, HR.out, HAD.out]
              exact ⟨j + 1, by omega, by go_num, by rw [hs] <;> rfl, by rw [hs] <;> rfl, by rw [hs] <;> rfl, hb62⟩
            case measure => simp [intOf]; omega
          | true =>
            have HAD := hide had
            clear had
            obtain ⟨hc, hf⟩ := hB2.res (i := 0) rfl
            simp only [Nat.add_zero] at hc hf
            have d0 := hc 0 _ rfl
            have d1 := hc 1 _ rfl
            have d2 := hc 2 _ rfl
            have d3 := hc 3 _ rfl
            clear hc hf
            have hel : wr.heap.size < w2.heap.size := World.block_lt_of_cell? w2 _ d0
            have e0 : ∀ w', Below w2.heap.size w2 w' → w'.cell? ⟨wr.heap.size, 0, none⟩ = some (.int .u8 x.a) := fun w' h => (h.cell hel).trans d0
            have e1 : ∀ w', Below w2.heap.size w2 w' → w'.cell? ⟨wr.heap.size, 1, none⟩ = some (.int .u16 x.p) := fun w' h => (h.cell hel).trans d1
            have e2 : ∀ w', Below w2.heap.size w2 w' → w'.cell? ⟨wr.heap.size, 2, none⟩ = some (.int .u8 x.s) := fun w' h => (h.cell hel).trans d2
            have e3 : ∀ w', Below w2.heap.size w2 w' → w'.cell? ⟨wr.heap.size, 3, none⟩ = some (.int .u8 x.d) := fun w' h => (h.cell hel).trans d3
            obtain ⟨t1, ht1⟩ : ∃ t, inB x.a x.p (es.take j) = t := ⟨_, rfl⟩
            obtain ⟨t2, ht2⟩ : ∃ t, inB x.a x.p ps = t := ⟨_, rfl⟩
            obtain ⟨t3, ht3⟩ : ∃ t, inB x.a x.p ls = t := ⟨_, rfl⟩
            have hbr2 := hbr6.trans (hb62.mono hbr6.size)
            have hbrA : Hid (∀ w', Below w2.heap.size w2 w' → Below W.heap.size W w') := hide (fun w' h => hbr2.trans (h.mono hbr2.size))
            have hi1 : Hid (∀ w', Below w2.heap.size w2 w' → Calls Ybad.prog 9 #[.agg #[.int .u8 x.a, .int .u16 x.p, .int .u8 x.s, .int .u8 x.d], .slice (some ⟨b, o, none⟩) j c6] w' (fun e w'' => e = .returned (.bool t1) ∧ Below w'.heap.size w' w'')) := hide (fun w' h => by rw [← ht1]; exact cin_calls x.a x.p x.s x.d w' x0 x1 y0 y1 (some ⟨b, o, none⟩) j c6 (es.take j) (by rw [List.length_take, L6.out]; omega) (by omega) (H6.out.below (hbrA.out w' h)).take)
            have hi2 : Hid (∀ w', Below w2.heap.size w2 w' → Calls Ybad.prog 9 #[.agg #[.int .u8 x.a, .int .u16 x.p, .int .u8 x.s, .int .u8 x.d], .slice a2 n2 c2] w' (fun e w'' => e = .returned (.bool t2) ∧ Below w'.heap.size w' w'')) := hide (fun w' h => by rw [← ht2]; exact cin_calls x.a x.p x.s x.d w' x0 x1 y0 y1 a2 n2 c2 ps L2.out (by omega) (H2.out.below (hbrA.out w' h)))
            have hi3 : Hid (∀ w', Below w2.heap.size w2 w' → Calls Ybad.prog 9 #[.agg #[.int .u8 x.a, .int .u16 x.p, .int .u8 x.s, .int .u8 x.d], .slice a0 n0 c0] w' (fun e w'' => e = .returned (.bool t3) ∧ Below w'.heap.size w' w'')) := hide (fun w' h => by rw [← ht3]; exact cin_calls x.a x.p x.s x.d w' x0 x1 y0 y1 a0 n0 c0 ls L0.out (by omega) (H0.out.below (hbrA.out w' h)))
            have hbad : Hid (FB (j + 1) = if (t1 || t2 || t3) = true then some 11 else none) := hide (by
              rw [HST.out]
              have g1 : keyIn (es.take j) (x.a % 7) (x.p % 4) = t1 := by rw [← inB_eq, ht1]
              have g2 : keyIn ps (x.a % 7) (x.p % 4) = t2 := by rw [← inB_eq, ht2]
              have g3 : keyIn ls (x.a % 7) (x.p % 4) = t3 := by rw [← inB_eq, ht3]
              simp only [badAt, HR.out, HAD.out, g1, g2, g3]
              rfl)
            have hself : Below w2.heap.size w2 w2 := Below.refl _ _
            have hd : Below w2.heap.size w2 w2.drew := hself.drew
            have hjc : (j : Int) ≤ (c6 : Int) := by have := HC6.out; omega
            have hj0 : (0 : Int) ≤ (j : Int) := by omega
            clear d0 d1 d2 d3 ht1 ht2 ht3 hB2 hbr2 hel
            go_upto_region 40 with fail
            refine wp_only (region40 (x := x) (b := b) (o := o) (eb := wr.heap.size) t1 t2 t3 e0 e1 e2 e3 hi1 hi2 hi3 hjc hj0) ?_
            intro aq wq hRq
            obtain ⟨y191, y192, y193, y194, y195, y196, y197, y198, y199, y200, y201, y202, y203, y204, y205, rfl, hk5⟩ := hRq
            clear e0 e1 e2 e3 hi1 hi2 hi3
            cases hT : (t1 || t2 || t3) with
            | true =>
              have hs : FB (j + 1) = some 11 := by rw [hbad.out, hT]; rfl
              have HSS := hide hs
              clear hs hT
              go_wp2
              go_roundw
              case rel =>
                have hs := HSS.out
                exact ⟨j + 1, by omega, by go_num, by rw [hs] <;> rfl, by rw [hs] <;> rfl, by rw [hs] <;> rfl, hb62.trans (hk5.mono hb62.size)⟩
              case measure => simp [intOf]; omega
            | false =>
              have hs : FB (j + 1) = none := by rw [hbad.out, hT]; rfl
              have HSS := hide hs
              clear hs hT
              go_wp2
              go_roundw
              case rel =>
                have hs := HSS.out
                exact ⟨j + 1, by omega, by go_num, by rw [hs] <;> rfl, by rw [hs] <;> rfl, by rw [hs] <;> rfl, hb62.trans (hk5.mono hb62.size)⟩
              case measure => simp [intOf]; omega
      · have hjn : n6 = j := by omega
        subst hjn
        have hno := HNO.out
        go_wp2
        first
          | exact ⟨⟨_, _, _, _, _, _, _, _, _, _, _, _, _, _, _, _, _, _, _, _, _, _, _, _, _, _, _, _, _, _, _, _, _, _, _, _, _, _, _, _, _, rfl⟩, hide (hb6)⟩
          | exact hide (hb6)
          | exact ⟨_, _, _, _, _, _, _, _, _, _, _, _, _, _, _, _, _, _, _, _, _, _, _, _, _, _, _, _, _, _, _, _, _, _, _, _, _, _, _, _, _, rfl, hide (hb6)⟩
end Go.Proofs.YbulkdxjmDoor

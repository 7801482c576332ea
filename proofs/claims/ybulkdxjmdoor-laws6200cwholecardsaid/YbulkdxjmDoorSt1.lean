/-
  THE LOOP OVER THE LOCALS. The frame's other slots are letters.
-/
import Derived.Test.YbulkdxjmDoorHeads
import Derived.Deep.RegionHeld3
import Derived.Deep.RegionLaw
import Derived.Deep.DeepCutAuto
import Derived.Deep.CutBlock
namespace Go.Proofs.YbulkdxjmDoor
open Go.RowKit
set_option linter.unusedVariables false
set_option linter.unusedSimpArgs false
noncomputable def code_St1 : Code := ((Ybad.f3.body.bind (findBlock 0)).getD .skip)

set_option maxRecDepth 1000000 in
set_option maxHeartbeats 4000000 in
theorem St1 {s1 s2 s3 s4 s5 s6 s7 s8 s9 s10 s11 s12 s13 s14 s17 s18 s19 s20 s21 s22 s23 s24 s25 s26 s27 s28 s29 s30 s31 s32 s33 s34 s35 s36 s37 s38 s39 s40 s41 s42 s43 s44 s45 s46 s47 s48 s49 s50 s51 s52 s53 s54 s55 s56 s57 s58 s59 s60 s61 s62 s63 s64 s65 s66 s67 s68 s69 s70 s71 s72 s73 s74 s75 s76 s77 s78 s79 s80 s81 s82 s83 s84 s85 s86 s87 s88 s89 s90 s91 s92 s93 s94 s95 s96 s97 s98 s99 s100 s101 s102 s103 s104 s105 s106 s107 s108 s109 s110 s111 s112 s113 s114 s115 s116 s117 s118 s119 s120 s121 s122 s123 s124 s125 s126 s127 s128 s129 s130 s131 s132 s133 s134 s135 s136 s137 s138 s139 s140 s141 s142 s143 s144 s145 s146 s147 s148 s149 s150 s151 s152 s153 s154 s155 s156 s157 s158 s159 s160 s161 s162 s163 s164 s165 s166 s167 s168 s169 s170 s171 s172 s173 s174 s175 s176 s177 s178 s179 s180 s181 s182 s183 s184 s185 s186 s187 s188 s189 s190 s191 s192 s193 s194 s195 s196 s197 s198 s199 s200 s201 s202 s203 s204 s205 s206 s207 s208 s209 s210 s211 s212 s213 s214 s215 s216 s217 s218 s219 s220 s221 s222 s223 s224 s225 s226 s227 s228 s229 s230 s231 s232 s233 s234 s235 s236 s237 s238 s239 s240 s241 s242 s243 s244 s245 s246 s247 s248 s249 s250 s251 s252 s253 s254 s255 s256 s257 s258 s259 s260 s261 s262 s263 s264 s265 s266 s267 s268 s269 s270 s271 s272 s273 s274 s275 s276 s277 s278 s279 s280 s281 s282 s283 s284 s285 s286 s287 s288 s289 s290 s291 s292 s293 s294 s295 s296 s297 s298 s299 s300 s301 s302 s303 s304 s305 s306 s307 s308 s309 s310 s311 s312 s313 s314 s315 s316 s317 s318 s319 s320 s321 s322 s323 s324 s325 s326 s327 s328 s329 s330 s331 s332 s333 s334 s335 s336 s337 s338 s339 s340 s341 s342 s343 s344 s345 s346 s347 s348 s349 s350 s351 s352 s353 s354 s355 s356 s357 s358 s359 s360 s361 s362 : Value} (p4 p6 : Addr) (W X : World) (HE : Hid (Env W p4 p6)) (a0 : Option Addr) (n0 c0 : Nat) (ls : List Ep) (H0 : Hid (EpsAt W a0 ls)) (L0 : Hid (ls.length = n0)) (hbig : n0 ≤ 4096) (HX0 : Hid (RowAt X (W.heap.size + 1) 54 (svcRow W.heap.size (.slice none 0 0) (.slice none 0 0)) ∧ MapAt X p4 p6 W.heap.size (fun v => ∃ a, v = .pointer (some a)) (fun _ _ => false) ∧ Below W.heap.size W X ∧ X.heap.size = W.heap.size + 2)) :
    Code.wp Ybad.prog code_St1 (OnlyNormal fun a wr => ∃ y58 y59 y60 y61 y62 y63 y64 y65 y66 y67 y68 y69 y70 y71 y72 y73 y74 y75 y76 y77 y78 y79 : Value, a = ⟨#[.slice a0 n0 c0, s1, s2, s3, s4, s5, s6, s7, s8, s9, s10, s11, s12, s13, s14, .pointer (some ⟨W.heap.size + 1, 0, none⟩), .int .i64 (n0 : Int), s17, s18, s19, s20, s21, s22, s23, s24, s25, s26, s27, s28, s29, s30, s31, s32, s33, s34, s35, s36, s37, s38, s39, s40, s41, s42, s43, s44, s45, s46, s47, s48, s49, s50, s51, s52, s53, s54, s55, s56, s57, y58, y59, y60, y61, y62, y63, y64, y65, y66, y67, y68, y69, y70, y71, y72, y73, y74, y75, y76, y77, y78, y79, s80, s81, s82, s83, s84, s85, s86, s87, s88, s89, s90, s91, s92, s93, s94, s95, s96, s97, s98, s99, s100, s101, s102, s103, s104, s105, s106, s107, s108, s109, s110, s111, s112, s113, s114, s115, s116, s117, s118, s119, s120, s121, s122, s123, s124, s125, s126, s127, s128, s129, s130, s131, s132, s133, s134, s135, s136, s137, s138, s139, s140, s141, s142, s143, s144, s145, s146, s147, s148, s149, s150, s151, s152, s153, s154, s155, s156, s157, s158, s159, s160, s161, s162, s163, s164, s165, s166, s167, s168, s169, s170, s171, s172, s173, s174, s175, s176, s177, s178, s179, s180, s181, s182, s183, s184, s185, s186, s187, s188, s189, s190, s191, s192, s193, s194, s195, s196, s197, s198, s199, s200, s201, s202, s203, s204, s205, s206, s207, s208, s209, s210, s211, s212, s213, s214, s215, s216, s217, s218, s219, s220, s221, s222, s223, s224, s225, s226, s227, s228, s229, s230, s231, s232, s233, s234, s235, s236, s237, s238, s239, s240, s241, s242, s243, s244, s245, s246, s247, s248, s249, s250, s251, s252, s253, s254, s255, s256, s257, s258, s259, s260, s261, s262, s263, s264, s265, s266, s267, s268, s269, s270, s271, s272, s273, s274, s275, s276, s277, s278, s279, s280, s281, s282, s283, s284, s285, s286, s287, s288, s289, s290, s291, s292, s293, s294, s295, s296, s297, s298, s299, s300, s301, s302, s303, s304, s305, s306, s307, s308, s309, s310, s311, s312, s313, s314, s315, s316, s317, s318, s319, s320, s321, s322, s323, s324, s325, s326, s327, s328, s329, s330, s331, s332, s333, s334, s335, s336, s337, s338, s339, s340, s341, s342, s343, s344, s345, s346, s347, s348, s349, s350, s351, s352, s353, s354, s355, s356, s357, s358, s359, s360, s361, s362], []⟩ ∧ Hid (After1 p4 p6 W X n0 ls wr)) ⟨#[.slice a0 n0 c0, s1, s2, s3, s4, s5, s6, s7, s8, s9, s10, s11, s12, s13, s14, .pointer (some ⟨W.heap.size + 1, 0, none⟩), .int .i64 0, s17, s18, s19, s20, s21, s22, s23, s24, s25, s26, s27, s28, s29, s30, s31, s32, s33, s34, s35, s36, s37, s38, s39, s40, s41, s42, s43, s44, s45, s46, s47, s48, s49, s50, s51, s52, s53, s54, s55, s56, s57, s58, s59, s60, s61, s62, s63, s64, s65, s66, s67, s68, s69, s70, s71, s72, s73, s74, s75, s76, s77, s78, s79, s80, s81, s82, s83, s84, s85, s86, s87, s88, s89, s90, s91, s92, s93, s94, s95, s96, s97, s98, s99, s100, s101, s102, s103, s104, s105, s106, s107, s108, s109, s110, s111, s112, s113, s114, s115, s116, s117, s118, s119, s120, s121, s122, s123, s124, s125, s126, s127, s128, s129, s130, s131, s132, s133, s134, s135, s136, s137, s138, s139, s140, s141, s142, s143, s144, s145, s146, s147, s148, s149, s150, s151, s152, s153, s154, s155, s156, s157, s158, s159, s160, s161, s162, s163, s164, s165, s166, s167, s168, s169, s170, s171, s172, s173, s174, s175, s176, s177, s178, s179, s180, s181, s182, s183, s184, s185, s186, s187, s188, s189, s190, s191, s192, s193, s194, s195, s196, s197, s198, s199, s200, s201, s202, s203, s204, s205, s206, s207, s208, s209, s210, s211, s212, s213, s214, s215, s216, s217, s218, s219, s220, s221, s222, s223, s224, s225, s226, s227, s228, s229, s230, s231, s232, s233, s234, s235, s236, s237, s238, s239, s240, s241, s242, s243, s244, s245, s246, s247, s248, s249, s250, s251, s252, s253, s254, s255, s256, s257, s258, s259, s260, s261, s262, s263, s264, s265, s266, s267, s268, s269, s270, s271, s272, s273, s274, s275, s276, s277, s278, s279, s280, s281, s282, s283, s284, s285, s286, s287, s288, s289, s290, s291, s292, s293, s294, s295, s296, s297, s298, s299, s300, s301, s302, s303, s304, s305, s306, s307, s308, s309, s310, s311, s312, s313, s314, s315, s316, s317, s318, s319, s320, s321, s322, s323, s324, s325, s326, s327, s328, s329, s330, s331, s332, s333, s334, s335, s336, s337, s338, s339, s340, s341, s342, s343, s344, s345, s346, s347, s348, s349, s350, s351, s352, s353, s354, s355, s356, s357, s358, s359, s360, s361, s362], []⟩ X := by
  conv => arg 2; whnf
  go_wp2
  go_loopw [16] (fun i wr => ∃ (j : Nat) (lv : Value) (xs : List Value), j ≤ n0 ∧ i = .int .i64 j ∧ X.grownBy wr (some (W.heap.size + 1)) ∧ RowAt wr (W.heap.size + 1) 54 (svcL W.heap.size (.slice none 0 0) lv) ∧ wr.ownsRow (W.heap.size + 2) 55 1 lv j xs ∧ PtrRow wr 73 (locRow p4 p6) xs (ls.take j)) (fun i _ => n0 - (intOf i).toNat)
  case atStart => exact ⟨0, .slice none 0 0, [], Nat.zero_le _, rfl, World.grownBy.refl _ _, HX0.out.1, World.ownsRow_nil _ _ _ _, rfl, fun i e h => by simp at h⟩
  case round =>
    obtain ⟨j, lv, xs, hj, rfl, hgr, hR, hO, hP⟩ := hrel
    have HO := hide hO
    have HP := hide hP
    have HR := hide hR
    have HG := hide hgr
    have hbr : Below W.heap.size W wr := HX0.out.2.2.1.grown hgr (by have := HX0.out.2.2.2; omega) (fun k hk => by cases hk; omega)
    clear hO hP hgr
    by_cases hlt : j < n0
    · skip
      obtain ⟨x, hx⟩ : ∃ x, ls[j]? = some x := ⟨_, List.getElem?_eq_getElem (by have := L0.out; omega)⟩
      obtain ⟨b, o, rfl, hb, hc⟩ := H0.out.2 (by have := L0.out; omega)
      obtain ⟨q0, q1, q2, q3⟩ := hc j x hx
      obtain ⟨x0, x1, y0, y1, _⟩ := H0.out.1 x (List.mem_of_getElem? hx)
      have HX := hide hx
      have k0 := (hbr.cell hb).trans q0
      have k1 := (hbr.cell hb).trans q1
      have k2 := (hbr.cell hb).trans q2
      have k3 := (hbr.cell hb).trans q3
      have s0 := hR.cell (j := 0) rfl
      clear q0 q1 q2 q3 hc hx
      obtain ⟨i55, I1, I2, I3, I4⟩ := info55_parts
      have HI := hide (And.intro I1 (And.intro I2 (And.intro I3 I4)))
      clear I1 I2 I3 I4
      go_wp2
      go_region_law (first | (refine step_append_lies _ rfl (.tmp 68) (.tmp 76) 27 rfl (W.heap.size + 2) 55 i55 _ 1 8 Ybad.underlying27 HI.out.1 HI.out.2.1 HI.out.2.2.1 HI.out.2.2.2 rfl (by decide) lv j xs rfl (own_below HO.out ((hbw2.out.alloc hbw2.out.size _).alloc (by have := hbw2.out.size; simp; omega) _)) ⟨w2.heap.size + 1, 0, none⟩ 1 1 [.pointer (some ⟨w2.heap.size, 0, none⟩)] rfl rfl (by have hh := World.news_of_block (heap_alloc_new (w2.alloc (.cells (locRow p4 p6 x).toArray 73)) (.cells #[.pointer (some ⟨w2.heap.size, 0, none⟩)] 55)); rw [show (w2.alloc (.cells (locRow p4 p6 x).toArray 73)).heap.size = w2.heap.size + 1 by simp] at hh; exact hh) (by simp [Value.oneCell']) (by decide) (by unfold maxLen; omega) (by omega) (by have := (hR.lt); have := hbw2.out.size; simp; omega) (w2.heap.size + 2) (by simp) ?_; intro g cap w3 hown3 hgrow3 hat3 hlt3; have HO3 := hide hown3; have HG3 := hide hgrow3; have hr3 : RowAt w3 (W.heap.size + 1) 54 (svcL W.heap.size (.slice none 0 0) lv) := (hgrow3.block (W.heap.size + 1) (by simp <;> omega) (fun e => by have := (HO.out.lt _ e.symm).1; omega)).trans (((HR.out.below hbw2.out HR.out.lt).alloc _).alloc _); have s3 := hr3.cell (j := 0) rfl; have f3 := hr3.frozen 0; clear hown3 hgrow3 hat3 hlt3 hr3) | (rw [if_pos (by rfl)]; go_simp; go_at_call 4; refine (celem_calls x.a x.p x.s x.d _ x0 x1 y0 y1 p4 p6 (HE.out.below hbr.drew (Nat.le_refl _))).mono ?_; rintro e w2 ⟨rfl, hb2⟩; have hbw2 : Hid (Below wr.heap.size wr w2) := hide ((Below.refl _ _).drew.trans hb2); have s2 := ((hbw2.out).cell (World.block_lt_of_cell? wr _ s0)).trans s0; have n2 : W.heap.size + 1 < w2.heap.size := World.block_lt_of_cell? w2 ⟨W.heap.size + 1, 0, none⟩ s2; have n2a : ¬ (W.heap.size + 1 = w2.heap.size) := (by omega); have n2b : ¬ (W.heap.size = w2.heap.size) := (by omega); have n2c : W.heap.size < w2.heap.size := (by omega); clear hb2; dsimp only))
      all_goals
        go_wp2
        go_roundw
        case rel =>
          have hx' := HX.out
          obtain ⟨z1, z2, z3, z4⟩ := ptrs_round (c := 0) (mk := svcL W.heap.size (.slice none 0 0)) (rows := locRow p4 p6) (by omega) HG.out (by rw [HX0.out.2.2.2]; omega) HR.out (svcL_set _ _) HO.out HP.out hx' (by decide) (by decide) hbw2.out HG3.out HO3.out
          exact ⟨j + 1, _, _, by omega, by go_num, z1, z2, z3, z4⟩
        case measure => simp [intOf]; omega
    · have hjn : n0 = j := by omega
      subst hjn
      have hT : ls.take n0 = ls := List.take_of_length_le (by have := L0.out; omega)
      have hP1 : PtrRow wr 73 (locRow p4 p6) xs ls := by have := HP.out; rw [hT] at this; exact this
      go_wp2
      first
        | exact ⟨⟨_, _, _, _, _, _, _, _, _, _, _, _, _, _, _, _, _, _, _, _, _, _, rfl⟩, hide (⟨lv, xs, HG.out, HR.out, HO.out, hP1⟩)⟩
        | exact hide (⟨lv, xs, HG.out, HR.out, HO.out, hP1⟩)
        | exact ⟨_, _, _, _, _, _, _, _, _, _, _, _, _, _, _, _, _, _, _, _, _, _, rfl, hide (⟨lv, xs, HG.out, HR.out, HO.out, hP1⟩)⟩
end Go.Proofs.YbulkdxjmDoor

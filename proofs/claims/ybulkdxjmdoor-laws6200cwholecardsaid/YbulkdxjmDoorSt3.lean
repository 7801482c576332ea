/-
  THE LOOP OVER THE PEERS. The frame's other slots are letters.
-/
import Derived.Test.YbulkdxjmDoorHeads
import Derived.Deep.RegionHeld3
import Derived.Deep.RegionLaw
import Derived.Deep.DeepCutAuto
import Derived.Deep.CutBlock
namespace Go.Proofs.YbulkdxjmDoor
open Go.RowKit
set_option linter.unusedVariables false
set_option linter.unusedSimpArgs false
noncomputable def code_St3 : Code := ((Ybad.f3.body.bind (findBlock 4)).getD .skip)

set_option maxRecDepth 1000000 in
set_option maxHeartbeats 4000000 in
theorem St3 {s0 s1 s3 s4 s5 s6 s7 s8 s9 s10 s11 s12 s13 s14 s16 s17 s19 s20 s21 s22 s23 s24 s25 s26 s27 s28 s29 s30 s31 s32 s33 s34 s35 s36 s37 s38 s39 s40 s41 s42 s43 s44 s45 s46 s47 s48 s49 s50 s51 s52 s53 s54 s55 s56 s57 s58 s59 s60 s61 s62 s63 s64 s65 s66 s67 s68 s69 s70 s71 s72 s73 s74 s75 s76 s77 s78 s79 s80 s81 s82 s83 s84 s85 s86 s87 s88 s89 s90 s91 s92 s93 s94 s95 s96 s97 s98 s99 s100 s101 s102 s103 s104 s105 s106 s107 s108 s109 s110 s111 s112 s113 s114 s115 s116 s117 s118 s119 s120 s121 s122 s123 s124 s125 s126 s127 s128 s129 s130 s131 s132 s133 s134 s135 s136 s137 s138 s139 s140 s141 s142 s143 s144 s145 s146 s147 s148 s149 s150 s151 s152 s153 s154 s155 s156 s157 s158 s159 s160 s161 s162 s163 s164 s165 s166 s167 s168 s169 s170 s171 s172 s173 s174 s175 s176 s177 s178 s179 s180 s181 s182 s183 s184 s185 s186 s187 s188 s189 s190 s191 s192 s193 s194 s195 s196 s197 s198 s199 s200 s201 s202 s203 s204 s205 s206 s207 s208 s209 s210 s211 s212 s213 s214 s215 s216 s217 s218 s219 s220 s221 s222 s223 s224 s225 s226 s227 s228 s229 s230 s231 s232 s233 s234 s235 s236 s237 s238 s239 s240 s241 s242 s243 s244 s245 s246 s247 s248 s249 s250 s251 s252 s253 s254 s255 s256 s257 s258 s259 s260 s261 s262 s263 s264 s265 s266 s267 s268 s269 s270 s271 s272 s273 s274 s275 s276 s277 s278 s279 s280 s281 s282 s283 s284 s285 s286 s287 s288 s289 s290 s291 s292 s293 s294 s295 s296 s297 s298 s299 s300 s301 s302 s303 s304 s305 s306 s307 s308 s309 s310 s311 s312 s313 s314 s315 s316 s317 s318 s319 s320 s321 s322 s323 s324 s325 s326 s327 s328 s329 s330 s331 s332 s333 s334 s335 s336 s337 s338 s339 s340 s341 s342 s343 s344 s345 s346 s347 s348 s349 s350 s351 s352 s353 s354 s355 s356 s357 s358 s359 s360 s361 s362 : Value} (p4 p6 : Addr) (W A2 : World) (HE : Hid (Env W p4 p6)) (a2 : Option Addr) (n2 c2 : Nat) (ps : List Ep) (H2 : Hid (EpsAt W a2 ps)) (L2 : Hid (ps.length = n2)) (hbig : n2 ≤ 4096) (lv pv : Value) (hR2 : RowAt A2 (W.heap.size + 1) 54 (svcP W.heap.size lv pv)) (HM2 : Hid (MapAt A2 p4 p6 W.heap.size ptrOk (fun _ _ => false))) (hbr2 : Below W.heap.size W A2) :
    Code.wp Ybad.prog code_St3 (OnlyNormal fun a wr => ∃ y102 y103 y104 y105 y106 y107 y108 y109 y110 y111 y112 y113 y114 y115 y116 y117 y118 : Value, a = ⟨#[s0, s1, .slice a2 n2 c2, s3, s4, s5, s6, s7, s8, s9, s10, s11, s12, s13, s14, .pointer (some ⟨W.heap.size + 1, 0, none⟩), s16, s17, .int .i64 (n2 : Int), s19, s20, s21, s22, s23, s24, s25, s26, s27, s28, s29, s30, s31, s32, s33, s34, s35, s36, s37, s38, s39, s40, s41, s42, s43, s44, s45, s46, s47, s48, s49, s50, s51, s52, s53, s54, s55, s56, s57, s58, s59, s60, s61, s62, s63, s64, s65, s66, s67, s68, s69, s70, s71, s72, s73, s74, s75, s76, s77, s78, s79, s80, s81, s82, s83, s84, s85, s86, s87, s88, s89, s90, s91, s92, s93, s94, s95, s96, s97, s98, s99, s100, s101, y102, y103, y104, y105, y106, y107, y108, y109, y110, y111, y112, y113, y114, y115, y116, y117, y118, s119, s120, s121, s122, s123, s124, s125, s126, s127, s128, s129, s130, s131, s132, s133, s134, s135, s136, s137, s138, s139, s140, s141, s142, s143, s144, s145, s146, s147, s148, s149, s150, s151, s152, s153, s154, s155, s156, s157, s158, s159, s160, s161, s162, s163, s164, s165, s166, s167, s168, s169, s170, s171, s172, s173, s174, s175, s176, s177, s178, s179, s180, s181, s182, s183, s184, s185, s186, s187, s188, s189, s190, s191, s192, s193, s194, s195, s196, s197, s198, s199, s200, s201, s202, s203, s204, s205, s206, s207, s208, s209, s210, s211, s212, s213, s214, s215, s216, s217, s218, s219, s220, s221, s222, s223, s224, s225, s226, s227, s228, s229, s230, s231, s232, s233, s234, s235, s236, s237, s238, s239, s240, s241, s242, s243, s244, s245, s246, s247, s248, s249, s250, s251, s252, s253, s254, s255, s256, s257, s258, s259, s260, s261, s262, s263, s264, s265, s266, s267, s268, s269, s270, s271, s272, s273, s274, s275, s276, s277, s278, s279, s280, s281, s282, s283, s284, s285, s286, s287, s288, s289, s290, s291, s292, s293, s294, s295, s296, s297, s298, s299, s300, s301, s302, s303, s304, s305, s306, s307, s308, s309, s310, s311, s312, s313, s314, s315, s316, s317, s318, s319, s320, s321, s322, s323, s324, s325, s326, s327, s328, s329, s330, s331, s332, s333, s334, s335, s336, s337, s338, s339, s340, s341, s342, s343, s344, s345, s346, s347, s348, s349, s350, s351, s352, s353, s354, s355, s356, s357, s358, s359, s360, s361, s362], []⟩ ∧ Hid (A2.grownBy wr (some W.heap.size) ∧ MapAt wr p4 p6 W.heap.size ptrOk (keyIn ps))) ⟨#[s0, s1, .slice a2 n2 c2, s3, s4, s5, s6, s7, s8, s9, s10, s11, s12, s13, s14, .pointer (some ⟨W.heap.size + 1, 0, none⟩), s16, s17, .int .i64 0, s19, s20, s21, s22, s23, s24, s25, s26, s27, s28, s29, s30, s31, s32, s33, s34, s35, s36, s37, s38, s39, s40, s41, s42, s43, s44, s45, s46, s47, s48, s49, s50, s51, s52, s53, s54, s55, s56, s57, s58, s59, s60, s61, s62, s63, s64, s65, s66, s67, s68, s69, s70, s71, s72, s73, s74, s75, s76, s77, s78, s79, s80, s81, s82, s83, s84, s85, s86, s87, s88, s89, s90, s91, s92, s93, s94, s95, s96, s97, s98, s99, s100, s101, s102, s103, s104, s105, s106, s107, s108, s109, s110, s111, s112, s113, s114, s115, s116, s117, s118, s119, s120, s121, s122, s123, s124, s125, s126, s127, s128, s129, s130, s131, s132, s133, s134, s135, s136, s137, s138, s139, s140, s141, s142, s143, s144, s145, s146, s147, s148, s149, s150, s151, s152, s153, s154, s155, s156, s157, s158, s159, s160, s161, s162, s163, s164, s165, s166, s167, s168, s169, s170, s171, s172, s173, s174, s175, s176, s177, s178, s179, s180, s181, s182, s183, s184, s185, s186, s187, s188, s189, s190, s191, s192, s193, s194, s195, s196, s197, s198, s199, s200, s201, s202, s203, s204, s205, s206, s207, s208, s209, s210, s211, s212, s213, s214, s215, s216, s217, s218, s219, s220, s221, s222, s223, s224, s225, s226, s227, s228, s229, s230, s231, s232, s233, s234, s235, s236, s237, s238, s239, s240, s241, s242, s243, s244, s245, s246, s247, s248, s249, s250, s251, s252, s253, s254, s255, s256, s257, s258, s259, s260, s261, s262, s263, s264, s265, s266, s267, s268, s269, s270, s271, s272, s273, s274, s275, s276, s277, s278, s279, s280, s281, s282, s283, s284, s285, s286, s287, s288, s289, s290, s291, s292, s293, s294, s295, s296, s297, s298, s299, s300, s301, s302, s303, s304, s305, s306, s307, s308, s309, s310, s311, s312, s313, s314, s315, s316, s317, s318, s319, s320, s321, s322, s323, s324, s325, s326, s327, s328, s329, s330, s331, s332, s333, s334, s335, s336, s337, s338, s339, s340, s341, s342, s343, s344, s345, s346, s347, s348, s349, s350, s351, s352, s353, s354, s355, s356, s357, s358, s359, s360, s361, s362], []⟩ A2 := by
  conv => arg 2; whnf
  go_wp2
  go_loopw [18] (fun i wr => ∃ (j : Nat), j ≤ n2 ∧ i = .int .i64 j ∧ A2.grownBy wr (some W.heap.size) ∧ MapAt wr p4 p6 W.heap.size ptrOk (keyIn (ps.take j))) (fun i _ => n2 - (intOf i).toNat)
  case atStart => exact ⟨0, Nat.zero_le _, rfl, World.grownBy.refl _ _, HM2.out⟩
  case round =>
    obtain ⟨j, hj, rfl, hgr, hM⟩ := hrel
    have HM := hide hM
    have HG := hide hgr
    have hbr : Below W.heap.size W wr := hbr2.grown hgr hbr2.size (fun k hk => by cases hk; omega)
    clear hM hgr
    by_cases hlt : j < n2
    · skip
      obtain ⟨x, hx⟩ : ∃ x, ps[j]? = some x := ⟨_, List.getElem?_eq_getElem (by have := L2.out; omega)⟩
      obtain ⟨b, o, rfl, hb, hc⟩ := H2.out.2 (by have := L2.out; omega)
      obtain ⟨k0, k1, k2, k3⟩ := hc j x hx
      have hok := H2.out.1 x (List.mem_of_getElem? hx)
      obtain ⟨x0, x1, y0, y1, _⟩ := id hok
      have hbW : ∀ w', MapOpen A2 p4 p6 W.heap.size ps j w' → Below W.heap.size W w' := fun w' h => hbr2.grown h.1 hbr2.size (fun k hk => by cases hk; omega)
      have e0 : ∀ w', MapOpen A2 p4 p6 W.heap.size ps j w' → w'.cell? ⟨b, o + j * 4, none⟩ = some (.int .u8 x.a) := fun w' h => ((hbW w' h).cell hb).trans k0
      have e1 : ∀ w', MapOpen A2 p4 p6 W.heap.size ps j w' → w'.cell? ⟨b, o + j * 4 + 1, none⟩ = some (.int .u16 x.p) := fun w' h => ((hbW w' h).cell hb).trans k1
      have e2 : ∀ w', MapOpen A2 p4 p6 W.heap.size ps j w' → w'.cell? ⟨b, o + j * 4 + 2, none⟩ = some (.int .u8 x.s) := fun w' h => ((hbW w' h).cell hb).trans k2
      have e3 : ∀ w', MapOpen A2 p4 p6 W.heap.size ps j w' → w'.cell? ⟨b, o + j * 4 + 3, none⟩ = some (.int .u8 x.d) := fun w' h => ((hbW w' h).cell hb).trans k3
      have em : ∀ w', MapOpen A2 p4 p6 W.heap.size ps j w' → w'.cell? ⟨W.heap.size + 1, 22, none⟩ = some (.map (some W.heap.size)) := fun w' h => (World.cell?_of_block (h.1.block (W.heap.size + 1) hR2.lt (by simp))).trans (hR2.cell (j := 22) rfl)
      have hS0 : MapOpen A2 p4 p6 W.heap.size ps j wr := ⟨HG.out, .inl HM.out⟩
      have HU : Hid (∀ w', MapOpen A2 p4 p6 W.heap.size ps j w' → ∀ a, _ ∧ _ ∧ _) := hide (fun w' h a => MapOpen.upd (W := W) h (HE.out.below (hbW w' h) (Nat.le_refl _)) hx hok a)
      have hu : ∀ w', MapOpen A2 p4 p6 W.heap.size ps j w' → ∀ a, (Instr.mapUpdate 26 (.map (some W.heap.size)) (.agg #[.int .u64 (hiK (x.a % 7)), .int .u64 (loK (x.a % 7)), .pointer (zp p4 p6 (zK (x.a % 7))), .int .u16 (x.p % 4)]) (.pointer (some a))).run Ybad.prog w' = .ok () (updW w' W.heap.size (apV p4 p6 (x.a % 7) (x.p % 4)) (.pointer (some a))) := fun w' h a => (HU.out w' h a).1
      have hks : Hid (∀ w', MapOpen A2 p4 p6 W.heap.size ps j w' → ∀ a, MapOpen A2 p4 p6 W.heap.size ps j (updW w' W.heap.size (apV p4 p6 (x.a % 7) (x.p % 4)) (.pointer (some a)))) := hide (fun w' h a => ⟨(HU.out w' h a).2.1, .inr (HU.out w' h a).2.2⟩)
      have HX := hide hx
      have HBW := hide hbW
      clear k0 k1 k2 k3 hc hx hbW hok
      go_wp2
      go_region_held3 (fun w' => MapOpen A2 p4 p6 W.heap.size ps j w') (first | with_reducible assumption | with_reducible exact MapOpen.drew hS0 | with_reducible exact MapOpen.alloc (by assumption) _ | with_reducible exact MapOpen.drew (MapOpen.alloc hS0 _) | with_reducible exact hks.out _ (by assumption) _) ((go_at_call 6; refine (cap_calls x.a x.p x.s x.d _ x0 x1 y0 y1 p4 p6 (HE.out.below (HBW.out _ (by assumption)) (Nat.le_refl _))).mono ?_; rintro e w2 ⟨rfl, hb2⟩; have hs2 := MapOpen.later (by assumption) hb2; clear hb2))
      all_goals
        go_wp2
        go_roundw
        case rel =>
          refine ⟨j + 1, by omega, by go_num, ?_, ?_⟩
          · first
              | exact (HU.out _ hs2 _).2.1
              | exact (HU.out _ (MapOpen.alloc hs2 _) _).2.1
          · first
              | exact (HU.out _ hs2 _).2.2
              | exact (HU.out _ (MapOpen.alloc hs2 _) _).2.2
        case measure => simp [intOf]; omega
    · have hjn : n2 = j := by omega
      subst hjn
      have hT : ps.take n2 = ps := List.take_of_length_le (by have := L2.out; omega)
      have hM3 : MapAt wr p4 p6 W.heap.size ptrOk (keyIn ps) := by have := HM.out; rw [hT] at this; exact this
      go_wp2
      first
        | exact ⟨⟨_, _, _, _, _, _, _, _, _, _, _, _, _, _, _, _, _, rfl⟩, hide (⟨HG.out, hM3⟩)⟩
        | exact hide (⟨HG.out, hM3⟩)
        | exact ⟨_, _, _, _, _, _, _, _, _, _, _, _, _, _, _, _, _, rfl, hide (⟨HG.out, hM3⟩)⟩
end Go.Proofs.YbulkdxjmDoor

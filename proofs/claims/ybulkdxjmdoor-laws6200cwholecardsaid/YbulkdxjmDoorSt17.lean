/-
  THE VERSIONS OF THE LOCALS. The frame's other slots are letters.
-/
import Derived.Test.YbulkdxjmDoorHeads
import Derived.Deep.RegionHeld3
import Derived.Deep.RegionLaw
import Derived.Deep.DeepCutAuto
import Derived.Deep.CutBlock
namespace Go.Proofs.YbulkdxjmDoor
open Go.RowKit
set_option linter.unusedVariables false
set_option linter.unusedSimpArgs false
noncomputable def code_St17 : Code := ((Ybad.f3.body.bind (findBlock 17)).getD .skip)

set_option maxRecDepth 1000000 in
set_option maxHeartbeats 4000000 in
theorem St17 {s1 s2 s3 s4 s5 s6 s7 s8 s9 s10 s11 s12 s13 s14 s15 s16 s17 s18 s19 s20 s21 s22 s23 s24 s25 s26 s27 s28 s29 s30 s31 s32 s35 s36 s37 s38 s39 s40 s41 s42 s43 s44 s45 s46 s47 s48 s49 s50 s51 s52 s53 s54 s55 s56 s57 s58 s59 s60 s61 s62 s63 s64 s65 s66 s67 s68 s69 s70 s71 s72 s73 s74 s75 s76 s77 s78 s79 s80 s81 s82 s83 s84 s85 s86 s87 s88 s89 s90 s91 s92 s93 s94 s95 s96 s97 s98 s99 s100 s101 s102 s103 s104 s105 s106 s107 s108 s109 s110 s111 s112 s113 s114 s115 s116 s117 s118 s119 s120 s121 s122 s123 s124 s125 s126 s127 s128 s129 s130 s131 s132 s133 s134 s135 s136 s137 s138 s139 s140 s141 s142 s143 s144 s145 s146 s147 s148 s149 s150 s151 s152 s153 s154 s155 s156 s157 s158 s159 s160 s161 s162 s163 s164 s165 s166 s167 s168 s169 s170 s171 s172 s173 s174 s175 s176 s177 s178 s179 s180 s181 s182 s183 s184 s185 s186 s187 s188 s189 s190 s191 s192 s193 s194 s195 s196 s197 s198 s199 s200 s201 s202 s203 s204 s205 s206 s207 s208 s209 s210 s211 s212 s213 s214 s215 s216 s217 s218 s219 s220 s221 s222 s223 s224 s225 s226 s227 s228 s229 s230 s231 s232 s233 s234 s235 s236 s237 s238 s239 s240 s241 s242 s243 s244 s245 s246 s247 s248 s249 s250 s251 s252 s253 s254 s255 s256 s257 s258 s259 s260 s261 s262 s263 s264 s265 s266 s267 s268 s269 s270 s271 s272 s273 s274 s275 s276 s277 s278 s279 s280 s281 s282 s283 s284 s285 s286 s287 s288 s289 s290 s291 s292 s293 s294 s295 s296 s297 s298 s299 s300 s301 s302 s303 s304 s305 s306 s307 s308 s309 s310 s311 s312 s313 s314 s315 s316 s317 s318 s319 s320 s321 s322 s323 s324 s325 s326 s327 s328 s329 s330 s331 s332 s333 s334 s335 s336 s337 s338 s339 s340 s341 s342 s343 s344 s345 s346 s347 s348 s349 s350 s351 s352 s353 s354 s355 s356 s357 s358 s359 s360 s361 s362 : Value} (W A7 : World) (a0 : Option Addr) (n0 c0 : Nat) (ls : List Ep) (H0 : Hid (EpsAt W a0 ls)) (L0 : Hid (ls.length = n0)) (hbig : n0 ≤ 4096) (hbr7 : Below W.heap.size W A7) :
    Code.wp Ybad.prog code_St17 (OnlyNormal fun a wr => ∃ y35 y265 y266 y267 y268 y269 y270 y271 y272 y273 y274 y275 y276 y277 y278 y279 y280 y281 y282 y283 y284 y285 y286 y287 y288 : Value, a = ⟨#[.slice a0 n0 c0, s1, s2, s3, s4, s5, s6, s7, s8, s9, s10, s11, s12, s13, s14, s15, s16, s17, s18, s19, s20, s21, s22, s23, s24, s25, s26, s27, s28, s29, s30, s31, s32, .bool (hasV4 ls), .int .i64 (n0 : Int), y35, s36, s37, s38, s39, s40, s41, s42, s43, s44, s45, s46, s47, s48, s49, s50, s51, s52, s53, s54, s55, s56, s57, s58, s59, s60, s61, s62, s63, s64, s65, s66, s67, s68, s69, s70, s71, s72, s73, s74, s75, s76, s77, s78, s79, s80, s81, s82, s83, s84, s85, s86, s87, s88, s89, s90, s91, s92, s93, s94, s95, s96, s97, s98, s99, s100, s101, s102, s103, s104, s105, s106, s107, s108, s109, s110, s111, s112, s113, s114, s115, s116, s117, s118, s119, s120, s121, s122, s123, s124, s125, s126, s127, s128, s129, s130, s131, s132, s133, s134, s135, s136, s137, s138, s139, s140, s141, s142, s143, s144, s145, s146, s147, s148, s149, s150, s151, s152, s153, s154, s155, s156, s157, s158, s159, s160, s161, s162, s163, s164, s165, s166, s167, s168, s169, s170, s171, s172, s173, s174, s175, s176, s177, s178, s179, s180, s181, s182, s183, s184, s185, s186, s187, s188, s189, s190, s191, s192, s193, s194, s195, s196, s197, s198, s199, s200, s201, s202, s203, s204, s205, s206, s207, s208, s209, s210, s211, s212, s213, s214, s215, s216, s217, s218, s219, s220, s221, s222, s223, s224, s225, s226, s227, s228, s229, s230, s231, s232, s233, s234, s235, s236, s237, s238, s239, s240, s241, s242, s243, s244, s245, s246, s247, s248, s249, s250, s251, s252, s253, s254, s255, s256, s257, s258, s259, s260, s261, s262, s263, s264, y265, y266, y267, y268, y269, y270, y271, y272, y273, y274, y275, y276, y277, y278, y279, y280, y281, y282, y283, y284, y285, y286, y287, y288, s289, s290, s291, s292, s293, s294, s295, s296, s297, s298, s299, s300, s301, s302, s303, s304, s305, s306, s307, s308, s309, s310, s311, s312, s313, s314, s315, s316, s317, s318, s319, s320, s321, s322, s323, s324, s325, s326, s327, s328, s329, s330, s331, s332, s333, s334, s335, s336, s337, s338, s339, s340, s341, s342, s343, s344, s345, s346, s347, s348, s349, s350, s351, s352, s353, s354, s355, s356, s357, s358, s359, s360, s361, s362], []⟩ ∧ Hid (Below A7.heap.size A7 wr)) ⟨#[.slice a0 n0 c0, s1, s2, s3, s4, s5, s6, s7, s8, s9, s10, s11, s12, s13, s14, s15, s16, s17, s18, s19, s20, s21, s22, s23, s24, s25, s26, s27, s28, s29, s30, s31, s32, .bool false, .int .i64 0, s35, s36, s37, s38, s39, s40, s41, s42, s43, s44, s45, s46, s47, s48, s49, s50, s51, s52, s53, s54, s55, s56, s57, s58, s59, s60, s61, s62, s63, s64, s65, s66, s67, s68, s69, s70, s71, s72, s73, s74, s75, s76, s77, s78, s79, s80, s81, s82, s83, s84, s85, s86, s87, s88, s89, s90, s91, s92, s93, s94, s95, s96, s97, s98, s99, s100, s101, s102, s103, s104, s105, s106, s107, s108, s109, s110, s111, s112, s113, s114, s115, s116, s117, s118, s119, s120, s121, s122, s123, s124, s125, s126, s127, s128, s129, s130, s131, s132, s133, s134, s135, s136, s137, s138, s139, s140, s141, s142, s143, s144, s145, s146, s147, s148, s149, s150, s151, s152, s153, s154, s155, s156, s157, s158, s159, s160, s161, s162, s163, s164, s165, s166, s167, s168, s169, s170, s171, s172, s173, s174, s175, s176, s177, s178, s179, s180, s181, s182, s183, s184, s185, s186, s187, s188, s189, s190, s191, s192, s193, s194, s195, s196, s197, s198, s199, s200, s201, s202, s203, s204, s205, s206, s207, s208, s209, s210, s211, s212, s213, s214, s215, s216, s217, s218, s219, s220, s221, s222, s223, s224, s225, s226, s227, s228, s229, s230, s231, s232, s233, s234, s235, s236, s237, s238, s239, s240, s241, s242, s243, s244, s245, s246, s247, s248, s249, s250, s251, s252, s253, s254, s255, s256, s257, s258, s259, s260, s261, s262, s263, s264, s265, s266, s267, s268, s269, s270, s271, s272, s273, s274, s275, s276, s277, s278, s279, s280, s281, s282, s283, s284, s285, s286, s287, s288, s289, s290, s291, s292, s293, s294, s295, s296, s297, s298, s299, s300, s301, s302, s303, s304, s305, s306, s307, s308, s309, s310, s311, s312, s313, s314, s315, s316, s317, s318, s319, s320, s321, s322, s323, s324, s325, s326, s327, s328, s329, s330, s331, s332, s333, s334, s335, s336, s337, s338, s339, s340, s341, s342, s343, s344, s345, s346, s347, s348, s349, s350, s351, s352, s353, s354, s355, s356, s357, s358, s359, s360, s361, s362], []⟩ A7 := by
  conv => arg 2; whnf
  go_wp2
  go_loopw [33, 34] (fun v4 i wr => ∃ j : Nat, j ≤ n0 ∧ i = .int .i64 j ∧ v4 = .bool (hasV4 (ls.take j)) ∧ Below A7.heap.size A7 wr) (fun _ i _ => n0 - (intOf i).toNat)
  case atStart => exact ⟨0, Nat.zero_le _, rfl, rfl, Below.refl _ _⟩
  case round =>
    obtain ⟨j, hj, rfl, rfl, hb10⟩ := hrel
    by_cases hlt : j < n0
    · obtain ⟨x, hx⟩ : ∃ x, ls[j]? = some x := ⟨_, List.getElem?_eq_getElem (by have := L0.out; omega)⟩
      obtain ⟨b, o, rfl, hb, hc⟩ := H0.out.2 (by have := L0.out; omega)
      obtain ⟨q0, q1, q2, q3⟩ := hc j x hx
      obtain ⟨x0, x1, y0, y1, _⟩ := H0.out.1 x (List.mem_of_getElem? hx)
      have hbr : Below W.heap.size W wr := hbr7.trans (hb10.mono hbr7.size)
      have k0 := (hbr.cell hb).trans q0
      have k1 := (hbr.cell hb).trans q1
      have k2 := (hbr.cell hb).trans q2
      have k3 := (hbr.cell hb).trans q3
      have hg1 : Hid (hasV4 (ls.take (j + 1)) = (hasV4 (ls.take j) || (x.a % 7 == 1 || x.a % 7 == 2 || x.a % 7 == 3))) := hide (by unfold hasV4; rw [any_take hx, zK_one])
      clear q0 q1 q2 q3 hc hx
      have hck := hide (ck_calls x.a x.p x.s x.d wr x0 x1)
      go_wp2_with fail
      refine hck.out.mono ?_
      rintro e w2 ⟨rfl, hb2⟩
      have hb11 := hb10.trans (hb2.mono hb10.size)
      clear hck hb2 k0 k1 k2 k3
      generalize hk : x.a % 7 = k at *
      clear hk
      cases hs : hasV4 (ls.take j) with
      | true =>
        have HS1 := hide hs
        clear hs
        go_wp2
        go_roundw
        case rel => exact ⟨j + 1, by omega, by go_num, by rw [hg1.out, HS1.out] <;> rfl, hb11⟩
        case measure => simp [intOf]; omega
      | false =>
        have HS1 := hide hs
        clear hs
        cases hk1 : (k == 1) with
        | true =>
          have HK1 := hide hk1
          go_wp2
          go_roundw
          case rel => exact ⟨j + 1, by omega, by go_num, by rw [hg1.out, HS1.out, HK1.out] <;> rfl, hb11⟩
          case measure => simp [intOf]; omega
        | false =>
          have HK1 := hide hk1
          cases hk2 : (k == 2) with
          | true =>
            have HK2 := hide hk2
            go_wp2
            go_roundw
            case rel => exact ⟨j + 1, by omega, by go_num, by rw [hg1.out, HS1.out, HK1.out, HK2.out] <;> rfl, hb11⟩
            case measure => simp [intOf]; omega
          | false =>
            have HK2 := hide hk2
            cases hk3 : (k == 3) with
            | true =>
              have HK3 := hide hk3
              go_wp2
              go_roundw
              case rel => exact ⟨j + 1, by omega, by go_num, by rw [hg1.out, HS1.out, HK1.out, HK2.out, HK3.out] <;> rfl, hb11⟩
              case measure => simp [intOf]; omega
            | false =>
              have HK3 := hide hk3
              go_wp2
              go_roundw
              case rel => exact ⟨j + 1, by omega, by go_num, by rw [hg1.out, HS1.out, HK1.out, HK2.out, HK3.out] <;> rfl, hb11⟩
              case measure => simp [intOf]; omega
    · have hjn : n0 = j := by omega
      subst hjn
      have hT0 : ls.take n0 = ls := List.take_of_length_le (by have := L0.out; omega)
      rw [hT0]
      clear hT0
      go_wp2
      first
        | exact ⟨⟨_, _, _, _, _, _, _, _, _, _, _, _, _, _, _, _, _, _, _, _, _, _, _, _, _, rfl⟩, hide (hb10)⟩
        | exact hide (hb10)
        | exact ⟨_, _, _, _, _, _, _, _, _, _, _, _, _, _, _, _, _, _, _, _, _, _, _, _, _, rfl, hide (hb10)⟩
end Go.Proofs.YbulkdxjmDoor

/-
  'LawS6200CWhole' (3): THE WALK, statement by statement.
-/
import Derived.Test.YbulkdxjmDoorSt1
import Derived.Test.YbulkdxjmDoorSt2
import Derived.Test.YbulkdxjmDoorSt3
import Derived.Test.YbulkdxjmDoorSt4
import Derived.Test.YbulkdxjmDoorSt8
import Derived.Test.YbulkdxjmDoorSt6
import Derived.Test.YbulkdxjmDoorSt7
import Derived.Test.YbulkdxjmDoorSt42
import Derived.Test.YbulkdxjmDoorSt22
import Derived.Test.YbulkdxjmDoorSt10
import Derived.Test.YbulkdxjmDoorSt11
import Derived.Deep.DeepCutAuto
import Derived.Deep.CutBlock
namespace Go.Proofs.YbulkdxjmDoor
open Go.RowKit
set_option linter.unusedVariables false
set_option linter.unusedSimpArgs false

set_option maxRecDepth 100000 in
set_option maxHeartbeats 4000000 in
theorem law_calls (p4 p6 : Addr) (W : World) (hE : Env W p4 p6) (a0 a1 a2 a3 a6 : Option Addr) (n0 c0 n1 c1 n2 c2 n3 c3 n6 c6 : Nat) (ls : List Ep) (zs : List Int) (ps qs es : List Ep)
    (h0 : EpsAt W a0 ls) (h1 : BytesAt W a1 zs) (h2 : EpsAt W a2 ps) (h3 : EpsAt W a3 qs) (h6 : EpsAt W a6 es) (l0 : ls.length = n0) (l1 : zs.length = n1) (l2 : ps.length = n2) (l3 : qs.length = n3) (l6 : es.length = n6)
    (hsz : n0 + n1 + n2 + n3 + n6 < 4611686018427387904) (hc6 : n6 ≤ c6) (en : Bool) (nsei : Int) :
    Calls Ybad.prog 3 #[.slice a0 n0 c0, .slice a1 n1 c1, .slice a2 n2 c2, .slice a3 n3 c3, .bool en, .int .u16 nsei, .slice a6 n6 c6] W fun e w' => e = .returned (.bool true) ∧ Below W.heap.size W w' := by
  have w1 : IntKind.i64.wrap ((n0 : Int) + n1) = (n0 : Int) + n1 := by rw [IntKind.wrap_i64]; omega
  have w2 : IntKind.i64.wrap ((n0 : Int) + n1 + n2) = (n0 : Int) + n1 + n2 := by rw [IntKind.wrap_i64]; omega
  have w3 : IntKind.i64.wrap ((n0 : Int) + n1 + n2 + n3) = (n0 : Int) + n1 + n2 + n3 := by rw [IntKind.wrap_i64]; omega
  have w4 : IntKind.i64.wrap ((n0 : Int) + n1 + n2 + n3 + n6) = (n0 : Int) + n1 + n2 + n3 + n6 := by rw [IntKind.wrap_i64]; omega
  have H0 := hide h0
  have H1 := hide h1
  have H2 := hide h2
  have H3 := hide h3
  have H6 := hide h6
  have L0 := hide l0
  have L1 := hide l1
  have L2 := hide l2
  have L3 := hide l3
  have L6 := hide l6
  have HE := hide hE
  have HC6 := hide hc6
  clear h0 h1 h2 h3 h6 l0 l1 l2 l3 l6 hE hc6
  by_cases hbig : 4096 < n0 + n1 + n2 + n3 + n6
  · have hb : decide ((n0 : Int) + n1 + n2 + n3 + n6 > 4096) = true := by simpa using (by omega : (4096 : Int) < (n0 : Int) + n1 + n2 + n3 + n6)
    have hb' : (4096 : Int) < (n0 : Int) + n1 + n2 + n3 + n6 := by omega
    go_enter Ybad.func3, Ybad.ntmps3
    go_wp2
    go_ret
    exact ⟨rfl, Below.refl _ _⟩
  · have hb' : ¬ (4096 : Int) < (n0 : Int) + n1 + n2 + n3 + n6 := by omega
    have hmk := @run_makeMap Ybad.prog
    go_enter Ybad.func3, Ybad.ntmps3
    go_upto_block 0 with fail
    have hR0 : RowAt ((W.alloc (.map #[] 0)).alloc (.cells (svcRow W.heap.size (.slice none 0 0) (.slice none 0 0)).toArray 54)) (W.heap.size + 1) 54 (svcRow W.heap.size (.slice none 0 0) (.slice none 0 0)) := by
      have := RowAt.new (W.alloc (.map #[] 0)) 54 (svcRow W.heap.size (.slice none 0 0) (.slice none 0 0))
      simpa using this
    have hM0 : MapAt ((W.alloc (.map #[] 0)).alloc (.cells (svcRow W.heap.size (.slice none 0 0) (.slice none 0 0)).toArray 54)) p4 p6 W.heap.size (fun v => ∃ a, v = .pointer (some a)) (fun _ _ => false) := (MapAt.new _).below (((Below.refl _ _).alloc (Nat.le_refl _) _)) (by simp)
    have hbA : Below W.heap.size W ((W.alloc (.map #[] 0)).alloc (.cells (svcRow W.heap.size (.slice none 0 0) (.slice none 0 0)).toArray 54)) := ((Below.refl _ _).alloc (Nat.le_refl _) _).alloc (by simp) _
    have hSA : ((W.alloc (.map #[] 0)).alloc (.cells (svcRow W.heap.size (.slice none 0 0) (.slice none 0 0)).toArray 54)).heap.size = W.heap.size + 2 := by simp
    have HX := hide (And.intro hR0 (And.intro hM0 (And.intro hbA hSA)))
    clear hR0 hM0 hbA hSA
    generalize hX : (W.alloc (.map #[] 0)).alloc _ = X
    have HX0 : Hid (RowAt X (W.heap.size + 1) 54 (svcRow W.heap.size (.slice none 0 0) (.slice none 0 0)) ∧ MapAt X p4 p6 W.heap.size (fun v => ∃ a, v = .pointer (some a)) (fun _ _ => false) ∧ Below W.heap.size W X ∧ X.heap.size = W.heap.size + 2) := by
      subst hX
      exact HX
    clear hX HX
    refine wp_only (St1 p4 p6 W X HE a0 n0 c0 ls H0 L0 (by omega) HX0) ?_
    intro aq A1 hq
    obtain ⟨y58, hq⟩ := hq
    obtain ⟨y59, hq⟩ := hq
    obtain ⟨y60, hq⟩ := hq
    obtain ⟨y61, hq⟩ := hq
    obtain ⟨y62, hq⟩ := hq
    obtain ⟨y63, hq⟩ := hq
    obtain ⟨y64, hq⟩ := hq
    obtain ⟨y65, hq⟩ := hq
    obtain ⟨y66, hq⟩ := hq
    obtain ⟨y67, hq⟩ := hq
    obtain ⟨y68, hq⟩ := hq
    obtain ⟨y69, hq⟩ := hq
    obtain ⟨y70, hq⟩ := hq
    obtain ⟨y71, hq⟩ := hq
    obtain ⟨y72, hq⟩ := hq
    obtain ⟨y73, hq⟩ := hq
    obtain ⟨y74, hq⟩ := hq
    obtain ⟨y75, hq⟩ := hq
    obtain ⟨y76, hq⟩ := hq
    obtain ⟨y77, hq⟩ := hq
    obtain ⟨y78, hq⟩ := hq
    obtain ⟨y79, hq⟩ := hq
    obtain ⟨rfl, hq⟩ := hq
    obtain ⟨lv, xs, hG1, hR1, hO1, hP1⟩ := hq.out
    have hbr1 : Below W.heap.size W A1 := HX0.out.2.2.1.grown hG1 (by have := HX0.out.2.2.2; omega) (fun k hk => by cases hk; omega)
    have HG1 := hide hG1
    have HO1 := hide hO1
    have HP1 := hide hP1
    clear hq hG1 hO1 hP1
    go_upto_block 2 with fail
    refine wp_only (St2 p4 p6 W A1 HE a1 n1 c1 zs H1 L1 (by omega) lv hR1 hbr1) ?_
    intro aq A2 hq
    obtain ⟨y80, hq⟩ := hq
    obtain ⟨y81, hq⟩ := hq
    obtain ⟨y82, hq⟩ := hq
    obtain ⟨y83, hq⟩ := hq
    obtain ⟨y84, hq⟩ := hq
    obtain ⟨y85, hq⟩ := hq
    obtain ⟨y86, hq⟩ := hq
    obtain ⟨y87, hq⟩ := hq
    obtain ⟨y88, hq⟩ := hq
    obtain ⟨y89, hq⟩ := hq
    obtain ⟨y90, hq⟩ := hq
    obtain ⟨y91, hq⟩ := hq
    obtain ⟨y92, hq⟩ := hq
    obtain ⟨y93, hq⟩ := hq
    obtain ⟨y94, hq⟩ := hq
    obtain ⟨y95, hq⟩ := hq
    obtain ⟨y96, hq⟩ := hq
    obtain ⟨y97, hq⟩ := hq
    obtain ⟨y98, hq⟩ := hq
    obtain ⟨y99, hq⟩ := hq
    obtain ⟨y100, hq⟩ := hq
    obtain ⟨y101, hq⟩ := hq
    obtain ⟨rfl, hq⟩ := hq
    obtain ⟨pv, hG2, hR2, hZ2⟩ := hq.out
    have hbr2 : Below W.heap.size W A2 := hbr1.grown hG2 hbr1.size (fun k hk => by cases hk; omega)
    have HZ2 := hide hZ2
    have HO2 : Hid (A2.ownsRow (W.heap.size + 2) 55 1 lv n0 xs) := hide (HO1.out.kept hG2 (by right; intro h; have := (HO1.out.lt _ h).1; omega))
    have HP2 : Hid (PtrRow A2 73 (locRow p4 p6) xs ls) := hide (HP1.out.keep (fun g cs h => (hG2.block g h.lt (by intro e; cases e; have := h.symm.trans hR1; simp at this)).trans h))
    have HM2 : Hid (MapAt A2 p4 p6 W.heap.size ptrOk (fun _ _ => false)) := hide ((HX0.out.2.1.of_block (HG1.out.block W.heap.size (by have := HX0.out.2.2.2; omega) (by simp))).of_block (hG2.block W.heap.size (by have := hR1.lt; omega) (by simp)))
    have HA1 := hide (show W.heap.size + 2 ≤ A1.heap.size from hR1.lt)
    clear hq hG2 hZ2 HO1 HP1 HX0 HG1 hR1 hbr1
    go_upto_block 4 with fail
    refine wp_only (St3 p4 p6 W A2 HE a2 n2 c2 ps H2 L2 (by omega) lv pv hR2 HM2 hbr2) ?_
    intro aq A3 hq
    obtain ⟨y102, hq⟩ := hq
    obtain ⟨y103, hq⟩ := hq
    obtain ⟨y104, hq⟩ := hq
    obtain ⟨y105, hq⟩ := hq
    obtain ⟨y106, hq⟩ := hq
    obtain ⟨y107, hq⟩ := hq
    obtain ⟨y108, hq⟩ := hq
    obtain ⟨y109, hq⟩ := hq
    obtain ⟨y110, hq⟩ := hq
    obtain ⟨y111, hq⟩ := hq
    obtain ⟨y112, hq⟩ := hq
    obtain ⟨y113, hq⟩ := hq
    obtain ⟨y114, hq⟩ := hq
    obtain ⟨y115, hq⟩ := hq
    obtain ⟨y116, hq⟩ := hq
    obtain ⟨y117, hq⟩ := hq
    obtain ⟨y118, hq⟩ := hq
    obtain ⟨rfl, hq⟩ := hq
    obtain ⟨hG3, hM3⟩ := hq.out
    have hbr3 : Below W.heap.size W A3 := hbr2.grown hG3 hbr2.size (fun k hk => by cases hk; omega)
    have hO3 : A3.ownsRow (W.heap.size + 2) 55 1 lv n0 xs := HO2.out.kept hG3 (by right; intro h; have := (HO2.out.lt _ h).1; omega)
    have hP3 : PtrRow A3 73 (locRow p4 p6) xs ls := HP2.out.keep (fun g cs h => (hG3.block g h.lt (by
      intro e
      cases e
      obtain ⟨es', c', hm, _⟩ := HM2.out
      have := h.symm.trans hm
      simp at this)).trans h)
    have hZ3 : A3.ownsRow A1.heap.size 75 4 pv n1 (zs.flatMap (pfxCells p4 p6)) := HZ2.out.kept hG3 (by right; intro h; have := (HZ2.out.lt _ h).1; have := HA1.out; omega)
    have hR3 : RowAt A3 (W.heap.size + 1) 54 (svcP W.heap.size lv pv) := (hG3.block (W.heap.size + 1) hR2.lt (by simp)).trans hR2
    obtain ⟨la, lc, rfl, hPA⟩ := PtrRow.at_ (tl := [.pointer none]) hO3 hP3 H0.out.1 L0.out
    obtain ⟨pa, pc, rfl, hZA⟩ := pfx_at hZ3 H1.out.1 L1.out
    have HS : Hid (Svc A3 p4 p6 (W.heap.size + 1) ls zs (keyIn ps) la n0 lc pa n1 pc W.heap.size) := hide ⟨hR3.cell (j := 0) rfl, hR3.cell (j := 8) rfl, hR3.cell (j := 22) rfl, hPA, hZA, hM3, L0.out, L1.out, by omega, by omega⟩
    clear hq hG3 hM3 hO3 hP3 hZ3 hR3 hPA hZA HO2 HP2 HZ2 hR2 hbr2 HM2 HA1
    go_upto_block 6 with fail
    have hR0 : RowAt (A3.alloc (.cells (nseP nsei (.slice none 0 0)).toArray 101)) A3.heap.size 101 (nseP nsei (.slice none 0 0)) := RowAt.new A3 101 (nseP nsei (.slice none 0 0))
    have hbA : Below A3.heap.size A3 (A3.alloc (.cells (nseP nsei (.slice none 0 0)).toArray 101)) := (Below.refl _ _).alloc (Nat.le_refl _) _
    have hSA : (A3.alloc (.cells (nseP nsei (.slice none 0 0)).toArray 101)).heap.size = A3.heap.size + 1 := by simp
    have HX := hide (And.intro hR0 (And.intro hbA hSA))
    clear hR0 hbA hSA
    generalize hX : A3.alloc _ = X4
    have HX4 : Hid (RowAt X4 A3.heap.size 101 (nseP nsei (.slice none 0 0)) ∧ Below A3.heap.size A3 X4 ∧ X4.heap.size = A3.heap.size + 1) := by
      subst hX
      exact HX
    clear hX HX
    refine wp_only (St4 p4 p6 W A3 X4 HE a3 n3 c3 qs H3 L3 (by omega) nsei HX4 hbr3) ?_
    intro aq A4 hq
    obtain ⟨y122, hq⟩ := hq
    obtain ⟨y123, hq⟩ := hq
    obtain ⟨y124, hq⟩ := hq
    obtain ⟨y125, hq⟩ := hq
    obtain ⟨y126, hq⟩ := hq
    obtain ⟨y127, hq⟩ := hq
    obtain ⟨y128, hq⟩ := hq
    obtain ⟨y129, hq⟩ := hq
    obtain ⟨y130, hq⟩ := hq
    obtain ⟨y131, hq⟩ := hq
    obtain ⟨y132, hq⟩ := hq
    obtain ⟨y133, hq⟩ := hq
    obtain ⟨y134, hq⟩ := hq
    obtain ⟨y135, hq⟩ := hq
    obtain ⟨y136, hq⟩ := hq
    obtain ⟨y137, hq⟩ := hq
    obtain ⟨y138, hq⟩ := hq
    obtain ⟨y139, hq⟩ := hq
    obtain ⟨y140, hq⟩ := hq
    obtain ⟨y141, hq⟩ := hq
    obtain ⟨y142, hq⟩ := hq
    obtain ⟨y143, hq⟩ := hq
    obtain ⟨rfl, hq⟩ := hq
    obtain ⟨v, ys, hG4, hR4, hO4, hP4⟩ := hq.out
    have hb4 : Below A3.heap.size A3 A4 := HX4.out.2.1.grown hG4 (by have := HX4.out.2.2; omega) (fun k hk => by cases hk; omega)
    have hbr4 : Below W.heap.size W A4 := hbr3.trans (hb4.mono hbr3.size)
    obtain ⟨qa, qc, rfl, hQA⟩ := PtrRow.at_ (tl := [.slice none 0 0]) hO4 hP4 H3.out.1 L3.out
    have HQ : Hid (PtrsAt A4 p4 p6 qa qs) := hide hQA
    have HN : Hid (A4.cell? ⟨A3.heap.size, 8, none⟩ = some (.slice qa n3 qc)) := hide (hR4.cell (j := 8) rfl)
    have HS4 : Hid (Svc A4 p4 p6 (W.heap.size + 1) ls zs (keyIn ps) la n0 lc pa n1 pc W.heap.size) := hide (HS.out.below hb4)
    clear hq hG4 hR4 hO4 hP4 hQA hb4 hbr3 HX4 HS
    go_upto_region 22 with fail
    refine wp_only (St22 A4 a6 n6 c6) ?_
    intro aq A4' hq
    obtain ⟨y144, hq⟩ := hq
    obtain ⟨rfl, hq⟩ := hq
    obtain rfl := hq.out
    clear hq
    go_upto_if 145 with fail
    refine wp_only (St8 p4 p6 W A4' HE a6 n6 c6 es H6 L6 (by omega) hbr4) ?_
    intro aq A5 hq
    obtain ⟨y21, hq⟩ := hq
    obtain ⟨y22, hq⟩ := hq
    obtain ⟨y146, hq⟩ := hq
    obtain ⟨y147, hq⟩ := hq
    obtain ⟨y148, hq⟩ := hq
    obtain ⟨y149, hq⟩ := hq
    obtain ⟨y150, hq⟩ := hq
    obtain ⟨y151, hq⟩ := hq
    obtain ⟨y152, hq⟩ := hq
    obtain ⟨y153, hq⟩ := hq
    obtain ⟨y154, hq⟩ := hq
    obtain ⟨y155, hq⟩ := hq
    obtain ⟨y156, hq⟩ := hq
    obtain ⟨y157, hq⟩ := hq
    obtain ⟨y158, hq⟩ := hq
    obtain ⟨y159, hq⟩ := hq
    obtain ⟨y160, hq⟩ := hq
    obtain ⟨y161, hq⟩ := hq
    obtain ⟨y162, hq⟩ := hq
    obtain ⟨rfl, hq⟩ := hq
    obtain ⟨ao, c6', rfl, hel, hb5⟩ := hq.out
    have HEL := hide hel
    have hbr5 := hbr4.trans (hb5.mono hbr4.size)
    have HS5 : Hid (Svc A5 p4 p6 (W.heap.size + 1) ls zs (keyIn ps) la n0 lc pa n1 pc W.heap.size) := hide (HS4.out.below hb5)
    have HQ5 : Hid (PtrsAt A5 p4 p6 qa qs) := hide (HQ.out.below hb5)
    have HN5 : Hid (A5.cell? ⟨A3.heap.size, 8, none⟩ = some (.slice qa n3 qc)) := hide ((hb5.cell (World.block_lt_of_cell? A4' _ HN.out)).trans HN.out)
    clear hq hel hb5 HS4 HQ HN hbr4
    go_upto_block 10 with fail
    have hR0 : RowAt (A5.alloc (.cells #[.bool en, .int .u16 nsei, .slice ao n6 c6'] 103)) A5.heap.size 103 [.bool en, .int .u16 nsei, .slice ao n6 c6'] := RowAt.new A5 103 [.bool en, .int .u16 nsei, .slice ao n6 c6']
    have hbA : Below A5.heap.size A5 (A5.alloc (.cells #[.bool en, .int .u16 nsei, .slice ao n6 c6'] 103)) := (Below.refl _ _).alloc (Nat.le_refl _) _
    have HX := hide (And.intro hR0 hbA)
    clear hR0 hbA
    generalize hX : A5.alloc _ = A6
    have HX6 : Hid (RowAt A6 A5.heap.size 103 [.bool en, .int .u16 nsei, .slice ao n6 c6'] ∧ Below A5.heap.size A5 A6) := by
      subst hX
      exact HX
    clear hX HX
    have hbr6 : Below W.heap.size W A6 := hbr5.trans (HX6.out.2.mono hbr5.size)
    have HS6 : Hid (Svc A6 p4 p6 (W.heap.size + 1) ls zs (keyIn ps) la n0 lc pa n1 pc W.heap.size) := hide (HS5.out.below HX6.out.2)
    have HQ6 : Hid (PtrsAt A6 p4 p6 qa qs) := hide (HQ5.out.below HX6.out.2)
    have HL6 : Hid (ElemsAt A6 p4 p6 ao es) := hide (HEL.out.below HX6.out.2)
    have HN6 : Hid (A6.cell? ⟨A3.heap.size, 8, none⟩ = some (.slice qa n3 qc)) := hide ((HX6.out.2.cell (World.block_lt_of_cell? A5 _ HN5.out)).trans HN5.out)
    have HC : Hid (RowAt A6 A5.heap.size 103 [.bool en, .int .u16 nsei, .slice ao n6 c6']) := hide HX6.out.1
    clear HS5 HQ5 HEL HN5 hbr5 HX6
    obtain ⟨FB, hFB⟩ : ∃ FB : Nat → Option Int, FB = firstBad zs ls (keyIn ps) es := ⟨_, rfl⟩
    have HFB := hide hFB
    clear hFB
    refine wp_only (St6 p4 p6 W A6 HE a0 a1 a2 a6 n0 c0 n1 c1 n2 c2 n6 c6 ls zs ps es H0 H1 H2 H6 L0 L1 L2 L6 (by omega) HC6 hbr6 FB HFB) ?_
    intro aq A7 hq
    obtain ⟨y27, hq⟩ := hq
    obtain ⟨y28, hq⟩ := hq
    obtain ⟨y167, hq⟩ := hq
    obtain ⟨y168, hq⟩ := hq
    obtain ⟨y169, hq⟩ := hq
    obtain ⟨y170, hq⟩ := hq
    obtain ⟨y171, hq⟩ := hq
    obtain ⟨y172, hq⟩ := hq
    obtain ⟨y173, hq⟩ := hq
    obtain ⟨y174, hq⟩ := hq
    obtain ⟨y175, hq⟩ := hq
    obtain ⟨y176, hq⟩ := hq
    obtain ⟨y177, hq⟩ := hq
    obtain ⟨y178, hq⟩ := hq
    obtain ⟨y179, hq⟩ := hq
    obtain ⟨y180, hq⟩ := hq
    obtain ⟨y181, hq⟩ := hq
    obtain ⟨y182, hq⟩ := hq
    obtain ⟨y183, hq⟩ := hq
    obtain ⟨y184, hq⟩ := hq
    obtain ⟨y185, hq⟩ := hq
    obtain ⟨y186, hq⟩ := hq
    obtain ⟨y187, hq⟩ := hq
    obtain ⟨y188, hq⟩ := hq
    obtain ⟨y189, hq⟩ := hq
    obtain ⟨y190, hq⟩ := hq
    obtain ⟨y191, hq⟩ := hq
    obtain ⟨y192, hq⟩ := hq
    obtain ⟨y193, hq⟩ := hq
    obtain ⟨y194, hq⟩ := hq
    obtain ⟨y195, hq⟩ := hq
    obtain ⟨y196, hq⟩ := hq
    obtain ⟨y197, hq⟩ := hq
    obtain ⟨y198, hq⟩ := hq
    obtain ⟨y199, hq⟩ := hq
    obtain ⟨y200, hq⟩ := hq
    obtain ⟨y201, hq⟩ := hq
    obtain ⟨y202, hq⟩ := hq
    obtain ⟨y203, hq⟩ := hq
    obtain ⟨y204, hq⟩ := hq
    obtain ⟨y205, hq⟩ := hq
    obtain ⟨rfl, hq⟩ := hq
    have hb7 := hq.out
    clear hq
    have hbr7 : Below W.heap.size W A7 := hbr6.trans (hb7.mono hbr6.size)
    have HS7 : Hid (Svc A7 p4 p6 (W.heap.size + 1) ls zs (keyIn ps) la n0 lc pa n1 pc W.heap.size) := hide (HS6.out.below hb7)
    have HQ7 : Hid (PtrsAt A7 p4 p6 qa qs) := hide (HQ6.out.below hb7)
    have HL7 : Hid (ElemsAt A7 p4 p6 ao es) := hide (HL6.out.below hb7)
    have HN7 : Hid (A7.cell? ⟨A3.heap.size, 8, none⟩ = some (.slice qa n3 qc)) := hide ((hb7.cell (World.block_lt_of_cell? A6 _ HN6.out)).trans HN6.out)
    have HC7 : Hid (RowAt A7 A5.heap.size 103 [.bool en, .int .u16 nsei, .slice ao n6 c6']) := hide (HC.out.below hb7 HC.out.lt)
    have HF7 : Hid (FB n6 = firstBad zs ls (keyIn ps) es n6) := hide (by rw [HFB.out])
    clear HS6 HQ6 HL6 HN6 HC hb7 hbr6 HFB
    generalize FB n6 = fb at *
    go_upto_region 42 with fail
    refine wp_only (St42 A7 fb en) ?_
    intro aq A7' hq
    obtain ⟨y206, hq⟩ := hq
    obtain ⟨y207, hq⟩ := hq
    obtain ⟨y208, hq⟩ := hq
    obtain ⟨y209, hq⟩ := hq
    obtain ⟨rfl, hq⟩ := hq
    obtain rfl := hq.out
    clear hq
    go_upto_if 210 with fail
    refine wp_only (St7 p4 p6 W A7' HE a0 a3 a6 n0 c0 n3 c3 n6 c6 ls qs es H0 H3 H6 L0 L3 L6 (by omega) hbr7 fb en) ?_
    intro aq A8 hq
    obtain ⟨hq, hq8⟩ := hq
    have hb8 := hq8.out
    clear hq8
    unfold Left7 at hq
    obtain ⟨y29, hq⟩ := hq
    obtain ⟨y30, hq⟩ := hq
    obtain ⟨y31, hq⟩ := hq
    obtain ⟨y32, hq⟩ := hq
    obtain ⟨y33, hq⟩ := hq
    obtain ⟨y34, hq⟩ := hq
    obtain ⟨y35, hq⟩ := hq
    obtain ⟨y211, hq⟩ := hq
    obtain ⟨y212, hq⟩ := hq
    obtain ⟨y213, hq⟩ := hq
    obtain ⟨y214, hq⟩ := hq
    obtain ⟨y215, hq⟩ := hq
    obtain ⟨y216, hq⟩ := hq
    obtain ⟨y217, hq⟩ := hq
    obtain ⟨y218, hq⟩ := hq
    obtain ⟨y219, hq⟩ := hq
    obtain ⟨y220, hq⟩ := hq
    obtain ⟨y221, hq⟩ := hq
    obtain ⟨y222, hq⟩ := hq
    obtain ⟨y223, hq⟩ := hq
    obtain ⟨y224, hq⟩ := hq
    obtain ⟨y225, hq⟩ := hq
    obtain ⟨y226, hq⟩ := hq
    obtain ⟨y227, hq⟩ := hq
    obtain ⟨y228, hq⟩ := hq
    obtain ⟨y229, hq⟩ := hq
    obtain ⟨y230, hq⟩ := hq
    obtain ⟨y231, hq⟩ := hq
    obtain ⟨y232, hq⟩ := hq
    obtain ⟨y233, hq⟩ := hq
    obtain ⟨y234, hq⟩ := hq
    obtain ⟨y235, hq⟩ := hq
    obtain ⟨y236, hq⟩ := hq
    obtain ⟨y237, hq⟩ := hq
    obtain ⟨y238, hq⟩ := hq
    obtain ⟨y239, hq⟩ := hq
    obtain ⟨y240, hq⟩ := hq
    obtain ⟨y241, hq⟩ := hq
    obtain ⟨y242, hq⟩ := hq
    obtain ⟨y243, hq⟩ := hq
    obtain ⟨y244, hq⟩ := hq
    obtain ⟨y245, hq⟩ := hq
    obtain ⟨y246, hq⟩ := hq
    obtain ⟨y247, hq⟩ := hq
    obtain ⟨y248, hq⟩ := hq
    obtain ⟨y249, hq⟩ := hq
    obtain ⟨y250, hq⟩ := hq
    obtain ⟨y251, hq⟩ := hq
    obtain ⟨y252, hq⟩ := hq
    obtain ⟨y253, hq⟩ := hq
    obtain ⟨y254, hq⟩ := hq
    obtain ⟨y255, hq⟩ := hq
    obtain ⟨y256, hq⟩ := hq
    obtain ⟨y257, hq⟩ := hq
    obtain ⟨y258, hq⟩ := hq
    obtain ⟨y259, hq⟩ := hq
    obtain ⟨y260, hq⟩ := hq
    obtain ⟨y261, hq⟩ := hq
    obtain ⟨y262, hq⟩ := hq
    obtain ⟨y263, hq⟩ := hq
    obtain ⟨y264, hq⟩ := hq
    obtain ⟨y265, hq⟩ := hq
    obtain ⟨y266, hq⟩ := hq
    obtain ⟨y267, hq⟩ := hq
    obtain ⟨y268, hq⟩ := hq
    obtain ⟨y269, hq⟩ := hq
    obtain ⟨y270, hq⟩ := hq
    obtain ⟨y271, hq⟩ := hq
    obtain ⟨y272, hq⟩ := hq
    obtain ⟨y273, hq⟩ := hq
    obtain ⟨y274, hq⟩ := hq
    obtain ⟨y275, hq⟩ := hq
    obtain ⟨y276, hq⟩ := hq
    obtain ⟨y277, hq⟩ := hq
    obtain ⟨y278, hq⟩ := hq
    obtain ⟨y279, hq⟩ := hq
    obtain ⟨y280, hq⟩ := hq
    obtain ⟨y281, hq⟩ := hq
    obtain ⟨y282, hq⟩ := hq
    obtain ⟨y283, hq⟩ := hq
    obtain ⟨y284, hq⟩ := hq
    obtain ⟨y285, hq⟩ := hq
    obtain ⟨y286, hq⟩ := hq
    obtain ⟨y287, hq⟩ := hq
    obtain ⟨y288, hq⟩ := hq
    obtain ⟨y289, hq⟩ := hq
    obtain ⟨y290, hq⟩ := hq
    obtain ⟨y291, hq⟩ := hq
    obtain ⟨y292, hq⟩ := hq
    obtain ⟨y293, hq⟩ := hq
    obtain ⟨y294, hq⟩ := hq
    subst hq
    have hbr8 : Below W.heap.size W A8 := hbr7.trans (hb8.mono hbr7.size)
    have HS8 : Hid (Svc A8 p4 p6 (W.heap.size + 1) ls zs (keyIn ps) la n0 lc pa n1 pc W.heap.size) := hide (HS7.out.below hb8)
    have HQ8 : Hid (PtrsAt A8 p4 p6 qa qs) := hide (HQ7.out.below hb8)
    have HL8 : Hid (ElemsAt A8 p4 p6 ao es) := hide (HL7.out.below hb8)
    have HN8 : Hid (A8.cell? ⟨A3.heap.size, 8, none⟩ = some (.slice qa n3 qc)) := hide ((hb8.cell (World.block_lt_of_cell? A7' _ HN7.out)).trans HN7.out)
    have HC8 : Hid (RowAt A8 A5.heap.size 103 [.bool en, .int .u16 nsei, .slice ao n6 c6']) := hide (HC7.out.below hb8 HC7.out.lt)
    have HREF : Hid (Calls Ybad.prog 11 #[.pointer (some ⟨W.heap.size + 1, 0, none⟩), .pointer (some ⟨A3.heap.size, 0, none⟩), .agg #[.bool en, .int .u16 nsei, .slice ao n6 c6']] A8 fun e w' => e = .returned (.tuple #[.int .u8 (answer fb en ls qs es).1, .bool (answer fb en ls qs es).2]) ∧ Below A8.heap.size A8 w') := hide (by
      have := refuseElements_calls p4 p6 (W.heap.size + 1) A3.heap.size A8 (HE.out.below hbr8 (Nat.le_refl _)) ls zs (keyIn ps) la n0 lc pa n1 pc W.heap.size HS8.out ao n6 c6' es L6.out (by omega) HL8.out qa n3 qc qs L3.out (by omega) HQ8.out HN8.out (by omega) en nsei
      rw [← HF7.out] at this
      exact this)
    generalize answer fb en ls qs es = an at *
    obtain ⟨ac, ab⟩ := an
    have k0 := HC8.out.cell (j := 0) rfl
    have k1 := HC8.out.cell (j := 1) rfl
    have k2 := HC8.out.cell (j := 2) rfl
    clear hb8 HS7 HQ7 HL7 HN7 HC7 hbr7 HF7 HS8
    go_wp2_with fail
    refine HREF.out.mono ?_
    rintro e w1 ⟨rfl, hb9⟩
    obtain ⟨A9, rfl⟩ : ∃ A9, A9 = w1 := ⟨_, rfl⟩
    have hbr9 : Below W.heap.size W A9 := hbr8.trans (hb9.mono hbr8.size)
    have HQ9 : Hid (PtrsAt A9 p4 p6 qa qs) := hide (HQ8.out.below hb9)
    have HL9 : Hid (ElemsAt A9 p4 p6 ao es) := hide (HL8.out.below hb9)
    have m8 : A9.cell? ⟨A3.heap.size, 8, none⟩ = some (.slice qa n3 qc) := (hb9.cell (World.block_lt_of_cell? A8 _ HN8.out)).trans HN8.out
    have m2 := (HC8.out.below hb9 HC8.out.lt).cell (j := 2) rfl
    clear k0 k1 k2 hb9 HQ8 HL8 HN8 HC8 hbr8 HREF
    have HM2 := hide m2
    have HM8 := hide m8
    cases ab
    all_goals
      go_upto_block 19 with fail
      clear m2 m8
      refine wp_only (St10 p4 p6 W A9 HE a6 n6 c6 es H6 L6 (by omega) hbr9 ao c6' A5.heap.size HL9 HM2) ?_
      intro aq A10 hq
      obtain ⟨y14, hq⟩ := hq
      obtain ⟨y316, hq⟩ := hq
      obtain ⟨y317, hq⟩ := hq
      obtain ⟨y318, hq⟩ := hq
      obtain ⟨y319, hq⟩ := hq
      obtain ⟨y320, hq⟩ := hq
      obtain ⟨y321, hq⟩ := hq
      obtain ⟨y322, hq⟩ := hq
      obtain ⟨y323, hq⟩ := hq
      obtain ⟨y324, hq⟩ := hq
      obtain ⟨y325, hq⟩ := hq
      obtain ⟨y326, hq⟩ := hq
      obtain ⟨y327, hq⟩ := hq
      obtain ⟨y328, hq⟩ := hq
      obtain ⟨y329, hq⟩ := hq
      obtain ⟨y330, hq⟩ := hq
      obtain ⟨y331, hq⟩ := hq
      obtain ⟨y332, hq⟩ := hq
      obtain ⟨rfl, hq⟩ := hq
      have hb10 := hq.out
      clear hq
      have hbr10 : Below W.heap.size W A10 := hbr9.trans (hb10.mono hbr9.size)
      have HQ10 : Hid (PtrsAt A10 p4 p6 qa qs) := hide (HQ9.out.below hb10)
      have m8 : A10.cell? ⟨A3.heap.size, 8, none⟩ = some (.slice qa n3 qc) := (hb10.cell (World.block_lt_of_cell? A9 _ HM8.out)).trans HM8.out
      have HM10 := hide m8
      go_upto_block 21 with fail
      clear m8
      refine wp_only (St11 p4 p6 W A10 HE a3 n3 c3 qs H3 L3 (by omega) hbr10 qa qc A3.heap.size HQ10 HM10) ?_
      intro aq A11 hq
      obtain ⟨y14, hq⟩ := hq
      obtain ⟨y341, hq⟩ := hq
      obtain ⟨y342, hq⟩ := hq
      obtain ⟨y343, hq⟩ := hq
      obtain ⟨y344, hq⟩ := hq
      obtain ⟨y345, hq⟩ := hq
      obtain ⟨y346, hq⟩ := hq
      obtain ⟨y347, hq⟩ := hq
      obtain ⟨y348, hq⟩ := hq
      obtain ⟨y349, hq⟩ := hq
      obtain ⟨y350, hq⟩ := hq
      obtain ⟨y351, hq⟩ := hq
      obtain ⟨y352, hq⟩ := hq
      obtain ⟨y353, hq⟩ := hq
      obtain ⟨y354, hq⟩ := hq
      obtain ⟨y355, hq⟩ := hq
      obtain ⟨y356, hq⟩ := hq
      obtain ⟨y357, hq⟩ := hq
      obtain ⟨y358, hq⟩ := hq
      obtain ⟨y359, hq⟩ := hq
      obtain ⟨y360, hq⟩ := hq
      obtain ⟨y361, hq⟩ := hq
      obtain ⟨y362, hq⟩ := hq
      obtain ⟨rfl, hq⟩ := hq
      have hb11 := hq.out
      clear hq
      have hbr11 := hbr10.trans (hb11.mono hbr10.size)
      go_wp2
      go_ret
      exact ⟨rfl, hbr11⟩

end Go.Proofs.YbulkdxjmDoor

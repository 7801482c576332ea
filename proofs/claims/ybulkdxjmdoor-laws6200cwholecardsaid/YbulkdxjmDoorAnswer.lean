/-
  'service.refuseElements' (11).
-/
import Derived.Test.YbulkdxjmDoorConcat
namespace Go.Proofs.YbulkdxjmDoor
open Go.RowKit
set_option linter.unusedVariables false
set_option linter.unusedSimpArgs false

/-- THE WHOLE ANSWER: the cause's number, and whether it is refused. -/
def answer (fb : Option Int) (en : Bool) (ls ps es : List Ep) : Int × Bool :=
  match fb with
  | some c => (c, true)
  | none => match en with
    | false => (0, false)
    | true => match decide (ps.length + es.length = 0) with
      | true => (noneCause (hasV4 ls), true)
      | false => match hasSig (ps ++ es) && hasDat (ps ++ es) with
        | true => (0, false)
        | false => (17, true)

set_option maxRecDepth 100000 in
set_option maxHeartbeats 4000000 in
theorem refuseElements_calls (p4 p6 : Addr) (s m : Nat) (w : World) (hE : Env w p4 p6) (ls : List Ep) (zs : List Int) (f : Int → Int → Bool) (la : Option Addr) (ln lc : Nat) (pa : Option Addr) (pn pc r : Nat) (hS : Svc w p4 p6 s ls zs f la ln lc pa pn pc r)
    (ao : Option Addr) (n c : Nat) (es : List Ep) (hl : es.length = n) (hn : n ≤ 4096) (hes : ElemsAt w p4 p6 ao es)
    (qo : Option Addr) (qn qc : Nat) (ps : List Ep) (hql : ps.length = qn) (hqn : qn ≤ 4096) (hps : PtrsAt w p4 p6 qo ps) (hm : w.cell? ⟨m, 8, none⟩ = some (.slice qo qn qc)) (hsum : qn + n ≤ 4096) (en : Bool) (nsei : Int) :
    Calls Ybad.prog 11 #[.pointer (some ⟨s, 0, none⟩), .pointer (some ⟨m, 0, none⟩), .agg #[.bool en, .int .u16 nsei, .slice ao n c]] w fun e w' => e = .returned (.tuple #[.int .u8 (answer (firstBad zs ls f es n) en ls ps es).1, .bool (answer (firstBad zs ls f es n) en ls ps es).2]) ∧ Below w.heap.size w w' := by
  have hB := Boxes.one w 103 [.bool en, .int .u16 nsei, .slice ao n c]
  have hW := hB.1
  have HC := hide (refuseEndpoints_calls p4 p6 s (w.alloc (.cells #[.bool en, .int .u16 nsei, .slice ao n c] 103)) (hE.below hW (Nat.le_refl _)) ls zs f la ln lc pa pn pc r (hS.below hW) ao n c es hl hn (hes.below hW))
  have HE := hide hE
  have HS := hide hS
  have HZ := hide hes
  have HP := hide hps
  have HM := hide hm
  have HL := hide hl
  have HQ := hide hql
  clear hE hS hes hps hm hl hql
  go_enter Ybad.func11, Ybad.ntmps11
  go_wp2_with fail
  refine HC.out.mono ?_
  rintro e w1 ⟨rfl, hb1⟩
  have hB1 := hB.later hb1
  have hw1 := hB1.1
  clear HC hB hb1 hW
  obtain ⟨hc, hf⟩ := hB1.res (i := 0) rfl
  simp only [Nat.add_zero] at hc hf
  have c0 := hc 0 _ rfl
  have c1 := hc 1 _ rfl
  have c2 := hc 2 _ rfl
  clear hc hf
  cases hfb : firstBad zs ls f es n with
  | some cc =>
    go_wp2
    go_ret2
    exact ⟨by rw [hfb]; rfl, hw1⟩
  | none =>
    cases en with
    | false =>
      go_wp2
      go_ret2
      exact ⟨by rw [hfb]; rfl, hw1⟩
    | true =>
      have hmlt := World.block_lt_of_cell? w _ HM.out
      have HN : Hid (∀ w', Below w1.heap.size w1 w' → Calls Ybad.prog 20 #[.pointer (some ⟨m, 0, none⟩)] w' (fun e w'' => (∃ g, e = .returned (.slice (some ⟨g, 0, none⟩) qn qn) ∧ ElemsAt w'' p4 p6 (some ⟨g, 0, none⟩) ps) ∧ Below w'.heap.size w' w'')) := hide (fun w' h => nseElements_calls p4 p6 w' qo qn qc ps HQ.out hqn (HP.out.below (hw1.trans (h.mono hw1.size))) m (((hw1.trans (h.mono hw1.size)).cell hmlt).trans HM.out))
      have hblt := World.block_lt_of_cell? w1 _ c2
      have e2 : ∀ w', Below w1.heap.size w1 w' → w'.cell? ⟨w.heap.size, 2, none⟩ = some (.slice ao n c) := fun w' h => (h.cell hblt).trans c2
      have hself : Below w1.heap.size w1 w1 := Below.refl _ _
      have HFB := hide hfb
      clear hfb hB1
      go_wp2
      clear c0 c1 c2
      go_region_held3 (fun w' => Below w1.heap.size w1 w') (first | with_reducible assumption | with_reducible exact Below.drew hself | exact Below.alloc (by assumption) (Below.size (B := w1.heap.size) (w := w1) (by assumption)) _) (first | (go_at_call 20; refine (HN.out _ (by assumption)).mono ?_; rintro e w2 ⟨⟨g, rfl, hel⟩, hb2⟩; have hk2 := Below.trans (by assumption) (Below.mono hb2 (Below.size (B := w1.heap.size) (w := w1) (by assumption))); have HEL := hide hel; clear hel hb2) | (go_at_call 19; refine (concat_calls p4 p6 _ _ (some ⟨g, 0, none⟩) ao qn qn n c ps es HQ.out HL.out hqn hn (HEL.out.below ((Below.refl _ _).alloc (Nat.le_refl _) _)) (HZ.out.below (hw1.trans (Below.mono (by assumption) hw1.size))) (by simp) (by simp) (by simp)).mono ?_; rintro e w3 ⟨⟨ra, rc, rfl, hel3⟩, hb3⟩; have hk3 := Below.trans (by assumption) (Below.mono hb3 (Below.size (B := w1.heap.size) (w := w1) (by assumption))); have HEL3 := hide hel3; clear hel3 hb3))
      have hw3 := hw1.trans (hk3.mono hw1.size)
      have hS3 := hide (HS.out.below hw3)
      have hE3 := hide (HE.out.below hw3 (Nat.le_refl _))
      have hlen : (ps ++ es).length = qn + n := by rw [List.length_append, HQ.out, HL.out]
      have HLN := hide hlen
      clear hlen
      by_cases h0 : qn + n = 0
      · have HI := hide (invalidEndpoints_calls p4 p6 w3 hE3.out s la ln lc ls hS3.out.ll hS3.out.lle hS3.out.lsA hS3.out.l)
        have hz : ((qn : Int) + (n : Int) == 0) = true := by simpa using (by omega : (qn : Int) + (n : Int) = 0)
        go_wp2_with fail
        refine HI.out.mono ?_
        rintro e w4 ⟨rfl, hb4⟩
        have hw4 := hw3.trans (hb4.mono hw3.size)
        go_wp2
        go_ret2
        refine ⟨?_, hw4⟩
        have hd : decide (ps.length + es.length = 0) = true := by rw [HQ.out, HL.out]; simpa using h0
        rw [HFB.out]
        simp only [answer, hd]
        rfl
      · have HI := hide (weighted_calls p4 p6 w3 ra (qn + n) rc (ps ++ es) HLN.out hsum HEL3.out)
        have hz : ((qn : Int) + (n : Int) == 0) = false := beq_eq_false_iff_ne.2 (by omega)
        have hd : Hid (decide (ps.length + es.length = 0) = false) := hide (by rw [HQ.out, HL.out]; simpa using h0)
        go_wp2_with fail
        refine HI.out.mono ?_
        rintro e w4 ⟨rfl, hb4⟩
        have hw4 := hw3.trans (hb4.mono hw3.size)
        cases hwt : (hasSig (ps ++ es) && hasDat (ps ++ es)) with
        | true =>
          have HWT := hide hwt
          clear hwt
          go_wp2
          go_ret2
          refine ⟨?_, hw4⟩
          rw [HFB.out]
          simp only [answer, hd.out, HWT.out]
          rfl
        | false =>
          have HWT := hide hwt
          clear hwt
          go_wp2
          go_ret2
          refine ⟨?_, hw4⟩
          rw [HFB.out]
          simp only [answer, hd.out, HWT.out]
          rfl
end Go.Proofs.YbulkdxjmDoor

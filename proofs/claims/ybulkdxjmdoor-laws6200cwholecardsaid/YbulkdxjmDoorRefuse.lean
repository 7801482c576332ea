/-
  'service.refuseEndpoints' (18).
-/
import Derived.Test.YbulkdxjmDoorMaps
import Derived.BigQuiet
import Derived.Deep.QuietTactic
namespace Go.Proofs.YbulkdxjmDoor
open Go.RowKit
set_option linter.unusedVariables false

/-- Which endpoints lie in a list of drawn ones. -/
def keyIn (es : List Ep) (k po : Int) : Bool := es.any fun e => e.a % 7 == k && e.p % 4 == po
theorem beq_swap (a b : Int) : (a == b) = (b == a) := by
  rw [Bool.eq_iff_iff, beq_iff_eq, beq_iff_eq]; exact eq_comm
theorem inB_eq (a p : Int) (es : List Ep) : inB a p es = keyIn es (a % 7) (p % 4) := by
  unfold inB keyIn sameB
  congr 1
  funext e
  rw [beq_swap (a % 7), beq_swap (p % 4)]
/-- WHY ONE ENDPOINT IS REFUSED: the cause's number. -/
def badAt (zs : List Int) (ls : List Ep) (f : Int → Int → Bool) (pre : List Ep) (e : Ep) : Option Int :=
  if reachB e.a e.p = false then some 12 else if admitB e.a zs = false then some 11 else if (keyIn pre (e.a % 7) (e.p % 4) || f (e.a % 7) (e.p % 4) || keyIn ls (e.a % 7) (e.p % 4)) = true then some 11 else none
def badI (zs : List Int) (ls : List Ep) (f : Int → Int → Bool) (es : List Ep) (i : Nat) : Option Int := (es[i]?).bind fun e => badAt zs ls f (es.take i) e
/-- The first refusal among the first n. -/
def firstBad (zs : List Int) (ls : List Ep) (f : Int → Int → Bool) (es : List Ep) : Nat → Option Int
  | 0 => none
  | n + 1 => match firstBad zs ls f es n with | some c => some c | none => badI zs ls f es n
theorem firstBad_mono {zs : List Int} {ls : List Ep} {f : Int → Int → Bool} {es : List Ep} {j : Nat} {c : Int} (h : firstBad zs ls f es j = some c) : ∀ n, j ≤ n → firstBad zs ls f es n = some c := by
  intro n hn
  induction n with
  | zero => obtain rfl : j = 0 := by omega
            exact h
  | succ n ih =>
    by_cases hj : j = n + 1
    · subst hj; exact h
    · simp only [firstBad, ih (by omega)]
theorem firstBad_step {zs : List Int} {ls : List Ep} {f : Int → Int → Bool} {es : List Ep} {j : Nat} {e : Ep} (h : firstBad zs ls f es j = none) (he : es[j]? = some e) : firstBad zs ls f es (j + 1) = badAt zs ls f (es.take j) e := by
  simp [firstBad, h, badI, he]
theorem keyIn_take {es : List Ep} {j : Nat} {e : Ep} (he : es[j]? = some e) (k po : Int) : keyIn (es.take (j + 1)) k po = (keyIn (es.take j) k po || (e.a % 7 == k && e.p % 4 == po)) := by
  obtain ⟨hkl, hkx⟩ := List.getElem?_eq_some_iff.1 he
  unfold keyIn
  rw [List.take_succ_eq_append_getElem hkl, List.any_append, hkx]
  simp

/-- A SLICE OF ELEMENTS of drawn endpoints. -/
def ElemsAt (w : World) (p4 p6 : Addr) (a : Option Addr) (es : List Ep) : Prop :=
  (∀ e ∈ es, e.ok) ∧ (0 < es.length → ∃ b o, a = some ⟨b, o, none⟩ ∧ b < w.heap.size ∧ ∀ i e, es[i]? = some e → ElAt w p4 p6 b (o + i * 6) e)
theorem ElemsAt.below {w w' : World} {p4 p6 : Addr} {a : Option Addr} {es : List Ep} (h : ElemsAt w p4 p6 a es) (hb : Below w.heap.size w w') : ElemsAt w' p4 p6 a es := by
  refine ⟨h.1, fun h0 => ?_⟩
  obtain ⟨b, o, e, hlt, hc⟩ := h.2 h0
  exact ⟨b, o, e, Nat.lt_of_lt_of_le hlt hb.size, fun i x hx => (hc i x hx).below hb hlt⟩

/-- WHAT THE SERVICE's BLOCK HOLDS, as far as this road reads it. -/
structure Svc (w : World) (p4 p6 : Addr) (s : Nat) (ls : List Ep) (zs : List Int) (f : Int → Int → Bool) (la : Option Addr) (ln lc : Nat) (pa : Option Addr) (pn pc : Nat) (r : Nat) : Prop where
  l : w.cell? ⟨s, 0, none⟩ = some (.slice la ln lc)
  p : w.cell? ⟨s, 8, none⟩ = some (.slice pa pn pc)
  m : w.cell? ⟨s, 22, none⟩ = some (.map (some r))
  lsA : PtrsAt w p4 p6 la ls
  zsA : PfxAt w p4 p6 pa zs
  mm : MapAt w p4 p6 r (fun v => ∃ a, v = .pointer (some a)) f
  ll : ls.length = ln
  zl : zs.length = pn
  lle : ln ≤ 4096
  zle : pn ≤ 4096
theorem Svc.lt {w : World} {p4 p6 : Addr} {s : Nat} {ls : List Ep} {zs : List Int} {f : Int → Int → Bool} {la : Option Addr} {ln lc : Nat} {pa : Option Addr} {pn pc r : Nat} (h : Svc w p4 p6 s ls zs f la ln lc pa pn pc r) : s < w.heap.size := World.block_lt_of_cell? w _ h.l
theorem Svc.below {w w' : World} {p4 p6 : Addr} {s : Nat} {ls : List Ep} {zs : List Int} {f : Int → Int → Bool} {la : Option Addr} {ln lc : Nat} {pa : Option Addr} {pn pc r : Nat} (h : Svc w p4 p6 s ls zs f la ln lc pa pn pc r) (hb : Below w.heap.size w w') : Svc w' p4 p6 s ls zs f la ln lc pa pn pc r :=
  ⟨(hb.cell h.lt).trans h.l, (hb.cell h.lt).trans h.p, (hb.cell h.lt).trans h.m, h.lsA.below hb, h.zsA.below hb, h.mm.below hb h.mm.lt, h.ll, h.zl, h.lle, h.zle⟩

theorem makeMap_hint (w : World) (n : Int) : (Instr.makeMap 130 (some (.int .i64 n))).run Ybad.prog w = .ok (.map (some w.heap.size)) (w.alloc (.map #[] 0)) := by
  simp [Instr.makeMap, run_underlying Ybad.underlying130, asInt, go_sem]

set_option maxRecDepth 100000 in
set_option maxHeartbeats 4000000 in
theorem refuseEndpoints_calls (p4 p6 : Addr) (s : Nat) (w : World) (hE : Env w p4 p6) (ls : List Ep) (zs : List Int) (f : Int → Int → Bool) (la : Option Addr) (ln lc : Nat) (pa : Option Addr) (pn pc r : Nat) (hS : Svc w p4 p6 s ls zs f la ln lc pa pn pc r) (ao : Option Addr) (n c : Nat) (es : List Ep) (hl : es.length = n) (hn : n ≤ 4096) (hes : ElemsAt w p4 p6 ao es) :
    Calls Ybad.prog 18 #[.pointer (some ⟨s, 0, none⟩), .slice ao n c] w fun e w' => e = .returned (.tuple #[.int .u8 ((firstBad zs ls f es n).getD 0), .bool (firstBad zs ls f es n).isSome]) ∧ Below w.heap.size w w' := by
  have HE := hide hE
  have HS := hide hS
  have HZ := hide hes
  have HL := hide hl
  clear hE hS hes hl
  have hM0 : Hid (MapAt (w.alloc (.map #[] 0)) p4 p6 w.heap.size (fun v => v = .bool true) (keyIn (es.take 0))) := hide (MapAt.new _)
  have hb0 : Below w.heap.size w (w.alloc (.map #[] 0)) := (Below.refl _ _).alloc (Nat.le_refl _) _
  have hmk := makeMap_hint w n
  go_enter Ybad.func18, Ybad.ntmps18
  go_wp2
  go_loopw [14] (fun i wr => ∃ j : Nat, j ≤ n ∧ i = .int .i64 j ∧ Below w.heap.size w wr ∧ MapAt wr p4 p6 w.heap.size (fun v => v = .bool true) (keyIn (es.take j)) ∧ firstBad zs ls f es j = none) (fun i _ => n - (intOf i).toNat)
  case atStart => exact ⟨0, Nat.zero_le _, rfl, hb0, hM0.out, rfl⟩
  case round =>
    obtain ⟨j, hj, rfl, hbr, hMr, hno⟩ := hrel
    have HN := hide hno
    clear hno hM0 hb0
    by_cases hlt : j < n
    · obtain ⟨x, hx⟩ : ∃ x, es[j]? = some x := ⟨_, List.getElem?_eq_getElem (by have := HL.out; omega)⟩
      obtain ⟨b, o, rfl, hb, hc⟩ := HZ.out.2 (by have := HL.out; omega)
      obtain ⟨q0, q1, q2, q3, q4, q5⟩ := hc j x hx
      have k0 := (hbr.cell hb).trans q0
      have k1 := (hbr.cell hb).trans q1
      have k2 := (hbr.cell hb).trans q2
      have k3 := (hbr.cell hb).trans q3
      have k4 := (hbr.cell hb).trans q4
      have k5 := (hbr.cell hb).trans q5
      obtain ⟨x0, x1, y0, y1, _⟩ := HZ.out.1 x (List.mem_of_getElem? hx)
      have HX := hide hx
      clear q0 q1 q2 q3 q4 q5 hc hx
      have hB := Boxes.one wr 67 [.int .u64 (hiK (x.a % 7)), .int .u64 (loK (x.a % 7)), .pointer (zp p4 p6 (zK (x.a % 7))), .int .u16 (x.p % 4), .int .u8 x.s, .int .u8 x.d]
      have hBw := hide (hbr.trans (hB.1.mono hbr.size))
      have hrc := hide (reachable_calls (x.a % 7) (x.p % 4) (by omega) (by omega) p4 p6 (wr.alloc (.cells #[.int .u64 (hiK (x.a % 7)), .int .u64 (loK (x.a % 7)), .pointer (zp p4 p6 (zK (x.a % 7))), .int .u16 (x.p % 4), .int .u8 x.s, .int .u8 x.d] 67)) (HE.out.below hBw.out (Nat.le_refl _)))
      go_wp2_with fail
      refine (show Calls Ybad.prog 28 _ _ (fun e w' => e = .returned (.bool (reachB x.a x.p)) ∧ _) from hrc.out).mono ?_
      rintro e w1 ⟨rfl, hb1⟩
      clear hrc k0 k1 k2 k3 k4 k5
      have hB1 := hB.later hb1
      have hw1 := hBw.out.trans (hb1.mono hBw.out.size)
      have hMr1 := hide (hMr.below (hB1.1) hMr.lt)
      clear hBw hb1 hB hMr
      obtain ⟨hc, hf⟩ := hB1.res (i := 0) rfl
      simp only [Nat.add_zero] at hc hf
      have c0 := hc 0 _ rfl
      have c1 := hc 1 _ rfl
      have c2 := hc 2 _ rfl
      have c3 := hc 3 _ rfl
      clear hc hf
      cases hr : reachB x.a x.p with
      | false =>
        go_wp2
        have HR := hide hr
        clear hr
        go_ret2
        exact ⟨by rw [firstBad_mono (show firstBad zs ls f es (j + 1) = some 12 by rw [firstBad_step HN.out HX.out]; simp [badAt, HR.out]) n (by omega)]; rfl, hw1⟩
      | true =>
        have hk : x.a % 7 = 2 ∨ x.a % 7 = 3 ∨ x.a % 7 = 5 ∨ x.a % 7 = 6 := by
          simp only [reachB, Bool.and_eq_true, Bool.or_eq_true, beq_iff_eq] at hr
          omega
        have HR := hide hr
        have HK := hide hk
        clear hr hk
        have hS1 := hide (HS.out.below hw1)
        have hac := hide (admits_calls (x.a % 7) (x.p % 4) HK.out p4 p6 s w1 (HE.out.below hw1 (Nat.le_refl _)) pa pn pc zs hS1.out.zl hS1.out.zle hS1.out.zsA hS1.out.p)
        go_wp2_with fail
        refine (show Calls Ybad.prog 29 _ _ (fun e w' => e = .returned (.bool (admitB x.a zs)) ∧ _) from hac.out).mono ?_
        rintro e w2 ⟨rfl, hb2⟩
        clear hac c0 c1 c2 c3
        have hB2 := hB1.later hb2
        have hw2 := hw1.trans (hb2.mono hw1.size)
        have hMr2 := hide (hMr1.out.below hb2 hMr1.out.lt)
        clear hb2 hB1 hMr1 hw1 hS1
        cases had : admitB x.a zs with
        | false =>
          go_wp2
          have HAD := hide had
          clear had
          go_ret2
          exact ⟨by rw [firstBad_mono (show firstBad zs ls f es (j + 1) = some 11 by rw [firstBad_step HN.out HX.out]; simp [badAt, HR.out, HAD.out]) n (by omega)]; rfl, hw2⟩
        | true =>
          have HAD := hide had
          clear had
          obtain ⟨hc, hf⟩ := hB2.res (i := 0) rfl
          simp only [Nat.add_zero] at hc hf
          have d0 := hc 0 _ rfl
          have d1 := hc 1 _ rfl
          have d2 := hc 2 _ rfl
          have d3 := hc 3 _ rfl
          clear hc hf
          have hS2 := hide (HS.out.below hw2)
          have hm2 := hS2.out.m
          have hE2 := hide (HE.out.below hw2 (Nat.le_refl _))
          have hlk1 : ∀ w', Below w2.heap.size w2 w' → (Instr.lookup 130 (.map (some w.heap.size)) (.agg #[.int .u64 (hiK (x.a % 7)), .int .u64 (loK (x.a % 7)), .pointer (zp p4 p6 (zK (x.a % 7))), .int .u16 (x.p % 4)]) false).run Ybad.prog w' = .ok (.bool (keyIn (es.take j) (x.a % 7) (x.p % 4))) w' := fun w' h' => by
            obtain ⟨v, hv, ht, hff⟩ := lookup_run (hE2.out.below h' (Nat.le_refl _)) (hMr2.out.below h' hMr2.out.lt) (x.a % 7) (x.p % 4) (by omega) (by omega) 130 4 (.bool false) Ybad.underlying130 (fun w => by simp [go_sem])
            cases hki : keyIn (es.take j) (x.a % 7) (x.p % 4) with
            | true => rw [← ht hki]; exact hv
            | false => rw [← hff hki]; exact hv
          go_wp2
          have hnq : ∀ n, Below w2.heap.size w2 (w2.drewN n) := fun n => ⟨rfl, rfl, rfl, Nat.le_refl _, fun _ _ => rfl⟩
          cases hb1 : keyIn (es.take j) (x.a % 7) (x.p % 4) with
          | true =>
            rw [hb1] at hlk1
            have hlq := fun n => hlk1 _ (hnq n)
            clear hlk1
            go_quiet (fail)
            go_wp2
            have HB1 := hide hb1
            clear hb1
            go_ret2
            exact ⟨by rw [firstBad_mono (show firstBad zs ls f es (j + 1) = some 11 by rw [firstBad_step HN.out HX.out]; simp [badAt, HR.out, HAD.out, HB1.out]) n (by omega)]; rfl, hw2.trans ((hnq _).mono hw2.size)⟩
          | false =>
            rw [hb1] at hlk1
            have HB1 := hide hb1
            clear hb1
            cases hb2 : f (x.a % 7) (x.p % 4) with
            | true =>
              obtain ⟨g, hlk2⟩ : ∃ g : Addr, ∀ w', Below w2.heap.size w2 w' → (Instr.lookup 26 (.map (some r)) (.agg #[.int .u64 (hiK (x.a % 7)), .int .u64 (loK (x.a % 7)), .pointer (zp p4 p6 (zK (x.a % 7))), .int .u16 (x.p % 4)]) false).run Ybad.prog w' = .ok (.pointer (some g)) w' := by
                obtain ⟨v, hv, ht, hff⟩ := lookup_fix hE2.out hS2.out.mm (x.a % 7) (x.p % 4) (by omega) (by omega) 26 77 (.pointer none) Ybad.underlying26 (fun w => by simp [go_sem])
                obtain ⟨a, rfl⟩ := ht hb2
                exact ⟨a, fun w' h' => hv w' (hE2.out.below h' (Nat.le_refl _)) (h'.block r hS2.out.mm.lt)⟩
              have hlq := fun n => hlk1 _ (hnq n)
              have hlq2 := fun n => hlk2 _ (hnq n)
              have HB2 := hide hb2
              clear hlk1 hlk2 hb2
              go_quiet (fail)
              go_wp2
              go_ret2
              exact ⟨by rw [firstBad_mono (show firstBad zs ls f es (j + 1) = some 11 by rw [firstBad_step HN.out HX.out]; simp [badAt, HR.out, HAD.out, HB2.out]) n (by omega)]; rfl, hw2.trans ((hnq _).mono hw2.size)⟩
            | false =>
              have hlk2 : ∀ w', Below w2.heap.size w2 w' → (Instr.lookup 26 (.map (some r)) (.agg #[.int .u64 (hiK (x.a % 7)), .int .u64 (loK (x.a % 7)), .pointer (zp p4 p6 (zK (x.a % 7))), .int .u16 (x.p % 4)]) false).run Ybad.prog w' = .ok (.pointer none) w' := fun w' h' => by
                obtain ⟨v, hv, ht, hff⟩ := lookup_run (hE2.out.below h' (Nat.le_refl _)) (hS2.out.mm.below h' hS2.out.mm.lt) (x.a % 7) (x.p % 4) (by omega) (by omega) 26 77 (.pointer none) Ybad.underlying26 (fun w => by simp [go_sem])
                rw [← hff hb2]; exact hv
              have HB2 := hide hb2
              clear hb2 hnq
              have hel : wr.heap.size < w2.heap.size := World.block_lt_of_cell? w2 _ d0
              have e0 : ∀ w', Below w2.heap.size w2 w' → w'.cell? ⟨wr.heap.size, 0, none⟩ = some (.int .u64 (hiK (x.a % 7))) := fun w' h => (h.cell hel).trans d0
              have e1 : ∀ w', Below w2.heap.size w2 w' → w'.cell? ⟨wr.heap.size, 1, none⟩ = some (.int .u64 (loK (x.a % 7))) := fun w' h => (h.cell hel).trans d1
              have e2 : ∀ w', Below w2.heap.size w2 w' → w'.cell? ⟨wr.heap.size, 2, none⟩ = some (.pointer (zp p4 p6 (zK (x.a % 7)))) := fun w' h => (h.cell hel).trans d2
              have e3 : ∀ w', Below w2.heap.size w2 w' → w'.cell? ⟨wr.heap.size, 3, none⟩ = some (.int .u16 (x.p % 4)) := fun w' h => (h.cell hel).trans d3
              have em : ∀ w', Below w2.heap.size w2 w' → w'.cell? ⟨s, 22, none⟩ = some (.map (some r)) := fun w' h => (h.cell (World.block_lt_of_cell? w2 _ hm2)).trans hm2
              have hilc : Hid (∀ w', Below w2.heap.size w2 w' → Calls Ybad.prog 30 #[.pointer (some ⟨s, 0, none⟩), .agg #[.int .u64 (hiK (x.a % 7)), .int .u64 (loK (x.a % 7)), .pointer (zp p4 p6 (zK (x.a % 7))), .int .u16 (x.p % 4)]] w' (fun e w'' => e = .returned (.bool (keyIn ls (x.a % 7) (x.p % 4))) ∧ Below w'.heap.size w' w'')) := hide (fun w' h => isLocal_calls (x.a % 7) (x.p % 4) (by omega) (by omega) p4 p6 s w' (hE2.out.below h (Nat.le_refl _)) la ln lc ls hS2.out.ll hS2.out.lle (hS2.out.lsA.below h) ((hS2.out.below h).l))
              have hself : Below w2.heap.size w2 w2 := Below.refl _ _
              clear d0 d1 d2 d3 hm2
              go_region_held3 (fun w' => Below w2.heap.size w2 w') (first | with_reducible assumption | with_reducible exact Below.drew hself) ((go_at_call 30; refine (hilc.out _ (by assumption)).mono ?_; rintro e w3 ⟨rfl, hb3⟩; have hk3 := Below.trans (by assumption) (Below.mono hb3 (Below.size (by assumption))); clear hb3))
              have hk3 := hk3
              have hw3 := hw2.trans (hk3.mono hw2.size)
              have hE3 := hE2.out.below hk3 (Nat.le_refl _)
              cases hb3 : keyIn ls (x.a % 7) (x.p % 4) with
              | true =>
                have HB3 := hide hb3
                clear hb3
                go_wp2
                go_ret2
                exact ⟨by rw [firstBad_mono (show firstBad zs ls f es (j + 1) = some 11 by rw [firstBad_step HN.out HX.out]; simp [badAt, HR.out, HAD.out, HB3.out]) n (by omega)]; rfl, hw3⟩
              | false =>
                have HB3 := hide hb3
                clear hb3
                obtain ⟨w4, hu, hM4, hB4, hsz, hbl⟩ := mapUpdate_run hE3 (hMr2.out.below hk3 hMr2.out.lt) (x.a % 7) (x.p % 4) (by omega) (by omega) 130 4 (.bool true) rfl Ybad.underlying130
                simp only [apV] at hu
                have HM4 := hide hM4
                have hw4 := hw3.trans (hB4 _ (Nat.le_refl _))
                clear hM4 hB4 hsz hbl
                go_wp2
                go_roundw
                case rel =>
                  refine ⟨j + 1, by omega, by go_num, hw4, ?_, ?_⟩
                  · have : keyIn (es.take (j + 1)) = fun k' po' => keyIn (es.take j) k' po' || (k' == x.a % 7 && po' == x.p % 4) := by
                      funext k' po'
                      rw [keyIn_take HX.out, beq_swap k', beq_swap po']
                    rw [this]
                    exact HM4.out
                  · rw [firstBad_step HN.out HX.out]
                    simp [badAt, HR.out, HAD.out, HB1.out, HB2.out, HB3.out]
                case measure => simp [intOf]; omega
    · obtain rfl : j = n := by omega
      go_wp2
      go_ret2
      exact ⟨by rw [HN.out]; rfl, hbr⟩
end Go.Proofs.YbulkdxjmDoor

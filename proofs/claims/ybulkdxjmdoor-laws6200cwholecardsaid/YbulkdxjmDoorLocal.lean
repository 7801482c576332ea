/-
  COMPARING TABLE ENDPOINTS; 'service.isLocal' (30) AND WHAT IT CALLS: its closure (44), slices.IndexFunc (59), slices.ContainsFunc (43).
-/
import Derived.Test.YbulkdxjmDoorAdmits
namespace Go.Proofs.YbulkdxjmDoor
open Go.RowKit
set_option linter.unusedVariables false

theorem k_inj (k k' : Int) (h0 : 0 ≤ k) (h1 : k ≤ 6) (h0' : 0 ≤ k') (h1' : k' ≤ 6) (hl : loK k = loK k') (hz : zK k = zK k') : k = k' := by
  have hk : k = 0 ∨ k = 1 ∨ k = 2 ∨ k = 3 ∨ k = 4 ∨ k = 5 ∨ k = 6 := by omega
  have hk' : k' = 0 ∨ k' = 1 ∨ k' = 2 ∨ k' = 3 ∨ k' = 4 ∨ k' = 5 ∨ k' = 6 := by omega
  rcases hk with rfl | rfl | rfl | rfl | rfl | rfl | rfl <;> rcases hk' with rfl | rfl | rfl | rfl | rfl | rfl | rfl <;> first | rfl | (revert hl hz; decide)

/-- The value of a table endpoint. -/
def apV (p4 p6 : Addr) (k po : Int) : Value := .agg #[.int .u64 (hiK k), .int .u64 (loK k), .pointer (zp p4 p6 (zK k)), .int .u16 po]

theorem eq_ap {w : World} {p4 p6 : Addr} (hE : Env w p4 p6) (k k' po po' : Int) (h0 : 0 ≤ k) (h1 : k ≤ 6) (h0' : 0 ≤ k') (h1' : k' ≤ 6) (d : Nat) :
    (Op.equalIn (d + 10) 65 (.agg #[.int .u64 (hiK k), .int .u64 (loK k), .pointer (zp p4 p6 (zK k)), .int .u16 po]) (.agg #[.int .u64 (hiK k'), .int .u64 (loK k'), .pointer (zp p4 p6 (zK k')), .int .u16 po'])).run Ybad.prog w = .ok (k == k' && po == po') w := by
  have q := fun d => eq_rule (C := fun w' => Env w' p4 p6) (fun _ h => h) (zK k) (zK k') (zK_le k) (zK_le k') d w hE
  by_cases hh : hiK k = hiK k'
  · by_cases hl : loK k = loK k'
    · by_cases hz : zK k = zK k'
      · obtain rfl := k_inj k k' h0 h1 h0' h1' hl hz
        by_cases hp : po = po'
        · subst hp
          simp [go_sem, q]
        · simp [go_sem, q, hp]
      · have hne : k ≠ k' := fun h => hz (by rw [h])
        simp [go_sem, q, hh, hl, hz, hne]
    · have hne : k ≠ k' := fun h => hl (by rw [h])
      simp [go_sem, hh, hl, hne]
  · have hne : k ≠ k' := fun h => hh (by rw [h])
    simp [go_sem, hh, hne]

/-- A POINTED-AT BLOCK THAT OPENS WITH THE ELEMENT OF A DRAWN ENDPOINT. -/
def ElAt (w : World) (p4 p6 : Addr) (g o : Nat) (e : Ep) : Prop :=
  w.cell? ⟨g, o, none⟩ = some (.int .u64 (hiK (e.a % 7))) ∧ w.cell? ⟨g, o + 1, none⟩ = some (.int .u64 (loK (e.a % 7))) ∧ w.cell? ⟨g, o + 2, none⟩ = some (.pointer (zp p4 p6 (zK (e.a % 7)))) ∧ w.cell? ⟨g, o + 3, none⟩ = some (.int .u16 (e.p % 4)) ∧ w.cell? ⟨g, o + 4, none⟩ = some (.int .u8 e.s) ∧ w.cell? ⟨g, o + 5, none⟩ = some (.int .u8 e.d)
theorem ElAt.lt {w : World} {p4 p6 : Addr} {g o : Nat} {e : Ep} (h : ElAt w p4 p6 g o e) : g < w.heap.size := World.block_lt_of_cell? w _ h.1
theorem ElAt.below {w w' : World} {p4 p6 : Addr} {g o B : Nat} {e : Ep} (h : ElAt w p4 p6 g o e) (hb : Below B w w') (hB : g < B) : ElAt w' p4 p6 g o e :=
  ⟨(hb.cell hB).trans h.1, (hb.cell hB).trans h.2.1, (hb.cell hB).trans h.2.2.1, (hb.cell hB).trans h.2.2.2.1, (hb.cell hB).trans h.2.2.2.2.1, (hb.cell hB).trans h.2.2.2.2.2⟩
/-- A SLICE OF POINTERS TO SUCH BLOCKS. -/
def PtrsAt (w : World) (p4 p6 : Addr) (a : Option Addr) (es : List Ep) : Prop :=
  (∀ e ∈ es, e.ok) ∧ (0 < es.length → ∃ b o, a = some ⟨b, o, none⟩ ∧ b < w.heap.size ∧ ∀ i e, es[i]? = some e → ∃ q, w.cell? ⟨b, o + i, none⟩ = some (.pointer (some ⟨q, 0, none⟩)) ∧ ElAt w p4 p6 q 0 e)
theorem PtrsAt.below {w w' : World} {p4 p6 : Addr} {a : Option Addr} {es : List Ep} (h : PtrsAt w p4 p6 a es) (hb : Below w.heap.size w w') : PtrsAt w' p4 p6 a es := by
  refine ⟨h.1, fun h0 => ?_⟩
  obtain ⟨b, o, e, hlt, hc⟩ := h.2 h0
  exact ⟨b, o, e, Nat.lt_of_lt_of_le hlt hb.size, fun i x hx => by
    obtain ⟨q, c0, hq⟩ := hc i x hx
    exact ⟨q, (hb.cell hlt).trans c0, hq.below hb hq.lt⟩⟩

set_option maxRecDepth 100000 in
set_option maxHeartbeats 1000000 in
theorem isLocal1_calls (k po : Int) (h0 : 0 ≤ k) (h1 : k ≤ 6) (p4 p6 : Addr) (g q : Nat) (e : Ep) (w : World) (hE : Env w p4 p6) (hA : ApAt w p4 p6 g k po) (hQ : ElAt w p4 p6 q 0 e) :
    Calls Ybad.prog 44 #[.pointer (some ⟨q, 0, none⟩), .pointer (some ⟨g, 0, none⟩)] w fun e' w' => e' = .returned (.bool (e.a % 7 == k && e.p % 4 == po)) ∧ Below w.heap.size w w' := by
  have hq := hQ.lt
  obtain ⟨a0, a1, a2, a3, a4, a5⟩ := hQ
  obtain ⟨hg, b0, b1, b2, b3⟩ := hA
  simp only [Nat.zero_add] at a1 a2 a3 a4 a5
  have c0 : ∀ w', Below w.heap.size w w' → w'.cell? ⟨q, 0, none⟩ = some (.int .u64 (hiK (e.a % 7))) := fun w' h => (h.cell hq).trans a0
  have c1 : ∀ w', Below w.heap.size w w' → w'.cell? ⟨q, 1, none⟩ = some (.int .u64 (loK (e.a % 7))) := fun w' h => (h.cell hq).trans a1
  have c2 : ∀ w', Below w.heap.size w w' → w'.cell? ⟨q, 2, none⟩ = some (.pointer (zp p4 p6 (zK (e.a % 7)))) := fun w' h => (h.cell hq).trans a2
  have c3 : ∀ w', Below w.heap.size w w' → w'.cell? ⟨q, 3, none⟩ = some (.int .u16 (e.p % 4)) := fun w' h => (h.cell hq).trans a3
  have d0 : ∀ w', Below w.heap.size w w' → w'.cell? ⟨g, 0, none⟩ = some (.int .u64 (hiK k)) := fun w' h => (h.cell hg).trans b0
  have d1 : ∀ w', Below w.heap.size w w' → w'.cell? ⟨g, 1, none⟩ = some (.int .u64 (loK k)) := fun w' h => (h.cell hg).trans b1
  have d2 : ∀ w', Below w.heap.size w w' → w'.cell? ⟨g, 2, none⟩ = some (.pointer (zp p4 p6 (zK k))) := fun w' h => (h.cell hg).trans b2
  have d3 : ∀ w', Below w.heap.size w w' → w'.cell? ⟨g, 3, none⟩ = some (.int .u16 po) := fun w' h => (h.cell hg).trans b3
  have hb0 : Below w.heap.size w w := Below.refl _ _
  have hpt := eq_rule (C := fun w' => Below w.heap.size w w') (fun w' h => hE.below h (Nat.le_refl _)) (zK (e.a % 7)) (zK k) (zK_le _) (zK_le _)
  have ha0 : 0 ≤ e.a % 7 := by omega
  have ha1 : e.a % 7 ≤ 6 := by omega
  generalize e.a % 7 = x at *
  generalize e.p % 4 = y at *
  clear a0 a1 a2 a3 a4 a5 b0 b1 b2 b3 hE
  by_cases hh : hiK x = hiK k
  · by_cases hl : loK x = loK k
    · by_cases hz : zK x = zK k
      · obtain rfl := k_inj x k ha0 ha1 h0 h1 hl hz
        have hzb : (zK x == zK x) = true := by simp
        by_cases hp : y = po
        · subst hp
          go_enter Ybad.func44, Ybad.ntmps44
          go_wp2
          go_region_held3 (fun w' => Below w.heap.size w w') (first | with_reducible assumption | with_reducible exact Below.drew hb0) (fail)
          rename_i hH
          go_wp2
          go_ret
          refine ⟨ret_bool ?_, hH⟩
          simp
        · have hpb : (y == po) = false := by simpa using hp
          clear hp
          go_enter Ybad.func44, Ybad.ntmps44
          go_wp2
          go_region_held3 (fun w' => Below w.heap.size w w') (first | with_reducible assumption | with_reducible exact Below.drew hb0) (fail)
          rename_i hH
          go_wp2
          go_ret
          refine ⟨ret_bool ?_, hH⟩
          simp [hpb]
      · have hne : (x == k) = false := by simpa using fun h : x = k => hz (by rw [h])
        have hhb : (hiK x == hiK k) = true := by simpa using hh
        have hlb : (loK x == loK k) = true := by simpa using hl
        have hzb : (zK x == zK k) = false := by simpa using hz
        clear hh hl hz
        go_enter Ybad.func44, Ybad.ntmps44
        go_wp2
        go_region_held3 (fun w' => Below w.heap.size w w') (first | with_reducible assumption | with_reducible exact Below.drew hb0) (fail)
        rename_i hH
        go_wp2
        go_ret
        refine ⟨ret_bool ?_, hH⟩
        simp [hne]
    · have hne : (x == k) = false := by simpa using fun h : x = k => hl (by rw [h])
      have hhb : (hiK x == hiK k) = true := by simpa using hh
      have hlb : (loK x == loK k) = false := by simpa using hl
      clear hh hl
      go_enter Ybad.func44, Ybad.ntmps44
      go_wp2
      go_region_held3 (fun w' => Below w.heap.size w w') (first | with_reducible assumption | with_reducible exact Below.drew hb0) (fail)
      rename_i hH
      go_wp2
      go_ret
      refine ⟨ret_bool ?_, hH⟩
      simp [hne]
  · have hne : (x == k) = false := by simpa using fun h : x = k => hh (by rw [h])
    have hhb : (hiK x == hiK k) = false := by simpa using hh
    clear hh
    go_enter Ybad.func44, Ybad.ntmps44
    go_wp2
    go_region_held3 (fun w' => Below w.heap.size w w') (first | with_reducible assumption | with_reducible exact Below.drew hb0) (fail)
    rename_i hH
    go_wp2
    go_ret
    refine ⟨ret_bool ?_, hH⟩
    simp [hne]

set_option maxHeartbeats 1000000 in
theorem indexL_calls (k po : Int) (h0 : 0 ≤ k) (h1 : k ≤ 6) (p4 p6 : Addr) (g : Nat) (w : World) (hE : Env w p4 p6) (hA : ApAt w p4 p6 g k po) (ao : Option Addr) (n c : Nat) (es : List Ep) (hl : es.length = n) (hn : n ≤ 4096) (hes : PtrsAt w p4 p6 ao es) :
    Calls Ybad.prog 59 #[.slice ao n c, .func (.func 44) #[] #[.pointer (some ⟨g, 0, none⟩)]] w fun e w' => (∃ i : Int, e = .returned (.int .i64 i) ∧ decide (i ≥ 0) = (es.any fun e => e.a % 7 == k && e.p % 4 == po)) ∧ Below w.heap.size w w' := by
  have HE := hide hE
  have HA := hide hA
  have HZ := hide hes
  have HL := hide hl
  clear hE hA hes hl
  go_enter Ybad.func59, Ybad.ntmps59
  go_wp2
  go_loopw [8] (fun i wr => ∃ j : Nat, j ≤ n ∧ i = .int .i64 j ∧ Below w.heap.size w wr ∧ ((es.take j).any fun e => e.a % 7 == k && e.p % 4 == po) = false) (fun i _ => n - (intOf i).toNat)
  case atStart => exact ⟨0, Nat.zero_le _, rfl, Below.refl _ _, rfl⟩
  case round =>
    obtain ⟨j, hj, rfl, hbr, hno⟩ := hrel
    have HN := hide hno
    clear hno
    by_cases hlt : j < n
    · obtain ⟨x, hx⟩ : ∃ x, es[j]? = some x := ⟨_, List.getElem?_eq_getElem (by have := HL.out; omega)⟩
      obtain ⟨b, o, rfl, hb, hc⟩ := HZ.out.2 (by have := HL.out; omega)
      obtain ⟨q, q0, hq⟩ := hc j x hx
      have k0 := (hbr.cell hb).trans q0
      have HX := hide hx
      have hEr := hide (HE.out.below hbr (Nat.le_refl _))
      have hAr := hide (HA.out.below hbr)
      have hcl := isLocal1_calls k po h0 h1 p4 p6 g q x wr hEr.out hAr.out (hq.below hbr hq.lt)
      have HC := hide hcl
      clear hcl q0 hc hx hq
      go_wp2_with fail
      refine HC.out.mono ?_
      rintro e w1 ⟨rfl, hb1⟩
      have hbb := hbr.trans (hb1.mono hbr.size)
      cases hs : (x.a % 7 == k && x.p % 4 == po) with
      | true =>
        go_wp2
        go_ret
        exact ⟨⟨_, rfl, by rw [List.any_eq_true.2 ⟨x, List.mem_of_getElem? HX.out, hs⟩]; simp⟩, hbb⟩
      | false =>
        go_wp2
        go_roundw
        case rel =>
          refine ⟨j + 1, by omega, by go_num, hbb, ?_⟩
          obtain ⟨hkl, hkx⟩ := List.getElem?_eq_some_iff.1 HX.out
          rw [List.take_succ_eq_append_getElem hkl, List.any_append, HN.out, hkx]
          simp only [List.any_cons, List.any_nil, hs, Bool.or_false]
        case measure => simp [intOf]; omega
    · obtain rfl : j = n := by omega
      go_wp2
      go_ret
      have hno := HN.out
      rw [List.take_of_length_le (by have := HL.out; omega)] at hno
      exact ⟨⟨_, rfl, by rw [hno]; rfl⟩, hbr⟩

theorem containsL_calls (k po : Int) (h0 : 0 ≤ k) (h1 : k ≤ 6) (p4 p6 : Addr) (g : Nat) (w : World) (hE : Env w p4 p6) (hA : ApAt w p4 p6 g k po) (ao : Option Addr) (n c : Nat) (es : List Ep) (hl : es.length = n) (hn : n ≤ 4096) (hes : PtrsAt w p4 p6 ao es) :
    Calls Ybad.prog 43 #[.slice ao n c, .func (.func 44) #[] #[.pointer (some ⟨g, 0, none⟩)]] w fun e w' => e = .returned (.bool (es.any fun e => e.a % 7 == k && e.p % 4 == po)) ∧ Below w.heap.size w w' := by
  go_enter Ybad.func43, Ybad.ntmps43
  go_wp2_with fail
  refine (indexL_calls k po h0 h1 p4 p6 g w hE hA ao n c es hl hn hes).mono ?_
  rintro e w1 ⟨⟨i, rfl, hi⟩, hb1⟩
  clear hE hA hes hl
  have HI := hide hi
  clear hi
  go_wp2
  go_ret
  exact ⟨ret_bool HI.out, hb1⟩

set_option maxHeartbeats 1000000 in
theorem isLocal_calls (k po : Int) (h0 : 0 ≤ k) (h1 : k ≤ 6) (p4 p6 : Addr) (s : Nat) (w : World) (hE : Env w p4 p6) (ao : Option Addr) (n c : Nat) (es : List Ep) (hl : es.length = n) (hn : n ≤ 4096) (hes : PtrsAt w p4 p6 ao es) (hs : w.cell? ⟨s, 0, none⟩ = some (.slice ao n c)) :
    Calls Ybad.prog 30 #[.pointer (some ⟨s, 0, none⟩), .agg #[.int .u64 (hiK k), .int .u64 (loK k), .pointer (zp p4 p6 (zK k)), .int .u16 po]] w fun e w' => e = .returned (.bool (es.any fun e => e.a % 7 == k && e.p % 4 == po)) ∧ Below w.heap.size w w' := by
  have hB := Boxes.one w 65 [.int .u64 (hiK k), .int .u64 (loK k), .pointer (zp p4 p6 (zK k)), .int .u16 po]
  have hs1 : (w.alloc (.cells #[.int .u64 (hiK k), .int .u64 (loK k), .pointer (zp p4 p6 (zK k)), .int .u16 po] 65)).cell? ⟨s, 0, none⟩ = some (.slice ao n c) := (hB.1.cell (World.block_lt_of_cell? w _ hs)).trans hs
  have HE := hide (hE.boxes _ hB)
  have HZ := hide (hes.below hB.1)
  have HA : Hid (ApAt (w.alloc (.cells #[.int .u64 (hiK k), .int .u64 (loK k), .pointer (zp p4 p6 (zK k)), .int .u16 po] 65)) p4 p6 w.heap.size k po) := hide ⟨by simp, (hB.res (i := 0) rfl).1 0 _ rfl, (hB.res (i := 0) rfl).1 1 _ rfl, (hB.res (i := 0) rfl).1 2 _ rfl, (hB.res (i := 0) rfl).1 3 _ rfl⟩
  have HL := hide hl
  clear hE hes hs hl
  have hbb := hB.1
  go_enter Ybad.func30, Ybad.ntmps30
  go_wp2_with fail
  refine (containsL_calls k po h0 h1 p4 p6 w.heap.size _ HE.out HA.out ao n c es HL.out hn HZ.out).mono ?_
  rintro e w1 ⟨rfl, hb1⟩
  have hbb1 := hbb.trans (hb1.mono hbb.size)
  clear hB hb1 hbb
  go_wp2
  go_ret
  exact ⟨rfl, hbb1⟩
end Go.Proofs.YbulkdxjmDoor

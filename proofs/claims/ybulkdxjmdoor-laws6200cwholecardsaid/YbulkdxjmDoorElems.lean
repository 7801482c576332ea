/-
  'nse.elements' (20) AND 'elementsOf' (46): the elements of pointed-at endpoints, in a new slice.
-/
import Derived.Test.YbulkdxjmDoorRefuse
namespace Go.Proofs.YbulkdxjmDoor
open Go.RowKit
set_option linter.unusedVariables false

/-- The six cells of an element. -/
def elCells (p4 p6 : Addr) (e : Ep) : List Value := [.int .u64 (hiK (e.a % 7)), .int .u64 (loK (e.a % 7)), .pointer (zp p4 p6 (zK (e.a % 7))), .int .u16 (e.p % 4), .int .u8 e.s, .int .u8 e.d]
/-- The first j elements lie in the cells. -/
def Fill (p4 p6 : Addr) (cs : List Value) (es : List Ep) (j : Nat) : Prop := ∀ i e, i < j → es[i]? = some e → ∀ t v, (elCells p4 p6 e)[t]? = some v → cs[i * 6 + t]? = some v
def set6 (cs : List Value) (o : Nat) (a b c d e f : Value) : List Value := (((((cs.set o a).set (o + 1) b).set (o + 2) c).set (o + 3) d).set (o + 4) e).set (o + 5) f
theorem set6_length (cs : List Value) (o : Nat) (a b c d e f : Value) : (set6 cs o a b c d e f).length = cs.length := by simp [set6]
theorem set6_other (cs : List Value) (o : Nat) (a b c d e f : Value) (i : Nat) (h : i < o ∨ o + 6 ≤ i) : (set6 cs o a b c d e f)[i]? = cs[i]? := by
  unfold set6
  rw [List.getElem?_set_ne (by omega), List.getElem?_set_ne (by omega), List.getElem?_set_ne (by omega), List.getElem?_set_ne (by omega), List.getElem?_set_ne (by omega), List.getElem?_set_ne (by omega)]
theorem set6_at (cs : List Value) (o : Nat) (a b c d e f : Value) (h : o + 6 ≤ cs.length) (t : Nat) (v : Value) (ht : [a, b, c, d, e, f][t]? = some v) : (set6 cs o a b c d e f)[o + t]? = some v := by
  have hl : t < 6 := (List.getElem?_eq_some_iff.1 ht).1
  unfold set6
  match t, hl with
  | 0, _ => obtain rfl : a = v := by simpa using ht
            simp [List.getElem?_set]; omega
  | 1, _ => obtain rfl : b = v := by simpa using ht
            simp [List.getElem?_set]; omega
  | 2, _ => obtain rfl : c = v := by simpa using ht
            simp [List.getElem?_set]; omega
  | 3, _ => obtain rfl : d = v := by simpa using ht
            simp [List.getElem?_set]; omega
  | 4, _ => obtain rfl : e = v := by simpa using ht
            simp [List.getElem?_set]; omega
  | 5, _ => obtain rfl : f = v := by simpa using ht
            simp [List.getElem?_set]; omega
theorem Fill.step {p4 p6 : Addr} {cs : List Value} {es : List Ep} {j : Nat} {x : Ep} (h : Fill p4 p6 cs es j) (hx : es[j]? = some x) (hl : j * 6 + 6 ≤ cs.length) :
    Fill p4 p6 (set6 cs (j * 6) (.int .u64 (hiK (x.a % 7))) (.int .u64 (loK (x.a % 7))) (.pointer (zp p4 p6 (zK (x.a % 7)))) (.int .u16 (x.p % 4)) (.int .u8 x.s) (.int .u8 x.d)) es (j + 1) := by
  intro i e hi he t v hv
  have ht : t < 6 := (List.getElem?_eq_some_iff.1 hv).1
  by_cases hij : i = j
  · subst hij
    obtain rfl : x = e := by simpa [hx] using he
    exact set6_at _ _ _ _ _ _ _ _ hl t v hv
  · rw [set6_other _ _ _ _ _ _ _ _ _ (by omega)]
    exact h i e (by omega) he t v hv
/-- A row that is filled is a slice of elements. -/
theorem ElemsAt.of_fill {w : World} {p4 p6 : Addr} {g n : Nat} {cs : List Value} {es : List Ep} (hr : RowAt w g 67 cs) (hf : Fill p4 p6 cs es n) (hl : es.length = n) (hok : ∀ e ∈ es, e.ok) : ElemsAt w p4 p6 (some ⟨g, 0, none⟩) es := by
  refine ⟨hok, fun _ => ⟨g, 0, rfl, hr.lt, fun i e he => ?_⟩⟩
  have hi : i < n := by have := (List.getElem?_eq_some_iff.1 he).1; omega
  have h := hf i e hi he
  rw [Nat.zero_add]
  exact ⟨hr.cell (h 0 _ rfl), hr.cell (h 1 _ rfl), hr.cell (h 2 _ rfl), hr.cell (h 3 _ rfl), hr.cell (h 4 _ rfl), hr.cell (h 5 _ rfl)⟩
theorem RowAt.get {w : World} {g : Nat} {t : TypeId} {cs : List Value} (h : RowAt w g t cs) {j : Nat} (hj : j < cs.length) : ∃ v, w.cell? ⟨g, j, none⟩ = some v := ⟨_, h.cell (List.getElem?_eq_getElem hj)⟩

theorem Ybad.info67 : (Ybad.prog.info? 67).map (fun i => (i.size, i.bytes, i.zero.isSome)) = some (6, 40, true) := by kernel_rfl
/-- 'make([]pdu.Element, n)'. -/
theorem makeElems (n : Nat) (hn : n ≤ 4096) : ∃ cs : List Value, cs.length = n * 6 ∧ ∀ w : World, (Instr.makeSlice 89 (.int .i64 n) (.int .i64 n)).run Ybad.prog w = .ok (.slice (some ⟨w.heap.size, 0, none⟩) n n) (w.alloc (.cells cs.toArray 67)) := by
  obtain ⟨i, hi, hs⟩ := Option.map_eq_some_iff.1 Ybad.info67
  simp only [Prod.mk.injEq] at hs
  obtain ⟨h1, h2, h3⟩ := hs
  obtain ⟨z, hz⟩ := Option.isSome_iff_exists.1 h3
  refine ⟨(madeCells z.cells (n * 6)).toList, by rw [Array.length_toList, size_madeCells], fun w => ?_⟩
  have := run_make (P := Ybad.prog) w 89 67 i z Ybad.underlying89 hi hz .i64 .i64 n n (by omega) (by omega) (by rw [h2]; omega) (by omega)
  rw [h1] at this
  simpa using this

set_option maxRecDepth 100000 in
set_option maxHeartbeats 1000000 in
theorem elementsOf_calls (p4 p6 : Addr) (w : World) (ao : Option Addr) (n c : Nat) (es : List Ep) (hl : es.length = n) (hn : n ≤ 4096) (hes : PtrsAt w p4 p6 ao es) :
    Calls Ybad.prog 46 #[.slice ao n c] w fun e w' => (∃ g, e = .returned (.slice (some ⟨g, 0, none⟩) n n) ∧ ElemsAt w' p4 p6 (some ⟨g, 0, none⟩) es) ∧ Below w.heap.size w w' := by
  have HZ := hide hes
  have HL := hide hl
  clear hes hl
  obtain ⟨cs0, hcl, hmk⟩ := makeElems n hn
  have hR0 := hide (RowAt.new w 67 cs0)
  have hb0 : Below w.heap.size w (w.alloc (.cells cs0.toArray 67)) := (Below.refl _ _).alloc (Nat.le_refl _) _
  have HCL := hide hcl
  clear hcl
  go_enter Ybad.func46, Ybad.ntmps46
  go_wp2
  generalize w.alloc (.cells cs0.toArray 67) = W at *
  go_loopw [11] (fun i wr => ∃ j : Nat, j ≤ n ∧ i = .int .i64 j ∧ Below w.heap.size w wr ∧ ∃ cs, RowAt wr w.heap.size 67 cs ∧ cs.length = n * 6 ∧ Fill p4 p6 cs es j) (fun i _ => n - (intOf i).toNat)
  case atStart => exact ⟨0, Nat.zero_le _, rfl, hb0, cs0, hR0.out, HCL.out, fun i e h => absurd h (Nat.not_lt_zero _)⟩
  case round =>
    obtain ⟨j, hj, rfl, hbr, cs, hR, hcl, hF⟩ := hrel
    have HF := hide hF
    have HR := hide hR
    have HC := hide hcl
    clear hb0 hR0 HCL hF hcl
    by_cases hlt : j < n
    · obtain ⟨x, hx⟩ : ∃ x, es[j]? = some x := ⟨_, List.getElem?_eq_getElem (by have := HL.out; omega)⟩
      obtain ⟨b, o, rfl, hb, hc⟩ := HZ.out.2 (by have := HL.out; omega)
      obtain ⟨q, q0, hq⟩ := hc j x hx
      have k0 := (hbr.cell hb).trans q0
      obtain ⟨a0, a1, a2, a3, a4, a5⟩ := hq.below hbr hq.lt
      simp only [Nat.zero_add] at a1 a2 a3 a4 a5
      have hqlt : q < w.heap.size := hq.lt
      have hqne : ¬ q = w.heap.size := by omega
      have HX := hide hx
      obtain ⟨u0, v0⟩ := hR.get (j := j * 6) (by have := HC.out; omega)
      obtain ⟨u1, v1⟩ := hR.get (j := j * 6 + 1) (by have := HC.out; omega)
      obtain ⟨u2, v2⟩ := hR.get (j := j * 6 + 2) (by have := HC.out; omega)
      obtain ⟨u3, v3⟩ := hR.get (j := j * 6 + 3) (by have := HC.out; omega)
      obtain ⟨u4', v4⟩ := hR.get (j := j * 6 + 4) (by have := HC.out; omega)
      obtain ⟨u5', v5⟩ := hR.get (j := j * 6 + 5) (by have := HC.out; omega)
      have hfz := hR.frozen
      clear hc hq q0 hx hR
      go_wp2
      go_roundw
      case rel =>
        refine ⟨j + 1, by omega, by go_num, ?_, _, ((((((HR.out.set _ _).set _ _).set _ _).set _ _).set _ _).set _ _), ?_, HF.out.step HX.out (by have := HC.out; omega)⟩
        · go_grown
        · rw [← HC.out]; exact set6_length _ _ _ _ _ _ _ _
      case measure => simp [intOf]; omega
    · obtain rfl : j = n := by omega
      go_wp2
      go_ret
      exact ⟨⟨_, rfl, ElemsAt.of_fill HR.out HF.out HL.out HZ.out.1⟩, hbr⟩

set_option maxRecDepth 100000 in
set_option maxHeartbeats 1000000 in
theorem nseElements_calls (p4 p6 : Addr) (w : World) (ao : Option Addr) (n c : Nat) (es : List Ep) (hl : es.length = n) (hn : n ≤ 4096) (hes : PtrsAt w p4 p6 ao es) (s : Nat) (hs : w.cell? ⟨s, 8, none⟩ = some (.slice ao n c)) :
    Calls Ybad.prog 20 #[.pointer (some ⟨s, 0, none⟩)] w fun e w' => (∃ g, e = .returned (.slice (some ⟨g, 0, none⟩) n n) ∧ ElemsAt w' p4 p6 (some ⟨g, 0, none⟩) es) ∧ Below w.heap.size w w' := by
  have HZ := hide hes
  have HL := hide hl
  clear hes hl
  obtain ⟨cs0, hcl, hmk⟩ := makeElems n hn
  have hR0 := hide (RowAt.new w 67 cs0)
  have hb0 : Below w.heap.size w (w.alloc (.cells cs0.toArray 67)) := (Below.refl _ _).alloc (Nat.le_refl _) _
  have hs1 : (w.alloc (.cells cs0.toArray 67)).cell? ⟨s, 8, none⟩ = some (.slice ao n c) := (hb0.cell (World.block_lt_of_cell? w _ hs)).trans hs
  have HCL := hide hcl
  clear hcl
  go_enter Ybad.func20, Ybad.ntmps20
  go_wp2
  generalize w.alloc (.cells cs0.toArray 67) = W at *
  go_loopw [17] (fun i wr => ∃ j : Nat, j ≤ n ∧ i = .int .i64 j ∧ Below w.heap.size w wr ∧ ∃ cs, RowAt wr w.heap.size 67 cs ∧ cs.length = n * 6 ∧ Fill p4 p6 cs es j) (fun i _ => n - (intOf i).toNat)
  case atStart => exact ⟨0, Nat.zero_le _, rfl, hb0, cs0, hR0.out, HCL.out, fun i e h => absurd h (Nat.not_lt_zero _)⟩
  case round =>
    obtain ⟨j, hj, rfl, hbr, cs, hR, hcl, hF⟩ := hrel
    have HF := hide hF
    have HR := hide hR
    have HC := hide hcl
    clear hb0 hR0 HCL hF hcl
    by_cases hlt : j < n
    · obtain ⟨x, hx⟩ : ∃ x, es[j]? = some x := ⟨_, List.getElem?_eq_getElem (by have := HL.out; omega)⟩
      obtain ⟨b, o, rfl, hb, hc⟩ := HZ.out.2 (by have := HL.out; omega)
      obtain ⟨q, q0, hq⟩ := hc j x hx
      have k0 := (hbr.cell hb).trans q0
      obtain ⟨a0, a1, a2, a3, a4, a5⟩ := hq.below hbr hq.lt
      simp only [Nat.zero_add] at a1 a2 a3 a4 a5
      have hqlt : q < w.heap.size := hq.lt
      have hqne : ¬ q = w.heap.size := by omega
      have HX := hide hx
      obtain ⟨u0, v0⟩ := hR.get (j := j * 6) (by have := HC.out; omega)
      obtain ⟨u1, v1⟩ := hR.get (j := j * 6 + 1) (by have := HC.out; omega)
      obtain ⟨u2, v2⟩ := hR.get (j := j * 6 + 2) (by have := HC.out; omega)
      obtain ⟨u3, v3⟩ := hR.get (j := j * 6 + 3) (by have := HC.out; omega)
      obtain ⟨u4', v4⟩ := hR.get (j := j * 6 + 4) (by have := HC.out; omega)
      obtain ⟨u5', v5⟩ := hR.get (j := j * 6 + 5) (by have := HC.out; omega)
      have hfz := hR.frozen
      clear hc hq q0 hx hR
      go_wp2
      go_roundw
      case rel =>
        refine ⟨j + 1, by omega, by go_num, ?_, _, ((((((HR.out.set _ _).set _ _).set _ _).set _ _).set _ _).set _ _), ?_, HF.out.step HX.out (by have := HC.out; omega)⟩
        · go_grown
        · rw [← HC.out]; exact set6_length _ _ _ _ _ _ _ _
      case measure => simp [intOf]; omega
    · obtain rfl : j = n := by omega
      go_wp2
      go_ret
      exact ⟨⟨_, rfl, ElemsAt.of_fill HR.out HF.out HL.out HZ.out.1⟩, hbr⟩

end Go.Proofs.YbulkdxjmDoor

/-
  'slices.Grow' (31) FROM nil, 'slices.Concat' (19) OF TWO SLICES OF ELEMENTS.
-/
import Derived.Test.YbulkdxjmDoorCounts
import Derived.Deep.AppendLies
import Derived.Lib.AppendZeros
namespace Go.Proofs.YbulkdxjmDoor
open Go.RowKit
set_option linter.unusedVariables false
set_option linter.unusedSimpArgs false

theorem Ybad.info67b : (Ybad.prog.info? 67).map (fun i => (i.size, i.bytes, (i.zero.map (fun z => z.cells.size)))) = some (6, 40, some 6) := by kernel_rfl
theorem info67_parts : ∃ i z, Ybad.prog.info? 67 = some i ∧ i.zero = some z ∧ i.size = 6 ∧ i.bytes = 40 ∧ z.cells.size = 6 := by
  obtain ⟨i, hi, hs⟩ := Option.map_eq_some_iff.1 Ybad.info67b
  simp only [Prod.mk.injEq] at hs
  obtain ⟨h1, h2, h3⟩ := hs
  obtain ⟨z, hz, h4⟩ := Option.map_eq_some_iff.1 h3
  exact ⟨i, z, hi, hz, h1, h2, h4⟩

/-- The cells of a row of elements. -/
def flatEls (p4 p6 : Addr) (es : List Ep) : List Value := es.flatMap (elCells p4 p6)
theorem flatEls_length (p4 p6 : Addr) (es : List Ep) : (flatEls p4 p6 es).length = es.length * 6 := by
  induction es with
  | nil => rfl
  | cons e es ih =>
    show (elCells p4 p6 e ++ flatEls p4 p6 es).length = _
    rw [List.length_append, ih, List.length_cons]
    show 6 + _ = _
    omega
theorem flatEls_append (p4 p6 : Addr) (es fs : List Ep) : flatEls p4 p6 (es ++ fs) = flatEls p4 p6 es ++ flatEls p4 p6 fs := by simp [flatEls]
theorem flatEls_get (p4 p6 : Addr) : ∀ (es : List Ep) (i : Nat) (e : Ep) (t : Nat), es[i]? = some e → t < 6 → (flatEls p4 p6 es)[i * 6 + t]? = (elCells p4 p6 e)[t]?
  | [], i, e, t, h, _ => by simp at h
  | x :: es, 0, e, t, h, ht => by
    obtain rfl : x = e := by simpa using h
    simp only [flatEls, List.flatMap_cons, Nat.zero_mul, Nat.zero_add]
    rw [List.getElem?_append_left (by simpa [elCells] using ht)]
  | x :: es, i + 1, e, t, h, ht => by
    have := flatEls_get p4 p6 es i e t (by simpa using h) ht
    simp only [flatEls, List.flatMap_cons] at *
    rw [List.getElem?_append_right (by simp [elCells]; omega), ← this]
    congr 1
    simp [elCells]
    omega
/-- The source's cells, one after another. -/
theorem flatEls_cells {w : World} {p4 p6 : Addr} {b o : Nat} {es : List Ep} (hc : ∀ i e, es[i]? = some e → ElAt w p4 p6 b (o + i * 6) e) : ∀ j u, (flatEls p4 p6 es)[j]? = some u → w.cell? ((⟨b, o, none⟩ : Addr).add j) = some u := by
  intro j u hj
  have hlt := (List.getElem?_eq_some_iff.1 hj).1
  rw [flatEls_length] at hlt
  obtain ⟨e, he⟩ : ∃ e, es[j / 6]? = some e := ⟨_, List.getElem?_eq_getElem (by omega)⟩
  have hm : j % 6 < 6 := Nat.mod_lt _ (by decide)
  have hq := flatEls_get p4 p6 es (j / 6) e (j % 6) he hm
  have hjj : j / 6 * 6 + j % 6 = j := by omega
  rw [hjj, hj] at hq
  obtain ⟨c0, c1, c2, c3, c4, c5⟩ := hc (j / 6) e he
  have ha : (⟨b, o, none⟩ : Addr).add j = ⟨b, o + j / 6 * 6 + j % 6, none⟩ := by rw [Addr.add_lit, Nat.add_assoc, hjj]
  rw [ha]
  generalize j % 6 = t at *
  match t, hm with
  | 0, _ => exact c0.trans hq.symm
  | 1, _ => exact c1.trans hq.symm
  | 2, _ => exact c2.trans hq.symm
  | 3, _ => exact c3.trans hq.symm
  | 4, _ => exact c4.trans hq.symm
  | 5, _ => exact c5.trans hq.symm
theorem flatEls_one {p4 p6 : Addr} {es : List Ep} : ∀ u ∈ flatEls p4 p6 es, u.oneCell' = true := by
  intro u hu
  simp only [flatEls, List.mem_flatMap, elCells, List.mem_cons, List.not_mem_nil, or_false] at hu
  obtain ⟨e, _, rfl | rfl | rfl | rfl | rfl | rfl⟩ := hu <;> rfl
/-- AN OWNED ROW OF ELEMENTS is a slice of elements. -/
theorem ElemsAt.of_owns {w : World} {p4 p6 : Addr} {base n c : Nat} {a : Option Addr} {es : List Ep} (h : w.ownsRow base 67 6 (.slice a n c) n (flatEls p4 p6 es)) (hok : ∀ e ∈ es, e.ok) : ElemsAt w p4 p6 a es := by
  have hl := h.1
  rw [flatEls_length] at hl
  refine ⟨hok, fun h0 => ?_⟩
  obtain ⟨g, cap, hv, hb, hg⟩ := h.form (by omega)
  simp only [Value.slice.injEq] at hv
  obtain ⟨rfl, _, rfl⟩ := hv
  refine ⟨g, 0, rfl, hg, fun i e he => ?_⟩
  have hc := h.cells (g := g) rfl
  have key : ∀ t u, t < 6 → (elCells p4 p6 e)[t]? = some u → w.cell? ⟨g, i * 6 + t, none⟩ = some u := fun t u ht hu => by
    have := hc (i * 6 + t) u (by rw [flatEls_get p4 p6 es i e t he ht]; exact hu)
    rwa [Addr.add_lit, Nat.zero_add] at this
  rw [Nat.zero_add]
  exact ⟨key 0 _ (by decide) rfl, key 1 _ (by decide) rfl, key 2 _ (by decide) rfl, key 3 _ (by decide) rfl, key 4 _ (by decide) rfl, key 5 _ (by decide) rfl⟩

/-- 'append(v, es...)' over elements. -/
theorem append_elems {w : World} {p4 p6 : Addr} {base : Nat} {v : Value} {n : Nat} {es : List Ep} (ty : TypeId) (hown : w.ownsRow base 67 6 v n (flatEls p4 p6 es)) (ao : Option Addr) (m c : Nat) (fs : List Ep) (hl : fs.length = m) (hfs : ElemsAt w p4 p6 ao fs) (hn : n ≤ 4096) (hm : m ≤ 4096) (hbase : base ≤ w.heap.size) :
    ∃ v' w', (Builtin.append_ #[89, 89] ty #[v, .slice ao m c]).run Ybad.prog w = .ok v' w' ∧ w'.ownsRow base 67 6 v' (n + m) (flatEls p4 p6 (es ++ fs)) ∧ Below base w w' := by
  obtain ⟨i, z, hi, hz, h1, h2, h3⟩ := info67_parts
  by_cases h0 : m = 0
  · subst h0
    obtain rfl : fs = [] := List.eq_nil_of_length_eq_zero hl
    refine ⟨v, w, ?_, by simpa using hown, Below.refl _ _⟩
    rcases hown.2 with ⟨rfl, rfl⟩ | ⟨g, cap, cur, rfl, _, _, hcap, _⟩
    · cases ao <;> simp [Builtin.append_, run_underlying Ybad.underlying89, run_underlying Ybad.underlying67, sizeOf, typeInfo, hi, Builtin.lenOf, Builtin.firstCells, loadCells, loadCellsFrom]
    · cases ao <;> simp [Builtin.append_, run_underlying Ybad.underlying89, run_underlying Ybad.underlying67, sizeOf, typeInfo, hi, Builtin.lenOf, Builtin.firstCells, loadCells, loadCellsFrom, hcap, storeCells]
  · obtain ⟨b, o, rfl, hb, hc⟩ := hfs.2 (by omega)
    obtain ⟨g, cap, w', hr, hown', hg, _, _⟩ := run_append_lies (P := Ybad.prog) w 89 ty base 67 i z 6 40 Ybad.underlying89 hi hz h1 h2 h3 (by decide) v n (flatEls p4 p6 es) hown ⟨b, o, none⟩ m c (flatEls p4 p6 fs) (by rw [flatEls_length, hl]) (flatEls_cells hc) flatEls_one (by omega) (by simp [maxLen]; omega) (by omega) hbase _ rfl
    exact ⟨_, w', hr, by rw [flatEls_append]; exact hown', (Below.refl _ _).grown hg hbase (fun k hk => (hown.lt k hk).1)⟩

/-- 'append(nil, make([]pdu.Element, n)...)'. -/
theorem append_zeros (w : World) (n : Nat) (h0 : 0 < n) (hn : n ≤ 8192) (ty : TypeId) :
    ∃ cap w', (Builtin.append_ #[89, 3] ty #[.slice none 0 0, .int .i64 n]).run Ybad.prog w = .ok (.slice (some ⟨w.heap.size, 0, none⟩) n cap) w' ∧ n ≤ cap ∧ w'.ownsRow w.heap.size 67 6 (.slice (some ⟨w.heap.size, 0, none⟩) 0 cap) 0 [] ∧ Below w.heap.size w w' := by
  obtain ⟨i, z, hi, hz, h1, h2, h3⟩ := info67_parts
  refine ⟨_, _, Lib.run_append_nil_zeros (P := Ybad.prog) w 89 3 ty 67 i z .i64 .i64 Ybad.underlying89 Ybad.underlying3 hi hz n h0 (by omega) (by omega) (by rw [h2]; omega), grownCap_ge _ _ _ _, ?_, ?_⟩
  · exact World.ownsRow_made (w := w.drew) _ _ (Nat.le_refl _) (grownCap_le_maxLen _ _ _ _ (by simp [maxLen]; omega)) (by
      rw [Array.size_append, size_zeroCells, size_zeroCells, h3, ← Nat.add_mul, Nat.add_sub_cancel' (grownCap_ge w n 0 67)])
  · exact ((Below.refl _ _).drew).alloc (Nat.le_refl _) _

set_option maxRecDepth 100000 in
set_option maxHeartbeats 1000000 in
theorem grow_calls (w : World) (n : Nat) (hn : n ≤ 8192) :
    Calls Ybad.prog 31 #[.slice none 0 0, .int .i64 n] w fun e w' => (∃ v, e = .returned v ∧ w'.ownsRow w.heap.size 67 6 v 0 []) ∧ Below w.heap.size w w' := by
  by_cases h0 : n = 0
  · subst h0
    go_enter Ybad.func31, Ybad.ntmps31
    go_wp2
    go_ret
    exact ⟨⟨_, rfl, World.ownsRow_nil _ _ _ _⟩, Below.refl _ _⟩
  · obtain ⟨cap, w', hr, hcap, hown, hb⟩ := append_zeros w n (by omega) hn 89
    have hcap' : (n : Int) ≤ (cap : Int) := by omega
    have hn0 : ¬ ((n : Int) < 0) := by omega
    have hnp : (0 : Int) < (n : Int) := by omega
    have hw : IntKind.i64.wrap (n : Int) = n := by rw [IntKind.wrap_i64]; omega
    have HO := hide hown
    have HR := hide hr
    clear hown hr
    go_enter Ybad.func31, Ybad.ntmps31
    go_wp2_with (at_builtin; refine Lib.wpList_append_run _ rfl _ _ _ _ rfl _ _ rfl rfl _ _ HR.out ?_)
    go_ret
    exact ⟨⟨_, rfl, HO.out⟩, hb⟩

def sum2 (n1 n2 : Nat) : Nat → Nat
  | 0 => 0
  | 1 => n1
  | _ => n1 + n2
def els2 (fs gs : List Ep) : Nat → List Ep
  | 0 => []
  | 1 => fs
  | _ => fs ++ gs
theorem owns_slice {w : World} {base n : Nat} {v : Value} {xs : List Value} (h : w.ownsRow base 67 6 v n xs) : ∃ a c, v = .slice a n c := by
  rcases h.2 with ⟨rfl, rfl⟩ | ⟨g, cap, cur, rfl, _⟩
  · exact ⟨_, _, rfl⟩
  · exact ⟨_, _, rfl⟩

set_option maxRecDepth 100000 in
set_option maxHeartbeats 2000000 in
theorem concat_calls (p4 p6 : Addr) (w : World) (q : Nat) (a1 a2 : Option Addr) (n1 c1 n2 c2 : Nat) (fs gs : List Ep) (hl1 : fs.length = n1) (hl2 : gs.length = n2) (hn1 : n1 ≤ 4096) (hn2 : n2 ≤ 4096) (hfs : ElemsAt w p4 p6 a1 fs) (hgs : ElemsAt w p4 p6 a2 gs)
    (hq : q < w.heap.size) (q0 : w.cell? ⟨q, 0, none⟩ = some (.slice a1 n1 c1)) (q1 : w.cell? ⟨q, 1, none⟩ = some (.slice a2 n2 c2)) :
    Calls Ybad.prog 19 #[.slice (some ⟨q, 0, none⟩) 2 2] w fun e w' => (∃ a c, e = .returned (.slice a (n1 + n2 : Nat) c) ∧ ElemsAt w' p4 p6 a (fs ++ gs)) ∧ Below w.heap.size w w' := by
  have HF := hide hfs
  have HG := hide hgs
  have HL1 := hide hl1
  have HL2 := hide hl2
  clear hfs hgs hl1 hl2
  go_enter Ybad.func19, Ybad.ntmps19
  go_wp2
  go_loopw [11, 3] (fun i sv wr => ∃ j : Nat, j ≤ 2 ∧ i = .int .i64 j ∧ sv = .int .i64 (sum2 n1 n2 j : Nat) ∧ wr = w) (fun i _ _ => 2 - (intOf i).toNat)
  case atStart => exact ⟨0, by omega, rfl, rfl, rfl⟩
  case round =>
    obtain ⟨j, hj, rfl, rfl, rfl⟩ := hrel
    have hjc : j = 0 ∨ j = 1 ∨ j = 2 := by omega
    rcases hjc with rfl | rfl | rfl
    · have hw : IntKind.i64.wrap (n1 : Int) = n1 := by rw [IntKind.wrap_i64]; omega
      simp only [sum2]
      go_wp2
      go_roundw
      case rel => exact ⟨1, by omega, rfl, by simp [sum2], by simp⟩
      case measure => simp [intOf]
    · have hw : IntKind.i64.wrap ((n1 : Int) + (n2 : Int)) = (n1 : Int) + (n2 : Int) := by rw [IntKind.wrap_i64]; omega
      simp only [sum2]
      go_wp2
      go_roundw
      case rel => exact ⟨2, by omega, rfl, by simp [sum2], by simp⟩
      case measure => simp [intOf]
    · simp only [sum2]
      obtain ⟨W5, rfl⟩ : ∃ W5, W5 = wr := ⟨_, rfl⟩
      go_wp2_with fail
      have hg := grow_calls W5 (n1 + n2) (by omega)
      rw [Int.natCast_add] at hg
      refine hg.mono ?_
      rintro e w1 ⟨⟨v, rfl, hown⟩, hb1⟩
      have HO := hide hown
      clear hown hg
      go_wp2
      go_loopw [27, 6] (fun i sv wr => ∃ j : Nat, j ≤ 2 ∧ i = .int .i64 j ∧ Below W5.heap.size W5 wr ∧ wr.ownsRow W5.heap.size 67 6 sv (sum2 n1 n2 j) (flatEls p4 p6 (els2 fs gs j))) (fun i _ _ => 2 - (intOf i).toNat)
      case atStart => exact ⟨0, by omega, rfl, hb1, HO.out⟩
      case round =>
        obtain ⟨j, hj, rfl, hbr, hown⟩ := hrel
        clear HO hb1
        have hjc : j = 0 ∨ j = 1 ∨ j = 2 := by omega
        rcases hjc with rfl | rfl | rfl
        · have k0 := (hbr.cell hq).trans q0
          obtain ⟨v', w', hr, hown', hb'⟩ := append_elems 89 hown a1 n1 c1 fs HL1.out (HF.out.below hbr) (by simp [sum2]) hn1 hbr.size
          have HR := hide hr
          have HO := hide hown'
          have hbb := hbr.trans hb'
          clear hown hown' hr hb'
          go_wp2_with (at_builtin; refine Lib.wpList_append_run _ rfl _ _ _ _ rfl _ _ rfl rfl _ _ HR.out ?_)
          go_roundw
          case rel => exact ⟨1, by omega, rfl, hbb, by simpa [sum2, els2] using HO.out⟩
          case measure => simp [intOf]
        · have k1 := (hbr.cell hq).trans q1
          obtain ⟨v', w', hr, hown', hb'⟩ := append_elems 89 hown a2 n2 c2 gs HL2.out (HG.out.below hbr) hn1 hn2 hbr.size
          have HR := hide hr
          have HO := hide hown'
          have hbb := hbr.trans hb'
          clear hown hown' hr hb'
          go_wp2_with (at_builtin; refine Lib.wpList_append_run _ rfl _ _ _ _ rfl _ _ rfl rfl _ _ HR.out ?_)
          go_roundw
          case rel => exact ⟨2, by omega, rfl, hbb, HO.out⟩
          case measure => simp [intOf]
        · have HO := hide hown
          clear hown
          go_wp2
          go_ret
          obtain ⟨a, c, rfl⟩ := owns_slice HO.out
          refine ⟨⟨a, c, rfl, ElemsAt.of_owns HO.out ?_⟩, hbr⟩
          intro e he
          rcases List.mem_append.1 he with h | h
          · exact HF.out.1 e h
          · exact HG.out.1 e h
end Go.Proofs.YbulkdxjmDoor

/-
  MEMORY FOR THIS SEAT's WALKS: a row that the call itself made, known whole ('RowAt'); a row of slots (pairs of numbers, two cells each: 'flat'); 'copy' of a whole row whatever the element's size.
-/
import Derived.WalkKit
import Derived.ProofKit
import Derived.Below
import Derived.Laws.CopyOwn
namespace Go.Proofs.Ybulkdxgu
open Go.RowKit

/-- Block g of the world w is a row of the cells cs, of element type t, not frozen. -/
def RowAt (w : World) (g : Nat) (t : TypeId) (cs : List Value) : Prop := w.heap[g]? = some (.cells cs.toArray t (0, 0))

theorem RowAt.cell {w : World} {g : Nat} {t : TypeId} {cs : List Value} (h : RowAt w g t cs) {j : Nat} {v : Value} (hv : cs[j]? = some v) : w.cell? ⟨g, j, none⟩ = some v := by
  rw [cell_of_row w g j _ t (0, 0) h]
  simpa using hv
theorem RowAt.frozen {w : World} {g : Nat} {t : TypeId} {cs : List Value} (h : RowAt w g t cs) (j : Nat) : w.frozen? ⟨g, j, none⟩ = false := frozen_of_row w g j _ t h
theorem RowAt.lt {w : World} {g : Nat} {t : TypeId} {cs : List Value} (h : RowAt w g t cs) : g < w.heap.size := (Array.getElem?_eq_some_iff.1 h).1
theorem RowAt.set {w : World} {g : Nat} {t : TypeId} {cs : List Value} (h : RowAt w g t cs) (j : Nat) (u : Value) : RowAt (w.setCell ⟨g, j, none⟩ u) g t (cs.set j u) := by
  have := heap_setCell_same w g j _ t u h
  simpa [RowAt] using this
theorem RowAt.set_other {w : World} {g : Nat} {t : TypeId} {cs : List Value} (h : RowAt w g t cs) {a : Addr} (u : Value) (hne : g ≠ a.block) : RowAt (w.setCell a u) g t cs :=
  (heap_setCell_other w a g u hne).trans h
theorem RowAt.alloc {w : World} {g : Nat} {t : TypeId} {cs : List Value} (h : RowAt w g t cs) (o : Obj) : RowAt (w.alloc o) g t cs :=
  (Below.heap_alloc w o g h.lt).trans h
theorem RowAt.new (w : World) (t : TypeId) (cs : List Value) : RowAt (w.alloc (.cells cs.toArray t)) w.heap.size t cs := heap_alloc_new w _
theorem RowAt.of_block {w w' : World} {g : Nat} {t : TypeId} {cs : List Value} (h : RowAt w g t cs) (hb : w'.heap[g]? = w.heap[g]?) : RowAt w' g t cs := hb.trans h
theorem RowAt.below {B : Nat} {w w' : World} {g : Nat} {t : TypeId} {cs : List Value} (h : RowAt w g t cs) (hb : Below B w w') (hg : g < B) : RowAt w' g t cs := (hb.block g hg).trans h

/-- A cell of a made row of numbers. -/
theorem RowAt.new_cells (w : World) (t : TypeId) (cs : Array Value) : RowAt (w.alloc (.cells cs t)) w.heap.size t cs.toList := by
  have := heap_alloc_new w (.cells cs t)
  simpa [RowAt] using this

/-! ### A row of slots -/
def flat : List (Int × Int) → List Value
  | [] => []
  | p :: r => .int .i64 p.1 :: .int .i64 p.2 :: flat r
theorem flat_length (ps : List (Int × Int)) : (flat ps).length = ps.length * 2 := by
  induction ps with
  | nil => rfl
  | cons p r ih => simp [flat, ih]; omega
theorem flat_even (ps : List (Int × Int)) (j : Nat) : (flat ps)[j * 2]? = ps[j]?.map (fun p => .int .i64 p.1) := by
  induction ps generalizing j with
  | nil => simp [flat]
  | cons p r ih => cases j with
    | zero => simp [flat]
    | succ j => rw [show (j + 1) * 2 = j * 2 + 2 by omega]; simpa [flat] using ih j
theorem flat_odd (ps : List (Int × Int)) (j : Nat) : (flat ps)[j * 2 + 1]? = ps[j]?.map (fun p => .int .i64 p.2) := by
  induction ps generalizing j with
  | nil => simp [flat]
  | cons p r ih => cases j with
    | zero => simp [flat]
    | succ j => rw [show (j + 1) * 2 + 1 = j * 2 + 1 + 2 by omega]; simpa [flat] using ih j
theorem flat_set (ps : List (Int × Int)) (j : Nat) (x y : Int) : ((flat ps).set (j * 2) (.int .i64 x)).set (j * 2 + 1) (.int .i64 y) = flat (ps.set j (x, y)) := by
  induction ps generalizing j with
  | nil => simp [flat]
  | cons p r ih => cases j with
    | zero => simp [flat]
    | succ j => rw [show (j + 1) * 2 = j * 2 + 2 by omega]; simpa [flat] using ih j
theorem flat_append (ps qs : List (Int × Int)) : flat (ps ++ qs) = flat ps ++ flat qs := by
  induction ps with
  | nil => rfl
  | cons p r ih => simp [flat, ih]
theorem flat_one (ps : List (Int × Int)) : ∀ v ∈ flat ps, v.oneCell' = true := by
  induction ps with
  | nil => simp [flat]
  | cons p r ih =>
    intro v hv
    simp only [flat, List.mem_cons] at hv
    rcases hv with rfl | rfl | hv
    · rfl
    · rfl
    · exact ih v hv
theorem flat_made (n : Nat) : madeCells (Value.agg #[.int .i64 0, .int .i64 0]).cells (n * 2) = (flat (List.replicate n (0, 0))).toArray := by
  apply Array.ext'
  apply List.ext_getElem?
  intro i
  simp only [madeCells, Value.cells]
  by_cases hi : i < n * 2
  · have e : i = i / 2 * 2 ∨ i = i / 2 * 2 + 1 := by omega
    rcases e with e | e
    · rw [e, flat_even]
      have h2 : i / 2 < n := by omega
      simp [h2, show i / 2 * 2 < n * 2 by omega]
    · rw [e, flat_odd]
      have h2 : i / 2 < n := by omega
      simp [h2, show i / 2 * 2 + 1 < n * 2 by omega]
  · rw [List.getElem?_eq_none (by simp; omega), List.getElem?_eq_none (by simp [flat_length]; omega)]
theorem ints_made (n : Nat) : madeCells (Value.int .i64 0).cells (n * 1) = ((List.replicate n (0 : Int)).map (Value.int .i64)).toArray := by
  apply Array.ext'
  apply List.ext_getElem?
  intro i
  simp only [madeCells, Value.cells]
  by_cases hi : i < n
  · simp [hi, Nat.mod_one]
  · rw [List.getElem?_eq_none (by simp; omega), List.getElem?_eq_none (by simp; omega)]

/-- n zero numbers: a name of its own, so that the walk leaves it standing. -/
def zeros (n : Nat) : List Value := (List.replicate n (0 : Int)).map (Value.int .i64)
theorem zeros_length (n : Nat) : (zeros n).length = n := by simp [zeros]
theorem zeros_made (n : Nat) : madeCells (Value.int .i64 0).cells (n * 1) = (zeros n).toArray := ints_made n
/-- An address at which a cell lies has no spot, and its block is there. -/
theorem addr_of {w : World} {x : Addr} {v : Value} (h : w.cell? (x.add 0) = some v) : ∃ b o, x = ⟨b, o, none⟩ ∧ b < w.heap.size := by
  have hlt := World.block_lt_of_cell? w _ h
  obtain ⟨b, o, spot⟩ := x
  have hs : spot = none := by simpa [Addr.add] using World.cell?_spot h
  subst hs
  rw [Addr.add_lit] at hlt
  exact ⟨b, o, rfl, hlt⟩

theorem RowAt.at {w : World} {g : Nat} {t : TypeId} {ps : List (Int × Int)} (h : RowAt w g t (flat ps)) {j : Nat} (hj : j < ps.length) : w.cell? ⟨g, j * 2, none⟩ = some (.int .i64 (ps.getD j (0, 0)).1) :=
  h.cell (by rw [flat_even]; simp [hj])
theorem RowAt.num {w : World} {g : Nat} {t : TypeId} {ps : List (Int × Int)} (h : RowAt w g t (flat ps)) {j : Nat} (hj : j < ps.length) : w.cell? ⟨g, j * 2 + 1, none⟩ = some (.int .i64 (ps.getD j (0, 0)).2) :=
  h.cell (by rw [flat_odd]; simp [hj])
theorem RowAt.put {w : World} {g : Nat} {t : TypeId} {ps : List (Int × Int)} (h : RowAt w g t (flat ps)) (j : Nat) (x y : Int) :
    RowAt ((w.setCell ⟨g, j * 2, none⟩ (.int .i64 x)).setCell ⟨g, j * 2 + 1, none⟩ (.int .i64 y)) g t (flat (ps.set j (x, y))) := by
  have := (h.set (j * 2) (.int .i64 x)).set (j * 2 + 1) (.int .i64 y)
  rwa [flat_set] at this
theorem RowAt.int {w : World} {g : Nat} {t : TypeId} {xs : List Int} (h : RowAt w g t (xs.map (Value.int .i64))) {j : Nat} (hj : j < xs.length) : w.cell? ⟨g, j, none⟩ = some (.int .i64 (xs.getD j 0)) :=
  h.cell (by simp [hj])
theorem RowAt.putInt {w : World} {g : Nat} {t : TypeId} {xs : List Int} (h : RowAt w g t (xs.map (Value.int .i64))) (j : Nat) (x : Int) :
    RowAt (w.setCell ⟨g, j, none⟩ (.int .i64 x)) g t ((xs.set j x).map (Value.int .i64)) := by
  have := h.set j (.int .i64 x)
  rwa [← List.map_set] at this

/-! ### 'copy' over a whole row -/
theorem run_copy_whole {P : Program} (w : World) (dT sT ty elem : TypeId) (i : TypeInfo) (hu : P.underlying dT = some (.slice elem)) (hi : P.info? elem = some i) (g n dCap : Nat) (ad : Addr) (sCap : Nat) (t : TypeId)
    (dcs cs : List Value) (hrow : RowAt w g t dcs) (hdl : dcs.length = n * i.size) (hcl : cs.length = n * i.size) (hsrc : ∀ j v, cs[j]? = some v → w.cell? (ad.add j) = some v) (h1 : ∀ v ∈ cs, v.oneCell' = true) :
    (Builtin.copy_ #[dT, sT] ty #[.slice (some ⟨g, 0, none⟩) n dCap, .slice (some ad) n sCap]).run P w = .ok (goInt n) (w.setRow g cs.toArray) := by
  have hl := run_loadCells_list (P := P) w ad cs hsrc
  have hst := run_storeCells_at P g 0 t cs 0 dcs.toArray w hrow (by simp; omega) h1
  have e : (dcs.toArray.toList.take (0 + 0) ++ cs ++ dcs.toArray.toList.drop (0 + 0 + cs.length)) = cs := by
    simp only [Nat.add_zero, List.take_zero, List.nil_append, Nat.zero_add]
    have hd : dcs.drop cs.length = [] := List.drop_eq_nil_of_le (by omega)
    rw [hd, List.append_nil]
  rw [e] at hst
  rw [hcl] at hl
  simp [Builtin.copy_, run_underlying hu, Builtin.lenOf, Builtin.firstCells, sizeOf, typeInfo, hi, hl, hst]

theorem wpList_copy_whole {P : Program} {w : World} {ops : Array Oper} {rest : List Oper} {o : Oper} {a : Act} {Q : Exit → Act → World → Prop} (hgd : o.guard = none) (d s : Operand) (dT sT : TypeId)
    (ho : o.op = .call { callee := .builtin .copy, args := #[d, s], argTypes := #[dT, sT] }) (elem : TypeId) (i : TypeInfo) (size : Nat) (hu : P.underlying dT = some (.slice elem)) (hi : P.info? elem = some i) (hsz : i.size = size)
    (g n dCap : Nat) (ad : Addr) (sCap : Nat) (hd : a.eval d = .slice (some ⟨g, 0, none⟩) n dCap) (hs : a.eval s = .slice (some ad) n sCap)
    (t : TypeId) (dcs cs : List Value) (hrow : RowAt w g t dcs) (hdl : dcs.length = n * size) (hcl : cs.length = n * size) (hsrc : ∀ j v, cs[j]? = some v → w.cell? (ad.add j) = some v) (h1 : ∀ v ∈ cs, v.oneCell' = true)
    (h : ∀ w', RowAt w' g t cs → (∀ k, k ≠ g → w'.heap[k]? = w.heap[k]?) → w'.heap.size = w.heap.size → (∀ B w0, B ≤ g → Below B w0 w → Below B w0 w') → wpList P ops Q rest (a.put o.dst (goInt n)) w') :
    wpList P ops Q (o :: rest) a w := by
  subst hsz
  refine wpList_plain hgd fun K hK => ?_
  have hrun := run_copy_whole (P := P) w dT sT o.type elem i hu hi g n dCap ad sCap t dcs cs hrow hdl hcl hsrc h1
  unfold Oper.wp
  simp [execOp, ho, resolve, invoke, builtin, hd, hs, hrun, Result.andThen]
  exact hK _ _ (h _ (setRow_heap w g _ _ t _ hrow) (fun k hk => setRow_other w g k _ hk) (by simp [World.setRow]) (fun B w0 hB hb => below_setRow hb hB _))

end Go.Proofs.Ybulkdxgu

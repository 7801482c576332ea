/-
  MEMORY FOR THIS SEAT's WALKS: a row that the call itself made, known whole ('RowAt'); 'copy' of a whole row whatever the element's size.
-/
import Derived.WalkKit
import Derived.ProofKit
import Derived.Below
import Derived.Laws.CopyOwn
namespace Go.Proofs.YbulkdxjmDoor
open Go.RowKit

/-- A fact kept from the walk. -/
theorem hide {p : Prop} (h : p) : Hid p := h

/-- Block g of the world w is a row of the cells cs, of element type t, not frozen. -/
def RowAt (w : World) (g : Nat) (t : TypeId) (cs : List Value) : Prop := w.heap[g]? = some (.cells cs.toArray t (0, 0))

theorem RowAt.cell {w : World} {g : Nat} {t : TypeId} {cs : List Value} (h : RowAt w g t cs) {j : Nat} {v : Value} (hv : cs[j]? = some v) : w.cell? ⟨g, j, none⟩ = some v := by
  rw [cell_of_row w g j _ t (0, 0) h]
  simpa using hv
theorem RowAt.frozen {w : World} {g : Nat} {t : TypeId} {cs : List Value} (h : RowAt w g t cs) (j : Nat) : w.frozen? ⟨g, j, none⟩ = false := frozen_of_row w g j _ t h
theorem RowAt.lt {w : World} {g : Nat} {t : TypeId} {cs : List Value} (h : RowAt w g t cs) : g < w.heap.size := (Array.getElem?_eq_some_iff.1 h).1
theorem RowAt.set {w : World} {g : Nat} {t : TypeId} {cs : List Value} (h : RowAt w g t cs) (j : Nat) (u : Value) : RowAt (w.setCell ⟨g, j, none⟩ u) g t (cs.set j u) := by
  have := heap_setCell_same w g j _ t u h
  simpa [RowAt] using this
theorem RowAt.set_other {w : World} {g : Nat} {t : TypeId} {cs : List Value} (h : RowAt w g t cs) {a : Addr} (u : Value) (hne : g ≠ a.block) : RowAt (w.setCell a u) g t cs :=
  (heap_setCell_other w a g u hne).trans h
theorem RowAt.alloc {w : World} {g : Nat} {t : TypeId} {cs : List Value} (h : RowAt w g t cs) (o : Obj) : RowAt (w.alloc o) g t cs :=
  (Below.heap_alloc w o g h.lt).trans h
theorem RowAt.new (w : World) (t : TypeId) (cs : List Value) : RowAt (w.alloc (.cells cs.toArray t)) w.heap.size t cs := heap_alloc_new w _
theorem RowAt.of_block {w w' : World} {g : Nat} {t : TypeId} {cs : List Value} (h : RowAt w g t cs) (hb : w'.heap[g]? = w.heap[g]?) : RowAt w' g t cs := hb.trans h
theorem RowAt.below {B : Nat} {w w' : World} {g : Nat} {t : TypeId} {cs : List Value} (h : RowAt w g t cs) (hb : Below B w w') (hg : g < B) : RowAt w' g t cs := (hb.block g hg).trans h

/-- A row of a made block. -/
theorem RowAt.new_cells (w : World) (t : TypeId) (cs : Array Value) : RowAt (w.alloc (.cells cs t)) w.heap.size t cs.toList := by
  have := heap_alloc_new w (.cells cs t)
  simpa [RowAt] using this


/-- An address at which a cell lies has no spot, and its block is there. -/
theorem addr_of {w : World} {x : Addr} {v : Value} (h : w.cell? (x.add 0) = some v) : ∃ b o, x = ⟨b, o, none⟩ ∧ b < w.heap.size := by
  have hlt := World.block_lt_of_cell? w _ h
  obtain ⟨b, o, spot⟩ := x
  have hs : spot = none := by simpa [Addr.add] using World.cell?_spot h
  subst hs
  rw [Addr.add_lit] at hlt
  exact ⟨b, o, rfl, hlt⟩

/-- n cells alike: a name of its own, so that the walk leaves it standing. -/
def zeros (v : Value) (n : Nat) : List Value := List.replicate n v
theorem zeros_length (v : Value) (n : Nat) : (zeros v n).length = n := by simp [zeros]
theorem zeros_made (v : Value) (h : v.cells = #[v]) (n : Nat) : madeCells v.cells (n * 1) = (zeros v n).toArray := by
  apply Array.ext'
  apply List.ext_getElem?
  intro i
  simp only [madeCells, h, zeros]
  by_cases hi : i < n
  · simp [hi, Nat.mod_one]
  · rw [List.getElem?_eq_none (by simp; omega), List.getElem?_eq_none (by simp; omega)]
theorem zeros_eq {α : Type} (f : α → Value) (a : α) (n : Nat) : zeros (f a) n = (List.replicate n a).map f := by simp [zeros]

/-! ### 'copy' over a whole row -/
theorem run_copy_whole {P : Program} (w : World) (dT sT ty elem : TypeId) (i : TypeInfo) (hu : P.underlying dT = some (.slice elem)) (hi : P.info? elem = some i) (g n dCap : Nat) (ad : Addr) (sCap : Nat) (t : TypeId)
    (dcs cs : List Value) (hrow : RowAt w g t dcs) (hdl : dcs.length = n * i.size) (hcl : cs.length = n * i.size) (hsrc : ∀ j v, cs[j]? = some v → w.cell? (ad.add j) = some v) (h1 : ∀ v ∈ cs, v.oneCell' = true) :
    (Builtin.copy_ #[dT, sT] ty #[.slice (some ⟨g, 0, none⟩) n dCap, .slice (some ad) n sCap]).run P w = .ok (goInt n) (w.setRow g cs.toArray) := by
  have hl := run_loadCells_list (P := P) w ad cs hsrc
  have hst := run_storeCells_at P g 0 t cs 0 dcs.toArray w hrow (by simp; omega) h1
  have e : (dcs.toArray.toList.take (0 + 0) ++ cs ++ dcs.toArray.toList.drop (0 + 0 + cs.length)) = cs := by
    simp only [Nat.add_zero, List.take_zero, List.nil_append, Nat.zero_add]
    have hd : dcs.drop cs.length = [] := List.drop_eq_nil_of_le (by omega)
    rw [hd, List.append_nil]
  rw [e] at hst
  rw [hcl] at hl
  simp [Builtin.copy_, run_underlying hu, Builtin.lenOf, Builtin.firstCells, sizeOf, typeInfo, hi, hl, hst]

theorem wpList_copy_whole {P : Program} {w : World} {ops : Array Oper} {rest : List Oper} {o : Oper} {a : Act} {Q : Exit → Act → World → Prop} (hgd : o.guard = none) (d s : Operand) (dT sT : TypeId)
    (ho : o.op = .call { callee := .builtin .copy, args := #[d, s], argTypes := #[dT, sT] }) (elem : TypeId) (i : TypeInfo) (size : Nat) (hu : P.underlying dT = some (.slice elem)) (hi : P.info? elem = some i) (hsz : i.size = size)
    (g n dCap : Nat) (ad : Addr) (sCap : Nat) (hd : a.eval d = .slice (some ⟨g, 0, none⟩) n dCap) (hs : a.eval s = .slice (some ad) n sCap)
    (t : TypeId) (dcs cs : List Value) (hrow : RowAt w g t dcs) (hdl : dcs.length = n * size) (hcl : cs.length = n * size) (hsrc : ∀ j v, cs[j]? = some v → w.cell? (ad.add j) = some v) (h1 : ∀ v ∈ cs, v.oneCell' = true)
    (h : ∀ w', RowAt w' g t cs → (∀ k, k ≠ g → w'.heap[k]? = w.heap[k]?) → w'.heap.size = w.heap.size → (∀ B w0, B ≤ g → Below B w0 w → Below B w0 w') → wpList P ops Q rest (a.put o.dst (goInt n)) w') :
    wpList P ops Q (o :: rest) a w := by
  subst hsz
  refine wpList_plain hgd fun K hK => ?_
  have hrun := run_copy_whole (P := P) w dT sT o.type elem i hu hi g n dCap ad sCap t dcs cs hrow hdl hcl hsrc h1
  unfold Oper.wp
  simp [execOp, ho, resolve, invoke, builtin, hd, hs, hrun, Result.andThen]
  exact hK _ _ (h _ (setRow_heap w g _ _ t _ hrow) (fun k hk => setRow_other w g k _ hk) (by simp [World.setRow]) (fun B w0 hB hb => below_setRow hb hB _))

end Go.Proofs.YbulkdxjmDoor

/-
  WHAT THE LAW's OWN LOOPS KEEP: a field that is appended to, rows of pointers, rows of prefixes.
-/
import Derived.Test.YbulkdxjmDoorAnswer
import Derived.Deep.AppendLies
import Derived.Maps.Range
namespace Go.Proofs.YbulkdxjmDoor
open Go.RowKit
set_option linter.unusedVariables false
set_option linter.unusedSimpArgs false

/-- The service's block: cell 0 the locals, 8 the prefixes, 22 the peers. -/
def svcRow (B : Nat) (lv pv : Value) : List Value := [lv, .nilIface, .int .i64 0, .int .i64 0, .int .i64 0, .int .i64 0, .int .i64 0, .int .i64 0, pv, .nilFunc, .int .i32 0, .int .u32 0, .nilFunc, .int .i32 0, .int .u32 0, .int .i32 0, .int .u32 0, .int .u32 0, .int .u32 0, .int .i32 0, .int .i32 0, .map none, .map (some B), .slice none 0 0, .int .i64 0, .slice none 0 0]

/-- A BLOCK ONE FIELD OF WHICH IS WRITTEN: what lies ahead of it is as it was. -/
def FldOpen (wr : World) (ex : Nat) (t : TypeId) (mk : Value → List Value) (w' : World) : Prop := Below ex wr w' ∧ ∃ v, RowAt w' ex t (mk v)
section
variable {wr w' w2 : World} {ex : Nat} {t : TypeId} {mk : Value → List Value}
theorem FldOpen.later (h : FldOpen wr ex t mk w') (hb : Below w'.heap.size w' w2) : FldOpen wr ex t mk w2 := by
  obtain ⟨h1, v, hr⟩ := h
  have := hr.lt
  exact ⟨h1.trans (hb.mono (by omega)), v, hr.below hb hr.lt⟩
theorem FldOpen.alloc (h : FldOpen wr ex t mk w') (o : Obj) : FldOpen wr ex t mk (w'.alloc o) := h.later ((Below.refl _ _).alloc (Nat.le_refl _) _)
theorem FldOpen.drew (h : FldOpen wr ex t mk w') : FldOpen wr ex t mk w'.drew := h.later (Below.refl _ _).drew
theorem FldOpen.set (h : FldOpen wr ex t mk w') {c : Nat} (hmk : ∀ v u, (mk v).set c u = mk u) (u : Value) : FldOpen wr ex t mk (w'.setCell ⟨ex, c, none⟩ u) := by
  obtain ⟨h1, v, hr⟩ := h
  exact ⟨h1.setCell (Nat.le_refl _) u, u, by rw [← hmk v u]; exact hr.set c u⟩
/-- An append to a row of the call's own: the block is as it was. -/
theorem FldOpen.grown {row : Option Nat} (h : FldOpen wr ex t mk w') (hg : w'.grownBy w2 row) (hr : ∀ k, row = some k → ex + 1 ≤ k) : FldOpen wr ex t mk w2 := by
  obtain ⟨h1, v, hR⟩ := h
  have hlt := hR.lt
  have hb : Below (ex + 1) w' w2 := (Below.refl _ _).grown hg (by omega) hr
  exact ⟨h1.trans (hb.mono (by omega)), v, hR.below hb (by omega)⟩
end

theorem own_below {w w' : World} {base : Nat} {e : TypeId} {size : Nat} {v : Value} {n : Nat} {xs : List Value} (h : w.ownsRow base e size v n xs) (hb : Below w.heap.size w w') : w'.ownsRow base e size v n xs := by
  refine ⟨h.1, ?_⟩
  rcases h.2 with h | ⟨g, cap, cur, hv, hb1, hg, rest⟩
  · exact .inl h
  · exact .inr ⟨g, cap, cur, hv, hb1, (hb.block g (Array.getElem?_eq_some_iff.1 hg).1).trans hg, rest⟩
theorem own_set {w : World} {base : Nat} {e : TypeId} {size : Nat} {v : Value} {n : Nat} {xs : List Value} (h : w.ownsRow base e size v n xs) (a : Addr) (u : Value) (hlt : a.block < base) : (w.setCell a u).ownsRow base e size v n xs := by
  refine ⟨h.1, ?_⟩
  rcases h.2 with h | ⟨g, cap, cur, hv, hb1, hg, rest⟩
  · exact .inl h
  · exact .inr ⟨g, cap, cur, hv, hb1, (heap_setCell_other w a g u (by omega)).trans hg, rest⟩
theorem below_grownBy {w w' : World} (h : Below w.heap.size w w') (row : Option Nat) : w.grownBy w' row := ⟨h.os, h.tape, h.output, h.size, fun k hk _ => h.block k hk⟩
theorem row_not_own {w : World} {g : Nat} {t e : TypeId} {cs : List Value} (h : RowAt w g t cs) (hte : t ≠ e) {base size n : Nat} {v : Value} {xs : List Value} (ho : w.ownsRow base e size v n xs) : some g ≠ v.ownBlock := by
  intro hg
  rcases ho.2 with ⟨rfl, _⟩ | ⟨g', cap, cur, rfl, _, hgg, _⟩
  · simp [Value.ownBlock] at hg
  · simp only [Value.ownBlock, Option.some.injEq] at hg
    subst hg
    rw [h] at hgg
    simp only [Option.some.injEq, Obj.cells.injEq] at hgg
    exact hte hgg.2.1

/-- Pointers to blocks of type t that hold the elements. -/
def PtrRow (w : World) (t : TypeId) (rows : Ep → List Value) (xs : List Value) (es : List Ep) : Prop :=
  xs.length = es.length ∧ ∀ (i : Nat) (e : Ep), es[i]? = some e → ∃ q, xs[i]? = some (Value.pointer (some ⟨q, 0, none⟩)) ∧ RowAt w q t (rows e)
theorem PtrRow.keep {w w' : World} {t : TypeId} {rows : Ep → List Value} {xs : List Value} {es : List Ep} (h : PtrRow w t rows xs es) (hk : ∀ g cs, RowAt w g t cs → RowAt w' g t cs) : PtrRow w' t rows xs es :=
  ⟨h.1, fun i e he => by obtain ⟨q, h1, h2⟩ := h.2 i e he; exact ⟨q, h1, hk _ _ h2⟩⟩
theorem PtrRow.snoc {w : World} {t : TypeId} {rows : Ep → List Value} {xs : List Value} {es : List Ep} (h : PtrRow w t rows xs es) {x : Ep} {q : Nat} (hq : RowAt w q t (rows x)) : PtrRow w t rows (xs ++ [.pointer (some ⟨q, 0, none⟩)]) (es ++ [x]) := by
  refine ⟨by simp [h.1], fun i e he => ?_⟩
  by_cases hi : i < es.length
  · rw [List.getElem?_append_left hi] at he
    obtain ⟨q', h1, h2⟩ := h.2 i e he
    exact ⟨q', by rw [List.getElem?_append_left (by rw [h.1]; exact hi)]; exact h1, h2⟩
  · have hle : es.length ≤ i := by omega
    rw [List.getElem?_append_right hle] at he
    have hi0 : i - es.length = 0 := by
      have := (List.getElem?_eq_some_iff.1 he).1
      simp at this; omega
    rw [hi0] at he
    obtain rfl : x = e := by simpa using he
    exact ⟨q, by rw [List.getElem?_append_right (by rw [h.1]; exact hle), h.1, hi0]; rfl, hq⟩
theorem take_snoc {α : Type} {es : List α} {j : Nat} {x : α} (hx : es[j]? = some x) : es.take (j + 1) = es.take j ++ [x] := by
  obtain ⟨h, hx⟩ := List.getElem?_eq_some_iff.1 hx
  rw [List.take_succ_eq_append_getElem h, hx]

/-- ONE ROUND OF A LOOP THAT APPENDS A POINTER TO A NEW BLOCK TO A FIELD. -/
theorem ptrs_round {W0 wr w2 w3 : World} {ex base c : Nat} {t te tq : TypeId} {mk : Value → List Value} {v v' : Value} {j : Nat} {xs : List Value} {rows : Ep → List Value} {es : List Ep} {x : Ep} {o2 : Obj}
    (hex : ex < base) (hgr : W0.grownBy wr (some ex)) (hW0 : W0.heap.size ≤ base) (hR : RowAt wr ex t (mk v)) (hmk : ∀ v u, (mk v).set c u = mk u)
    (hO : wr.ownsRow base te 1 v j xs) (hP : PtrRow wr tq rows xs (es.take j)) (hx : es[j]? = some x) (hq1 : tq ≠ te) (hq2 : tq ≠ t)
    (hb2 : Below wr.heap.size wr w2) (hg3 : ((w2.alloc (.cells (rows x).toArray tq)).alloc o2).grownBy w3 v.ownBlock)
    (hO3 : w3.ownsRow base te 1 v' (j + 1) (xs ++ [.pointer (some ⟨w2.heap.size, 0, none⟩)])) :
    W0.grownBy (w3.setCell ⟨ex, c, none⟩ v') (some ex) ∧ RowAt (w3.setCell ⟨ex, c, none⟩ v') ex t (mk v') ∧ (w3.setCell ⟨ex, c, none⟩ v').ownsRow base te 1 v' (j + 1) (xs ++ [.pointer (some ⟨w2.heap.size, 0, none⟩)]) ∧ PtrRow (w3.setCell ⟨ex, c, none⟩ v') tq rows (xs ++ [.pointer (some ⟨w2.heap.size, 0, none⟩)]) (es.take (j + 1)) := by
  have hbB : Below w2.heap.size w2 ((w2.alloc (.cells (rows x).toArray tq)).alloc o2) := ((Below.refl _ _).alloc (Nat.le_refl _) _).alloc (by simp) _
  have hb : Below wr.heap.size wr ((w2.alloc (.cells (rows x).toArray tq)).alloc o2) := hb2.trans (hbB.mono hb2.size)
  have hrow : ∀ k, v.ownBlock = some k → base ≤ k := fun k hk => (hO.lt k hk).1
  have g1 : W0.grownBy ((w2.alloc (.cells (rows x).toArray tq)).alloc o2) (some ex) := hgr.trans (below_grownBy hb _)
  have g2 : W0.grownBy w3 (some ex) := g1.andThen hg3 (fun k hk => .inl (Nat.le_trans hW0 (hrow k hk)))
  have g3 : W0.grownBy (w3.setCell ⟨ex, c, none⟩ v') (some ex) := ⟨g2.os, g2.tape, g2.output, by simpa [World.setCell] using g2.size, fun k hk hne => (heap_setCell_other w3 _ k _ (fun e => hne (by rw [e]))).trans (g2.block k hk hne)⟩
  have hO1 := own_below hO hb
  have hR1 : RowAt ((w2.alloc (.cells (rows x).toArray tq)).alloc o2) ex t (mk v) := hR.below hb hR.lt
  have hR3 : RowAt w3 ex t (mk v) := (hg3.block ex hR1.lt (fun e => by have := hrow ex e.symm; omega)).trans hR1
  refine ⟨g3, by rw [← hmk v v']; exact hR3.set c v', own_set hO3 _ _ hex, ?_⟩
  rw [take_snoc hx]
  have hP1 : PtrRow ((w2.alloc (.cells (rows x).toArray tq)).alloc o2) tq rows xs (es.take j) := hP.keep (fun g cs h => h.below hb h.lt)
  have hq : RowAt ((w2.alloc (.cells (rows x).toArray tq)).alloc o2) w2.heap.size tq (rows x) := (RowAt.new w2 tq (rows x)).alloc o2
  refine (hP1.snoc hq).keep (fun g cs h => ?_)
  have h3 : RowAt w3 g tq cs := (hg3.block g h.lt (row_not_own h hq1 hO1)).trans h
  refine h3.set_other _ (fun e => ?_)
  simp only at e
  subst e
  have := h3.symm.trans hR3
  simp only [Option.some.injEq, Obj.cells.injEq] at this
  exact hq2 this.2.1

/-- A row of pointers is a slice of pointers. -/
theorem PtrRow.at_ {w : World} {p4 p6 : Addr} {base n : Nat} {te tq : TypeId} {v : Value} {xs : List Value} {es : List Ep} {tl : List Value} (hO : w.ownsRow base te 1 v n xs) (hP : PtrRow w tq (fun e => elCells p4 p6 e ++ tl) xs es) (hok : ∀ e ∈ es, e.ok) (hl : es.length = n) :
    ∃ a c, v = .slice a n c ∧ PtrsAt w p4 p6 a es := by
  have hxl : xs.length = n := by simpa using hO.1
  rcases hO.2 with ⟨rfl, h0⟩ | ⟨g, cap, cur, rfl, hb, hg, hnc, _, hcs, htake⟩
  · exact ⟨none, 0, by rw [h0], hok, fun h => by omega⟩
  · refine ⟨_, _, rfl, hok, fun h => ⟨g, 0, rfl, (Array.getElem?_eq_some_iff.1 hg).1, fun i e he => ?_⟩⟩
    obtain ⟨q, h1, h2⟩ := hP.2 i e he
    refine ⟨q, ?_, h2.cell (j := 0) rfl, h2.cell (j := 1) rfl, h2.cell (j := 2) rfl, h2.cell (j := 3) rfl, h2.cell (j := 4) rfl, h2.cell (j := 5) rfl⟩
    rw [Nat.zero_add, cell_of_row w g i cur te (0, 0) hg]
    rw [← htake, List.getElem?_take] at h1
    split at h1
    · simpa using h1
    · cases h1

/-! ### Prefixes -/
def pfxCells (p4 p6 : Addr) (z : Int) : List Value := [.int .u64 (hiK (kP (z % 5))), .int .u64 (loK (kP (z % 5))), .pointer (zp p4 p6 (zK (kP (z % 5)))), .int .u8 (bP (z % 5))]
theorem flat4 (p4 p6 : Addr) : ∀ (zs : List Int) (i : Nat) (z : Int), zs[i]? = some z → ∀ (t : Nat) (u : Value), (pfxCells p4 p6 z)[t]? = some u → (zs.flatMap (pfxCells p4 p6))[i * 4 + t]? = some u
  | [], i, z, h => by simp at h
  | y :: zs, 0, z, h => fun t u hu => by
    obtain rfl : y = z := by simpa using h
    have ht : t < (pfxCells p4 p6 y).length := (List.getElem?_eq_some_iff.1 hu).1
    rw [List.flatMap_cons, Nat.zero_mul, Nat.zero_add, List.getElem?_append_left ht]
    exact hu
  | y :: zs, i + 1, z, h => fun t u hu => by
    have hl : (pfxCells p4 p6 y).length = 4 := rfl
    rw [List.flatMap_cons, List.getElem?_append_right (by rw [hl]; omega), hl, show (i + 1) * 4 + t - 4 = i * 4 + t by omega]
    exact flat4 p4 p6 zs i z (by simpa using h) t u hu
theorem pfx_round {W0 wr w2 w3 : World} {ex base c : Nat} {t te : TypeId} {mk : Value → List Value} {v v' : Value} {j : Nat} {xs ys : List Value} {o2 : Obj}
    (hex : ex < base) (hgr : W0.grownBy wr (some ex)) (hW0 : W0.heap.size ≤ base) (hR : RowAt wr ex t (mk v)) (hmk : ∀ v u, (mk v).set c u = mk u)
    (hO : wr.ownsRow base te 4 v j xs) (hb2 : Below wr.heap.size wr w2) (hg3 : (w2.alloc o2).grownBy w3 v.ownBlock)
    (hO3 : w3.ownsRow base te 4 v' (j + 1) ys) :
    W0.grownBy (w3.setCell ⟨ex, c, none⟩ v') (some ex) ∧ RowAt (w3.setCell ⟨ex, c, none⟩ v') ex t (mk v') ∧ (w3.setCell ⟨ex, c, none⟩ v').ownsRow base te 4 v' (j + 1) ys := by
  have hbB : Below w2.heap.size w2 (w2.alloc o2) := (Below.refl _ _).alloc (Nat.le_refl _) _
  have hb : Below wr.heap.size wr (w2.alloc o2) := hb2.trans (hbB.mono hb2.size)
  have hrow : ∀ k, v.ownBlock = some k → base ≤ k := fun k hk => (hO.lt k hk).1
  have g1 : W0.grownBy (w2.alloc o2) (some ex) := hgr.trans (below_grownBy hb _)
  have g2 : W0.grownBy w3 (some ex) := g1.andThen hg3 (fun k hk => .inl (Nat.le_trans hW0 (hrow k hk)))
  have g3 : W0.grownBy (w3.setCell ⟨ex, c, none⟩ v') (some ex) := ⟨g2.os, g2.tape, g2.output, by simpa [World.setCell] using g2.size, fun k hk hne => (heap_setCell_other w3 _ k _ (fun e => hne (by rw [e]))).trans (g2.block k hk hne)⟩
  have hR1 : RowAt (w2.alloc o2) ex t (mk v) := hR.below hb hR.lt
  have hR3 : RowAt w3 ex t (mk v) := (hg3.block ex hR1.lt (fun e => by have := hrow ex e.symm; omega)).trans hR1
  exact ⟨g3, by rw [← hmk v v']; exact hR3.set c v', own_set hO3 _ _ hex⟩
theorem pfx_at {w : World} {p4 p6 : Addr} {base n : Nat} {te : TypeId} {v : Value} {zs : List Int} (hO : w.ownsRow base te 4 v n (zs.flatMap (pfxCells p4 p6))) (hok : ∀ z ∈ zs, 0 ≤ z ∧ z ≤ 255) (hl : zs.length = n) :
    ∃ a c, v = .slice a n c ∧ PfxAt w p4 p6 a zs := by
  rcases hO.2 with ⟨rfl, h0⟩ | ⟨g, cap, cur, rfl, hb, hg, hnc, _, hcs, htake⟩
  · exact ⟨none, 0, by rw [h0], hok, fun h => by omega⟩
  · refine ⟨_, _, rfl, hok, fun h => ⟨g, 0, rfl, (Array.getElem?_eq_some_iff.1 hg).1, fun i z hz => ?_⟩⟩
    have hc : ∀ (t : Nat) (u : Value), (pfxCells p4 p6 z)[t]? = some u → w.cell? ⟨g, 0 + i * 4 + t, none⟩ = some u := fun t u hu => by
      have h1 := flat4 p4 p6 zs i z hz t u hu
      rw [Nat.zero_add, cell_of_row w g _ cur te (0, 0) hg]
      rw [← htake, List.getElem?_take] at h1
      split at h1
      · simpa using h1
      · cases h1
    exact ⟨hc 0 _ rfl, hc 1 _ rfl, hc 2 _ rfl, hc 3 _ rfl⟩
end Go.Proofs.YbulkdxjmDoor

/-
  THE CONTRACTS OF '(*agenda).before' (function 12) AND '(*agenda).swap' (function 13), over the agenda in memory ('Ag').
-/
import Derived.Test.YbulkdxguFirst
import Derived.Test.YbulkdxguHeap
import Derived.BigRegion
import Derived.Deep.RegionHeld3
namespace Go.Proofs.Ybulkdxgu
open Go.RowKit

theorem before_any (w : World) (b g n c : Nat) (k l : Nat) (x y : Int) (hk : k < n) (hl : l < n) (hc : w.cell? ⟨b, 1, none⟩ = some (.slice (some ⟨g, 0, none⟩) n c))
    (hx : w.cell? ⟨g, k * 2, none⟩ = some (.int .i64 x)) (hy : w.cell? ⟨g, l * 2, none⟩ = some (.int .i64 y)) :
    Calls Yba.prog 12 #[.pointer (some ⟨b, 0, none⟩), .int .i64 k, .int .i64 l] w fun e w' => e = .returned (.bool (decide (x < y))) ∧ ∃ q, w' = w.drewN q := by
  have hk' : (k : Int) < (n : Int) := by omega
  have hl' : (l : Int) < (n : Int) := by omega
  go_enter Yba.func12, Yba.ntmps12
  go_wp2
  go_quiet (fail)
  go_wp2
  go_ret
  exact ⟨rfl, _, rfl⟩

/-- The world behind the exchange of slots k and l. -/
def xch (w : World) (g k l : Nat) (x1 y1 x2 y2 : Int) : World :=
  (((w.setCell ⟨g, k * 2, none⟩ (.int .i64 x2)).setCell ⟨g, k * 2 + 1, none⟩ (.int .i64 y2)).setCell ⟨g, l * 2, none⟩ (.int .i64 x1)).setCell ⟨g, l * 2 + 1, none⟩ (.int .i64 y1)

theorem xch_cell (w : World) (g k l : Nat) (x1 y1 x2 y2 : Int) (b o : Nat) (h : b ≠ g) : (xch w g k l x1 y1 x2 y2).cell? ⟨b, o, none⟩ = w.cell? ⟨b, o, none⟩ := by
  unfold xch
  refine World.cell?_of_block ?_
  rw [heap_setCell_other _ _ _ _ h, heap_setCell_other _ _ _ _ h, heap_setCell_other _ _ _ _ h, heap_setCell_other _ _ _ _ h]
theorem xch_frozen (w : World) (g k l : Nat) (x1 y1 x2 y2 : Int) (a : Addr) : (xch w g k l x1 y1 x2 y2).frozen? a = w.frozen? a := by
  unfold xch
  rw [World.frozen?_setCell, World.frozen?_setCell, World.frozen?_setCell, World.frozen?_setCell]
theorem xch_own {w : World} {base g n cap k l : Nat} {ps : List (Int × Int)} (h : w.ownsRow base 28 2 (.slice (some ⟨g, 0, none⟩) n cap) n (flat ps)) (x1 y1 x2 y2 : Int) :
    (xch w g k l x1 y1 x2 y2).ownsRow base 28 2 (.slice (some ⟨g, 0, none⟩) n cap) n (flat ((ps.set k (x2, y2)).set l (x1, y1))) := by
  unfold xch
  rw [← flat_set, ← flat_set]
  exact ((((h.stored _ _).1.stored _ _).1.stored _ _).1.stored _ _).1
theorem own_at {w : World} {base g n cap : Nat} {ps : List (Int × Int)} (h : w.ownsRow base 28 2 (.slice (some ⟨g, 0, none⟩) n cap) n (flat ps)) {j : Nat} (hj : j < n) : w.cell? ⟨g, j * 2, none⟩ = some (.int .i64 (ps.getD j (0, 0)).1) := by
  have hl : ps.length = n := by have := h.1; rw [flat_length] at this; omega
  rw [h.cellAt _ (by omega), flat_even]
  simp [show j < ps.length by omega]
theorem own_num {w : World} {base g n cap : Nat} {ps : List (Int × Int)} (h : w.ownsRow base 28 2 (.slice (some ⟨g, 0, none⟩) n cap) n (flat ps)) {j : Nat} (hj : j < n) : w.cell? ⟨g, j * 2 + 1, none⟩ = some (.int .i64 (ps.getD j (0, 0)).2) := by
  have hl : ps.length = n := by have := h.1; rw [flat_length] at this; omega
  rw [h.cellAt _ (by omega), flat_odd]
  simp [show j < ps.length by omega]
theorem own_block {w w' : World} {base g n cap : Nat} {e : TypeId} {size : Nat} {xs : List Value} (h : w.ownsRow base e size (.slice (some ⟨g, 0, none⟩) n cap) n xs) (hb : w'.heap[g]? = w.heap[g]?) : w'.ownsRow base e size (.slice (some ⟨g, 0, none⟩) n cap) n xs := by
  refine ⟨h.1, ?_⟩
  rcases h.2 with ⟨h', _⟩ | ⟨g', cap', cur, h', hbg, hg, r⟩
  · simp at h'
  · simp only [Value.slice.injEq, Option.some.injEq, Addr.mk.injEq, and_true, true_and] at h'
    obtain ⟨rfl, rfl⟩ := h'
    exact .inr ⟨g, cap, cur, rfl, hbg, hb.trans hg, r⟩

theorem getD_xch_k (ps : List (Int × Int)) (k l : Nat) (a c d : Int × Int) (hk : k < ps.length) (hne : k ≠ l) : ((ps.set k a).set l c).getD k d = a := by
  rw [List.getD, List.getElem?_set_ne (fun e => hne e.symm), List.getElem?_set_self hk]; rfl
theorem getD_xch_l (ps : List (Int × Int)) (k l : Nat) (a c d : Int × Int) (hl : l < ps.length) : ((ps.set k a).set l c).getD l d = c := by
  rw [List.getD, List.getElem?_set_self (by simpa using hl)]; rfl

theorem cell_far {w : World} {p b : Nat} (h : b ≠ p) (j o : Nat) (u : Value) : (w.setCell ⟨p, j, none⟩ u).cell? ⟨b, o, none⟩ = w.cell? ⟨b, o, none⟩ :=
  World.cell?_of_block (heap_setCell_other w ⟨p, j, none⟩ b u h)

/-- THE AGENDA IN MEMORY: its struct in block b, its heap of slots ps in block g, its places in block p. -/
structure Ag (w : World) (B b g p n cap N : Nat) (ps : List (Int × Int)) : Prop where
  row : RowAt w b 33 [.slice none 0 0, .slice (some ⟨g, 0, none⟩) n cap, .slice (some ⟨p, 0, none⟩) N N, .slice none 0 0, .int .i64 0, .slice none 0 0]
  heap : w.ownsRow B 28 2 (.slice (some ⟨g, 0, none⟩) n cap) n (flat ps)
  place : ∃ pl : List Int, pl.length = N ∧ RowAt w p 3 (pl.map (Value.int .i64))
  nums : ∀ q ∈ ps, 0 ≤ q.2 ∧ q.2 < N

theorem Ag.drew {w : World} {B b g p n cap N : Nat} {ps : List (Int × Int)} (h : Ag w B b g p n cap N ps) : Ag w.drew B b g p n cap N ps := ⟨h.row, h.heap, h.place, h.nums⟩
theorem Ag.drewN {w : World} {B b g p n cap N : Nat} {ps : List (Int × Int)} (h : Ag w B b g p n cap N ps) (q : Nat) : Ag (w.drewN q) B b g p n cap N ps := ⟨h.row, h.heap, h.place, h.nums⟩
theorem Ag.length {w : World} {B b g p n cap N : Nat} {ps : List (Int × Int)} (h : Ag w B b g p n cap N ps) : ps.length = n := by have := h.heap.1; rw [flat_length] at this; omega

theorem swp_nums {N : Nat} {ps : List (Int × Int)} {k l : Nat} (h : ∀ q ∈ ps, 0 ≤ q.2 ∧ q.2 < (N : Int)) (hk : k < ps.length) (hl : l < ps.length) : ∀ q ∈ (ps.set k (ps.getD l (0, 0))).set l (ps.getD k (0, 0)), 0 ≤ q.2 ∧ q.2 < (N : Int) := by
  intro q hq
  have h1 : ps.getD l (0, 0) ∈ ps := by simp [List.getD, hl]
  have h2 : ps.getD k (0, 0) ∈ ps := by simp [List.getD, hk]
  rcases List.mem_or_eq_of_mem_set hq with hq | rfl
  · rcases List.mem_or_eq_of_mem_set hq with hq | rfl
    · exact h q hq
    · exact h _ h1
  · exact h _ h2

set_option maxHeartbeats 1000000 in
theorem swap_any (w : World) (B b g p n cap N : Nat) (ps : List (Int × Int)) (k l : Nat) (hk : k < n) (hl : l < n) (hne : k ≠ l) (hbg : b ≠ g) (hbp : b ≠ p) (hgp : g ≠ p) (hBg : B ≤ g) (hBp : B ≤ p)
    (A : Ag w B b g p n cap N ps) :
    Calls Yba.prog 13 #[.pointer (some ⟨b, 0, none⟩), .int .i64 k, .int .i64 l] w fun e w' => e = .returned (.tuple #[]) ∧ Ag w' B b g p n cap N ((ps.set k (ps.getD l (0, 0))).set l (ps.getD k (0, 0))) ∧ w'.heap.size = w.heap.size ∧ Below B w w' := by
  have hlen : ps.length = n := by have := A.heap.1; rw [flat_length] at this; omega
  obtain ⟨pl, hpl, hpr⟩ := A.place
  have hc : w.cell? ⟨b, 1, none⟩ = some (.slice (some ⟨g, 0, none⟩) n cap) := A.row.cell rfl
  have hp : w.cell? ⟨b, 2, none⟩ = some (.slice (some ⟨p, 0, none⟩) N N) := A.row.cell rfl
  have hx := own_at A.heap hk
  have hx2 := own_num A.heap hk
  have hy := own_at A.heap hl
  have hy2 := own_num A.heap hl
  have nk := A.nums (ps.getD k (0, 0)) (by simp [List.getD, hlen, hk])
  have nl := A.nums (ps.getD l (0, 0)) (by simp [List.getD, hlen, hl])
  have hnums := swp_nums A.nums (k := k) (l := l) (by omega) (by omega)
  have hf : ∀ j, w.frozen? ⟨g, j, none⟩ = false := A.heap.frozenAt
  have hfp : ∀ j, w.frozen? ⟨p, j, none⟩ = false := hpr.frozen
  have hown := xch_own A.heap (k := k) (l := l) (ps.getD k (0, 0)).1 (ps.getD k (0, 0)).2 (ps.getD l (0, 0)).1 (ps.getD l (0, 0)).2
  have hrow := A.row
  clear A
  obtain ⟨⟨x1, y1⟩, e1⟩ : ∃ q, ps.getD k (0, 0) = q := ⟨_, rfl⟩
  obtain ⟨⟨x2, y2⟩, e2⟩ : ∃ q, ps.getD l (0, 0) = q := ⟨_, rfl⟩
  simp only [e1, e2] at *
  obtain ⟨m1, rfl⟩ := Int.eq_ofNat_of_zero_le nk.1
  obtain ⟨m2, rfl⟩ := Int.eq_ofNat_of_zero_le nl.1
  have nk' : m1 < N := by have := nk.2; omega
  have nl' : m2 < N := by have := nl.2; omega
  obtain ⟨x', hpx⟩ : ∃ x', w.cell? ⟨p, m1, none⟩ = some (.int .i64 x') := ⟨_, hpr.int (by omega)⟩
  obtain ⟨y', hpy⟩ : ∃ y', w.cell? ⟨p, m2, none⟩ = some (.int .i64 y') := ⟨_, hpr.int (by omega)⟩
  have hrow1 : RowAt (xch w g k l x1 m1 x2 m2) b 33 [.slice none 0 0, .slice (some ⟨g, 0, none⟩) n cap, .slice (some ⟨p, 0, none⟩) N N, .slice none 0 0, .int .i64 0, .slice none 0 0] := by
    unfold xch
    exact (((hrow.set_other _ hbg).set_other _ hbg).set_other _ hbg).set_other _ hbg
  have hpr1 : RowAt (xch w g k l x1 m1 x2 m2) p 3 (pl.map (Value.int .i64)) := by
    unfold xch
    exact (((hpr.set_other _ hgp.symm).set_other _ hgp.symm).set_other _ hgp.symm).set_other _ hgp.symm
  have hbel : Below B w (xch w g k l x1 m1 x2 m2) := by
    unfold xch
    exact ((((Below.refl _ _).setCell hBg _).setCell hBg _).setCell hBg _).setCell hBg _
  have hsz : (xch w g k l x1 m1 x2 m2).heap.size = w.heap.size := by simp [xch]
  have c1 : (xch w g k l x1 m1 x2 m2).cell? ⟨b, 1, none⟩ = some (.slice (some ⟨g, 0, none⟩) n cap) := hrow1.cell rfl
  have c2 : (xch w g k l x1 m1 x2 m2).cell? ⟨b, 2, none⟩ = some (.slice (some ⟨p, 0, none⟩) N N) := hrow1.cell rfl
  have ck : (xch w g k l x1 m1 x2 m2).cell? ⟨g, k * 2 + 1, none⟩ = some (.int .i64 m2) := by
    rw [own_num hown hk, getD_xch_k _ _ _ _ _ _ (by omega) hne]
  have cl : (xch w g k l x1 m1 x2 m2).cell? ⟨g, l * 2 + 1, none⟩ = some (.int .i64 m1) := by
    rw [own_num hown hl, getD_xch_l _ _ _ _ _ _ (by omega)]
  have c3 : (xch w g k l x1 m1 x2 m2).cell? ⟨p, m1, none⟩ = some (.int .i64 x') := by rw [xch_cell _ _ _ _ _ _ _ _ _ _ hgp.symm]; exact hpx
  have c4 : (xch w g k l x1 m1 x2 m2).cell? ⟨p, m2, none⟩ = some (.int .i64 y') := by rw [xch_cell _ _ _ _ _ _ _ _ _ _ hgp.symm]; exact hpy
  have f3 : ∀ j, (xch w g k l x1 m1 x2 m2).frozen? ⟨p, j, none⟩ = false := hpr1.frozen
  have HX : Hid ((((w.setCell ⟨g, k * 2, none⟩ (.int .i64 x2)).setCell ⟨g, k * 2 + 1, none⟩ (.int .i64 m2)).setCell ⟨g, l * 2, none⟩ (.int .i64 x1)).setCell ⟨g, l * 2 + 1, none⟩ (.int .i64 m1) = xch w g k l x1 m1 x2 m2) := rfl
  have hfin : ∀ u v : Int, Ag ((((xch w g k l x1 m1 x2 m2).setCell ⟨p, m2, none⟩ (.int .i64 u)).setCell ⟨p, m1, none⟩ (.int .i64 v))) B b g p n cap N ((ps.set k (x2, ↑m2)).set l (x1, ↑m1)) := fun u v =>
    ⟨(hrow1.set_other _ hbp).set_other _ hbp, own_block hown (by rw [heap_setCell_other _ _ _ _ hgp, heap_setCell_other _ _ _ _ hgp]), ⟨_, by simpa using hpl, (hpr1.putInt m2 u).putInt m1 v⟩, hnums⟩
  have HFin : Hid _ := hfin
  have HB : Hid _ := hbel
  have HS : Hid _ := hsz
  clear hfin hbel hsz hnums hrow hrow1 hpr hpr1 hown hpl e1 e2 hfp hpx hpy nk nl
  generalize xch w g k l x1 m1 x2 m2 = W1 at *
  have hk' : (k : Int) < (n : Int) := by omega
  have hl' : (l : Int) < (n : Int) := by omega
  have d1 : ¬ k * 2 = l * 2 := by omega
  have d2 : ¬ k * 2 = l * 2 + 1 := by omega
  have d3 : ¬ k * 2 + 1 = l * 2 := by omega
  have d4 : ¬ k * 2 + 1 = l * 2 + 1 := by omega
  have i1 : (m1 : Int) < (N : Int) := by omega
  have i2 : (m2 : Int) < (N : Int) := by omega
  go_enter Yba.func13, Yba.ntmps13
  go_wp2
  go_region
  go_wp2
  rw [HX.out]
  clear hx hx2 hy hy2 hf hc hp d1 d2 d3 d4 HX
  have k1 := fun (w : World) j o u => cell_far (w := w) hbp j o u
  have k2 := fun (w : World) j o u => cell_far (w := w) hgp j o u
  by_cases hm : m1 = m2
  · subst hm
    go_region_held3 (fun w' => w'.cell? ⟨b, 1, none⟩ = some (.slice (some ⟨g, 0, none⟩) n cap) ∧ w'.cell? ⟨b, 2, none⟩ = some (.slice (some ⟨p, 0, none⟩) N N) ∧ w'.cell? ⟨g, k * 2 + 1, none⟩ = some (.int .i64 m1) ∧ w'.cell? ⟨g, l * 2 + 1, none⟩ = some (.int .i64 m1)) (first | go_keep | simp [k1, k2, *]) (fail)
    go_wp2
    go_end0
    exact ⟨rfl, (HFin.out _ _).drew.drew, by simpa using HS.out, (((HB.out.setCell hBp _).setCell hBp _).drew).drew⟩
  · go_region_held3 (fun w' => w'.cell? ⟨b, 1, none⟩ = some (.slice (some ⟨g, 0, none⟩) n cap) ∧ w'.cell? ⟨b, 2, none⟩ = some (.slice (some ⟨p, 0, none⟩) N N) ∧ w'.cell? ⟨g, k * 2 + 1, none⟩ = some (.int .i64 m2) ∧ w'.cell? ⟨g, l * 2 + 1, none⟩ = some (.int .i64 m1)) (first | go_keep | simp [k1, k2, *]) (fail)
    go_wp2
    go_end0
    exact ⟨rfl, (HFin.out _ _).drew.drew, by simpa using HS.out, (((HB.out.setCell hBp _).setCell hBp _).drew).drew⟩

theorem swap_calls (w : World) (B b g p n cap N : Nat) (ps : List (Int × Int)) (k l : Nat) (hk : k < n) (hl : l < n) (hne : k ≠ l) (hbg : b ≠ g) (hbp : b ≠ p) (hgp : g ≠ p) (hBg : B ≤ g) (hBp : B ≤ p)
    (A : Ag w B b g p n cap N ps) :
    Calls Yba.prog 13 #[.pointer (some ⟨b, 0, none⟩), .int .i64 k, .int .i64 l] w fun e w' => e = .returned (.tuple #[]) ∧ Ag w' B b g p n cap N (swp ps k l) ∧ w'.heap.size = w.heap.size ∧ Below B w w' :=
  swap_any w B b g p n cap N ps k l hk hl hne hbg hbp hgp hBg hBp A

end Go.Proofs.Ybulkdxgu

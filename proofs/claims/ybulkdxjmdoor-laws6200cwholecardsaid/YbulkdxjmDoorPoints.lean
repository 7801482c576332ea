/-
  THE TABLE OF ENDPOINTS: 'netip.AddrPortFrom' (14), 'zzs6200cap' (6), 'zzs6200celem' (4).
-/
import Derived.Test.YbulkdxjmDoorTable
namespace Go.Proofs.YbulkdxjmDoor
open Go.RowKit
set_option linter.unusedVariables false

/-- A store into a later block. -/
theorem Boxes.set {w0 w' : World} {rows : List (TypeId × List Value)} (h : Boxes w0 rows w') {i j : Nat} {u : Value} (hi : rows.length ≤ i) : Boxes w0 rows (w'.setCell ⟨w0.heap.size + i, j, none⟩ u) := by
  refine ⟨h.1.setCell (by show w0.heap.size ≤ w0.heap.size + i; omega) u, by simpa using h.2.1, fun i' t cs hi' => (h.2.2 i' t cs hi').set_other u ?_⟩
  have := (List.getElem?_eq_some_iff.1 hi').1
  show w0.heap.size + i' ≠ w0.heap.size + i
  omega

theorem apFrom_calls (hi lo po : Int) (z : Option Addr) (w : World) :
    Calls Ybad.prog 14 #[.agg #[.int .u64 hi, .int .u64 lo, .pointer z], .int .u16 po] w fun e w' => e = .returned (.agg #[.int .u64 hi, .int .u64 lo, .pointer z, .int .u16 po]) ∧ Below w.heap.size w w' := by
  go_enter Ybad.func14, Ybad.ntmps14
  go_wp2
  go_returns
  exact ⟨rfl, by go_grown⟩

set_option maxHeartbeats 1000000 in
theorem cap_calls (a p s d : Int) (w : World) (h0 : 0 ≤ a) (h1 : a ≤ 255) (g0 : 0 ≤ p) (g1 : p ≤ 65535) (p4 p6 : Addr) (hE : Env w p4 p6) :
    Calls Ybad.prog 6 #[.agg #[.int .u8 a, .int .u16 p, .int .u8 s, .int .u8 d]] w fun e w' => e = .returned (.agg #[.int .u64 (hiK (a % 7)), .int .u64 (loK (a % 7)), .pointer (zp p4 p6 (zK (a % 7))), .int .u16 (p % 4)]) ∧ Below w.heap.size w w' := by
  have hB1 := (Boxes.one w 70 [.int .u8 a, .int .u16 p, .int .u8 s, .int .u8 d]).later ((Below.refl _ _).alloc (Nat.le_refl _) (.cells #[.int .u64 0, .int .u64 0, .pointer none, .int .u16 0] 65))
  have hB2 := Boxes.two w 70 65 [.int .u8 a, .int .u16 p, .int .u8 s, .int .u8 d] [.int .u64 0, .int .u64 0, .pointer none, .int .u16 0]
  obtain ⟨c0, c1, c2, c3⟩ := Boxes.ep (w0 := w) (rows := [(70, [.int .u8 a, .int .u16 p, .int .u8 s, .int .u8 d])]) (i := 0) rfl
  simp only [Nat.add_zero] at c0 c1 c2 c3
  have r0 : ∀ w', Boxes w [(70, [.int .u8 a, .int .u16 p, .int .u8 s, .int .u8 d]), (65, [.int .u64 0, .int .u64 0, .pointer none, .int .u16 0])] w' → w'.cell? ⟨w.heap.size + 1, 0, none⟩ = some (.int .u64 0) := fun w' h => h.cell (i := 1) rfl rfl
  have r1 : ∀ w', Boxes w [(70, [.int .u8 a, .int .u16 p, .int .u8 s, .int .u8 d]), (65, [.int .u64 0, .int .u64 0, .pointer none, .int .u16 0])] w' → w'.cell? ⟨w.heap.size + 1, 1, none⟩ = some (.int .u64 0) := fun w' h => h.cell (i := 1) rfl rfl
  have r2 : ∀ w', Boxes w [(70, [.int .u8 a, .int .u16 p, .int .u8 s, .int .u8 d]), (65, [.int .u64 0, .int .u64 0, .pointer none, .int .u16 0])] w' → w'.cell? ⟨w.heap.size + 1, 2, none⟩ = some (.pointer none) := fun w' h => h.cell (i := 1) rfl rfl
  have r3 : ∀ w', Boxes w [(70, [.int .u8 a, .int .u16 p, .int .u8 s, .int .u8 d]), (65, [.int .u64 0, .int .u64 0, .pointer none, .int .u16 0])] w' → w'.cell? ⟨w.heap.size + 1, 3, none⟩ = some (.int .u16 0) := fun w' h => h.cell (i := 1) rfl rfl
  have rf : ∀ w' j, Boxes w [(70, [.int .u8 a, .int .u16 p, .int .u8 s, .int .u8 d]), (65, [.int .u64 0, .int .u64 0, .pointer none, .int .u16 0])] w' → w'.frozen? ⟨w.heap.size + 1, j, none⟩ = false := fun w' j h => (h.res (i := 1) rfl).2 j
  have henv : ∀ w', Boxes w [(70, [.int .u8 a, .int .u16 p, .int .u8 s, .int .u8 d])] w' → Env w' p4 p6 := hE.boxes
  have HEnv := hide henv
  have hl1 : [((70 : TypeId), [Value.int .u8 a, .int .u16 p, .int .u8 s, .int .u8 d])].length ≤ 1 := Nat.le_refl _
  have HL1 := hide hl1
  clear henv hl1
  go_enter Ybad.func6, Ybad.ntmps6
  go_wp2
  generalize [((70 : TypeId), [Value.int .u8 a, .int .u16 p, .int .u8 s, .int .u8 d]), (65, [.int .u64 0, .int .u64 0, .pointer none, .int .u16 0])] = rows2 at *
  generalize [((70 : TypeId), [Value.int .u8 a, .int .u16 p, .int .u8 s, .int .u8 d])] = rows1 at *
  generalize (w.alloc (.cells #[.int .u8 a, .int .u16 p, .int .u8 s, .int .u8 d] 70)).alloc (.cells #[.int .u64 0, .int .u64 0, .pointer none, .int .u16 0] 65) = W at *
  have hB2d := hB2.drew
  go_region_held3 (fun w' => Boxes w rows1 w') (first | with_reducible assumption | with_reducible exact Boxes.drew hB1 | ((repeat with_reducible refine Boxes.set ?_ HL1.out); with_reducible assumption)) (first | (go_at_call 10; refine (ck_calls _ _ _ _ _ h0 h1).mono ?_; rintro e w1 ⟨rfl, hb1⟩; have hk1 := Boxes.later (rows := rows1) (by assumption) hb1; have hr1 := Boxes.later (rows := rows2) (by assumption) hb1; clear hb1) | (go_at_call 13; refine (caddr_calls _ (by omega) (by omega) p4 p6 _ (HEnv.out _ (by assumption))).mono ?_; rintro e w2 ⟨rfl, hb2⟩; have hk2 := Boxes.later (rows := rows1) (by assumption) hb2; have hr2 := Boxes.later (rows := rows2) (by assumption) hb2; clear hb2) | (go_at_call 15; refine (cport_calls _ _ _ _ _ g0 g1).mono ?_; rintro e w3 ⟨rfl, hb3⟩; have hk3 := Boxes.later (rows := rows1) (by assumption) hb3; have hr3 := Boxes.later (rows := rows2) (by assumption) hb3; clear hb3) | (go_at_call 14; refine (apFrom_calls _ _ _ _ _).mono ?_; rintro e w4 ⟨rfl, hb4⟩; have hk4 := Boxes.later (rows := rows1) (by assumption) hb4; have hr4 := Boxes.later (rows := rows2) (by assumption) hb4; clear hb4))
  have q0 := r0 _ hr4
  have q1 := r1 _ hr4
  have q2 := r2 _ hr4
  have q3 := r3 _ hr4
  have hbb := hk4.1
  go_wp2
  refine bodyPost_ret (v := (.agg #[.int .u64 (hiK (a % 7)), .int .u64 (loK (a % 7)), .pointer (zp p4 p6 (zK (a % 7))), .int .u16 (p % 4)])) (by simp [results, Ybad.results6, go_sem, q0, q1, q2, q3]) rfl ⟨rfl, by go_grown⟩

set_option maxHeartbeats 1000000 in
theorem celem_calls (a p s d : Int) (w : World) (h0 : 0 ≤ a) (h1 : a ≤ 255) (g0 : 0 ≤ p) (g1 : p ≤ 65535) (p4 p6 : Addr) (hE : Env w p4 p6) :
    Calls Ybad.prog 4 #[.agg #[.int .u8 a, .int .u16 p, .int .u8 s, .int .u8 d]] w fun e w' => e = .returned (.agg #[.int .u64 (hiK (a % 7)), .int .u64 (loK (a % 7)), .pointer (zp p4 p6 (zK (a % 7))), .int .u16 (p % 4), .int .u8 s, .int .u8 d]) ∧ Below w.heap.size w w' := by
  have hB1 := (Boxes.one w 70 [.int .u8 a, .int .u16 p, .int .u8 s, .int .u8 d]).later ((Below.refl _ _).alloc (Nat.le_refl _) (.cells #[.int .u64 0, .int .u64 0, .pointer none, .int .u16 0, .int .u8 0, .int .u8 0] 67))
  have hB2 := Boxes.two w 70 67 [.int .u8 a, .int .u16 p, .int .u8 s, .int .u8 d] [.int .u64 0, .int .u64 0, .pointer none, .int .u16 0, .int .u8 0, .int .u8 0]
  obtain ⟨c0, c1, c2, c3⟩ := Boxes.ep (w0 := w) (rows := [(70, [.int .u8 a, .int .u16 p, .int .u8 s, .int .u8 d])]) (i := 0) rfl
  simp only [Nat.add_zero] at c0 c1 c2 c3
  have r0 : ∀ w', Boxes w [(70, [.int .u8 a, .int .u16 p, .int .u8 s, .int .u8 d]), (67, [.int .u64 0, .int .u64 0, .pointer none, .int .u16 0, .int .u8 0, .int .u8 0])] w' → w'.cell? ⟨w.heap.size + 1, 0, none⟩ = some (.int .u64 0) := fun w' h => h.cell (i := 1) rfl rfl
  have r1 : ∀ w', Boxes w [(70, [.int .u8 a, .int .u16 p, .int .u8 s, .int .u8 d]), (67, [.int .u64 0, .int .u64 0, .pointer none, .int .u16 0, .int .u8 0, .int .u8 0])] w' → w'.cell? ⟨w.heap.size + 1, 1, none⟩ = some (.int .u64 0) := fun w' h => h.cell (i := 1) rfl rfl
  have r2 : ∀ w', Boxes w [(70, [.int .u8 a, .int .u16 p, .int .u8 s, .int .u8 d]), (67, [.int .u64 0, .int .u64 0, .pointer none, .int .u16 0, .int .u8 0, .int .u8 0])] w' → w'.cell? ⟨w.heap.size + 1, 2, none⟩ = some (.pointer none) := fun w' h => h.cell (i := 1) rfl rfl
  have r3 : ∀ w', Boxes w [(70, [.int .u8 a, .int .u16 p, .int .u8 s, .int .u8 d]), (67, [.int .u64 0, .int .u64 0, .pointer none, .int .u16 0, .int .u8 0, .int .u8 0])] w' → w'.cell? ⟨w.heap.size + 1, 3, none⟩ = some (.int .u16 0) := fun w' h => h.cell (i := 1) rfl rfl
  have r4 : ∀ w', Boxes w [(70, [.int .u8 a, .int .u16 p, .int .u8 s, .int .u8 d]), (67, [.int .u64 0, .int .u64 0, .pointer none, .int .u16 0, .int .u8 0, .int .u8 0])] w' → w'.cell? ⟨w.heap.size + 1, 4, none⟩ = some (.int .u8 0) := fun w' h => h.cell (i := 1) rfl rfl
  have r5 : ∀ w', Boxes w [(70, [.int .u8 a, .int .u16 p, .int .u8 s, .int .u8 d]), (67, [.int .u64 0, .int .u64 0, .pointer none, .int .u16 0, .int .u8 0, .int .u8 0])] w' → w'.cell? ⟨w.heap.size + 1, 5, none⟩ = some (.int .u8 0) := fun w' h => h.cell (i := 1) rfl rfl
  have rf : ∀ w' j, Boxes w [(70, [.int .u8 a, .int .u16 p, .int .u8 s, .int .u8 d]), (67, [.int .u64 0, .int .u64 0, .pointer none, .int .u16 0, .int .u8 0, .int .u8 0])] w' → w'.frozen? ⟨w.heap.size + 1, j, none⟩ = false := fun w' j h => (h.res (i := 1) rfl).2 j
  have henv : ∀ w', Boxes w [(70, [.int .u8 a, .int .u16 p, .int .u8 s, .int .u8 d])] w' → Env w' p4 p6 := hE.boxes
  have HEnv := hide henv
  have hl1 : [((70 : TypeId), [Value.int .u8 a, .int .u16 p, .int .u8 s, .int .u8 d])].length ≤ 1 := Nat.le_refl _
  have HL1 := hide hl1
  clear henv hl1
  go_enter Ybad.func4, Ybad.ntmps4
  go_wp2
  generalize [((70 : TypeId), [Value.int .u8 a, .int .u16 p, .int .u8 s, .int .u8 d]), (67, [.int .u64 0, .int .u64 0, .pointer none, .int .u16 0, .int .u8 0, .int .u8 0])] = rows2 at *
  generalize [((70 : TypeId), [Value.int .u8 a, .int .u16 p, .int .u8 s, .int .u8 d])] = rows1 at *
  generalize (w.alloc (.cells #[.int .u8 a, .int .u16 p, .int .u8 s, .int .u8 d] 70)).alloc (.cells #[.int .u64 0, .int .u64 0, .pointer none, .int .u16 0, .int .u8 0, .int .u8 0] 67) = W at *
  have hB2d := hB2.drew
  go_region_held3 (fun w' => Boxes w rows1 w') (first | with_reducible assumption | with_reducible exact Boxes.drew hB1 | ((repeat with_reducible refine Boxes.set ?_ HL1.out); with_reducible assumption)) ((go_at_call 6; refine (cap_calls _ _ _ _ _ h0 h1 g0 g1 p4 p6 (HEnv.out _ (by assumption))).mono ?_; rintro e w1 ⟨rfl, hb1⟩; have hk1 := Boxes.later (rows := rows1) (by assumption) hb1; have hr1 := Boxes.later (rows := rows2) (by assumption) hb1; clear hb1))
  have q0 := r0 _ hr1
  have q1 := r1 _ hr1
  have q2 := r2 _ hr1
  have q3 := r3 _ hr1
  have q4 := r4 _ hr1
  have q5 := r5 _ hr1
  have hbb := hk1.1
  go_wp2
  refine bodyPost_ret (v := (.agg #[.int .u64 (hiK (a % 7)), .int .u64 (loK (a % 7)), .pointer (zp p4 p6 (zK (a % 7))), .int .u16 (p % 4), .int .u8 s, .int .u8 d])) (by simp [results, Ybad.results4, go_sem, q0, q1, q2, q3, q4, q5]) rfl ⟨rfl, by go_grown⟩
end Go.Proofs.YbulkdxjmDoor

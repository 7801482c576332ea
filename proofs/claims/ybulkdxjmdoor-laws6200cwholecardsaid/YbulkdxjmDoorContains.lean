/-
  'netip.Prefix.Contains' (42) OVER THE TABLES, AND WHAT IT CALLS (51, 54 .. 58).
-/
import Derived.Test.YbulkdxjmDoorReach
namespace Go.Proofs.YbulkdxjmDoor
open Go.RowKit
set_option linter.unusedVariables false

theorem pvalid_calls (hi lo b : Int) (z : Option Addr) (w : World) :
    Calls Ybad.prog 51 #[.agg #[.int .u64 hi, .int .u64 lo, .pointer z, .int .u8 b]] w fun e w' => e = .returned (.bool (decide (b > 0))) ∧ Below w.heap.size w w' := by
  go_enter Ybad.func51, Ybad.ntmps51
  go_wp2
  go_ret
  exact ⟨rfl, by go_grown⟩
theorem pbits_calls (hi lo b : Int) (h0 : 0 ≤ b) (h1 : b ≤ 255) (z : Option Addr) (w : World) :
    Calls Ybad.prog 54 #[.agg #[.int .u64 hi, .int .u64 lo, .pointer z, .int .u8 b]] w fun e w' => e = .returned (.int .i64 (b - 1)) ∧ Below w.heap.size w w' := by
  have hw : IntKind.i64.wrap b = b := by rw [IntKind.wrap_i64]; omega
  have hw1 : IntKind.i64.wrap (b - 1) = b - 1 := by rw [IntKind.wrap_i64]; omega
  go_enter Ybad.func54, Ybad.ntmps54
  go_wp2
  go_ret
  exact ⟨rfl, by go_grown⟩
set_option maxRecDepth 100000 in
theorem xor_55 (w : World) :
    Calls Ybad.prog 55 #[.agg #[.int .u64 2306139568115548160, .int .u64 1], .agg #[.int .u64 2306139568115548160, .int .u64 1]] w fun e w' => e = .returned (.agg #[.int .u64 0, .int .u64 0]) ∧ Below w.heap.size w w' := by
  go_enter Ybad.func55, Ybad.ntmps55
  go_wp2
  go_returns
  exact ⟨rfl, by go_grown⟩
set_option maxRecDepth 100000 in
theorem xor_65 (w : World) :
    Calls Ybad.prog 55 #[.agg #[.int .u64 2306139568115548160, .int .u64 2], .agg #[.int .u64 2306139568115548160, .int .u64 1]] w fun e w' => e = .returned (.agg #[.int .u64 0, .int .u64 3]) ∧ Below w.heap.size w w' := by
  go_enter Ybad.func55, Ybad.ntmps55
  go_wp2
  go_returns
  exact ⟨rfl, by go_grown⟩
set_option maxRecDepth 100000 in
theorem and_5a (w : World) :
    Calls Ybad.prog 56 #[.agg #[.int .u64 0, .int .u64 0], .agg #[.int .u64 18446744069414584320, .int .u64 0]] w fun e w' => e = .returned (.agg #[.int .u64 0, .int .u64 0]) ∧ Below w.heap.size w w' := by
  go_enter Ybad.func56, Ybad.ntmps56
  go_wp2
  go_returns
  exact ⟨rfl, by go_grown⟩
set_option maxRecDepth 100000 in
theorem and_5b (w : World) :
    Calls Ybad.prog 56 #[.agg #[.int .u64 0, .int .u64 0], .agg #[.int .u64 18446744073709551615, .int .u64 18446744073709551615]] w fun e w' => e = .returned (.agg #[.int .u64 0, .int .u64 0]) ∧ Below w.heap.size w w' := by
  go_enter Ybad.func56, Ybad.ntmps56
  go_wp2
  go_returns
  exact ⟨rfl, by go_grown⟩
set_option maxRecDepth 100000 in
theorem and_6a (w : World) :
    Calls Ybad.prog 56 #[.agg #[.int .u64 0, .int .u64 3], .agg #[.int .u64 18446744069414584320, .int .u64 0]] w fun e w' => e = .returned (.agg #[.int .u64 0, .int .u64 0]) ∧ Below w.heap.size w w' := by
  go_enter Ybad.func56, Ybad.ntmps56
  go_wp2
  go_returns
  exact ⟨rfl, by go_grown⟩
set_option maxRecDepth 100000 in
theorem and_6b (w : World) :
    Calls Ybad.prog 56 #[.agg #[.int .u64 0, .int .u64 3], .agg #[.int .u64 18446744073709551615, .int .u64 18446744073709551615]] w fun e w' => e = .returned (.agg #[.int .u64 0, .int .u64 3]) ∧ Below w.heap.size w w' := by
  go_enter Ybad.func56, Ybad.ntmps56
  go_wp2
  go_returns
  exact ⟨rfl, by go_grown⟩
theorem zero_y (w : World) :
    Calls Ybad.prog 58 #[.agg #[.int .u64 0, .int .u64 0]] w fun e w' => e = .returned (.bool true) ∧ Below w.heap.size w w' := by
  go_enter Ybad.func58, Ybad.ntmps58
  go_wp2
  go_ret
  exact ⟨rfl, by go_grown⟩
theorem zero_n (w : World) :
    Calls Ybad.prog 58 #[.agg #[.int .u64 0, .int .u64 3]] w fun e w' => e = .returned (.bool false) ∧ Below w.heap.size w w' := by
  go_enter Ybad.func58, Ybad.ntmps58
  go_wp2
  go_ret
  exact ⟨rfl, by go_grown⟩
set_option maxRecDepth 100000 in
theorem mask_a (w : World) :
    Calls Ybad.prog 57 #[.int .i64 32] w fun e w' => e = .returned (.agg #[.int .u64 18446744069414584320, .int .u64 0]) ∧ Below w.heap.size w w' := by
  go_enter Ybad.func57, Ybad.ntmps57
  go_wp2
  go_region
  all_goals go_wp2
  all_goals go_returns
  all_goals exact ⟨rfl, by go_grown⟩
set_option maxRecDepth 100000 in
theorem mask_b (w : World) :
    Calls Ybad.prog 57 #[.int .i64 128] w fun e w' => e = .returned (.agg #[.int .u64 18446744073709551615, .int .u64 18446744073709551615]) ∧ Below w.heap.size w w' := by
  go_enter Ybad.func57, Ybad.ntmps57
  go_wp2
  go_region
  all_goals go_wp2
  all_goals go_returns
  all_goals exact ⟨rfl, by go_grown⟩

theorem bitLen_1 (hi lo : Int) (p4 p6 : Addr) (w : World) (hE : Env w p4 p6) :
    Calls Ybad.prog 24 #[.agg #[.int .u64 hi, .int .u64 lo, .pointer (zp p4 p6 1)]] w fun e w' => e = .returned (.int .i64 32) ∧ Below w.heap.size w w' := bitLen_calls hi lo p4 p6 1 (by decide) w hE
theorem bitLen_2 (hi lo : Int) (p4 p6 : Addr) (w : World) (hE : Env w p4 p6) :
    Calls Ybad.prog 24 #[.agg #[.int .u64 hi, .int .u64 lo, .pointer (zp p4 p6 2)]] w fun e w' => e = .returned (.int .i64 128) ∧ Below w.heap.size w w' := bitLen_calls hi lo p4 p6 2 (by decide) w hE
theorem is4_1 (hi lo : Int) (p4 p6 : Addr) (w : World) (hE : Env w p4 p6) :
    Calls Ybad.prog 53 #[.agg #[.int .u64 hi, .int .u64 lo, .pointer (zp p4 p6 1)]] w fun e w' => e = .returned (.bool true) ∧ Below w.heap.size w w' := is4_calls hi lo p4 p6 1 (by decide) w hE
theorem is4_2 (hi lo : Int) (p4 p6 : Addr) (w : World) (hE : Env w p4 p6) :
    Calls Ybad.prog 53 #[.agg #[.int .u64 hi, .int .u64 lo, .pointer (zp p4 p6 2)]] w fun e w' => e = .returned (.bool false) ∧ Below w.heap.size w w' := is4_calls hi lo p4 p6 2 (by decide) w hE

set_option maxRecDepth 100000 in
set_option maxHeartbeats 1000000 in
theorem contains_0_2 (p4 p6 : Addr) (w : World) (hE : Env w p4 p6) :
    Calls Ybad.prog 42 #[.agg #[.int .u64 0, .int .u64 281470849515521, .pointer (zp p4 p6 1), .int .u8 9], .agg #[.int .u64 0, .int .u64 281470849515521, .pointer (zp p4 p6 1)]] w fun e w' => e = .returned (.bool true) ∧ Below w.heap.size w w' := by
  have hB := Boxes.two w 75 63 [.int .u64 0, .int .u64 281470849515521, .pointer (zp p4 p6 1), .int .u8 9] [.int .u64 0, .int .u64 281470849515521, .pointer (zp p4 p6 1)]
  have henv : ∀ w', Boxes w [(75, [.int .u64 0, .int .u64 281470849515521, .pointer (zp p4 p6 1), .int .u8 9]), (63, [.int .u64 0, .int .u64 281470849515521, .pointer (zp p4 p6 1)])] w' → Env w' p4 p6 := hE.boxes
  have c0 : ∀ w', Boxes w [(75, [.int .u64 0, .int .u64 281470849515521, .pointer (zp p4 p6 1), .int .u8 9]), (63, [.int .u64 0, .int .u64 281470849515521, .pointer (zp p4 p6 1)])] w' → w'.cell? ⟨w.heap.size, 0, none⟩ = some (.int .u64 0) := fun w' h => h.cell (i := 0) rfl rfl
  have c1 : ∀ w', Boxes w [(75, [.int .u64 0, .int .u64 281470849515521, .pointer (zp p4 p6 1), .int .u8 9]), (63, [.int .u64 0, .int .u64 281470849515521, .pointer (zp p4 p6 1)])] w' → w'.cell? ⟨w.heap.size, 1, none⟩ = some (.int .u64 281470849515521) := fun w' h => h.cell (i := 0) rfl rfl
  have c2 : ∀ w', Boxes w [(75, [.int .u64 0, .int .u64 281470849515521, .pointer (zp p4 p6 1), .int .u8 9]), (63, [.int .u64 0, .int .u64 281470849515521, .pointer (zp p4 p6 1)])] w' → w'.cell? ⟨w.heap.size, 2, none⟩ = some (.pointer (zp p4 p6 1)) := fun w' h => h.cell (i := 0) rfl rfl
  have c3 : ∀ w', Boxes w [(75, [.int .u64 0, .int .u64 281470849515521, .pointer (zp p4 p6 1), .int .u8 9]), (63, [.int .u64 0, .int .u64 281470849515521, .pointer (zp p4 p6 1)])] w' → w'.cell? ⟨w.heap.size, 3, none⟩ = some (.int .u8 9) := fun w' h => h.cell (i := 0) rfl rfl
  have d0 : ∀ w', Boxes w [(75, [.int .u64 0, .int .u64 281470849515521, .pointer (zp p4 p6 1), .int .u8 9]), (63, [.int .u64 0, .int .u64 281470849515521, .pointer (zp p4 p6 1)])] w' → w'.cell? ⟨w.heap.size + 1, 0, none⟩ = some (.int .u64 0) := fun w' h => h.cell (i := 1) rfl rfl
  have d1 : ∀ w', Boxes w [(75, [.int .u64 0, .int .u64 281470849515521, .pointer (zp p4 p6 1), .int .u8 9]), (63, [.int .u64 0, .int .u64 281470849515521, .pointer (zp p4 p6 1)])] w' → w'.cell? ⟨w.heap.size + 1, 1, none⟩ = some (.int .u64 281470849515521) := fun w' h => h.cell (i := 1) rfl rfl
  have d2 : ∀ w', Boxes w [(75, [.int .u64 0, .int .u64 281470849515521, .pointer (zp p4 p6 1), .int .u8 9]), (63, [.int .u64 0, .int .u64 281470849515521, .pointer (zp p4 p6 1)])] w' → w'.cell? ⟨w.heap.size + 1, 2, none⟩ = some (.pointer (zp p4 p6 1)) := fun w' h => h.cell (i := 1) rfl rfl
  have HEnv := hide henv
  clear henv
  go_enter Ybad.func42, Ybad.ntmps42
  go_wp2_with fail
  generalize [((75 : TypeId), [Value.int .u64 0, .int .u64 281470849515521, .pointer (zp p4 p6 1), .int .u8 9]), (63, [.int .u64 0, .int .u64 281470849515521, .pointer (zp p4 p6 1)])] = rows1 at *
  generalize (w.alloc (.cells #[.int .u64 0, .int .u64 281470849515521, .pointer (zp p4 p6 1), .int .u8 9] 75)).alloc (.cells #[.int .u64 0, .int .u64 281470849515521, .pointer (zp p4 p6 1)] 63) = W at *
  refine (pvalid_calls _ _ _ _ _).mono ?_
  rintro e w1 ⟨rfl, hb1⟩
  have hB1 := Boxes.later hB hb1
  clear hb1
  go_wp2_with fail
  refine (hasZone_calls _ _ p4 p6 1 (by decide) _ (HEnv.out _ hB1)).mono ?_
  rintro e w2 ⟨rfl, hb2⟩
  have hB2 := Boxes.later hB1 hb2
  clear hb2 hB hB1
  go_wp2
  go_region_held3 (fun w' => Boxes w rows1 w') (first | with_reducible assumption | with_reducible exact Boxes.drew hB2) (first | (go_at_call_of 24 (Value.agg #[.int .u64 0, .int .u64 281470849515521, .pointer (zp p4 p6 1)]); refine (bitLen_1 0 281470849515521 p4 p6 _ (HEnv.out _ (by assumption))).mono ?_; rintro e w3 ⟨rfl, hb3⟩; have hk3 := Boxes.later (rows := rows1) (by assumption) hb3; clear hb3) | (go_at_call_of 24 (Value.agg #[.int .u64 0, .int .u64 281470849515521, .pointer (zp p4 p6 1)]); refine (bitLen_1 0 281470849515521 p4 p6 _ (HEnv.out _ (by assumption))).mono ?_; rintro e w4 ⟨rfl, hb4⟩; have hk4 := Boxes.later (rows := rows1) (by assumption) hb4; clear hb4))
  rename_i hH
  go_wp2_with fail
  refine (is4_1 _ _ p4 p6 _ (HEnv.out _ hH)).mono ?_
  rintro e w5 ⟨rfl, hb5⟩
  have hB5 := Boxes.later hH hb5
  clear hb5 hH hB2
  go_wp2
  have hbx : bits BinOp.xor IntKind.u64 281470849515521 281470849515521 = 0 := by decide
  have hw : IntKind.i64.wrap 24 = 24 := by decide
  have hba : bits BinOp.and IntKind.i64 24 63 = 24 := by decide
  go_region_held3 (fun w' => Boxes w rows1 w') (first | with_reducible assumption | with_reducible exact Boxes.drew hB5) ((go_at_call 54; refine (pbits_calls _ _ _ (by decide) (by decide) _ _).mono ?_; rintro e w6 ⟨rfl, hb6⟩; have hk6 := Boxes.later (rows := rows1) (by assumption) hb6; clear hb6))
  rename_i hH
  go_wp2
  go_ret
  exact ⟨rfl, hH.1⟩

set_option maxRecDepth 100000 in
set_option maxHeartbeats 1000000 in
theorem contains_0_3 (p4 p6 : Addr) (w : World) (hE : Env w p4 p6) :
    Calls Ybad.prog 42 #[.agg #[.int .u64 0, .int .u64 281470849515521, .pointer (zp p4 p6 1), .int .u8 9], .agg #[.int .u64 0, .int .u64 281470849515522, .pointer (zp p4 p6 1)]] w fun e w' => e = .returned (.bool true) ∧ Below w.heap.size w w' := by
  have hB := Boxes.two w 75 63 [.int .u64 0, .int .u64 281470849515521, .pointer (zp p4 p6 1), .int .u8 9] [.int .u64 0, .int .u64 281470849515522, .pointer (zp p4 p6 1)]
  have henv : ∀ w', Boxes w [(75, [.int .u64 0, .int .u64 281470849515521, .pointer (zp p4 p6 1), .int .u8 9]), (63, [.int .u64 0, .int .u64 281470849515522, .pointer (zp p4 p6 1)])] w' → Env w' p4 p6 := hE.boxes
  have c0 : ∀ w', Boxes w [(75, [.int .u64 0, .int .u64 281470849515521, .pointer (zp p4 p6 1), .int .u8 9]), (63, [.int .u64 0, .int .u64 281470849515522, .pointer (zp p4 p6 1)])] w' → w'.cell? ⟨w.heap.size, 0, none⟩ = some (.int .u64 0) := fun w' h => h.cell (i := 0) rfl rfl
  have c1 : ∀ w', Boxes w [(75, [.int .u64 0, .int .u64 281470849515521, .pointer (zp p4 p6 1), .int .u8 9]), (63, [.int .u64 0, .int .u64 281470849515522, .pointer (zp p4 p6 1)])] w' → w'.cell? ⟨w.heap.size, 1, none⟩ = some (.int .u64 281470849515521) := fun w' h => h.cell (i := 0) rfl rfl
  have c2 : ∀ w', Boxes w [(75, [.int .u64 0, .int .u64 281470849515521, .pointer (zp p4 p6 1), .int .u8 9]), (63, [.int .u64 0, .int .u64 281470849515522, .pointer (zp p4 p6 1)])] w' → w'.cell? ⟨w.heap.size, 2, none⟩ = some (.pointer (zp p4 p6 1)) := fun w' h => h.cell (i := 0) rfl rfl
  have c3 : ∀ w', Boxes w [(75, [.int .u64 0, .int .u64 281470849515521, .pointer (zp p4 p6 1), .int .u8 9]), (63, [.int .u64 0, .int .u64 281470849515522, .pointer (zp p4 p6 1)])] w' → w'.cell? ⟨w.heap.size, 3, none⟩ = some (.int .u8 9) := fun w' h => h.cell (i := 0) rfl rfl
  have d0 : ∀ w', Boxes w [(75, [.int .u64 0, .int .u64 281470849515521, .pointer (zp p4 p6 1), .int .u8 9]), (63, [.int .u64 0, .int .u64 281470849515522, .pointer (zp p4 p6 1)])] w' → w'.cell? ⟨w.heap.size + 1, 0, none⟩ = some (.int .u64 0) := fun w' h => h.cell (i := 1) rfl rfl
  have d1 : ∀ w', Boxes w [(75, [.int .u64 0, .int .u64 281470849515521, .pointer (zp p4 p6 1), .int .u8 9]), (63, [.int .u64 0, .int .u64 281470849515522, .pointer (zp p4 p6 1)])] w' → w'.cell? ⟨w.heap.size + 1, 1, none⟩ = some (.int .u64 281470849515522) := fun w' h => h.cell (i := 1) rfl rfl
  have d2 : ∀ w', Boxes w [(75, [.int .u64 0, .int .u64 281470849515521, .pointer (zp p4 p6 1), .int .u8 9]), (63, [.int .u64 0, .int .u64 281470849515522, .pointer (zp p4 p6 1)])] w' → w'.cell? ⟨w.heap.size + 1, 2, none⟩ = some (.pointer (zp p4 p6 1)) := fun w' h => h.cell (i := 1) rfl rfl
  have HEnv := hide henv
  clear henv
  go_enter Ybad.func42, Ybad.ntmps42
  go_wp2_with fail
  generalize [((75 : TypeId), [Value.int .u64 0, .int .u64 281470849515521, .pointer (zp p4 p6 1), .int .u8 9]), (63, [.int .u64 0, .int .u64 281470849515522, .pointer (zp p4 p6 1)])] = rows1 at *
  generalize (w.alloc (.cells #[.int .u64 0, .int .u64 281470849515521, .pointer (zp p4 p6 1), .int .u8 9] 75)).alloc (.cells #[.int .u64 0, .int .u64 281470849515522, .pointer (zp p4 p6 1)] 63) = W at *
  refine (pvalid_calls _ _ _ _ _).mono ?_
  rintro e w1 ⟨rfl, hb1⟩
  have hB1 := Boxes.later hB hb1
  clear hb1
  go_wp2_with fail
  refine (hasZone_calls _ _ p4 p6 1 (by decide) _ (HEnv.out _ hB1)).mono ?_
  rintro e w2 ⟨rfl, hb2⟩
  have hB2 := Boxes.later hB1 hb2
  clear hb2 hB hB1
  go_wp2
  go_region_held3 (fun w' => Boxes w rows1 w') (first | with_reducible assumption | with_reducible exact Boxes.drew hB2) (first | (go_at_call_of 24 (Value.agg #[.int .u64 0, .int .u64 281470849515521, .pointer (zp p4 p6 1)]); refine (bitLen_1 0 281470849515521 p4 p6 _ (HEnv.out _ (by assumption))).mono ?_; rintro e w3 ⟨rfl, hb3⟩; have hk3 := Boxes.later (rows := rows1) (by assumption) hb3; clear hb3) | (go_at_call_of 24 (Value.agg #[.int .u64 0, .int .u64 281470849515522, .pointer (zp p4 p6 1)]); refine (bitLen_1 0 281470849515522 p4 p6 _ (HEnv.out _ (by assumption))).mono ?_; rintro e w4 ⟨rfl, hb4⟩; have hk4 := Boxes.later (rows := rows1) (by assumption) hb4; clear hb4))
  rename_i hH
  go_wp2_with fail
  refine (is4_1 _ _ p4 p6 _ (HEnv.out _ hH)).mono ?_
  rintro e w5 ⟨rfl, hb5⟩
  have hB5 := Boxes.later hH hb5
  clear hb5 hH hB2
  go_wp2
  have hbx : bits BinOp.xor IntKind.u64 281470849515522 281470849515521 = 3 := by decide
  have hw : IntKind.i64.wrap 24 = 24 := by decide
  have hba : bits BinOp.and IntKind.i64 24 63 = 24 := by decide
  go_region_held3 (fun w' => Boxes w rows1 w') (first | with_reducible assumption | with_reducible exact Boxes.drew hB5) ((go_at_call 54; refine (pbits_calls _ _ _ (by decide) (by decide) _ _).mono ?_; rintro e w6 ⟨rfl, hb6⟩; have hk6 := Boxes.later (rows := rows1) (by assumption) hb6; clear hb6))
  rename_i hH
  go_wp2
  go_ret
  exact ⟨rfl, hH.1⟩

set_option maxRecDepth 100000 in
set_option maxHeartbeats 1000000 in
theorem contains_0_5 (p4 p6 : Addr) (w : World) (hE : Env w p4 p6) :
    Calls Ybad.prog 42 #[.agg #[.int .u64 0, .int .u64 281470849515521, .pointer (zp p4 p6 1), .int .u8 9], .agg #[.int .u64 2306139568115548160, .int .u64 1, .pointer (zp p4 p6 2)]] w fun e w' => e = .returned (.bool false) ∧ Below w.heap.size w w' := by
  have hB := Boxes.two w 75 63 [.int .u64 0, .int .u64 281470849515521, .pointer (zp p4 p6 1), .int .u8 9] [.int .u64 2306139568115548160, .int .u64 1, .pointer (zp p4 p6 2)]
  have henv : ∀ w', Boxes w [(75, [.int .u64 0, .int .u64 281470849515521, .pointer (zp p4 p6 1), .int .u8 9]), (63, [.int .u64 2306139568115548160, .int .u64 1, .pointer (zp p4 p6 2)])] w' → Env w' p4 p6 := hE.boxes
  have c0 : ∀ w', Boxes w [(75, [.int .u64 0, .int .u64 281470849515521, .pointer (zp p4 p6 1), .int .u8 9]), (63, [.int .u64 2306139568115548160, .int .u64 1, .pointer (zp p4 p6 2)])] w' → w'.cell? ⟨w.heap.size, 0, none⟩ = some (.int .u64 0) := fun w' h => h.cell (i := 0) rfl rfl
  have c1 : ∀ w', Boxes w [(75, [.int .u64 0, .int .u64 281470849515521, .pointer (zp p4 p6 1), .int .u8 9]), (63, [.int .u64 2306139568115548160, .int .u64 1, .pointer (zp p4 p6 2)])] w' → w'.cell? ⟨w.heap.size, 1, none⟩ = some (.int .u64 281470849515521) := fun w' h => h.cell (i := 0) rfl rfl
  have c2 : ∀ w', Boxes w [(75, [.int .u64 0, .int .u64 281470849515521, .pointer (zp p4 p6 1), .int .u8 9]), (63, [.int .u64 2306139568115548160, .int .u64 1, .pointer (zp p4 p6 2)])] w' → w'.cell? ⟨w.heap.size, 2, none⟩ = some (.pointer (zp p4 p6 1)) := fun w' h => h.cell (i := 0) rfl rfl
  have c3 : ∀ w', Boxes w [(75, [.int .u64 0, .int .u64 281470849515521, .pointer (zp p4 p6 1), .int .u8 9]), (63, [.int .u64 2306139568115548160, .int .u64 1, .pointer (zp p4 p6 2)])] w' → w'.cell? ⟨w.heap.size, 3, none⟩ = some (.int .u8 9) := fun w' h => h.cell (i := 0) rfl rfl
  have d0 : ∀ w', Boxes w [(75, [.int .u64 0, .int .u64 281470849515521, .pointer (zp p4 p6 1), .int .u8 9]), (63, [.int .u64 2306139568115548160, .int .u64 1, .pointer (zp p4 p6 2)])] w' → w'.cell? ⟨w.heap.size + 1, 0, none⟩ = some (.int .u64 2306139568115548160) := fun w' h => h.cell (i := 1) rfl rfl
  have d1 : ∀ w', Boxes w [(75, [.int .u64 0, .int .u64 281470849515521, .pointer (zp p4 p6 1), .int .u8 9]), (63, [.int .u64 2306139568115548160, .int .u64 1, .pointer (zp p4 p6 2)])] w' → w'.cell? ⟨w.heap.size + 1, 1, none⟩ = some (.int .u64 1) := fun w' h => h.cell (i := 1) rfl rfl
  have d2 : ∀ w', Boxes w [(75, [.int .u64 0, .int .u64 281470849515521, .pointer (zp p4 p6 1), .int .u8 9]), (63, [.int .u64 2306139568115548160, .int .u64 1, .pointer (zp p4 p6 2)])] w' → w'.cell? ⟨w.heap.size + 1, 2, none⟩ = some (.pointer (zp p4 p6 2)) := fun w' h => h.cell (i := 1) rfl rfl
  have HEnv := hide henv
  clear henv
  go_enter Ybad.func42, Ybad.ntmps42
  go_wp2_with fail
  generalize [((75 : TypeId), [Value.int .u64 0, .int .u64 281470849515521, .pointer (zp p4 p6 1), .int .u8 9]), (63, [.int .u64 2306139568115548160, .int .u64 1, .pointer (zp p4 p6 2)])] = rows1 at *
  generalize (w.alloc (.cells #[.int .u64 0, .int .u64 281470849515521, .pointer (zp p4 p6 1), .int .u8 9] 75)).alloc (.cells #[.int .u64 2306139568115548160, .int .u64 1, .pointer (zp p4 p6 2)] 63) = W at *
  refine (pvalid_calls _ _ _ _ _).mono ?_
  rintro e w1 ⟨rfl, hb1⟩
  have hB1 := Boxes.later hB hb1
  clear hb1
  go_wp2_with fail
  refine (hasZone_calls _ _ p4 p6 2 (by decide) _ (HEnv.out _ hB1)).mono ?_
  rintro e w2 ⟨rfl, hb2⟩
  have hB2 := Boxes.later hB1 hb2
  clear hb2 hB hB1
  go_wp2
  go_region_held3 (fun w' => Boxes w rows1 w') (first | with_reducible assumption | with_reducible exact Boxes.drew hB2) (first | (go_at_call_of 24 (Value.agg #[.int .u64 0, .int .u64 281470849515521, .pointer (zp p4 p6 1)]); refine (bitLen_1 0 281470849515521 p4 p6 _ (HEnv.out _ (by assumption))).mono ?_; rintro e w3 ⟨rfl, hb3⟩; have hk3 := Boxes.later (rows := rows1) (by assumption) hb3; clear hb3) | (go_at_call_of 24 (Value.agg #[.int .u64 2306139568115548160, .int .u64 1, .pointer (zp p4 p6 2)]); refine (bitLen_2 2306139568115548160 1 p4 p6 _ (HEnv.out _ (by assumption))).mono ?_; rintro e w4 ⟨rfl, hb4⟩; have hk4 := Boxes.later (rows := rows1) (by assumption) hb4; clear hb4))
  rename_i hH
  go_wp2
  go_ret
  exact ⟨rfl, hH.1⟩

set_option maxRecDepth 100000 in
set_option maxHeartbeats 1000000 in
theorem contains_0_6 (p4 p6 : Addr) (w : World) (hE : Env w p4 p6) :
    Calls Ybad.prog 42 #[.agg #[.int .u64 0, .int .u64 281470849515521, .pointer (zp p4 p6 1), .int .u8 9], .agg #[.int .u64 2306139568115548160, .int .u64 2, .pointer (zp p4 p6 2)]] w fun e w' => e = .returned (.bool false) ∧ Below w.heap.size w w' := by
  have hB := Boxes.two w 75 63 [.int .u64 0, .int .u64 281470849515521, .pointer (zp p4 p6 1), .int .u8 9] [.int .u64 2306139568115548160, .int .u64 2, .pointer (zp p4 p6 2)]
  have henv : ∀ w', Boxes w [(75, [.int .u64 0, .int .u64 281470849515521, .pointer (zp p4 p6 1), .int .u8 9]), (63, [.int .u64 2306139568115548160, .int .u64 2, .pointer (zp p4 p6 2)])] w' → Env w' p4 p6 := hE.boxes
  have c0 : ∀ w', Boxes w [(75, [.int .u64 0, .int .u64 281470849515521, .pointer (zp p4 p6 1), .int .u8 9]), (63, [.int .u64 2306139568115548160, .int .u64 2, .pointer (zp p4 p6 2)])] w' → w'.cell? ⟨w.heap.size, 0, none⟩ = some (.int .u64 0) := fun w' h => h.cell (i := 0) rfl rfl
  have c1 : ∀ w', Boxes w [(75, [.int .u64 0, .int .u64 281470849515521, .pointer (zp p4 p6 1), .int .u8 9]), (63, [.int .u64 2306139568115548160, .int .u64 2, .pointer (zp p4 p6 2)])] w' → w'.cell? ⟨w.heap.size, 1, none⟩ = some (.int .u64 281470849515521) := fun w' h => h.cell (i := 0) rfl rfl
  have c2 : ∀ w', Boxes w [(75, [.int .u64 0, .int .u64 281470849515521, .pointer (zp p4 p6 1), .int .u8 9]), (63, [.int .u64 2306139568115548160, .int .u64 2, .pointer (zp p4 p6 2)])] w' → w'.cell? ⟨w.heap.size, 2, none⟩ = some (.pointer (zp p4 p6 1)) := fun w' h => h.cell (i := 0) rfl rfl
  have c3 : ∀ w', Boxes w [(75, [.int .u64 0, .int .u64 281470849515521, .pointer (zp p4 p6 1), .int .u8 9]), (63, [.int .u64 2306139568115548160, .int .u64 2, .pointer (zp p4 p6 2)])] w' → w'.cell? ⟨w.heap.size, 3, none⟩ = some (.int .u8 9) := fun w' h => h.cell (i := 0) rfl rfl
  have d0 : ∀ w', Boxes w [(75, [.int .u64 0, .int .u64 281470849515521, .pointer (zp p4 p6 1), .int .u8 9]), (63, [.int .u64 2306139568115548160, .int .u64 2, .pointer (zp p4 p6 2)])] w' → w'.cell? ⟨w.heap.size + 1, 0, none⟩ = some (.int .u64 2306139568115548160) := fun w' h => h.cell (i := 1) rfl rfl
  have d1 : ∀ w', Boxes w [(75, [.int .u64 0, .int .u64 281470849515521, .pointer (zp p4 p6 1), .int .u8 9]), (63, [.int .u64 2306139568115548160, .int .u64 2, .pointer (zp p4 p6 2)])] w' → w'.cell? ⟨w.heap.size + 1, 1, none⟩ = some (.int .u64 2) := fun w' h => h.cell (i := 1) rfl rfl
  have d2 : ∀ w', Boxes w [(75, [.int .u64 0, .int .u64 281470849515521, .pointer (zp p4 p6 1), .int .u8 9]), (63, [.int .u64 2306139568115548160, .int .u64 2, .pointer (zp p4 p6 2)])] w' → w'.cell? ⟨w.heap.size + 1, 2, none⟩ = some (.pointer (zp p4 p6 2)) := fun w' h => h.cell (i := 1) rfl rfl
  have HEnv := hide henv
  clear henv
  go_enter Ybad.func42, Ybad.ntmps42
  go_wp2_with fail
  generalize [((75 : TypeId), [Value.int .u64 0, .int .u64 281470849515521, .pointer (zp p4 p6 1), .int .u8 9]), (63, [.int .u64 2306139568115548160, .int .u64 2, .pointer (zp p4 p6 2)])] = rows1 at *
  generalize (w.alloc (.cells #[.int .u64 0, .int .u64 281470849515521, .pointer (zp p4 p6 1), .int .u8 9] 75)).alloc (.cells #[.int .u64 2306139568115548160, .int .u64 2, .pointer (zp p4 p6 2)] 63) = W at *
  refine (pvalid_calls _ _ _ _ _).mono ?_
  rintro e w1 ⟨rfl, hb1⟩
  have hB1 := Boxes.later hB hb1
  clear hb1
  go_wp2_with fail
  refine (hasZone_calls _ _ p4 p6 2 (by decide) _ (HEnv.out _ hB1)).mono ?_
  rintro e w2 ⟨rfl, hb2⟩
  have hB2 := Boxes.later hB1 hb2
  clear hb2 hB hB1
  go_wp2
  go_region_held3 (fun w' => Boxes w rows1 w') (first | with_reducible assumption | with_reducible exact Boxes.drew hB2) (first | (go_at_call_of 24 (Value.agg #[.int .u64 0, .int .u64 281470849515521, .pointer (zp p4 p6 1)]); refine (bitLen_1 0 281470849515521 p4 p6 _ (HEnv.out _ (by assumption))).mono ?_; rintro e w3 ⟨rfl, hb3⟩; have hk3 := Boxes.later (rows := rows1) (by assumption) hb3; clear hb3) | (go_at_call_of 24 (Value.agg #[.int .u64 2306139568115548160, .int .u64 2, .pointer (zp p4 p6 2)]); refine (bitLen_2 2306139568115548160 2 p4 p6 _ (HEnv.out _ (by assumption))).mono ?_; rintro e w4 ⟨rfl, hb4⟩; have hk4 := Boxes.later (rows := rows1) (by assumption) hb4; clear hb4))
  rename_i hH
  go_wp2
  go_ret
  exact ⟨rfl, hH.1⟩

set_option maxRecDepth 100000 in
set_option maxHeartbeats 1000000 in
theorem contains_1_2 (p4 p6 : Addr) (w : World) (hE : Env w p4 p6) :
    Calls Ybad.prog 42 #[.agg #[.int .u64 0, .int .u64 281470849515522, .pointer (zp p4 p6 1), .int .u8 33], .agg #[.int .u64 0, .int .u64 281470849515521, .pointer (zp p4 p6 1)]] w fun e w' => e = .returned (.bool false) ∧ Below w.heap.size w w' := by
  have hB := Boxes.two w 75 63 [.int .u64 0, .int .u64 281470849515522, .pointer (zp p4 p6 1), .int .u8 33] [.int .u64 0, .int .u64 281470849515521, .pointer (zp p4 p6 1)]
  have henv : ∀ w', Boxes w [(75, [.int .u64 0, .int .u64 281470849515522, .pointer (zp p4 p6 1), .int .u8 33]), (63, [.int .u64 0, .int .u64 281470849515521, .pointer (zp p4 p6 1)])] w' → Env w' p4 p6 := hE.boxes
  have c0 : ∀ w', Boxes w [(75, [.int .u64 0, .int .u64 281470849515522, .pointer (zp p4 p6 1), .int .u8 33]), (63, [.int .u64 0, .int .u64 281470849515521, .pointer (zp p4 p6 1)])] w' → w'.cell? ⟨w.heap.size, 0, none⟩ = some (.int .u64 0) := fun w' h => h.cell (i := 0) rfl rfl
  have c1 : ∀ w', Boxes w [(75, [.int .u64 0, .int .u64 281470849515522, .pointer (zp p4 p6 1), .int .u8 33]), (63, [.int .u64 0, .int .u64 281470849515521, .pointer (zp p4 p6 1)])] w' → w'.cell? ⟨w.heap.size, 1, none⟩ = some (.int .u64 281470849515522) := fun w' h => h.cell (i := 0) rfl rfl
  have c2 : ∀ w', Boxes w [(75, [.int .u64 0, .int .u64 281470849515522, .pointer (zp p4 p6 1), .int .u8 33]), (63, [.int .u64 0, .int .u64 281470849515521, .pointer (zp p4 p6 1)])] w' → w'.cell? ⟨w.heap.size, 2, none⟩ = some (.pointer (zp p4 p6 1)) := fun w' h => h.cell (i := 0) rfl rfl
  have c3 : ∀ w', Boxes w [(75, [.int .u64 0, .int .u64 281470849515522, .pointer (zp p4 p6 1), .int .u8 33]), (63, [.int .u64 0, .int .u64 281470849515521, .pointer (zp p4 p6 1)])] w' → w'.cell? ⟨w.heap.size, 3, none⟩ = some (.int .u8 33) := fun w' h => h.cell (i := 0) rfl rfl
  have d0 : ∀ w', Boxes w [(75, [.int .u64 0, .int .u64 281470849515522, .pointer (zp p4 p6 1), .int .u8 33]), (63, [.int .u64 0, .int .u64 281470849515521, .pointer (zp p4 p6 1)])] w' → w'.cell? ⟨w.heap.size + 1, 0, none⟩ = some (.int .u64 0) := fun w' h => h.cell (i := 1) rfl rfl
  have d1 : ∀ w', Boxes w [(75, [.int .u64 0, .int .u64 281470849515522, .pointer (zp p4 p6 1), .int .u8 33]), (63, [.int .u64 0, .int .u64 281470849515521, .pointer (zp p4 p6 1)])] w' → w'.cell? ⟨w.heap.size + 1, 1, none⟩ = some (.int .u64 281470849515521) := fun w' h => h.cell (i := 1) rfl rfl
  have d2 : ∀ w', Boxes w [(75, [.int .u64 0, .int .u64 281470849515522, .pointer (zp p4 p6 1), .int .u8 33]), (63, [.int .u64 0, .int .u64 281470849515521, .pointer (zp p4 p6 1)])] w' → w'.cell? ⟨w.heap.size + 1, 2, none⟩ = some (.pointer (zp p4 p6 1)) := fun w' h => h.cell (i := 1) rfl rfl
  have HEnv := hide henv
  clear henv
  go_enter Ybad.func42, Ybad.ntmps42
  go_wp2_with fail
  generalize [((75 : TypeId), [Value.int .u64 0, .int .u64 281470849515522, .pointer (zp p4 p6 1), .int .u8 33]), (63, [.int .u64 0, .int .u64 281470849515521, .pointer (zp p4 p6 1)])] = rows1 at *
  generalize (w.alloc (.cells #[.int .u64 0, .int .u64 281470849515522, .pointer (zp p4 p6 1), .int .u8 33] 75)).alloc (.cells #[.int .u64 0, .int .u64 281470849515521, .pointer (zp p4 p6 1)] 63) = W at *
  refine (pvalid_calls _ _ _ _ _).mono ?_
  rintro e w1 ⟨rfl, hb1⟩
  have hB1 := Boxes.later hB hb1
  clear hb1
  go_wp2_with fail
  refine (hasZone_calls _ _ p4 p6 1 (by decide) _ (HEnv.out _ hB1)).mono ?_
  rintro e w2 ⟨rfl, hb2⟩
  have hB2 := Boxes.later hB1 hb2
  clear hb2 hB hB1
  go_wp2
  go_region_held3 (fun w' => Boxes w rows1 w') (first | with_reducible assumption | with_reducible exact Boxes.drew hB2) (first | (go_at_call_of 24 (Value.agg #[.int .u64 0, .int .u64 281470849515522, .pointer (zp p4 p6 1)]); refine (bitLen_1 0 281470849515522 p4 p6 _ (HEnv.out _ (by assumption))).mono ?_; rintro e w3 ⟨rfl, hb3⟩; have hk3 := Boxes.later (rows := rows1) (by assumption) hb3; clear hb3) | (go_at_call_of 24 (Value.agg #[.int .u64 0, .int .u64 281470849515521, .pointer (zp p4 p6 1)]); refine (bitLen_1 0 281470849515521 p4 p6 _ (HEnv.out _ (by assumption))).mono ?_; rintro e w4 ⟨rfl, hb4⟩; have hk4 := Boxes.later (rows := rows1) (by assumption) hb4; clear hb4))
  rename_i hH
  go_wp2_with fail
  refine (is4_1 _ _ p4 p6 _ (HEnv.out _ hH)).mono ?_
  rintro e w5 ⟨rfl, hb5⟩
  have hB5 := Boxes.later hH hb5
  clear hb5 hH hB2
  go_wp2
  have hbx : bits BinOp.xor IntKind.u64 281470849515521 281470849515522 = 3 := by decide
  have hw : IntKind.i64.wrap 0 = 0 := by decide
  have hba : bits BinOp.and IntKind.i64 0 63 = 0 := by decide
  go_region_held3 (fun w' => Boxes w rows1 w') (first | with_reducible assumption | with_reducible exact Boxes.drew hB5) ((go_at_call 54; refine (pbits_calls _ _ _ (by decide) (by decide) _ _).mono ?_; rintro e w6 ⟨rfl, hb6⟩; have hk6 := Boxes.later (rows := rows1) (by assumption) hb6; clear hb6))
  rename_i hH
  go_wp2
  go_ret
  exact ⟨rfl, hH.1⟩

set_option maxRecDepth 100000 in
set_option maxHeartbeats 1000000 in
theorem contains_1_3 (p4 p6 : Addr) (w : World) (hE : Env w p4 p6) :
    Calls Ybad.prog 42 #[.agg #[.int .u64 0, .int .u64 281470849515522, .pointer (zp p4 p6 1), .int .u8 33], .agg #[.int .u64 0, .int .u64 281470849515522, .pointer (zp p4 p6 1)]] w fun e w' => e = .returned (.bool true) ∧ Below w.heap.size w w' := by
  have hB := Boxes.two w 75 63 [.int .u64 0, .int .u64 281470849515522, .pointer (zp p4 p6 1), .int .u8 33] [.int .u64 0, .int .u64 281470849515522, .pointer (zp p4 p6 1)]
  have henv : ∀ w', Boxes w [(75, [.int .u64 0, .int .u64 281470849515522, .pointer (zp p4 p6 1), .int .u8 33]), (63, [.int .u64 0, .int .u64 281470849515522, .pointer (zp p4 p6 1)])] w' → Env w' p4 p6 := hE.boxes
  have c0 : ∀ w', Boxes w [(75, [.int .u64 0, .int .u64 281470849515522, .pointer (zp p4 p6 1), .int .u8 33]), (63, [.int .u64 0, .int .u64 281470849515522, .pointer (zp p4 p6 1)])] w' → w'.cell? ⟨w.heap.size, 0, none⟩ = some (.int .u64 0) := fun w' h => h.cell (i := 0) rfl rfl
  have c1 : ∀ w', Boxes w [(75, [.int .u64 0, .int .u64 281470849515522, .pointer (zp p4 p6 1), .int .u8 33]), (63, [.int .u64 0, .int .u64 281470849515522, .pointer (zp p4 p6 1)])] w' → w'.cell? ⟨w.heap.size, 1, none⟩ = some (.int .u64 281470849515522) := fun w' h => h.cell (i := 0) rfl rfl
  have c2 : ∀ w', Boxes w [(75, [.int .u64 0, .int .u64 281470849515522, .pointer (zp p4 p6 1), .int .u8 33]), (63, [.int .u64 0, .int .u64 281470849515522, .pointer (zp p4 p6 1)])] w' → w'.cell? ⟨w.heap.size, 2, none⟩ = some (.pointer (zp p4 p6 1)) := fun w' h => h.cell (i := 0) rfl rfl
  have c3 : ∀ w', Boxes w [(75, [.int .u64 0, .int .u64 281470849515522, .pointer (zp p4 p6 1), .int .u8 33]), (63, [.int .u64 0, .int .u64 281470849515522, .pointer (zp p4 p6 1)])] w' → w'.cell? ⟨w.heap.size, 3, none⟩ = some (.int .u8 33) := fun w' h => h.cell (i := 0) rfl rfl
  have d0 : ∀ w', Boxes w [(75, [.int .u64 0, .int .u64 281470849515522, .pointer (zp p4 p6 1), .int .u8 33]), (63, [.int .u64 0, .int .u64 281470849515522, .pointer (zp p4 p6 1)])] w' → w'.cell? ⟨w.heap.size + 1, 0, none⟩ = some (.int .u64 0) := fun w' h => h.cell (i := 1) rfl rfl
  have d1 : ∀ w', Boxes w [(75, [.int .u64 0, .int .u64 281470849515522, .pointer (zp p4 p6 1), .int .u8 33]), (63, [.int .u64 0, .int .u64 281470849515522, .pointer (zp p4 p6 1)])] w' → w'.cell? ⟨w.heap.size + 1, 1, none⟩ = some (.int .u64 281470849515522) := fun w' h => h.cell (i := 1) rfl rfl
  have d2 : ∀ w', Boxes w [(75, [.int .u64 0, .int .u64 281470849515522, .pointer (zp p4 p6 1), .int .u8 33]), (63, [.int .u64 0, .int .u64 281470849515522, .pointer (zp p4 p6 1)])] w' → w'.cell? ⟨w.heap.size + 1, 2, none⟩ = some (.pointer (zp p4 p6 1)) := fun w' h => h.cell (i := 1) rfl rfl
  have HEnv := hide henv
  clear henv
  go_enter Ybad.func42, Ybad.ntmps42
  go_wp2_with fail
  generalize [((75 : TypeId), [Value.int .u64 0, .int .u64 281470849515522, .pointer (zp p4 p6 1), .int .u8 33]), (63, [.int .u64 0, .int .u64 281470849515522, .pointer (zp p4 p6 1)])] = rows1 at *
  generalize (w.alloc (.cells #[.int .u64 0, .int .u64 281470849515522, .pointer (zp p4 p6 1), .int .u8 33] 75)).alloc (.cells #[.int .u64 0, .int .u64 281470849515522, .pointer (zp p4 p6 1)] 63) = W at *
  refine (pvalid_calls _ _ _ _ _).mono ?_
  rintro e w1 ⟨rfl, hb1⟩
  have hB1 := Boxes.later hB hb1
  clear hb1
  go_wp2_with fail
  refine (hasZone_calls _ _ p4 p6 1 (by decide) _ (HEnv.out _ hB1)).mono ?_
  rintro e w2 ⟨rfl, hb2⟩
  have hB2 := Boxes.later hB1 hb2
  clear hb2 hB hB1
  go_wp2
  go_region_held3 (fun w' => Boxes w rows1 w') (first | with_reducible assumption | with_reducible exact Boxes.drew hB2) (first | (go_at_call_of 24 (Value.agg #[.int .u64 0, .int .u64 281470849515522, .pointer (zp p4 p6 1)]); refine (bitLen_1 0 281470849515522 p4 p6 _ (HEnv.out _ (by assumption))).mono ?_; rintro e w3 ⟨rfl, hb3⟩; have hk3 := Boxes.later (rows := rows1) (by assumption) hb3; clear hb3) | (go_at_call_of 24 (Value.agg #[.int .u64 0, .int .u64 281470849515522, .pointer (zp p4 p6 1)]); refine (bitLen_1 0 281470849515522 p4 p6 _ (HEnv.out _ (by assumption))).mono ?_; rintro e w4 ⟨rfl, hb4⟩; have hk4 := Boxes.later (rows := rows1) (by assumption) hb4; clear hb4))
  rename_i hH
  go_wp2_with fail
  refine (is4_1 _ _ p4 p6 _ (HEnv.out _ hH)).mono ?_
  rintro e w5 ⟨rfl, hb5⟩
  have hB5 := Boxes.later hH hb5
  clear hb5 hH hB2
  go_wp2
  have hbx : bits BinOp.xor IntKind.u64 281470849515522 281470849515522 = 0 := by decide
  have hw : IntKind.i64.wrap 0 = 0 := by decide
  have hba : bits BinOp.and IntKind.i64 0 63 = 0 := by decide
  go_region_held3 (fun w' => Boxes w rows1 w') (first | with_reducible assumption | with_reducible exact Boxes.drew hB5) ((go_at_call 54; refine (pbits_calls _ _ _ (by decide) (by decide) _ _).mono ?_; rintro e w6 ⟨rfl, hb6⟩; have hk6 := Boxes.later (rows := rows1) (by assumption) hb6; clear hb6))
  rename_i hH
  go_wp2
  go_ret
  exact ⟨rfl, hH.1⟩

set_option maxRecDepth 100000 in
set_option maxHeartbeats 1000000 in
theorem contains_1_5 (p4 p6 : Addr) (w : World) (hE : Env w p4 p6) :
    Calls Ybad.prog 42 #[.agg #[.int .u64 0, .int .u64 281470849515522, .pointer (zp p4 p6 1), .int .u8 33], .agg #[.int .u64 2306139568115548160, .int .u64 1, .pointer (zp p4 p6 2)]] w fun e w' => e = .returned (.bool false) ∧ Below w.heap.size w w' := by
  have hB := Boxes.two w 75 63 [.int .u64 0, .int .u64 281470849515522, .pointer (zp p4 p6 1), .int .u8 33] [.int .u64 2306139568115548160, .int .u64 1, .pointer (zp p4 p6 2)]
  have henv : ∀ w', Boxes w [(75, [.int .u64 0, .int .u64 281470849515522, .pointer (zp p4 p6 1), .int .u8 33]), (63, [.int .u64 2306139568115548160, .int .u64 1, .pointer (zp p4 p6 2)])] w' → Env w' p4 p6 := hE.boxes
  have c0 : ∀ w', Boxes w [(75, [.int .u64 0, .int .u64 281470849515522, .pointer (zp p4 p6 1), .int .u8 33]), (63, [.int .u64 2306139568115548160, .int .u64 1, .pointer (zp p4 p6 2)])] w' → w'.cell? ⟨w.heap.size, 0, none⟩ = some (.int .u64 0) := fun w' h => h.cell (i := 0) rfl rfl
  have c1 : ∀ w', Boxes w [(75, [.int .u64 0, .int .u64 281470849515522, .pointer (zp p4 p6 1), .int .u8 33]), (63, [.int .u64 2306139568115548160, .int .u64 1, .pointer (zp p4 p6 2)])] w' → w'.cell? ⟨w.heap.size, 1, none⟩ = some (.int .u64 281470849515522) := fun w' h => h.cell (i := 0) rfl rfl
  have c2 : ∀ w', Boxes w [(75, [.int .u64 0, .int .u64 281470849515522, .pointer (zp p4 p6 1), .int .u8 33]), (63, [.int .u64 2306139568115548160, .int .u64 1, .pointer (zp p4 p6 2)])] w' → w'.cell? ⟨w.heap.size, 2, none⟩ = some (.pointer (zp p4 p6 1)) := fun w' h => h.cell (i := 0) rfl rfl
  have c3 : ∀ w', Boxes w [(75, [.int .u64 0, .int .u64 281470849515522, .pointer (zp p4 p6 1), .int .u8 33]), (63, [.int .u64 2306139568115548160, .int .u64 1, .pointer (zp p4 p6 2)])] w' → w'.cell? ⟨w.heap.size, 3, none⟩ = some (.int .u8 33) := fun w' h => h.cell (i := 0) rfl rfl
  have d0 : ∀ w', Boxes w [(75, [.int .u64 0, .int .u64 281470849515522, .pointer (zp p4 p6 1), .int .u8 33]), (63, [.int .u64 2306139568115548160, .int .u64 1, .pointer (zp p4 p6 2)])] w' → w'.cell? ⟨w.heap.size + 1, 0, none⟩ = some (.int .u64 2306139568115548160) := fun w' h => h.cell (i := 1) rfl rfl
  have d1 : ∀ w', Boxes w [(75, [.int .u64 0, .int .u64 281470849515522, .pointer (zp p4 p6 1), .int .u8 33]), (63, [.int .u64 2306139568115548160, .int .u64 1, .pointer (zp p4 p6 2)])] w' → w'.cell? ⟨w.heap.size + 1, 1, none⟩ = some (.int .u64 1) := fun w' h => h.cell (i := 1) rfl rfl
  have d2 : ∀ w', Boxes w [(75, [.int .u64 0, .int .u64 281470849515522, .pointer (zp p4 p6 1), .int .u8 33]), (63, [.int .u64 2306139568115548160, .int .u64 1, .pointer (zp p4 p6 2)])] w' → w'.cell? ⟨w.heap.size + 1, 2, none⟩ = some (.pointer (zp p4 p6 2)) := fun w' h => h.cell (i := 1) rfl rfl
  have HEnv := hide henv
  clear henv
  go_enter Ybad.func42, Ybad.ntmps42
  go_wp2_with fail
  generalize [((75 : TypeId), [Value.int .u64 0, .int .u64 281470849515522, .pointer (zp p4 p6 1), .int .u8 33]), (63, [.int .u64 2306139568115548160, .int .u64 1, .pointer (zp p4 p6 2)])] = rows1 at *
  generalize (w.alloc (.cells #[.int .u64 0, .int .u64 281470849515522, .pointer (zp p4 p6 1), .int .u8 33] 75)).alloc (.cells #[.int .u64 2306139568115548160, .int .u64 1, .pointer (zp p4 p6 2)] 63) = W at *
  refine (pvalid_calls _ _ _ _ _).mono ?_
  rintro e w1 ⟨rfl, hb1⟩
  have hB1 := Boxes.later hB hb1
  clear hb1
  go_wp2_with fail
  refine (hasZone_calls _ _ p4 p6 2 (by decide) _ (HEnv.out _ hB1)).mono ?_
  rintro e w2 ⟨rfl, hb2⟩
  have hB2 := Boxes.later hB1 hb2
  clear hb2 hB hB1
  go_wp2
  go_region_held3 (fun w' => Boxes w rows1 w') (first | with_reducible assumption | with_reducible exact Boxes.drew hB2) (first | (go_at_call_of 24 (Value.agg #[.int .u64 0, .int .u64 281470849515522, .pointer (zp p4 p6 1)]); refine (bitLen_1 0 281470849515522 p4 p6 _ (HEnv.out _ (by assumption))).mono ?_; rintro e w3 ⟨rfl, hb3⟩; have hk3 := Boxes.later (rows := rows1) (by assumption) hb3; clear hb3) | (go_at_call_of 24 (Value.agg #[.int .u64 2306139568115548160, .int .u64 1, .pointer (zp p4 p6 2)]); refine (bitLen_2 2306139568115548160 1 p4 p6 _ (HEnv.out _ (by assumption))).mono ?_; rintro e w4 ⟨rfl, hb4⟩; have hk4 := Boxes.later (rows := rows1) (by assumption) hb4; clear hb4))
  rename_i hH
  go_wp2
  go_ret
  exact ⟨rfl, hH.1⟩

set_option maxRecDepth 100000 in
set_option maxHeartbeats 1000000 in
theorem contains_1_6 (p4 p6 : Addr) (w : World) (hE : Env w p4 p6) :
    Calls Ybad.prog 42 #[.agg #[.int .u64 0, .int .u64 281470849515522, .pointer (zp p4 p6 1), .int .u8 33], .agg #[.int .u64 2306139568115548160, .int .u64 2, .pointer (zp p4 p6 2)]] w fun e w' => e = .returned (.bool false) ∧ Below w.heap.size w w' := by
  have hB := Boxes.two w 75 63 [.int .u64 0, .int .u64 281470849515522, .pointer (zp p4 p6 1), .int .u8 33] [.int .u64 2306139568115548160, .int .u64 2, .pointer (zp p4 p6 2)]
  have henv : ∀ w', Boxes w [(75, [.int .u64 0, .int .u64 281470849515522, .pointer (zp p4 p6 1), .int .u8 33]), (63, [.int .u64 2306139568115548160, .int .u64 2, .pointer (zp p4 p6 2)])] w' → Env w' p4 p6 := hE.boxes
  have c0 : ∀ w', Boxes w [(75, [.int .u64 0, .int .u64 281470849515522, .pointer (zp p4 p6 1), .int .u8 33]), (63, [.int .u64 2306139568115548160, .int .u64 2, .pointer (zp p4 p6 2)])] w' → w'.cell? ⟨w.heap.size, 0, none⟩ = some (.int .u64 0) := fun w' h => h.cell (i := 0) rfl rfl
  have c1 : ∀ w', Boxes w [(75, [.int .u64 0, .int .u64 281470849515522, .pointer (zp p4 p6 1), .int .u8 33]), (63, [.int .u64 2306139568115548160, .int .u64 2, .pointer (zp p4 p6 2)])] w' → w'.cell? ⟨w.heap.size, 1, none⟩ = some (.int .u64 281470849515522) := fun w' h => h.cell (i := 0) rfl rfl
  have c2 : ∀ w', Boxes w [(75, [.int .u64 0, .int .u64 281470849515522, .pointer (zp p4 p6 1), .int .u8 33]), (63, [.int .u64 2306139568115548160, .int .u64 2, .pointer (zp p4 p6 2)])] w' → w'.cell? ⟨w.heap.size, 2, none⟩ = some (.pointer (zp p4 p6 1)) := fun w' h => h.cell (i := 0) rfl rfl
  have c3 : ∀ w', Boxes w [(75, [.int .u64 0, .int .u64 281470849515522, .pointer (zp p4 p6 1), .int .u8 33]), (63, [.int .u64 2306139568115548160, .int .u64 2, .pointer (zp p4 p6 2)])] w' → w'.cell? ⟨w.heap.size, 3, none⟩ = some (.int .u8 33) := fun w' h => h.cell (i := 0) rfl rfl
  have d0 : ∀ w', Boxes w [(75, [.int .u64 0, .int .u64 281470849515522, .pointer (zp p4 p6 1), .int .u8 33]), (63, [.int .u64 2306139568115548160, .int .u64 2, .pointer (zp p4 p6 2)])] w' → w'.cell? ⟨w.heap.size + 1, 0, none⟩ = some (.int .u64 2306139568115548160) := fun w' h => h.cell (i := 1) rfl rfl
  have d1 : ∀ w', Boxes w [(75, [.int .u64 0, .int .u64 281470849515522, .pointer (zp p4 p6 1), .int .u8 33]), (63, [.int .u64 2306139568115548160, .int .u64 2, .pointer (zp p4 p6 2)])] w' → w'.cell? ⟨w.heap.size + 1, 1, none⟩ = some (.int .u64 2) := fun w' h => h.cell (i := 1) rfl rfl
  have d2 : ∀ w', Boxes w [(75, [.int .u64 0, .int .u64 281470849515522, .pointer (zp p4 p6 1), .int .u8 33]), (63, [.int .u64 2306139568115548160, .int .u64 2, .pointer (zp p4 p6 2)])] w' → w'.cell? ⟨w.heap.size + 1, 2, none⟩ = some (.pointer (zp p4 p6 2)) := fun w' h => h.cell (i := 1) rfl rfl
  have HEnv := hide henv
  clear henv
  go_enter Ybad.func42, Ybad.ntmps42
  go_wp2_with fail
  generalize [((75 : TypeId), [Value.int .u64 0, .int .u64 281470849515522, .pointer (zp p4 p6 1), .int .u8 33]), (63, [.int .u64 2306139568115548160, .int .u64 2, .pointer (zp p4 p6 2)])] = rows1 at *
  generalize (w.alloc (.cells #[.int .u64 0, .int .u64 281470849515522, .pointer (zp p4 p6 1), .int .u8 33] 75)).alloc (.cells #[.int .u64 2306139568115548160, .int .u64 2, .pointer (zp p4 p6 2)] 63) = W at *
  refine (pvalid_calls _ _ _ _ _).mono ?_
  rintro e w1 ⟨rfl, hb1⟩
  have hB1 := Boxes.later hB hb1
  clear hb1
  go_wp2_with fail
  refine (hasZone_calls _ _ p4 p6 2 (by decide) _ (HEnv.out _ hB1)).mono ?_
  rintro e w2 ⟨rfl, hb2⟩
  have hB2 := Boxes.later hB1 hb2
  clear hb2 hB hB1
  go_wp2
  go_region_held3 (fun w' => Boxes w rows1 w') (first | with_reducible assumption | with_reducible exact Boxes.drew hB2) (first | (go_at_call_of 24 (Value.agg #[.int .u64 0, .int .u64 281470849515522, .pointer (zp p4 p6 1)]); refine (bitLen_1 0 281470849515522 p4 p6 _ (HEnv.out _ (by assumption))).mono ?_; rintro e w3 ⟨rfl, hb3⟩; have hk3 := Boxes.later (rows := rows1) (by assumption) hb3; clear hb3) | (go_at_call_of 24 (Value.agg #[.int .u64 2306139568115548160, .int .u64 2, .pointer (zp p4 p6 2)]); refine (bitLen_2 2306139568115548160 2 p4 p6 _ (HEnv.out _ (by assumption))).mono ?_; rintro e w4 ⟨rfl, hb4⟩; have hk4 := Boxes.later (rows := rows1) (by assumption) hb4; clear hb4))
  rename_i hH
  go_wp2
  go_ret
  exact ⟨rfl, hH.1⟩

set_option maxRecDepth 100000 in
set_option maxHeartbeats 1000000 in
theorem contains_2_2 (p4 p6 : Addr) (w : World) (hE : Env w p4 p6) :
    Calls Ybad.prog 42 #[.agg #[.int .u64 2306139568115548160, .int .u64 1, .pointer (zp p4 p6 2), .int .u8 33], .agg #[.int .u64 0, .int .u64 281470849515521, .pointer (zp p4 p6 1)]] w fun e w' => e = .returned (.bool false) ∧ Below w.heap.size w w' := by
  have hB := Boxes.two w 75 63 [.int .u64 2306139568115548160, .int .u64 1, .pointer (zp p4 p6 2), .int .u8 33] [.int .u64 0, .int .u64 281470849515521, .pointer (zp p4 p6 1)]
  have henv : ∀ w', Boxes w [(75, [.int .u64 2306139568115548160, .int .u64 1, .pointer (zp p4 p6 2), .int .u8 33]), (63, [.int .u64 0, .int .u64 281470849515521, .pointer (zp p4 p6 1)])] w' → Env w' p4 p6 := hE.boxes
  have c0 : ∀ w', Boxes w [(75, [.int .u64 2306139568115548160, .int .u64 1, .pointer (zp p4 p6 2), .int .u8 33]), (63, [.int .u64 0, .int .u64 281470849515521, .pointer (zp p4 p6 1)])] w' → w'.cell? ⟨w.heap.size, 0, none⟩ = some (.int .u64 2306139568115548160) := fun w' h => h.cell (i := 0) rfl rfl
  have c1 : ∀ w', Boxes w [(75, [.int .u64 2306139568115548160, .int .u64 1, .pointer (zp p4 p6 2), .int .u8 33]), (63, [.int .u64 0, .int .u64 281470849515521, .pointer (zp p4 p6 1)])] w' → w'.cell? ⟨w.heap.size, 1, none⟩ = some (.int .u64 1) := fun w' h => h.cell (i := 0) rfl rfl
  have c2 : ∀ w', Boxes w [(75, [.int .u64 2306139568115548160, .int .u64 1, .pointer (zp p4 p6 2), .int .u8 33]), (63, [.int .u64 0, .int .u64 281470849515521, .pointer (zp p4 p6 1)])] w' → w'.cell? ⟨w.heap.size, 2, none⟩ = some (.pointer (zp p4 p6 2)) := fun w' h => h.cell (i := 0) rfl rfl
  have c3 : ∀ w', Boxes w [(75, [.int .u64 2306139568115548160, .int .u64 1, .pointer (zp p4 p6 2), .int .u8 33]), (63, [.int .u64 0, .int .u64 281470849515521, .pointer (zp p4 p6 1)])] w' → w'.cell? ⟨w.heap.size, 3, none⟩ = some (.int .u8 33) := fun w' h => h.cell (i := 0) rfl rfl
  have d0 : ∀ w', Boxes w [(75, [.int .u64 2306139568115548160, .int .u64 1, .pointer (zp p4 p6 2), .int .u8 33]), (63, [.int .u64 0, .int .u64 281470849515521, .pointer (zp p4 p6 1)])] w' → w'.cell? ⟨w.heap.size + 1, 0, none⟩ = some (.int .u64 0) := fun w' h => h.cell (i := 1) rfl rfl
  have d1 : ∀ w', Boxes w [(75, [.int .u64 2306139568115548160, .int .u64 1, .pointer (zp p4 p6 2), .int .u8 33]), (63, [.int .u64 0, .int .u64 281470849515521, .pointer (zp p4 p6 1)])] w' → w'.cell? ⟨w.heap.size + 1, 1, none⟩ = some (.int .u64 281470849515521) := fun w' h => h.cell (i := 1) rfl rfl
  have d2 : ∀ w', Boxes w [(75, [.int .u64 2306139568115548160, .int .u64 1, .pointer (zp p4 p6 2), .int .u8 33]), (63, [.int .u64 0, .int .u64 281470849515521, .pointer (zp p4 p6 1)])] w' → w'.cell? ⟨w.heap.size + 1, 2, none⟩ = some (.pointer (zp p4 p6 1)) := fun w' h => h.cell (i := 1) rfl rfl
  have HEnv := hide henv
  clear henv
  go_enter Ybad.func42, Ybad.ntmps42
  go_wp2_with fail
  generalize [((75 : TypeId), [Value.int .u64 2306139568115548160, .int .u64 1, .pointer (zp p4 p6 2), .int .u8 33]), (63, [.int .u64 0, .int .u64 281470849515521, .pointer (zp p4 p6 1)])] = rows1 at *
  generalize (w.alloc (.cells #[.int .u64 2306139568115548160, .int .u64 1, .pointer (zp p4 p6 2), .int .u8 33] 75)).alloc (.cells #[.int .u64 0, .int .u64 281470849515521, .pointer (zp p4 p6 1)] 63) = W at *
  refine (pvalid_calls _ _ _ _ _).mono ?_
  rintro e w1 ⟨rfl, hb1⟩
  have hB1 := Boxes.later hB hb1
  clear hb1
  go_wp2_with fail
  refine (hasZone_calls _ _ p4 p6 1 (by decide) _ (HEnv.out _ hB1)).mono ?_
  rintro e w2 ⟨rfl, hb2⟩
  have hB2 := Boxes.later hB1 hb2
  clear hb2 hB hB1
  go_wp2
  go_region_held3 (fun w' => Boxes w rows1 w') (first | with_reducible assumption | with_reducible exact Boxes.drew hB2) (first | (go_at_call_of 24 (Value.agg #[.int .u64 2306139568115548160, .int .u64 1, .pointer (zp p4 p6 2)]); refine (bitLen_2 2306139568115548160 1 p4 p6 _ (HEnv.out _ (by assumption))).mono ?_; rintro e w3 ⟨rfl, hb3⟩; have hk3 := Boxes.later (rows := rows1) (by assumption) hb3; clear hb3) | (go_at_call_of 24 (Value.agg #[.int .u64 0, .int .u64 281470849515521, .pointer (zp p4 p6 1)]); refine (bitLen_1 0 281470849515521 p4 p6 _ (HEnv.out _ (by assumption))).mono ?_; rintro e w4 ⟨rfl, hb4⟩; have hk4 := Boxes.later (rows := rows1) (by assumption) hb4; clear hb4))
  rename_i hH
  go_wp2
  go_ret
  exact ⟨rfl, hH.1⟩

set_option maxRecDepth 100000 in
set_option maxHeartbeats 1000000 in
theorem contains_2_3 (p4 p6 : Addr) (w : World) (hE : Env w p4 p6) :
    Calls Ybad.prog 42 #[.agg #[.int .u64 2306139568115548160, .int .u64 1, .pointer (zp p4 p6 2), .int .u8 33], .agg #[.int .u64 0, .int .u64 281470849515522, .pointer (zp p4 p6 1)]] w fun e w' => e = .returned (.bool false) ∧ Below w.heap.size w w' := by
  have hB := Boxes.two w 75 63 [.int .u64 2306139568115548160, .int .u64 1, .pointer (zp p4 p6 2), .int .u8 33] [.int .u64 0, .int .u64 281470849515522, .pointer (zp p4 p6 1)]
  have henv : ∀ w', Boxes w [(75, [.int .u64 2306139568115548160, .int .u64 1, .pointer (zp p4 p6 2), .int .u8 33]), (63, [.int .u64 0, .int .u64 281470849515522, .pointer (zp p4 p6 1)])] w' → Env w' p4 p6 := hE.boxes
  have c0 : ∀ w', Boxes w [(75, [.int .u64 2306139568115548160, .int .u64 1, .pointer (zp p4 p6 2), .int .u8 33]), (63, [.int .u64 0, .int .u64 281470849515522, .pointer (zp p4 p6 1)])] w' → w'.cell? ⟨w.heap.size, 0, none⟩ = some (.int .u64 2306139568115548160) := fun w' h => h.cell (i := 0) rfl rfl
  have c1 : ∀ w', Boxes w [(75, [.int .u64 2306139568115548160, .int .u64 1, .pointer (zp p4 p6 2), .int .u8 33]), (63, [.int .u64 0, .int .u64 281470849515522, .pointer (zp p4 p6 1)])] w' → w'.cell? ⟨w.heap.size, 1, none⟩ = some (.int .u64 1) := fun w' h => h.cell (i := 0) rfl rfl
  have c2 : ∀ w', Boxes w [(75, [.int .u64 2306139568115548160, .int .u64 1, .pointer (zp p4 p6 2), .int .u8 33]), (63, [.int .u64 0, .int .u64 281470849515522, .pointer (zp p4 p6 1)])] w' → w'.cell? ⟨w.heap.size, 2, none⟩ = some (.pointer (zp p4 p6 2)) := fun w' h => h.cell (i := 0) rfl rfl
  have c3 : ∀ w', Boxes w [(75, [.int .u64 2306139568115548160, .int .u64 1, .pointer (zp p4 p6 2), .int .u8 33]), (63, [.int .u64 0, .int .u64 281470849515522, .pointer (zp p4 p6 1)])] w' → w'.cell? ⟨w.heap.size, 3, none⟩ = some (.int .u8 33) := fun w' h => h.cell (i := 0) rfl rfl
  have d0 : ∀ w', Boxes w [(75, [.int .u64 2306139568115548160, .int .u64 1, .pointer (zp p4 p6 2), .int .u8 33]), (63, [.int .u64 0, .int .u64 281470849515522, .pointer (zp p4 p6 1)])] w' → w'.cell? ⟨w.heap.size + 1, 0, none⟩ = some (.int .u64 0) := fun w' h => h.cell (i := 1) rfl rfl
  have d1 : ∀ w', Boxes w [(75, [.int .u64 2306139568115548160, .int .u64 1, .pointer (zp p4 p6 2), .int .u8 33]), (63, [.int .u64 0, .int .u64 281470849515522, .pointer (zp p4 p6 1)])] w' → w'.cell? ⟨w.heap.size + 1, 1, none⟩ = some (.int .u64 281470849515522) := fun w' h => h.cell (i := 1) rfl rfl
  have d2 : ∀ w', Boxes w [(75, [.int .u64 2306139568115548160, .int .u64 1, .pointer (zp p4 p6 2), .int .u8 33]), (63, [.int .u64 0, .int .u64 281470849515522, .pointer (zp p4 p6 1)])] w' → w'.cell? ⟨w.heap.size + 1, 2, none⟩ = some (.pointer (zp p4 p6 1)) := fun w' h => h.cell (i := 1) rfl rfl
  have HEnv := hide henv
  clear henv
  go_enter Ybad.func42, Ybad.ntmps42
  go_wp2_with fail
  generalize [((75 : TypeId), [Value.int .u64 2306139568115548160, .int .u64 1, .pointer (zp p4 p6 2), .int .u8 33]), (63, [.int .u64 0, .int .u64 281470849515522, .pointer (zp p4 p6 1)])] = rows1 at *
  generalize (w.alloc (.cells #[.int .u64 2306139568115548160, .int .u64 1, .pointer (zp p4 p6 2), .int .u8 33] 75)).alloc (.cells #[.int .u64 0, .int .u64 281470849515522, .pointer (zp p4 p6 1)] 63) = W at *
  refine (pvalid_calls _ _ _ _ _).mono ?_
  rintro e w1 ⟨rfl, hb1⟩
  have hB1 := Boxes.later hB hb1
  clear hb1
  go_wp2_with fail
  refine (hasZone_calls _ _ p4 p6 1 (by decide) _ (HEnv.out _ hB1)).mono ?_
  rintro e w2 ⟨rfl, hb2⟩
  have hB2 := Boxes.later hB1 hb2
  clear hb2 hB hB1
  go_wp2
  go_region_held3 (fun w' => Boxes w rows1 w') (first | with_reducible assumption | with_reducible exact Boxes.drew hB2) (first | (go_at_call_of 24 (Value.agg #[.int .u64 2306139568115548160, .int .u64 1, .pointer (zp p4 p6 2)]); refine (bitLen_2 2306139568115548160 1 p4 p6 _ (HEnv.out _ (by assumption))).mono ?_; rintro e w3 ⟨rfl, hb3⟩; have hk3 := Boxes.later (rows := rows1) (by assumption) hb3; clear hb3) | (go_at_call_of 24 (Value.agg #[.int .u64 0, .int .u64 281470849515522, .pointer (zp p4 p6 1)]); refine (bitLen_1 0 281470849515522 p4 p6 _ (HEnv.out _ (by assumption))).mono ?_; rintro e w4 ⟨rfl, hb4⟩; have hk4 := Boxes.later (rows := rows1) (by assumption) hb4; clear hb4))
  rename_i hH
  go_wp2
  go_ret
  exact ⟨rfl, hH.1⟩

set_option maxRecDepth 100000 in
set_option maxHeartbeats 1000000 in
theorem contains_2_5 (p4 p6 : Addr) (w : World) (hE : Env w p4 p6) :
    Calls Ybad.prog 42 #[.agg #[.int .u64 2306139568115548160, .int .u64 1, .pointer (zp p4 p6 2), .int .u8 33], .agg #[.int .u64 2306139568115548160, .int .u64 1, .pointer (zp p4 p6 2)]] w fun e w' => e = .returned (.bool true) ∧ Below w.heap.size w w' := by
  have hB := Boxes.two w 75 63 [.int .u64 2306139568115548160, .int .u64 1, .pointer (zp p4 p6 2), .int .u8 33] [.int .u64 2306139568115548160, .int .u64 1, .pointer (zp p4 p6 2)]
  have henv : ∀ w', Boxes w [(75, [.int .u64 2306139568115548160, .int .u64 1, .pointer (zp p4 p6 2), .int .u8 33]), (63, [.int .u64 2306139568115548160, .int .u64 1, .pointer (zp p4 p6 2)])] w' → Env w' p4 p6 := hE.boxes
  have c0 : ∀ w', Boxes w [(75, [.int .u64 2306139568115548160, .int .u64 1, .pointer (zp p4 p6 2), .int .u8 33]), (63, [.int .u64 2306139568115548160, .int .u64 1, .pointer (zp p4 p6 2)])] w' → w'.cell? ⟨w.heap.size, 0, none⟩ = some (.int .u64 2306139568115548160) := fun w' h => h.cell (i := 0) rfl rfl
  have c1 : ∀ w', Boxes w [(75, [.int .u64 2306139568115548160, .int .u64 1, .pointer (zp p4 p6 2), .int .u8 33]), (63, [.int .u64 2306139568115548160, .int .u64 1, .pointer (zp p4 p6 2)])] w' → w'.cell? ⟨w.heap.size, 1, none⟩ = some (.int .u64 1) := fun w' h => h.cell (i := 0) rfl rfl
  have c2 : ∀ w', Boxes w [(75, [.int .u64 2306139568115548160, .int .u64 1, .pointer (zp p4 p6 2), .int .u8 33]), (63, [.int .u64 2306139568115548160, .int .u64 1, .pointer (zp p4 p6 2)])] w' → w'.cell? ⟨w.heap.size, 2, none⟩ = some (.pointer (zp p4 p6 2)) := fun w' h => h.cell (i := 0) rfl rfl
  have c3 : ∀ w', Boxes w [(75, [.int .u64 2306139568115548160, .int .u64 1, .pointer (zp p4 p6 2), .int .u8 33]), (63, [.int .u64 2306139568115548160, .int .u64 1, .pointer (zp p4 p6 2)])] w' → w'.cell? ⟨w.heap.size, 3, none⟩ = some (.int .u8 33) := fun w' h => h.cell (i := 0) rfl rfl
  have d0 : ∀ w', Boxes w [(75, [.int .u64 2306139568115548160, .int .u64 1, .pointer (zp p4 p6 2), .int .u8 33]), (63, [.int .u64 2306139568115548160, .int .u64 1, .pointer (zp p4 p6 2)])] w' → w'.cell? ⟨w.heap.size + 1, 0, none⟩ = some (.int .u64 2306139568115548160) := fun w' h => h.cell (i := 1) rfl rfl
  have d1 : ∀ w', Boxes w [(75, [.int .u64 2306139568115548160, .int .u64 1, .pointer (zp p4 p6 2), .int .u8 33]), (63, [.int .u64 2306139568115548160, .int .u64 1, .pointer (zp p4 p6 2)])] w' → w'.cell? ⟨w.heap.size + 1, 1, none⟩ = some (.int .u64 1) := fun w' h => h.cell (i := 1) rfl rfl
  have d2 : ∀ w', Boxes w [(75, [.int .u64 2306139568115548160, .int .u64 1, .pointer (zp p4 p6 2), .int .u8 33]), (63, [.int .u64 2306139568115548160, .int .u64 1, .pointer (zp p4 p6 2)])] w' → w'.cell? ⟨w.heap.size + 1, 2, none⟩ = some (.pointer (zp p4 p6 2)) := fun w' h => h.cell (i := 1) rfl rfl
  have HEnv := hide henv
  clear henv
  go_enter Ybad.func42, Ybad.ntmps42
  go_wp2_with fail
  generalize [((75 : TypeId), [Value.int .u64 2306139568115548160, .int .u64 1, .pointer (zp p4 p6 2), .int .u8 33]), (63, [.int .u64 2306139568115548160, .int .u64 1, .pointer (zp p4 p6 2)])] = rows1 at *
  generalize (w.alloc (.cells #[.int .u64 2306139568115548160, .int .u64 1, .pointer (zp p4 p6 2), .int .u8 33] 75)).alloc (.cells #[.int .u64 2306139568115548160, .int .u64 1, .pointer (zp p4 p6 2)] 63) = W at *
  refine (pvalid_calls _ _ _ _ _).mono ?_
  rintro e w1 ⟨rfl, hb1⟩
  have hB1 := Boxes.later hB hb1
  clear hb1
  go_wp2_with fail
  refine (hasZone_calls _ _ p4 p6 2 (by decide) _ (HEnv.out _ hB1)).mono ?_
  rintro e w2 ⟨rfl, hb2⟩
  have hB2 := Boxes.later hB1 hb2
  clear hb2 hB hB1
  go_wp2
  go_region_held3 (fun w' => Boxes w rows1 w') (first | with_reducible assumption | with_reducible exact Boxes.drew hB2) (first | (go_at_call_of 24 (Value.agg #[.int .u64 2306139568115548160, .int .u64 1, .pointer (zp p4 p6 2)]); refine (bitLen_2 2306139568115548160 1 p4 p6 _ (HEnv.out _ (by assumption))).mono ?_; rintro e w3 ⟨rfl, hb3⟩; have hk3 := Boxes.later (rows := rows1) (by assumption) hb3; clear hb3) | (go_at_call_of 24 (Value.agg #[.int .u64 2306139568115548160, .int .u64 1, .pointer (zp p4 p6 2)]); refine (bitLen_2 2306139568115548160 1 p4 p6 _ (HEnv.out _ (by assumption))).mono ?_; rintro e w4 ⟨rfl, hb4⟩; have hk4 := Boxes.later (rows := rows1) (by assumption) hb4; clear hb4))
  rename_i hH
  go_wp2_with fail
  refine (is4_2 _ _ p4 p6 _ (HEnv.out _ hH)).mono ?_
  rintro e w5 ⟨rfl, hb5⟩
  have hB5 := Boxes.later hH hb5
  clear hb5 hH hB2
  go_wp2
  go_region_held3 (fun w' => Boxes w rows1 w') (first | with_reducible assumption | with_reducible exact Boxes.drew hB5) (first | (go_at_call 54; refine (pbits_calls _ _ _ (by decide) (by decide) _ _).mono ?_; rintro e w6 ⟨rfl, hb6⟩; have hk6 := Boxes.later (rows := rows1) (by assumption) hb6; clear hb6) | (go_at_call 55; refine (xor_55 _).mono ?_; rintro e w7 ⟨rfl, hb7⟩; have hk7 := Boxes.later (rows := rows1) (by assumption) hb7; clear hb7) | (go_at_call 57; refine (mask_a _).mono ?_; rintro e w8 ⟨rfl, hb8⟩; have hk8 := Boxes.later (rows := rows1) (by assumption) hb8; clear hb8) | (go_at_call 56; refine (and_5a _).mono ?_; rintro e w9 ⟨rfl, hb9⟩; have hk9 := Boxes.later (rows := rows1) (by assumption) hb9; clear hb9) | (go_at_call 58; refine (zero_y _).mono ?_; rintro e w10 ⟨rfl, hb10⟩; have hk10 := Boxes.later (rows := rows1) (by assumption) hb10; clear hb10))
  rename_i hH
  go_wp2
  go_ret
  exact ⟨rfl, hH.1⟩

set_option maxRecDepth 100000 in
set_option maxHeartbeats 1000000 in
theorem contains_2_6 (p4 p6 : Addr) (w : World) (hE : Env w p4 p6) :
    Calls Ybad.prog 42 #[.agg #[.int .u64 2306139568115548160, .int .u64 1, .pointer (zp p4 p6 2), .int .u8 33], .agg #[.int .u64 2306139568115548160, .int .u64 2, .pointer (zp p4 p6 2)]] w fun e w' => e = .returned (.bool true) ∧ Below w.heap.size w w' := by
  have hB := Boxes.two w 75 63 [.int .u64 2306139568115548160, .int .u64 1, .pointer (zp p4 p6 2), .int .u8 33] [.int .u64 2306139568115548160, .int .u64 2, .pointer (zp p4 p6 2)]
  have henv : ∀ w', Boxes w [(75, [.int .u64 2306139568115548160, .int .u64 1, .pointer (zp p4 p6 2), .int .u8 33]), (63, [.int .u64 2306139568115548160, .int .u64 2, .pointer (zp p4 p6 2)])] w' → Env w' p4 p6 := hE.boxes
  have c0 : ∀ w', Boxes w [(75, [.int .u64 2306139568115548160, .int .u64 1, .pointer (zp p4 p6 2), .int .u8 33]), (63, [.int .u64 2306139568115548160, .int .u64 2, .pointer (zp p4 p6 2)])] w' → w'.cell? ⟨w.heap.size, 0, none⟩ = some (.int .u64 2306139568115548160) := fun w' h => h.cell (i := 0) rfl rfl
  have c1 : ∀ w', Boxes w [(75, [.int .u64 2306139568115548160, .int .u64 1, .pointer (zp p4 p6 2), .int .u8 33]), (63, [.int .u64 2306139568115548160, .int .u64 2, .pointer (zp p4 p6 2)])] w' → w'.cell? ⟨w.heap.size, 1, none⟩ = some (.int .u64 1) := fun w' h => h.cell (i := 0) rfl rfl
  have c2 : ∀ w', Boxes w [(75, [.int .u64 2306139568115548160, .int .u64 1, .pointer (zp p4 p6 2), .int .u8 33]), (63, [.int .u64 2306139568115548160, .int .u64 2, .pointer (zp p4 p6 2)])] w' → w'.cell? ⟨w.heap.size, 2, none⟩ = some (.pointer (zp p4 p6 2)) := fun w' h => h.cell (i := 0) rfl rfl
  have c3 : ∀ w', Boxes w [(75, [.int .u64 2306139568115548160, .int .u64 1, .pointer (zp p4 p6 2), .int .u8 33]), (63, [.int .u64 2306139568115548160, .int .u64 2, .pointer (zp p4 p6 2)])] w' → w'.cell? ⟨w.heap.size, 3, none⟩ = some (.int .u8 33) := fun w' h => h.cell (i := 0) rfl rfl
  have d0 : ∀ w', Boxes w [(75, [.int .u64 2306139568115548160, .int .u64 1, .pointer (zp p4 p6 2), .int .u8 33]), (63, [.int .u64 2306139568115548160, .int .u64 2, .pointer (zp p4 p6 2)])] w' → w'.cell? ⟨w.heap.size + 1, 0, none⟩ = some (.int .u64 2306139568115548160) := fun w' h => h.cell (i := 1) rfl rfl
  have d1 : ∀ w', Boxes w [(75, [.int .u64 2306139568115548160, .int .u64 1, .pointer (zp p4 p6 2), .int .u8 33]), (63, [.int .u64 2306139568115548160, .int .u64 2, .pointer (zp p4 p6 2)])] w' → w'.cell? ⟨w.heap.size + 1, 1, none⟩ = some (.int .u64 2) := fun w' h => h.cell (i := 1) rfl rfl
  have d2 : ∀ w', Boxes w [(75, [.int .u64 2306139568115548160, .int .u64 1, .pointer (zp p4 p6 2), .int .u8 33]), (63, [.int .u64 2306139568115548160, .int .u64 2, .pointer (zp p4 p6 2)])] w' → w'.cell? ⟨w.heap.size + 1, 2, none⟩ = some (.pointer (zp p4 p6 2)) := fun w' h => h.cell (i := 1) rfl rfl
  have HEnv := hide henv
  clear henv
  go_enter Ybad.func42, Ybad.ntmps42
  go_wp2_with fail
  generalize [((75 : TypeId), [Value.int .u64 2306139568115548160, .int .u64 1, .pointer (zp p4 p6 2), .int .u8 33]), (63, [.int .u64 2306139568115548160, .int .u64 2, .pointer (zp p4 p6 2)])] = rows1 at *
  generalize (w.alloc (.cells #[.int .u64 2306139568115548160, .int .u64 1, .pointer (zp p4 p6 2), .int .u8 33] 75)).alloc (.cells #[.int .u64 2306139568115548160, .int .u64 2, .pointer (zp p4 p6 2)] 63) = W at *
  refine (pvalid_calls _ _ _ _ _).mono ?_
  rintro e w1 ⟨rfl, hb1⟩
  have hB1 := Boxes.later hB hb1
  clear hb1
  go_wp2_with fail
  refine (hasZone_calls _ _ p4 p6 2 (by decide) _ (HEnv.out _ hB1)).mono ?_
  rintro e w2 ⟨rfl, hb2⟩
  have hB2 := Boxes.later hB1 hb2
  clear hb2 hB hB1
  go_wp2
  go_region_held3 (fun w' => Boxes w rows1 w') (first | with_reducible assumption | with_reducible exact Boxes.drew hB2) (first | (go_at_call_of 24 (Value.agg #[.int .u64 2306139568115548160, .int .u64 1, .pointer (zp p4 p6 2)]); refine (bitLen_2 2306139568115548160 1 p4 p6 _ (HEnv.out _ (by assumption))).mono ?_; rintro e w3 ⟨rfl, hb3⟩; have hk3 := Boxes.later (rows := rows1) (by assumption) hb3; clear hb3) | (go_at_call_of 24 (Value.agg #[.int .u64 2306139568115548160, .int .u64 2, .pointer (zp p4 p6 2)]); refine (bitLen_2 2306139568115548160 2 p4 p6 _ (HEnv.out _ (by assumption))).mono ?_; rintro e w4 ⟨rfl, hb4⟩; have hk4 := Boxes.later (rows := rows1) (by assumption) hb4; clear hb4))
  rename_i hH
  go_wp2_with fail
  refine (is4_2 _ _ p4 p6 _ (HEnv.out _ hH)).mono ?_
  rintro e w5 ⟨rfl, hb5⟩
  have hB5 := Boxes.later hH hb5
  clear hb5 hH hB2
  go_wp2
  go_region_held3 (fun w' => Boxes w rows1 w') (first | with_reducible assumption | with_reducible exact Boxes.drew hB5) (first | (go_at_call 54; refine (pbits_calls _ _ _ (by decide) (by decide) _ _).mono ?_; rintro e w6 ⟨rfl, hb6⟩; have hk6 := Boxes.later (rows := rows1) (by assumption) hb6; clear hb6) | (go_at_call 55; refine (xor_65 _).mono ?_; rintro e w7 ⟨rfl, hb7⟩; have hk7 := Boxes.later (rows := rows1) (by assumption) hb7; clear hb7) | (go_at_call 57; refine (mask_a _).mono ?_; rintro e w8 ⟨rfl, hb8⟩; have hk8 := Boxes.later (rows := rows1) (by assumption) hb8; clear hb8) | (go_at_call 56; refine (and_6a _).mono ?_; rintro e w9 ⟨rfl, hb9⟩; have hk9 := Boxes.later (rows := rows1) (by assumption) hb9; clear hb9) | (go_at_call 58; refine (zero_y _).mono ?_; rintro e w10 ⟨rfl, hb10⟩; have hk10 := Boxes.later (rows := rows1) (by assumption) hb10; clear hb10))
  rename_i hH
  go_wp2
  go_ret
  exact ⟨rfl, hH.1⟩

set_option maxRecDepth 100000 in
set_option maxHeartbeats 1000000 in
theorem contains_3_2 (p4 p6 : Addr) (w : World) (hE : Env w p4 p6) :
    Calls Ybad.prog 42 #[.agg #[.int .u64 2306139568115548160, .int .u64 1, .pointer (zp p4 p6 2), .int .u8 129], .agg #[.int .u64 0, .int .u64 281470849515521, .pointer (zp p4 p6 1)]] w fun e w' => e = .returned (.bool false) ∧ Below w.heap.size w w' := by
  have hB := Boxes.two w 75 63 [.int .u64 2306139568115548160, .int .u64 1, .pointer (zp p4 p6 2), .int .u8 129] [.int .u64 0, .int .u64 281470849515521, .pointer (zp p4 p6 1)]
  have henv : ∀ w', Boxes w [(75, [.int .u64 2306139568115548160, .int .u64 1, .pointer (zp p4 p6 2), .int .u8 129]), (63, [.int .u64 0, .int .u64 281470849515521, .pointer (zp p4 p6 1)])] w' → Env w' p4 p6 := hE.boxes
  have c0 : ∀ w', Boxes w [(75, [.int .u64 2306139568115548160, .int .u64 1, .pointer (zp p4 p6 2), .int .u8 129]), (63, [.int .u64 0, .int .u64 281470849515521, .pointer (zp p4 p6 1)])] w' → w'.cell? ⟨w.heap.size, 0, none⟩ = some (.int .u64 2306139568115548160) := fun w' h => h.cell (i := 0) rfl rfl
  have c1 : ∀ w', Boxes w [(75, [.int .u64 2306139568115548160, .int .u64 1, .pointer (zp p4 p6 2), .int .u8 129]), (63, [.int .u64 0, .int .u64 281470849515521, .pointer (zp p4 p6 1)])] w' → w'.cell? ⟨w.heap.size, 1, none⟩ = some (.int .u64 1) := fun w' h => h.cell (i := 0) rfl rfl
  have c2 : ∀ w', Boxes w [(75, [.int .u64 2306139568115548160, .int .u64 1, .pointer (zp p4 p6 2), .int .u8 129]), (63, [.int .u64 0, .int .u64 281470849515521, .pointer (zp p4 p6 1)])] w' → w'.cell? ⟨w.heap.size, 2, none⟩ = some (.pointer (zp p4 p6 2)) := fun w' h => h.cell (i := 0) rfl rfl
  have c3 : ∀ w', Boxes w [(75, [.int .u64 2306139568115548160, .int .u64 1, .pointer (zp p4 p6 2), .int .u8 129]), (63, [.int .u64 0, .int .u64 281470849515521, .pointer (zp p4 p6 1)])] w' → w'.cell? ⟨w.heap.size, 3, none⟩ = some (.int .u8 129) := fun w' h => h.cell (i := 0) rfl rfl
  have d0 : ∀ w', Boxes w [(75, [.int .u64 2306139568115548160, .int .u64 1, .pointer (zp p4 p6 2), .int .u8 129]), (63, [.int .u64 0, .int .u64 281470849515521, .pointer (zp p4 p6 1)])] w' → w'.cell? ⟨w.heap.size + 1, 0, none⟩ = some (.int .u64 0) := fun w' h => h.cell (i := 1) rfl rfl
  have d1 : ∀ w', Boxes w [(75, [.int .u64 2306139568115548160, .int .u64 1, .pointer (zp p4 p6 2), .int .u8 129]), (63, [.int .u64 0, .int .u64 281470849515521, .pointer (zp p4 p6 1)])] w' → w'.cell? ⟨w.heap.size + 1, 1, none⟩ = some (.int .u64 281470849515521) := fun w' h => h.cell (i := 1) rfl rfl
  have d2 : ∀ w', Boxes w [(75, [.int .u64 2306139568115548160, .int .u64 1, .pointer (zp p4 p6 2), .int .u8 129]), (63, [.int .u64 0, .int .u64 281470849515521, .pointer (zp p4 p6 1)])] w' → w'.cell? ⟨w.heap.size + 1, 2, none⟩ = some (.pointer (zp p4 p6 1)) := fun w' h => h.cell (i := 1) rfl rfl
  have HEnv := hide henv
  clear henv
  go_enter Ybad.func42, Ybad.ntmps42
  go_wp2_with fail
  generalize [((75 : TypeId), [Value.int .u64 2306139568115548160, .int .u64 1, .pointer (zp p4 p6 2), .int .u8 129]), (63, [.int .u64 0, .int .u64 281470849515521, .pointer (zp p4 p6 1)])] = rows1 at *
  generalize (w.alloc (.cells #[.int .u64 2306139568115548160, .int .u64 1, .pointer (zp p4 p6 2), .int .u8 129] 75)).alloc (.cells #[.int .u64 0, .int .u64 281470849515521, .pointer (zp p4 p6 1)] 63) = W at *
  refine (pvalid_calls _ _ _ _ _).mono ?_
  rintro e w1 ⟨rfl, hb1⟩
  have hB1 := Boxes.later hB hb1
  clear hb1
  go_wp2_with fail
  refine (hasZone_calls _ _ p4 p6 1 (by decide) _ (HEnv.out _ hB1)).mono ?_
  rintro e w2 ⟨rfl, hb2⟩
  have hB2 := Boxes.later hB1 hb2
  clear hb2 hB hB1
  go_wp2
  go_region_held3 (fun w' => Boxes w rows1 w') (first | with_reducible assumption | with_reducible exact Boxes.drew hB2) (first | (go_at_call_of 24 (Value.agg #[.int .u64 2306139568115548160, .int .u64 1, .pointer (zp p4 p6 2)]); refine (bitLen_2 2306139568115548160 1 p4 p6 _ (HEnv.out _ (by assumption))).mono ?_; rintro e w3 ⟨rfl, hb3⟩; have hk3 := Boxes.later (rows := rows1) (by assumption) hb3; clear hb3) | (go_at_call_of 24 (Value.agg #[.int .u64 0, .int .u64 281470849515521, .pointer (zp p4 p6 1)]); refine (bitLen_1 0 281470849515521 p4 p6 _ (HEnv.out _ (by assumption))).mono ?_; rintro e w4 ⟨rfl, hb4⟩; have hk4 := Boxes.later (rows := rows1) (by assumption) hb4; clear hb4))
  rename_i hH
  go_wp2
  go_ret
  exact ⟨rfl, hH.1⟩

set_option maxRecDepth 100000 in
set_option maxHeartbeats 1000000 in
theorem contains_3_3 (p4 p6 : Addr) (w : World) (hE : Env w p4 p6) :
    Calls Ybad.prog 42 #[.agg #[.int .u64 2306139568115548160, .int .u64 1, .pointer (zp p4 p6 2), .int .u8 129], .agg #[.int .u64 0, .int .u64 281470849515522, .pointer (zp p4 p6 1)]] w fun e w' => e = .returned (.bool false) ∧ Below w.heap.size w w' := by
  have hB := Boxes.two w 75 63 [.int .u64 2306139568115548160, .int .u64 1, .pointer (zp p4 p6 2), .int .u8 129] [.int .u64 0, .int .u64 281470849515522, .pointer (zp p4 p6 1)]
  have henv : ∀ w', Boxes w [(75, [.int .u64 2306139568115548160, .int .u64 1, .pointer (zp p4 p6 2), .int .u8 129]), (63, [.int .u64 0, .int .u64 281470849515522, .pointer (zp p4 p6 1)])] w' → Env w' p4 p6 := hE.boxes
  have c0 : ∀ w', Boxes w [(75, [.int .u64 2306139568115548160, .int .u64 1, .pointer (zp p4 p6 2), .int .u8 129]), (63, [.int .u64 0, .int .u64 281470849515522, .pointer (zp p4 p6 1)])] w' → w'.cell? ⟨w.heap.size, 0, none⟩ = some (.int .u64 2306139568115548160) := fun w' h => h.cell (i := 0) rfl rfl
  have c1 : ∀ w', Boxes w [(75, [.int .u64 2306139568115548160, .int .u64 1, .pointer (zp p4 p6 2), .int .u8 129]), (63, [.int .u64 0, .int .u64 281470849515522, .pointer (zp p4 p6 1)])] w' → w'.cell? ⟨w.heap.size, 1, none⟩ = some (.int .u64 1) := fun w' h => h.cell (i := 0) rfl rfl
  have c2 : ∀ w', Boxes w [(75, [.int .u64 2306139568115548160, .int .u64 1, .pointer (zp p4 p6 2), .int .u8 129]), (63, [.int .u64 0, .int .u64 281470849515522, .pointer (zp p4 p6 1)])] w' → w'.cell? ⟨w.heap.size, 2, none⟩ = some (.pointer (zp p4 p6 2)) := fun w' h => h.cell (i := 0) rfl rfl
  have c3 : ∀ w', Boxes w [(75, [.int .u64 2306139568115548160, .int .u64 1, .pointer (zp p4 p6 2), .int .u8 129]), (63, [.int .u64 0, .int .u64 281470849515522, .pointer (zp p4 p6 1)])] w' → w'.cell? ⟨w.heap.size, 3, none⟩ = some (.int .u8 129) := fun w' h => h.cell (i := 0) rfl rfl
  have d0 : ∀ w', Boxes w [(75, [.int .u64 2306139568115548160, .int .u64 1, .pointer (zp p4 p6 2), .int .u8 129]), (63, [.int .u64 0, .int .u64 281470849515522, .pointer (zp p4 p6 1)])] w' → w'.cell? ⟨w.heap.size + 1, 0, none⟩ = some (.int .u64 0) := fun w' h => h.cell (i := 1) rfl rfl
  have d1 : ∀ w', Boxes w [(75, [.int .u64 2306139568115548160, .int .u64 1, .pointer (zp p4 p6 2), .int .u8 129]), (63, [.int .u64 0, .int .u64 281470849515522, .pointer (zp p4 p6 1)])] w' → w'.cell? ⟨w.heap.size + 1, 1, none⟩ = some (.int .u64 281470849515522) := fun w' h => h.cell (i := 1) rfl rfl
  have d2 : ∀ w', Boxes w [(75, [.int .u64 2306139568115548160, .int .u64 1, .pointer (zp p4 p6 2), .int .u8 129]), (63, [.int .u64 0, .int .u64 281470849515522, .pointer (zp p4 p6 1)])] w' → w'.cell? ⟨w.heap.size + 1, 2, none⟩ = some (.pointer (zp p4 p6 1)) := fun w' h => h.cell (i := 1) rfl rfl
  have HEnv := hide henv
  clear henv
  go_enter Ybad.func42, Ybad.ntmps42
  go_wp2_with fail
  generalize [((75 : TypeId), [Value.int .u64 2306139568115548160, .int .u64 1, .pointer (zp p4 p6 2), .int .u8 129]), (63, [.int .u64 0, .int .u64 281470849515522, .pointer (zp p4 p6 1)])] = rows1 at *
  generalize (w.alloc (.cells #[.int .u64 2306139568115548160, .int .u64 1, .pointer (zp p4 p6 2), .int .u8 129] 75)).alloc (.cells #[.int .u64 0, .int .u64 281470849515522, .pointer (zp p4 p6 1)] 63) = W at *
  refine (pvalid_calls _ _ _ _ _).mono ?_
  rintro e w1 ⟨rfl, hb1⟩
  have hB1 := Boxes.later hB hb1
  clear hb1
  go_wp2_with fail
  refine (hasZone_calls _ _ p4 p6 1 (by decide) _ (HEnv.out _ hB1)).mono ?_
  rintro e w2 ⟨rfl, hb2⟩
  have hB2 := Boxes.later hB1 hb2
  clear hb2 hB hB1
  go_wp2
  go_region_held3 (fun w' => Boxes w rows1 w') (first | with_reducible assumption | with_reducible exact Boxes.drew hB2) (first | (go_at_call_of 24 (Value.agg #[.int .u64 2306139568115548160, .int .u64 1, .pointer (zp p4 p6 2)]); refine (bitLen_2 2306139568115548160 1 p4 p6 _ (HEnv.out _ (by assumption))).mono ?_; rintro e w3 ⟨rfl, hb3⟩; have hk3 := Boxes.later (rows := rows1) (by assumption) hb3; clear hb3) | (go_at_call_of 24 (Value.agg #[.int .u64 0, .int .u64 281470849515522, .pointer (zp p4 p6 1)]); refine (bitLen_1 0 281470849515522 p4 p6 _ (HEnv.out _ (by assumption))).mono ?_; rintro e w4 ⟨rfl, hb4⟩; have hk4 := Boxes.later (rows := rows1) (by assumption) hb4; clear hb4))
  rename_i hH
  go_wp2
  go_ret
  exact ⟨rfl, hH.1⟩

set_option maxRecDepth 100000 in
set_option maxHeartbeats 1000000 in
theorem contains_3_5 (p4 p6 : Addr) (w : World) (hE : Env w p4 p6) :
    Calls Ybad.prog 42 #[.agg #[.int .u64 2306139568115548160, .int .u64 1, .pointer (zp p4 p6 2), .int .u8 129], .agg #[.int .u64 2306139568115548160, .int .u64 1, .pointer (zp p4 p6 2)]] w fun e w' => e = .returned (.bool true) ∧ Below w.heap.size w w' := by
  have hB := Boxes.two w 75 63 [.int .u64 2306139568115548160, .int .u64 1, .pointer (zp p4 p6 2), .int .u8 129] [.int .u64 2306139568115548160, .int .u64 1, .pointer (zp p4 p6 2)]
  have henv : ∀ w', Boxes w [(75, [.int .u64 2306139568115548160, .int .u64 1, .pointer (zp p4 p6 2), .int .u8 129]), (63, [.int .u64 2306139568115548160, .int .u64 1, .pointer (zp p4 p6 2)])] w' → Env w' p4 p6 := hE.boxes
  have c0 : ∀ w', Boxes w [(75, [.int .u64 2306139568115548160, .int .u64 1, .pointer (zp p4 p6 2), .int .u8 129]), (63, [.int .u64 2306139568115548160, .int .u64 1, .pointer (zp p4 p6 2)])] w' → w'.cell? ⟨w.heap.size, 0, none⟩ = some (.int .u64 2306139568115548160) := fun w' h => h.cell (i := 0) rfl rfl
  have c1 : ∀ w', Boxes w [(75, [.int .u64 2306139568115548160, .int .u64 1, .pointer (zp p4 p6 2), .int .u8 129]), (63, [.int .u64 2306139568115548160, .int .u64 1, .pointer (zp p4 p6 2)])] w' → w'.cell? ⟨w.heap.size, 1, none⟩ = some (.int .u64 1) := fun w' h => h.cell (i := 0) rfl rfl
  have c2 : ∀ w', Boxes w [(75, [.int .u64 2306139568115548160, .int .u64 1, .pointer (zp p4 p6 2), .int .u8 129]), (63, [.int .u64 2306139568115548160, .int .u64 1, .pointer (zp p4 p6 2)])] w' → w'.cell? ⟨w.heap.size, 2, none⟩ = some (.pointer (zp p4 p6 2)) := fun w' h => h.cell (i := 0) rfl rfl
  have c3 : ∀ w', Boxes w [(75, [.int .u64 2306139568115548160, .int .u64 1, .pointer (zp p4 p6 2), .int .u8 129]), (63, [.int .u64 2306139568115548160, .int .u64 1, .pointer (zp p4 p6 2)])] w' → w'.cell? ⟨w.heap.size, 3, none⟩ = some (.int .u8 129) := fun w' h => h.cell (i := 0) rfl rfl
  have d0 : ∀ w', Boxes w [(75, [.int .u64 2306139568115548160, .int .u64 1, .pointer (zp p4 p6 2), .int .u8 129]), (63, [.int .u64 2306139568115548160, .int .u64 1, .pointer (zp p4 p6 2)])] w' → w'.cell? ⟨w.heap.size + 1, 0, none⟩ = some (.int .u64 2306139568115548160) := fun w' h => h.cell (i := 1) rfl rfl
  have d1 : ∀ w', Boxes w [(75, [.int .u64 2306139568115548160, .int .u64 1, .pointer (zp p4 p6 2), .int .u8 129]), (63, [.int .u64 2306139568115548160, .int .u64 1, .pointer (zp p4 p6 2)])] w' → w'.cell? ⟨w.heap.size + 1, 1, none⟩ = some (.int .u64 1) := fun w' h => h.cell (i := 1) rfl rfl
  have d2 : ∀ w', Boxes w [(75, [.int .u64 2306139568115548160, .int .u64 1, .pointer (zp p4 p6 2), .int .u8 129]), (63, [.int .u64 2306139568115548160, .int .u64 1, .pointer (zp p4 p6 2)])] w' → w'.cell? ⟨w.heap.size + 1, 2, none⟩ = some (.pointer (zp p4 p6 2)) := fun w' h => h.cell (i := 1) rfl rfl
  have HEnv := hide henv
  clear henv
  go_enter Ybad.func42, Ybad.ntmps42
  go_wp2_with fail
  generalize [((75 : TypeId), [Value.int .u64 2306139568115548160, .int .u64 1, .pointer (zp p4 p6 2), .int .u8 129]), (63, [.int .u64 2306139568115548160, .int .u64 1, .pointer (zp p4 p6 2)])] = rows1 at *
  generalize (w.alloc (.cells #[.int .u64 2306139568115548160, .int .u64 1, .pointer (zp p4 p6 2), .int .u8 129] 75)).alloc (.cells #[.int .u64 2306139568115548160, .int .u64 1, .pointer (zp p4 p6 2)] 63) = W at *
  refine (pvalid_calls _ _ _ _ _).mono ?_
  rintro e w1 ⟨rfl, hb1⟩
  have hB1 := Boxes.later hB hb1
  clear hb1
  go_wp2_with fail
  refine (hasZone_calls _ _ p4 p6 2 (by decide) _ (HEnv.out _ hB1)).mono ?_
  rintro e w2 ⟨rfl, hb2⟩
  have hB2 := Boxes.later hB1 hb2
  clear hb2 hB hB1
  go_wp2
  go_region_held3 (fun w' => Boxes w rows1 w') (first | with_reducible assumption | with_reducible exact Boxes.drew hB2) (first | (go_at_call_of 24 (Value.agg #[.int .u64 2306139568115548160, .int .u64 1, .pointer (zp p4 p6 2)]); refine (bitLen_2 2306139568115548160 1 p4 p6 _ (HEnv.out _ (by assumption))).mono ?_; rintro e w3 ⟨rfl, hb3⟩; have hk3 := Boxes.later (rows := rows1) (by assumption) hb3; clear hb3) | (go_at_call_of 24 (Value.agg #[.int .u64 2306139568115548160, .int .u64 1, .pointer (zp p4 p6 2)]); refine (bitLen_2 2306139568115548160 1 p4 p6 _ (HEnv.out _ (by assumption))).mono ?_; rintro e w4 ⟨rfl, hb4⟩; have hk4 := Boxes.later (rows := rows1) (by assumption) hb4; clear hb4))
  rename_i hH
  go_wp2_with fail
  refine (is4_2 _ _ p4 p6 _ (HEnv.out _ hH)).mono ?_
  rintro e w5 ⟨rfl, hb5⟩
  have hB5 := Boxes.later hH hb5
  clear hb5 hH hB2
  go_wp2
  go_region_held3 (fun w' => Boxes w rows1 w') (first | with_reducible assumption | with_reducible exact Boxes.drew hB5) (first | (go_at_call 54; refine (pbits_calls _ _ _ (by decide) (by decide) _ _).mono ?_; rintro e w6 ⟨rfl, hb6⟩; have hk6 := Boxes.later (rows := rows1) (by assumption) hb6; clear hb6) | (go_at_call 55; refine (xor_55 _).mono ?_; rintro e w7 ⟨rfl, hb7⟩; have hk7 := Boxes.later (rows := rows1) (by assumption) hb7; clear hb7) | (go_at_call 57; refine (mask_b _).mono ?_; rintro e w8 ⟨rfl, hb8⟩; have hk8 := Boxes.later (rows := rows1) (by assumption) hb8; clear hb8) | (go_at_call 56; refine (and_5b _).mono ?_; rintro e w9 ⟨rfl, hb9⟩; have hk9 := Boxes.later (rows := rows1) (by assumption) hb9; clear hb9) | (go_at_call 58; refine (zero_y _).mono ?_; rintro e w10 ⟨rfl, hb10⟩; have hk10 := Boxes.later (rows := rows1) (by assumption) hb10; clear hb10))
  rename_i hH
  go_wp2
  go_ret
  exact ⟨rfl, hH.1⟩

set_option maxRecDepth 100000 in
set_option maxHeartbeats 1000000 in
theorem contains_3_6 (p4 p6 : Addr) (w : World) (hE : Env w p4 p6) :
    Calls Ybad.prog 42 #[.agg #[.int .u64 2306139568115548160, .int .u64 1, .pointer (zp p4 p6 2), .int .u8 129], .agg #[.int .u64 2306139568115548160, .int .u64 2, .pointer (zp p4 p6 2)]] w fun e w' => e = .returned (.bool false) ∧ Below w.heap.size w w' := by
  have hB := Boxes.two w 75 63 [.int .u64 2306139568115548160, .int .u64 1, .pointer (zp p4 p6 2), .int .u8 129] [.int .u64 2306139568115548160, .int .u64 2, .pointer (zp p4 p6 2)]
  have henv : ∀ w', Boxes w [(75, [.int .u64 2306139568115548160, .int .u64 1, .pointer (zp p4 p6 2), .int .u8 129]), (63, [.int .u64 2306139568115548160, .int .u64 2, .pointer (zp p4 p6 2)])] w' → Env w' p4 p6 := hE.boxes
  have c0 : ∀ w', Boxes w [(75, [.int .u64 2306139568115548160, .int .u64 1, .pointer (zp p4 p6 2), .int .u8 129]), (63, [.int .u64 2306139568115548160, .int .u64 2, .pointer (zp p4 p6 2)])] w' → w'.cell? ⟨w.heap.size, 0, none⟩ = some (.int .u64 2306139568115548160) := fun w' h => h.cell (i := 0) rfl rfl
  have c1 : ∀ w', Boxes w [(75, [.int .u64 2306139568115548160, .int .u64 1, .pointer (zp p4 p6 2), .int .u8 129]), (63, [.int .u64 2306139568115548160, .int .u64 2, .pointer (zp p4 p6 2)])] w' → w'.cell? ⟨w.heap.size, 1, none⟩ = some (.int .u64 1) := fun w' h => h.cell (i := 0) rfl rfl
  have c2 : ∀ w', Boxes w [(75, [.int .u64 2306139568115548160, .int .u64 1, .pointer (zp p4 p6 2), .int .u8 129]), (63, [.int .u64 2306139568115548160, .int .u64 2, .pointer (zp p4 p6 2)])] w' → w'.cell? ⟨w.heap.size, 2, none⟩ = some (.pointer (zp p4 p6 2)) := fun w' h => h.cell (i := 0) rfl rfl
  have c3 : ∀ w', Boxes w [(75, [.int .u64 2306139568115548160, .int .u64 1, .pointer (zp p4 p6 2), .int .u8 129]), (63, [.int .u64 2306139568115548160, .int .u64 2, .pointer (zp p4 p6 2)])] w' → w'.cell? ⟨w.heap.size, 3, none⟩ = some (.int .u8 129) := fun w' h => h.cell (i := 0) rfl rfl
  have d0 : ∀ w', Boxes w [(75, [.int .u64 2306139568115548160, .int .u64 1, .pointer (zp p4 p6 2), .int .u8 129]), (63, [.int .u64 2306139568115548160, .int .u64 2, .pointer (zp p4 p6 2)])] w' → w'.cell? ⟨w.heap.size + 1, 0, none⟩ = some (.int .u64 2306139568115548160) := fun w' h => h.cell (i := 1) rfl rfl
  have d1 : ∀ w', Boxes w [(75, [.int .u64 2306139568115548160, .int .u64 1, .pointer (zp p4 p6 2), .int .u8 129]), (63, [.int .u64 2306139568115548160, .int .u64 2, .pointer (zp p4 p6 2)])] w' → w'.cell? ⟨w.heap.size + 1, 1, none⟩ = some (.int .u64 2) := fun w' h => h.cell (i := 1) rfl rfl
  have d2 : ∀ w', Boxes w [(75, [.int .u64 2306139568115548160, .int .u64 1, .pointer (zp p4 p6 2), .int .u8 129]), (63, [.int .u64 2306139568115548160, .int .u64 2, .pointer (zp p4 p6 2)])] w' → w'.cell? ⟨w.heap.size + 1, 2, none⟩ = some (.pointer (zp p4 p6 2)) := fun w' h => h.cell (i := 1) rfl rfl
  have HEnv := hide henv
  clear henv
  go_enter Ybad.func42, Ybad.ntmps42
  go_wp2_with fail
  generalize [((75 : TypeId), [Value.int .u64 2306139568115548160, .int .u64 1, .pointer (zp p4 p6 2), .int .u8 129]), (63, [.int .u64 2306139568115548160, .int .u64 2, .pointer (zp p4 p6 2)])] = rows1 at *
  generalize (w.alloc (.cells #[.int .u64 2306139568115548160, .int .u64 1, .pointer (zp p4 p6 2), .int .u8 129] 75)).alloc (.cells #[.int .u64 2306139568115548160, .int .u64 2, .pointer (zp p4 p6 2)] 63) = W at *
  refine (pvalid_calls _ _ _ _ _).mono ?_
  rintro e w1 ⟨rfl, hb1⟩
  have hB1 := Boxes.later hB hb1
  clear hb1
  go_wp2_with fail
  refine (hasZone_calls _ _ p4 p6 2 (by decide) _ (HEnv.out _ hB1)).mono ?_
  rintro e w2 ⟨rfl, hb2⟩
  have hB2 := Boxes.later hB1 hb2
  clear hb2 hB hB1
  go_wp2
  go_region_held3 (fun w' => Boxes w rows1 w') (first | with_reducible assumption | with_reducible exact Boxes.drew hB2) (first | (go_at_call_of 24 (Value.agg #[.int .u64 2306139568115548160, .int .u64 1, .pointer (zp p4 p6 2)]); refine (bitLen_2 2306139568115548160 1 p4 p6 _ (HEnv.out _ (by assumption))).mono ?_; rintro e w3 ⟨rfl, hb3⟩; have hk3 := Boxes.later (rows := rows1) (by assumption) hb3; clear hb3) | (go_at_call_of 24 (Value.agg #[.int .u64 2306139568115548160, .int .u64 2, .pointer (zp p4 p6 2)]); refine (bitLen_2 2306139568115548160 2 p4 p6 _ (HEnv.out _ (by assumption))).mono ?_; rintro e w4 ⟨rfl, hb4⟩; have hk4 := Boxes.later (rows := rows1) (by assumption) hb4; clear hb4))
  rename_i hH
  go_wp2_with fail
  refine (is4_2 _ _ p4 p6 _ (HEnv.out _ hH)).mono ?_
  rintro e w5 ⟨rfl, hb5⟩
  have hB5 := Boxes.later hH hb5
  clear hb5 hH hB2
  go_wp2
  go_region_held3 (fun w' => Boxes w rows1 w') (first | with_reducible assumption | with_reducible exact Boxes.drew hB5) (first | (go_at_call 54; refine (pbits_calls _ _ _ (by decide) (by decide) _ _).mono ?_; rintro e w6 ⟨rfl, hb6⟩; have hk6 := Boxes.later (rows := rows1) (by assumption) hb6; clear hb6) | (go_at_call 55; refine (xor_65 _).mono ?_; rintro e w7 ⟨rfl, hb7⟩; have hk7 := Boxes.later (rows := rows1) (by assumption) hb7; clear hb7) | (go_at_call 57; refine (mask_b _).mono ?_; rintro e w8 ⟨rfl, hb8⟩; have hk8 := Boxes.later (rows := rows1) (by assumption) hb8; clear hb8) | (go_at_call 56; refine (and_6b _).mono ?_; rintro e w9 ⟨rfl, hb9⟩; have hk9 := Boxes.later (rows := rows1) (by assumption) hb9; clear hb9) | (go_at_call 58; refine (zero_n _).mono ?_; rintro e w10 ⟨rfl, hb10⟩; have hk10 := Boxes.later (rows := rows1) (by assumption) hb10; clear hb10))
  rename_i hH
  go_wp2
  go_ret
  exact ⟨rfl, hH.1⟩

set_option maxRecDepth 100000 in
set_option maxHeartbeats 1000000 in
theorem contains_4_2 (p4 p6 : Addr) (w : World) (hE : Env w p4 p6) :
    Calls Ybad.prog 42 #[.agg #[.int .u64 0, .int .u64 0, .pointer (zp p4 p6 0), .int .u8 0], .agg #[.int .u64 0, .int .u64 281470849515521, .pointer (zp p4 p6 1)]] w fun e w' => e = .returned (.bool false) ∧ Below w.heap.size w w' := by
  have hB := Boxes.two w 75 63 [.int .u64 0, .int .u64 0, .pointer (zp p4 p6 0), .int .u8 0] [.int .u64 0, .int .u64 281470849515521, .pointer (zp p4 p6 1)]
  have henv : ∀ w', Boxes w [(75, [.int .u64 0, .int .u64 0, .pointer (zp p4 p6 0), .int .u8 0]), (63, [.int .u64 0, .int .u64 281470849515521, .pointer (zp p4 p6 1)])] w' → Env w' p4 p6 := hE.boxes
  have c0 : ∀ w', Boxes w [(75, [.int .u64 0, .int .u64 0, .pointer (zp p4 p6 0), .int .u8 0]), (63, [.int .u64 0, .int .u64 281470849515521, .pointer (zp p4 p6 1)])] w' → w'.cell? ⟨w.heap.size, 0, none⟩ = some (.int .u64 0) := fun w' h => h.cell (i := 0) rfl rfl
  have c1 : ∀ w', Boxes w [(75, [.int .u64 0, .int .u64 0, .pointer (zp p4 p6 0), .int .u8 0]), (63, [.int .u64 0, .int .u64 281470849515521, .pointer (zp p4 p6 1)])] w' → w'.cell? ⟨w.heap.size, 1, none⟩ = some (.int .u64 0) := fun w' h => h.cell (i := 0) rfl rfl
  have c2 : ∀ w', Boxes w [(75, [.int .u64 0, .int .u64 0, .pointer (zp p4 p6 0), .int .u8 0]), (63, [.int .u64 0, .int .u64 281470849515521, .pointer (zp p4 p6 1)])] w' → w'.cell? ⟨w.heap.size, 2, none⟩ = some (.pointer (zp p4 p6 0)) := fun w' h => h.cell (i := 0) rfl rfl
  have c3 : ∀ w', Boxes w [(75, [.int .u64 0, .int .u64 0, .pointer (zp p4 p6 0), .int .u8 0]), (63, [.int .u64 0, .int .u64 281470849515521, .pointer (zp p4 p6 1)])] w' → w'.cell? ⟨w.heap.size, 3, none⟩ = some (.int .u8 0) := fun w' h => h.cell (i := 0) rfl rfl
  have d0 : ∀ w', Boxes w [(75, [.int .u64 0, .int .u64 0, .pointer (zp p4 p6 0), .int .u8 0]), (63, [.int .u64 0, .int .u64 281470849515521, .pointer (zp p4 p6 1)])] w' → w'.cell? ⟨w.heap.size + 1, 0, none⟩ = some (.int .u64 0) := fun w' h => h.cell (i := 1) rfl rfl
  have d1 : ∀ w', Boxes w [(75, [.int .u64 0, .int .u64 0, .pointer (zp p4 p6 0), .int .u8 0]), (63, [.int .u64 0, .int .u64 281470849515521, .pointer (zp p4 p6 1)])] w' → w'.cell? ⟨w.heap.size + 1, 1, none⟩ = some (.int .u64 281470849515521) := fun w' h => h.cell (i := 1) rfl rfl
  have d2 : ∀ w', Boxes w [(75, [.int .u64 0, .int .u64 0, .pointer (zp p4 p6 0), .int .u8 0]), (63, [.int .u64 0, .int .u64 281470849515521, .pointer (zp p4 p6 1)])] w' → w'.cell? ⟨w.heap.size + 1, 2, none⟩ = some (.pointer (zp p4 p6 1)) := fun w' h => h.cell (i := 1) rfl rfl
  have HEnv := hide henv
  clear henv
  go_enter Ybad.func42, Ybad.ntmps42
  go_wp2_with fail
  generalize [((75 : TypeId), [Value.int .u64 0, .int .u64 0, .pointer (zp p4 p6 0), .int .u8 0]), (63, [.int .u64 0, .int .u64 281470849515521, .pointer (zp p4 p6 1)])] = rows1 at *
  generalize (w.alloc (.cells #[.int .u64 0, .int .u64 0, .pointer (zp p4 p6 0), .int .u8 0] 75)).alloc (.cells #[.int .u64 0, .int .u64 281470849515521, .pointer (zp p4 p6 1)] 63) = W at *
  refine (pvalid_calls _ _ _ _ _).mono ?_
  rintro e w1 ⟨rfl, hb1⟩
  have hB1 := Boxes.later hB hb1
  clear hb1
  have hbb := hB1.1
  go_wp2
  go_ret
  exact ⟨rfl, hbb⟩

set_option maxRecDepth 100000 in
set_option maxHeartbeats 1000000 in
theorem contains_4_3 (p4 p6 : Addr) (w : World) (hE : Env w p4 p6) :
    Calls Ybad.prog 42 #[.agg #[.int .u64 0, .int .u64 0, .pointer (zp p4 p6 0), .int .u8 0], .agg #[.int .u64 0, .int .u64 281470849515522, .pointer (zp p4 p6 1)]] w fun e w' => e = .returned (.bool false) ∧ Below w.heap.size w w' := by
  have hB := Boxes.two w 75 63 [.int .u64 0, .int .u64 0, .pointer (zp p4 p6 0), .int .u8 0] [.int .u64 0, .int .u64 281470849515522, .pointer (zp p4 p6 1)]
  have henv : ∀ w', Boxes w [(75, [.int .u64 0, .int .u64 0, .pointer (zp p4 p6 0), .int .u8 0]), (63, [.int .u64 0, .int .u64 281470849515522, .pointer (zp p4 p6 1)])] w' → Env w' p4 p6 := hE.boxes
  have c0 : ∀ w', Boxes w [(75, [.int .u64 0, .int .u64 0, .pointer (zp p4 p6 0), .int .u8 0]), (63, [.int .u64 0, .int .u64 281470849515522, .pointer (zp p4 p6 1)])] w' → w'.cell? ⟨w.heap.size, 0, none⟩ = some (.int .u64 0) := fun w' h => h.cell (i := 0) rfl rfl
  have c1 : ∀ w', Boxes w [(75, [.int .u64 0, .int .u64 0, .pointer (zp p4 p6 0), .int .u8 0]), (63, [.int .u64 0, .int .u64 281470849515522, .pointer (zp p4 p6 1)])] w' → w'.cell? ⟨w.heap.size, 1, none⟩ = some (.int .u64 0) := fun w' h => h.cell (i := 0) rfl rfl
  have c2 : ∀ w', Boxes w [(75, [.int .u64 0, .int .u64 0, .pointer (zp p4 p6 0), .int .u8 0]), (63, [.int .u64 0, .int .u64 281470849515522, .pointer (zp p4 p6 1)])] w' → w'.cell? ⟨w.heap.size, 2, none⟩ = some (.pointer (zp p4 p6 0)) := fun w' h => h.cell (i := 0) rfl rfl
  have c3 : ∀ w', Boxes w [(75, [.int .u64 0, .int .u64 0, .pointer (zp p4 p6 0), .int .u8 0]), (63, [.int .u64 0, .int .u64 281470849515522, .pointer (zp p4 p6 1)])] w' → w'.cell? ⟨w.heap.size, 3, none⟩ = some (.int .u8 0) := fun w' h => h.cell (i := 0) rfl rfl
  have d0 : ∀ w', Boxes w [(75, [.int .u64 0, .int .u64 0, .pointer (zp p4 p6 0), .int .u8 0]), (63, [.int .u64 0, .int .u64 281470849515522, .pointer (zp p4 p6 1)])] w' → w'.cell? ⟨w.heap.size + 1, 0, none⟩ = some (.int .u64 0) := fun w' h => h.cell (i := 1) rfl rfl
  have d1 : ∀ w', Boxes w [(75, [.int .u64 0, .int .u64 0, .pointer (zp p4 p6 0), .int .u8 0]), (63, [.int .u64 0, .int .u64 281470849515522, .pointer (zp p4 p6 1)])] w' → w'.cell? ⟨w.heap.size + 1, 1, none⟩ = some (.int .u64 281470849515522) := fun w' h => h.cell (i := 1) rfl rfl
  have d2 : ∀ w', Boxes w [(75, [.int .u64 0, .int .u64 0, .pointer (zp p4 p6 0), .int .u8 0]), (63, [.int .u64 0, .int .u64 281470849515522, .pointer (zp p4 p6 1)])] w' → w'.cell? ⟨w.heap.size + 1, 2, none⟩ = some (.pointer (zp p4 p6 1)) := fun w' h => h.cell (i := 1) rfl rfl
  have HEnv := hide henv
  clear henv
  go_enter Ybad.func42, Ybad.ntmps42
  go_wp2_with fail
  generalize [((75 : TypeId), [Value.int .u64 0, .int .u64 0, .pointer (zp p4 p6 0), .int .u8 0]), (63, [.int .u64 0, .int .u64 281470849515522, .pointer (zp p4 p6 1)])] = rows1 at *
  generalize (w.alloc (.cells #[.int .u64 0, .int .u64 0, .pointer (zp p4 p6 0), .int .u8 0] 75)).alloc (.cells #[.int .u64 0, .int .u64 281470849515522, .pointer (zp p4 p6 1)] 63) = W at *
  refine (pvalid_calls _ _ _ _ _).mono ?_
  rintro e w1 ⟨rfl, hb1⟩
  have hB1 := Boxes.later hB hb1
  clear hb1
  have hbb := hB1.1
  go_wp2
  go_ret
  exact ⟨rfl, hbb⟩

set_option maxRecDepth 100000 in
set_option maxHeartbeats 1000000 in
theorem contains_4_5 (p4 p6 : Addr) (w : World) (hE : Env w p4 p6) :
    Calls Ybad.prog 42 #[.agg #[.int .u64 0, .int .u64 0, .pointer (zp p4 p6 0), .int .u8 0], .agg #[.int .u64 2306139568115548160, .int .u64 1, .pointer (zp p4 p6 2)]] w fun e w' => e = .returned (.bool false) ∧ Below w.heap.size w w' := by
  have hB := Boxes.two w 75 63 [.int .u64 0, .int .u64 0, .pointer (zp p4 p6 0), .int .u8 0] [.int .u64 2306139568115548160, .int .u64 1, .pointer (zp p4 p6 2)]
  have henv : ∀ w', Boxes w [(75, [.int .u64 0, .int .u64 0, .pointer (zp p4 p6 0), .int .u8 0]), (63, [.int .u64 2306139568115548160, .int .u64 1, .pointer (zp p4 p6 2)])] w' → Env w' p4 p6 := hE.boxes
  have c0 : ∀ w', Boxes w [(75, [.int .u64 0, .int .u64 0, .pointer (zp p4 p6 0), .int .u8 0]), (63, [.int .u64 2306139568115548160, .int .u64 1, .pointer (zp p4 p6 2)])] w' → w'.cell? ⟨w.heap.size, 0, none⟩ = some (.int .u64 0) := fun w' h => h.cell (i := 0) rfl rfl
  have c1 : ∀ w', Boxes w [(75, [.int .u64 0, .int .u64 0, .pointer (zp p4 p6 0), .int .u8 0]), (63, [.int .u64 2306139568115548160, .int .u64 1, .pointer (zp p4 p6 2)])] w' → w'.cell? ⟨w.heap.size, 1, none⟩ = some (.int .u64 0) := fun w' h => h.cell (i := 0) rfl rfl
  have c2 : ∀ w', Boxes w [(75, [.int .u64 0, .int .u64 0, .pointer (zp p4 p6 0), .int .u8 0]), (63, [.int .u64 2306139568115548160, .int .u64 1, .pointer (zp p4 p6 2)])] w' → w'.cell? ⟨w.heap.size, 2, none⟩ = some (.pointer (zp p4 p6 0)) := fun w' h => h.cell (i := 0) rfl rfl
  have c3 : ∀ w', Boxes w [(75, [.int .u64 0, .int .u64 0, .pointer (zp p4 p6 0), .int .u8 0]), (63, [.int .u64 2306139568115548160, .int .u64 1, .pointer (zp p4 p6 2)])] w' → w'.cell? ⟨w.heap.size, 3, none⟩ = some (.int .u8 0) := fun w' h => h.cell (i := 0) rfl rfl
  have d0 : ∀ w', Boxes w [(75, [.int .u64 0, .int .u64 0, .pointer (zp p4 p6 0), .int .u8 0]), (63, [.int .u64 2306139568115548160, .int .u64 1, .pointer (zp p4 p6 2)])] w' → w'.cell? ⟨w.heap.size + 1, 0, none⟩ = some (.int .u64 2306139568115548160) := fun w' h => h.cell (i := 1) rfl rfl
  have d1 : ∀ w', Boxes w [(75, [.int .u64 0, .int .u64 0, .pointer (zp p4 p6 0), .int .u8 0]), (63, [.int .u64 2306139568115548160, .int .u64 1, .pointer (zp p4 p6 2)])] w' → w'.cell? ⟨w.heap.size + 1, 1, none⟩ = some (.int .u64 1) := fun w' h => h.cell (i := 1) rfl rfl
  have d2 : ∀ w', Boxes w [(75, [.int .u64 0, .int .u64 0, .pointer (zp p4 p6 0), .int .u8 0]), (63, [.int .u64 2306139568115548160, .int .u64 1, .pointer (zp p4 p6 2)])] w' → w'.cell? ⟨w.heap.size + 1, 2, none⟩ = some (.pointer (zp p4 p6 2)) := fun w' h => h.cell (i := 1) rfl rfl
  have HEnv := hide henv
  clear henv
  go_enter Ybad.func42, Ybad.ntmps42
  go_wp2_with fail
  generalize [((75 : TypeId), [Value.int .u64 0, .int .u64 0, .pointer (zp p4 p6 0), .int .u8 0]), (63, [.int .u64 2306139568115548160, .int .u64 1, .pointer (zp p4 p6 2)])] = rows1 at *
  generalize (w.alloc (.cells #[.int .u64 0, .int .u64 0, .pointer (zp p4 p6 0), .int .u8 0] 75)).alloc (.cells #[.int .u64 2306139568115548160, .int .u64 1, .pointer (zp p4 p6 2)] 63) = W at *
  refine (pvalid_calls _ _ _ _ _).mono ?_
  rintro e w1 ⟨rfl, hb1⟩
  have hB1 := Boxes.later hB hb1
  clear hb1
  have hbb := hB1.1
  go_wp2
  go_ret
  exact ⟨rfl, hbb⟩

set_option maxRecDepth 100000 in
set_option maxHeartbeats 1000000 in
theorem contains_4_6 (p4 p6 : Addr) (w : World) (hE : Env w p4 p6) :
    Calls Ybad.prog 42 #[.agg #[.int .u64 0, .int .u64 0, .pointer (zp p4 p6 0), .int .u8 0], .agg #[.int .u64 2306139568115548160, .int .u64 2, .pointer (zp p4 p6 2)]] w fun e w' => e = .returned (.bool false) ∧ Below w.heap.size w w' := by
  have hB := Boxes.two w 75 63 [.int .u64 0, .int .u64 0, .pointer (zp p4 p6 0), .int .u8 0] [.int .u64 2306139568115548160, .int .u64 2, .pointer (zp p4 p6 2)]
  have henv : ∀ w', Boxes w [(75, [.int .u64 0, .int .u64 0, .pointer (zp p4 p6 0), .int .u8 0]), (63, [.int .u64 2306139568115548160, .int .u64 2, .pointer (zp p4 p6 2)])] w' → Env w' p4 p6 := hE.boxes
  have c0 : ∀ w', Boxes w [(75, [.int .u64 0, .int .u64 0, .pointer (zp p4 p6 0), .int .u8 0]), (63, [.int .u64 2306139568115548160, .int .u64 2, .pointer (zp p4 p6 2)])] w' → w'.cell? ⟨w.heap.size, 0, none⟩ = some (.int .u64 0) := fun w' h => h.cell (i := 0) rfl rfl
  have c1 : ∀ w', Boxes w [(75, [.int .u64 0, .int .u64 0, .pointer (zp p4 p6 0), .int .u8 0]), (63, [.int .u64 2306139568115548160, .int .u64 2, .pointer (zp p4 p6 2)])] w' → w'.cell? ⟨w.heap.size, 1, none⟩ = some (.int .u64 0) := fun w' h => h.cell (i := 0) rfl rfl
  have c2 : ∀ w', Boxes w [(75, [.int .u64 0, .int .u64 0, .pointer (zp p4 p6 0), .int .u8 0]), (63, [.int .u64 2306139568115548160, .int .u64 2, .pointer (zp p4 p6 2)])] w' → w'.cell? ⟨w.heap.size, 2, none⟩ = some (.pointer (zp p4 p6 0)) := fun w' h => h.cell (i := 0) rfl rfl
  have c3 : ∀ w', Boxes w [(75, [.int .u64 0, .int .u64 0, .pointer (zp p4 p6 0), .int .u8 0]), (63, [.int .u64 2306139568115548160, .int .u64 2, .pointer (zp p4 p6 2)])] w' → w'.cell? ⟨w.heap.size, 3, none⟩ = some (.int .u8 0) := fun w' h => h.cell (i := 0) rfl rfl
  have d0 : ∀ w', Boxes w [(75, [.int .u64 0, .int .u64 0, .pointer (zp p4 p6 0), .int .u8 0]), (63, [.int .u64 2306139568115548160, .int .u64 2, .pointer (zp p4 p6 2)])] w' → w'.cell? ⟨w.heap.size + 1, 0, none⟩ = some (.int .u64 2306139568115548160) := fun w' h => h.cell (i := 1) rfl rfl
  have d1 : ∀ w', Boxes w [(75, [.int .u64 0, .int .u64 0, .pointer (zp p4 p6 0), .int .u8 0]), (63, [.int .u64 2306139568115548160, .int .u64 2, .pointer (zp p4 p6 2)])] w' → w'.cell? ⟨w.heap.size + 1, 1, none⟩ = some (.int .u64 2) := fun w' h => h.cell (i := 1) rfl rfl
  have d2 : ∀ w', Boxes w [(75, [.int .u64 0, .int .u64 0, .pointer (zp p4 p6 0), .int .u8 0]), (63, [.int .u64 2306139568115548160, .int .u64 2, .pointer (zp p4 p6 2)])] w' → w'.cell? ⟨w.heap.size + 1, 2, none⟩ = some (.pointer (zp p4 p6 2)) := fun w' h => h.cell (i := 1) rfl rfl
  have HEnv := hide henv
  clear henv
  go_enter Ybad.func42, Ybad.ntmps42
  go_wp2_with fail
  generalize [((75 : TypeId), [Value.int .u64 0, .int .u64 0, .pointer (zp p4 p6 0), .int .u8 0]), (63, [.int .u64 2306139568115548160, .int .u64 2, .pointer (zp p4 p6 2)])] = rows1 at *
  generalize (w.alloc (.cells #[.int .u64 0, .int .u64 0, .pointer (zp p4 p6 0), .int .u8 0] 75)).alloc (.cells #[.int .u64 2306139568115548160, .int .u64 2, .pointer (zp p4 p6 2)] 63) = W at *
  refine (pvalid_calls _ _ _ _ _).mono ?_
  rintro e w1 ⟨rfl, hb1⟩
  have hB1 := Boxes.later hB hb1
  clear hb1
  have hbb := hB1.1
  go_wp2
  go_ret
  exact ⟨rfl, hbb⟩

theorem contains_calls (p k : Int) (h0 : 0 ≤ p) (h1 : p ≤ 4) (hk : k = 2 ∨ k = 3 ∨ k = 5 ∨ k = 6) (p4 p6 : Addr) (w : World) (hE : Env w p4 p6) :
    Calls Ybad.prog 42 #[.agg #[.int .u64 (hiK (kP p)), .int .u64 (loK (kP p)), .pointer (zp p4 p6 (zK (kP p))), .int .u8 (bP p)], .agg #[.int .u64 (hiK k), .int .u64 (loK k), .pointer (zp p4 p6 (zK k))]] w fun e w' => e = .returned (.bool (containsB p k)) ∧ Below w.heap.size w w' := by
  have hp : p = 0 ∨ p = 1 ∨ p = 2 ∨ p = 3 ∨ p = 4 := by omega
  rcases hp with rfl | rfl | rfl | rfl | rfl <;> rcases hk with rfl | rfl | rfl | rfl
  · exact contains_0_2 p4 p6 w hE
  · exact contains_0_3 p4 p6 w hE
  · exact contains_0_5 p4 p6 w hE
  · exact contains_0_6 p4 p6 w hE
  · exact contains_1_2 p4 p6 w hE
  · exact contains_1_3 p4 p6 w hE
  · exact contains_1_5 p4 p6 w hE
  · exact contains_1_6 p4 p6 w hE
  · exact contains_2_2 p4 p6 w hE
  · exact contains_2_3 p4 p6 w hE
  · exact contains_2_5 p4 p6 w hE
  · exact contains_2_6 p4 p6 w hE
  · exact contains_3_2 p4 p6 w hE
  · exact contains_3_3 p4 p6 w hE
  · exact contains_3_5 p4 p6 w hE
  · exact contains_3_6 p4 p6 w hE
  · exact contains_4_2 p4 p6 w hE
  · exact contains_4_3 p4 p6 w hE
  · exact contains_4_5 p4 p6 w hE
  · exact contains_4_6 p4 p6 w hE
end Go.Proofs.YbulkdxjmDoor

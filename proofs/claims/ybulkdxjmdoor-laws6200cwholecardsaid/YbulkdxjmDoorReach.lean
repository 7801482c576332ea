/-
  'reachable' (28) AND WHAT IT CALLS: (AddrPort).Addr (36), .IsValid (35), .Port (39), IPv4Unspecified (48), IPv6Unspecified (49), (Addr).IsUnspecified (37), .Is4In6 (38).
-/
import Derived.Test.YbulkdxjmDoorPrefixes
namespace Go.Proofs.YbulkdxjmDoor
open Go.RowKit
set_option linter.unusedVariables false

theorem apAddr_calls (hi lo po : Int) (z : Option Addr) (w : World) :
    Calls Ybad.prog 36 #[.agg #[.int .u64 hi, .int .u64 lo, .pointer z, .int .u16 po]] w fun e w' => e = .returned (.agg #[.int .u64 hi, .int .u64 lo, .pointer z]) ∧ Below w.heap.size w w' := by
  go_enter Ybad.func36, Ybad.ntmps36
  go_wp2
  go_returns
  exact ⟨rfl, by go_grown⟩
theorem apPort_calls (hi lo po : Int) (z : Option Addr) (w : World) :
    Calls Ybad.prog 39 #[.agg #[.int .u64 hi, .int .u64 lo, .pointer z, .int .u16 po]] w fun e w' => e = .returned (.int .u16 po) ∧ Below w.heap.size w w' := by
  go_enter Ybad.func39, Ybad.ntmps39
  go_wp2
  go_ret
  exact ⟨rfl, by go_grown⟩
theorem apIsValid_calls (hi lo po : Int) (p4 p6 : Addr) (z : Nat) (hz : z ≤ 2) (w : World) (hE : Env w p4 p6) :
    Calls Ybad.prog 35 #[.agg #[.int .u64 hi, .int .u64 lo, .pointer (zp p4 p6 z), .int .u16 po]] w fun e w' => e = .returned (.bool (!(z == 0))) ∧ Below w.heap.size w w' := by
  have hB := Boxes.one w 65 [.int .u64 hi, .int .u64 lo, .pointer (zp p4 p6 z), .int .u16 po]
  have hE1 := hE.boxes _ hB
  go_enter Ybad.func35, Ybad.ntmps35
  go_wp2_with fail
  refine (isValid_calls hi lo p4 p6 z hz _ hE1).mono ?_
  rintro e w1 ⟨rfl, hb1⟩
  have hB1 := hB.later hb1
  have hbb := hB1.1
  clear hb1 hB1 hB hE1
  go_wp2
  go_ret
  exact ⟨rfl, by go_grown⟩
theorem unspec4_calls (p4 p6 : Addr) (w : World) (hE : Env w p4 p6) :
    Calls Ybad.prog 48 #[] w fun e w' => e = .returned (.agg #[.int .u64 0, .int .u64 281470681743360, .pointer (zp p4 p6 1)]) ∧ Below w.heap.size w w' := by
  have hB := Boxes.one w 63 [.int .u64 0, .int .u64 0, .pointer none]
  have hE1 := hE.boxes _ hB
  go_enter Ybad.func48, Ybad.ntmps48
  go_wp2_with fail
  refine (from4_0 p4 p6 _ hE1).mono ?_
  rintro e w1 ⟨rfl, hb1⟩
  have hB1 := hB.later hb1
  obtain ⟨hc, hf⟩ := hB1.res (i := 0) rfl
  simp only [Nat.add_zero] at hc hf
  have c0 := hc 0 _ rfl
  have c1 := hc 1 _ rfl
  have c2 := hc 2 _ rfl
  have hbb := hB1.1
  clear hc hb1 hB1 hB hE1
  go_wp2
  refine bodyPost_ret (v := (.agg #[.int .u64 0, .int .u64 281470681743360, .pointer (zp p4 p6 1)])) (by simp [results, Ybad.results48, go_sem, c0, c1, c2]) rfl ⟨rfl, by go_grown⟩
theorem unspec6_calls (p4 p6 : Addr) (w : World) (hE : Env w p4 p6) :
    Calls Ybad.prog 49 #[] w fun e w' => e = .returned (.agg #[.int .u64 0, .int .u64 0, .pointer (zp p4 p6 2)]) ∧ Below w.heap.size w w' := by
  have hB := Boxes.one w 63 [.int .u64 0, .int .u64 0, .pointer none]
  have gz : (w.alloc (.cells #[.int .u64 0, .int .u64 0, .pointer none] 63)).cell? ⟨2, 0, none⟩ = some (.pointer (zp p4 p6 2)) := (hE.boxes _ hB).z6
  obtain ⟨hc, hf⟩ := hB.res (i := 0) rfl
  simp only [Nat.add_zero] at hc hf
  have c0 := hc 0 _ rfl
  have c1 := hc 1 _ rfl
  have c2 := hc 2 _ rfl
  have hbb := hB.1
  clear hc hB
  go_enter Ybad.func49, Ybad.ntmps49
  go_wp2
  refine bodyPost_ret (v := (.agg #[.int .u64 0, .int .u64 0, .pointer (zp p4 p6 2)])) (by simp [results, Ybad.results49, go_sem]) rfl ⟨rfl, by go_grown⟩

set_option maxRecDepth 100000 in
theorem is4in6_calls (k : Int) (h0 : 1 ≤ k) (h1 : k ≤ 6) (p4 p6 : Addr) (w : World) (hE : Env w p4 p6) :
    Calls Ybad.prog 38 #[.agg #[.int .u64 (hiK k), .int .u64 (loK k), .pointer (zp p4 p6 (zK k))]] w fun e w' => e = .returned (.bool (k == 4)) ∧ Below w.heap.size w w' := by
  have hk : k = 1 ∨ k = 2 ∨ k = 3 ∨ k = 4 ∨ k = 5 ∨ k = 6 := by omega
  rcases hk with rfl | rfl | rfl | rfl | rfl | rfl
  · show Calls Ybad.prog 38 #[.agg #[.int .u64 0, .int .u64 281470681743360, .pointer (zp p4 p6 1)]] w _
    have hB := Boxes.one w 63 [.int .u64 0, .int .u64 281470681743360, .pointer (zp p4 p6 1)]
    have hE1 := hE.boxes _ hB
    go_enter Ybad.func38, Ybad.ntmps38
    go_wp2_with fail
    refine (is6_calls 0 281470681743360 p4 p6 1 (by decide) _ hE1).mono ?_
    rintro e w1 ⟨rfl, hb1⟩
    have hB1 := hB.later hb1
    obtain ⟨hc, hf⟩ := hB1.res (i := 0) rfl
    simp only [Nat.add_zero] at hc hf
    have c0 := hc 0 _ rfl
    have c1 := hc 1 _ rfl
    have c2 := hc 2 _ rfl
    have hbb := hB1.1
    clear hc hb1 hB1 hB hE1
    go_wp2
    go_ret
    exact ⟨rfl, by go_grown⟩
  · show Calls Ybad.prog 38 #[.agg #[.int .u64 0, .int .u64 281470849515521, .pointer (zp p4 p6 1)]] w _
    have hB := Boxes.one w 63 [.int .u64 0, .int .u64 281470849515521, .pointer (zp p4 p6 1)]
    have hE1 := hE.boxes _ hB
    go_enter Ybad.func38, Ybad.ntmps38
    go_wp2_with fail
    refine (is6_calls 0 281470849515521 p4 p6 1 (by decide) _ hE1).mono ?_
    rintro e w1 ⟨rfl, hb1⟩
    have hB1 := hB.later hb1
    obtain ⟨hc, hf⟩ := hB1.res (i := 0) rfl
    simp only [Nat.add_zero] at hc hf
    have c0 := hc 0 _ rfl
    have c1 := hc 1 _ rfl
    have c2 := hc 2 _ rfl
    have hbb := hB1.1
    clear hc hb1 hB1 hB hE1
    go_wp2
    go_ret
    exact ⟨rfl, by go_grown⟩
  · show Calls Ybad.prog 38 #[.agg #[.int .u64 0, .int .u64 281470849515522, .pointer (zp p4 p6 1)]] w _
    have hB := Boxes.one w 63 [.int .u64 0, .int .u64 281470849515522, .pointer (zp p4 p6 1)]
    have hE1 := hE.boxes _ hB
    go_enter Ybad.func38, Ybad.ntmps38
    go_wp2_with fail
    refine (is6_calls 0 281470849515522 p4 p6 1 (by decide) _ hE1).mono ?_
    rintro e w1 ⟨rfl, hb1⟩
    have hB1 := hB.later hb1
    obtain ⟨hc, hf⟩ := hB1.res (i := 0) rfl
    simp only [Nat.add_zero] at hc hf
    have c0 := hc 0 _ rfl
    have c1 := hc 1 _ rfl
    have c2 := hc 2 _ rfl
    have hbb := hB1.1
    clear hc hb1 hB1 hB hE1
    go_wp2
    go_ret
    exact ⟨rfl, by go_grown⟩
  · show Calls Ybad.prog 38 #[.agg #[.int .u64 0, .int .u64 281470849515521, .pointer (zp p4 p6 2)]] w _
    have hB := Boxes.one w 63 [.int .u64 0, .int .u64 281470849515521, .pointer (zp p4 p6 2)]
    have hE1 := hE.boxes _ hB
    go_enter Ybad.func38, Ybad.ntmps38
    go_wp2_with fail
    refine (is6_calls 0 281470849515521 p4 p6 2 (by decide) _ hE1).mono ?_
    rintro e w1 ⟨rfl, hb1⟩
    have hB1 := hB.later hb1
    obtain ⟨hc, hf⟩ := hB1.res (i := 0) rfl
    simp only [Nat.add_zero] at hc hf
    have c0 := hc 0 _ rfl
    have c1 := hc 1 _ rfl
    have c2 := hc 2 _ rfl
    have hbb := hB1.1
    clear hc hb1 hB1 hB hE1
    go_wp2
    go_ret
    exact ⟨rfl, by go_grown⟩
  · show Calls Ybad.prog 38 #[.agg #[.int .u64 2306139568115548160, .int .u64 1, .pointer (zp p4 p6 2)]] w _
    have hB := Boxes.one w 63 [.int .u64 2306139568115548160, .int .u64 1, .pointer (zp p4 p6 2)]
    have hE1 := hE.boxes _ hB
    go_enter Ybad.func38, Ybad.ntmps38
    go_wp2_with fail
    refine (is6_calls 2306139568115548160 1 p4 p6 2 (by decide) _ hE1).mono ?_
    rintro e w1 ⟨rfl, hb1⟩
    have hB1 := hB.later hb1
    obtain ⟨hc, hf⟩ := hB1.res (i := 0) rfl
    simp only [Nat.add_zero] at hc hf
    have c0 := hc 0 _ rfl
    have c1 := hc 1 _ rfl
    have c2 := hc 2 _ rfl
    have hbb := hB1.1
    clear hc hb1 hB1 hB hE1
    go_wp2
    go_ret
    exact ⟨rfl, by go_grown⟩
  · show Calls Ybad.prog 38 #[.agg #[.int .u64 2306139568115548160, .int .u64 2, .pointer (zp p4 p6 2)]] w _
    have hB := Boxes.one w 63 [.int .u64 2306139568115548160, .int .u64 2, .pointer (zp p4 p6 2)]
    have hE1 := hE.boxes _ hB
    go_enter Ybad.func38, Ybad.ntmps38
    go_wp2_with fail
    refine (is6_calls 2306139568115548160 2 p4 p6 2 (by decide) _ hE1).mono ?_
    rintro e w1 ⟨rfl, hb1⟩
    have hB1 := hB.later hb1
    obtain ⟨hc, hf⟩ := hB1.res (i := 0) rfl
    simp only [Nat.add_zero] at hc hf
    have c0 := hc 0 _ rfl
    have c1 := hc 1 _ rfl
    have c2 := hc 2 _ rfl
    have hbb := hB1.1
    clear hc hb1 hB1 hB hE1
    go_wp2
    go_ret
    exact ⟨rfl, by go_grown⟩

set_option maxRecDepth 100000 in
set_option maxHeartbeats 1000000 in
theorem isUnspec_calls (k : Int) (h0 : 1 ≤ k) (h1 : k ≤ 6) (p4 p6 : Addr) (w : World) (hE : Env w p4 p6) :
    Calls Ybad.prog 37 #[.agg #[.int .u64 (hiK k), .int .u64 (loK k), .pointer (zp p4 p6 (zK k))]] w fun e w' => e = .returned (.bool (k == 1)) ∧ Below w.heap.size w w' := by
  have hk : k = 1 ∨ k = 2 ∨ k = 3 ∨ k = 4 ∨ k = 5 ∨ k = 6 := by omega
  rcases hk with rfl | rfl | rfl | rfl | rfl | rfl
  · show Calls Ybad.prog 37 #[.agg #[.int .u64 0, .int .u64 281470681743360, .pointer (zp p4 p6 1)]] w _
    have hB := Boxes.one w 63 [.int .u64 0, .int .u64 281470681743360, .pointer (zp p4 p6 1)]
    have henv : ∀ w', Boxes w [(63, [.int .u64 0, .int .u64 281470681743360, .pointer (zp p4 p6 1)])] w' → Env w' p4 p6 := hE.boxes
    have e1 := eq_rule henv 1 1 (by decide) (by decide)
    have e2 := eq_rule henv 1 2 (by decide) (by decide)
    have c0 : ∀ w', Boxes w [(63, [.int .u64 0, .int .u64 281470681743360, .pointer (zp p4 p6 1)])] w' → w'.cell? ⟨w.heap.size, 0, none⟩ = some (.int .u64 0) := fun w' h => h.cell (i := 0) rfl rfl
    have c1 : ∀ w', Boxes w [(63, [.int .u64 0, .int .u64 281470681743360, .pointer (zp p4 p6 1)])] w' → w'.cell? ⟨w.heap.size, 1, none⟩ = some (.int .u64 281470681743360) := fun w' h => h.cell (i := 0) rfl rfl
    have c2 : ∀ w', Boxes w [(63, [.int .u64 0, .int .u64 281470681743360, .pointer (zp p4 p6 1)])] w' → w'.cell? ⟨w.heap.size, 2, none⟩ = some (.pointer (zp p4 p6 1)) := fun w' h => h.cell (i := 0) rfl rfl
    have HEnv := hide henv
    clear henv
    go_enter Ybad.func37, Ybad.ntmps37
    go_wp2
    generalize [((63 : TypeId), [Value.int .u64 0, .int .u64 281470681743360, .pointer (zp p4 p6 1)])] = rows1 at *
    generalize (w.alloc (.cells #[.int .u64 0, .int .u64 281470681743360, .pointer (zp p4 p6 1)] 63)) = W at *
    go_region_with (first | (go_at_call 48; refine (unspec4_calls p4 p6 _ (HEnv.out _ (by with_reducible first | assumption | exact Boxes.drew hB))).mono ?_; rintro e w1 ⟨rfl, hb1⟩; have hk1 := Boxes.later (rows := rows1) (by with_reducible first | assumption | exact Boxes.drew hB) hb1; clear hb1))
    all_goals (go_wp2; go_ret; exact ⟨rfl, hk1.1⟩)
  · show Calls Ybad.prog 37 #[.agg #[.int .u64 0, .int .u64 281470849515521, .pointer (zp p4 p6 1)]] w _
    have hB := Boxes.one w 63 [.int .u64 0, .int .u64 281470849515521, .pointer (zp p4 p6 1)]
    have henv : ∀ w', Boxes w [(63, [.int .u64 0, .int .u64 281470849515521, .pointer (zp p4 p6 1)])] w' → Env w' p4 p6 := hE.boxes
    have e1 := eq_rule henv 1 1 (by decide) (by decide)
    have e2 := eq_rule henv 1 2 (by decide) (by decide)
    have c0 : ∀ w', Boxes w [(63, [.int .u64 0, .int .u64 281470849515521, .pointer (zp p4 p6 1)])] w' → w'.cell? ⟨w.heap.size, 0, none⟩ = some (.int .u64 0) := fun w' h => h.cell (i := 0) rfl rfl
    have c1 : ∀ w', Boxes w [(63, [.int .u64 0, .int .u64 281470849515521, .pointer (zp p4 p6 1)])] w' → w'.cell? ⟨w.heap.size, 1, none⟩ = some (.int .u64 281470849515521) := fun w' h => h.cell (i := 0) rfl rfl
    have c2 : ∀ w', Boxes w [(63, [.int .u64 0, .int .u64 281470849515521, .pointer (zp p4 p6 1)])] w' → w'.cell? ⟨w.heap.size, 2, none⟩ = some (.pointer (zp p4 p6 1)) := fun w' h => h.cell (i := 0) rfl rfl
    have HEnv := hide henv
    clear henv
    go_enter Ybad.func37, Ybad.ntmps37
    go_wp2
    generalize [((63 : TypeId), [Value.int .u64 0, .int .u64 281470849515521, .pointer (zp p4 p6 1)])] = rows1 at *
    generalize (w.alloc (.cells #[.int .u64 0, .int .u64 281470849515521, .pointer (zp p4 p6 1)] 63)) = W at *
    go_region_held3 (fun w' => Boxes w rows1 w') (first | with_reducible assumption | with_reducible exact Boxes.drew hB) (first | (go_at_call 48; refine (unspec4_calls p4 p6 _ (HEnv.out _ (by assumption))).mono ?_; rintro e w1 ⟨rfl, hb1⟩; have hk1 := Boxes.later (rows := rows1) (by assumption) hb1; clear hb1) | (go_at_call 49; refine (unspec6_calls p4 p6 _ (HEnv.out _ (by assumption))).mono ?_; rintro e w2 ⟨rfl, hb2⟩; have hk2 := Boxes.later (rows := rows1) (by assumption) hb2; clear hb2))
    all_goals (go_wp2; go_ret; exact ⟨rfl, hk2.1⟩)
  · show Calls Ybad.prog 37 #[.agg #[.int .u64 0, .int .u64 281470849515522, .pointer (zp p4 p6 1)]] w _
    have hB := Boxes.one w 63 [.int .u64 0, .int .u64 281470849515522, .pointer (zp p4 p6 1)]
    have henv : ∀ w', Boxes w [(63, [.int .u64 0, .int .u64 281470849515522, .pointer (zp p4 p6 1)])] w' → Env w' p4 p6 := hE.boxes
    have e1 := eq_rule henv 1 1 (by decide) (by decide)
    have e2 := eq_rule henv 1 2 (by decide) (by decide)
    have c0 : ∀ w', Boxes w [(63, [.int .u64 0, .int .u64 281470849515522, .pointer (zp p4 p6 1)])] w' → w'.cell? ⟨w.heap.size, 0, none⟩ = some (.int .u64 0) := fun w' h => h.cell (i := 0) rfl rfl
    have c1 : ∀ w', Boxes w [(63, [.int .u64 0, .int .u64 281470849515522, .pointer (zp p4 p6 1)])] w' → w'.cell? ⟨w.heap.size, 1, none⟩ = some (.int .u64 281470849515522) := fun w' h => h.cell (i := 0) rfl rfl
    have c2 : ∀ w', Boxes w [(63, [.int .u64 0, .int .u64 281470849515522, .pointer (zp p4 p6 1)])] w' → w'.cell? ⟨w.heap.size, 2, none⟩ = some (.pointer (zp p4 p6 1)) := fun w' h => h.cell (i := 0) rfl rfl
    have HEnv := hide henv
    clear henv
    go_enter Ybad.func37, Ybad.ntmps37
    go_wp2
    generalize [((63 : TypeId), [Value.int .u64 0, .int .u64 281470849515522, .pointer (zp p4 p6 1)])] = rows1 at *
    generalize (w.alloc (.cells #[.int .u64 0, .int .u64 281470849515522, .pointer (zp p4 p6 1)] 63)) = W at *
    go_region_held3 (fun w' => Boxes w rows1 w') (first | with_reducible assumption | with_reducible exact Boxes.drew hB) (first | (go_at_call 48; refine (unspec4_calls p4 p6 _ (HEnv.out _ (by assumption))).mono ?_; rintro e w1 ⟨rfl, hb1⟩; have hk1 := Boxes.later (rows := rows1) (by assumption) hb1; clear hb1) | (go_at_call 49; refine (unspec6_calls p4 p6 _ (HEnv.out _ (by assumption))).mono ?_; rintro e w2 ⟨rfl, hb2⟩; have hk2 := Boxes.later (rows := rows1) (by assumption) hb2; clear hb2))
    all_goals (go_wp2; go_ret; exact ⟨rfl, hk2.1⟩)
  · show Calls Ybad.prog 37 #[.agg #[.int .u64 0, .int .u64 281470849515521, .pointer (zp p4 p6 2)]] w _
    have hB := Boxes.one w 63 [.int .u64 0, .int .u64 281470849515521, .pointer (zp p4 p6 2)]
    have henv : ∀ w', Boxes w [(63, [.int .u64 0, .int .u64 281470849515521, .pointer (zp p4 p6 2)])] w' → Env w' p4 p6 := hE.boxes
    have e1 := eq_rule henv 2 1 (by decide) (by decide)
    have e2 := eq_rule henv 2 2 (by decide) (by decide)
    have c0 : ∀ w', Boxes w [(63, [.int .u64 0, .int .u64 281470849515521, .pointer (zp p4 p6 2)])] w' → w'.cell? ⟨w.heap.size, 0, none⟩ = some (.int .u64 0) := fun w' h => h.cell (i := 0) rfl rfl
    have c1 : ∀ w', Boxes w [(63, [.int .u64 0, .int .u64 281470849515521, .pointer (zp p4 p6 2)])] w' → w'.cell? ⟨w.heap.size, 1, none⟩ = some (.int .u64 281470849515521) := fun w' h => h.cell (i := 0) rfl rfl
    have c2 : ∀ w', Boxes w [(63, [.int .u64 0, .int .u64 281470849515521, .pointer (zp p4 p6 2)])] w' → w'.cell? ⟨w.heap.size, 2, none⟩ = some (.pointer (zp p4 p6 2)) := fun w' h => h.cell (i := 0) rfl rfl
    have HEnv := hide henv
    clear henv
    go_enter Ybad.func37, Ybad.ntmps37
    go_wp2
    generalize [((63 : TypeId), [Value.int .u64 0, .int .u64 281470849515521, .pointer (zp p4 p6 2)])] = rows1 at *
    generalize (w.alloc (.cells #[.int .u64 0, .int .u64 281470849515521, .pointer (zp p4 p6 2)] 63)) = W at *
    go_region_held3 (fun w' => Boxes w rows1 w') (first | with_reducible assumption | with_reducible exact Boxes.drew hB) (first | (go_at_call 48; refine (unspec4_calls p4 p6 _ (HEnv.out _ (by assumption))).mono ?_; rintro e w1 ⟨rfl, hb1⟩; have hk1 := Boxes.later (rows := rows1) (by assumption) hb1; clear hb1) | (go_at_call 49; refine (unspec6_calls p4 p6 _ (HEnv.out _ (by assumption))).mono ?_; rintro e w2 ⟨rfl, hb2⟩; have hk2 := Boxes.later (rows := rows1) (by assumption) hb2; clear hb2))
    all_goals (go_wp2; go_ret; exact ⟨rfl, hk2.1⟩)
  · show Calls Ybad.prog 37 #[.agg #[.int .u64 2306139568115548160, .int .u64 1, .pointer (zp p4 p6 2)]] w _
    have hB := Boxes.one w 63 [.int .u64 2306139568115548160, .int .u64 1, .pointer (zp p4 p6 2)]
    have henv : ∀ w', Boxes w [(63, [.int .u64 2306139568115548160, .int .u64 1, .pointer (zp p4 p6 2)])] w' → Env w' p4 p6 := hE.boxes
    have e1 := eq_rule henv 2 1 (by decide) (by decide)
    have e2 := eq_rule henv 2 2 (by decide) (by decide)
    have c0 : ∀ w', Boxes w [(63, [.int .u64 2306139568115548160, .int .u64 1, .pointer (zp p4 p6 2)])] w' → w'.cell? ⟨w.heap.size, 0, none⟩ = some (.int .u64 2306139568115548160) := fun w' h => h.cell (i := 0) rfl rfl
    have c1 : ∀ w', Boxes w [(63, [.int .u64 2306139568115548160, .int .u64 1, .pointer (zp p4 p6 2)])] w' → w'.cell? ⟨w.heap.size, 1, none⟩ = some (.int .u64 1) := fun w' h => h.cell (i := 0) rfl rfl
    have c2 : ∀ w', Boxes w [(63, [.int .u64 2306139568115548160, .int .u64 1, .pointer (zp p4 p6 2)])] w' → w'.cell? ⟨w.heap.size, 2, none⟩ = some (.pointer (zp p4 p6 2)) := fun w' h => h.cell (i := 0) rfl rfl
    have HEnv := hide henv
    clear henv
    go_enter Ybad.func37, Ybad.ntmps37
    go_wp2
    generalize [((63 : TypeId), [Value.int .u64 2306139568115548160, .int .u64 1, .pointer (zp p4 p6 2)])] = rows1 at *
    generalize (w.alloc (.cells #[.int .u64 2306139568115548160, .int .u64 1, .pointer (zp p4 p6 2)] 63)) = W at *
    go_region_held3 (fun w' => Boxes w rows1 w') (first | with_reducible assumption | with_reducible exact Boxes.drew hB) (first | (go_at_call 48; refine (unspec4_calls p4 p6 _ (HEnv.out _ (by assumption))).mono ?_; rintro e w1 ⟨rfl, hb1⟩; have hk1 := Boxes.later (rows := rows1) (by assumption) hb1; clear hb1) | (go_at_call 49; refine (unspec6_calls p4 p6 _ (HEnv.out _ (by assumption))).mono ?_; rintro e w2 ⟨rfl, hb2⟩; have hk2 := Boxes.later (rows := rows1) (by assumption) hb2; clear hb2))
    all_goals (go_wp2; go_ret; exact ⟨rfl, hk2.1⟩)
  · show Calls Ybad.prog 37 #[.agg #[.int .u64 2306139568115548160, .int .u64 2, .pointer (zp p4 p6 2)]] w _
    have hB := Boxes.one w 63 [.int .u64 2306139568115548160, .int .u64 2, .pointer (zp p4 p6 2)]
    have henv : ∀ w', Boxes w [(63, [.int .u64 2306139568115548160, .int .u64 2, .pointer (zp p4 p6 2)])] w' → Env w' p4 p6 := hE.boxes
    have e1 := eq_rule henv 2 1 (by decide) (by decide)
    have e2 := eq_rule henv 2 2 (by decide) (by decide)
    have c0 : ∀ w', Boxes w [(63, [.int .u64 2306139568115548160, .int .u64 2, .pointer (zp p4 p6 2)])] w' → w'.cell? ⟨w.heap.size, 0, none⟩ = some (.int .u64 2306139568115548160) := fun w' h => h.cell (i := 0) rfl rfl
    have c1 : ∀ w', Boxes w [(63, [.int .u64 2306139568115548160, .int .u64 2, .pointer (zp p4 p6 2)])] w' → w'.cell? ⟨w.heap.size, 1, none⟩ = some (.int .u64 2) := fun w' h => h.cell (i := 0) rfl rfl
    have c2 : ∀ w', Boxes w [(63, [.int .u64 2306139568115548160, .int .u64 2, .pointer (zp p4 p6 2)])] w' → w'.cell? ⟨w.heap.size, 2, none⟩ = some (.pointer (zp p4 p6 2)) := fun w' h => h.cell (i := 0) rfl rfl
    have HEnv := hide henv
    clear henv
    go_enter Ybad.func37, Ybad.ntmps37
    go_wp2
    generalize [((63 : TypeId), [Value.int .u64 2306139568115548160, .int .u64 2, .pointer (zp p4 p6 2)])] = rows1 at *
    generalize (w.alloc (.cells #[.int .u64 2306139568115548160, .int .u64 2, .pointer (zp p4 p6 2)] 63)) = W at *
    go_region_held3 (fun w' => Boxes w rows1 w') (first | with_reducible assumption | with_reducible exact Boxes.drew hB) (first | (go_at_call 48; refine (unspec4_calls p4 p6 _ (HEnv.out _ (by assumption))).mono ?_; rintro e w1 ⟨rfl, hb1⟩; have hk1 := Boxes.later (rows := rows1) (by assumption) hb1; clear hb1) | (go_at_call 49; refine (unspec6_calls p4 p6 _ (HEnv.out _ (by assumption))).mono ?_; rintro e w2 ⟨rfl, hb2⟩; have hk2 := Boxes.later (rows := rows1) (by assumption) hb2; clear hb2))
    all_goals (go_wp2; go_ret; exact ⟨rfl, hk2.1⟩)

theorem zK_le (k : Int) : zK k ≤ 2 := by
  unfold zK
  split
  · omega
  split <;> omega
theorem zK_pos (k : Int) (h0 : 1 ≤ k) : (zK k == 0) = false := by unfold zK; rw [if_neg (by omega)]; split <;> rfl
theorem zK_zero : (zK 0 == 0) = true := rfl
set_option maxHeartbeats 1000000 in
theorem reachable_calls (k po : Int) (h0 : 0 ≤ k) (h1 : k ≤ 6) (p4 p6 : Addr) (w : World) (hE : Env w p4 p6) :
    Calls Ybad.prog 28 #[.agg #[.int .u64 (hiK k), .int .u64 (loK k), .pointer (zp p4 p6 (zK k)), .int .u16 po]] w fun e w' => e = .returned (.bool ((k == 2 || k == 3 || k == 5 || k == 6) && (po != 0))) ∧ Below w.heap.size w w' := by
  have hB := Boxes.one w 65 [.int .u64 (hiK k), .int .u64 (loK k), .pointer (zp p4 p6 (zK k)), .int .u16 po]
  have henv : ∀ w', Boxes w [(65, [.int .u64 (hiK k), .int .u64 (loK k), .pointer (zp p4 p6 (zK k)), .int .u16 po])] w' → Env w' p4 p6 := hE.boxes
  have c0 : ∀ w', Boxes w [(65, [.int .u64 (hiK k), .int .u64 (loK k), .pointer (zp p4 p6 (zK k)), .int .u16 po])] w' → w'.cell? ⟨w.heap.size, 0, none⟩ = some (.int .u64 (hiK k)) := fun w' h => h.cell (i := 0) rfl rfl
  have c1 : ∀ w', Boxes w [(65, [.int .u64 (hiK k), .int .u64 (loK k), .pointer (zp p4 p6 (zK k)), .int .u16 po])] w' → w'.cell? ⟨w.heap.size, 1, none⟩ = some (.int .u64 (loK k)) := fun w' h => h.cell (i := 0) rfl rfl
  have c2 : ∀ w', Boxes w [(65, [.int .u64 (hiK k), .int .u64 (loK k), .pointer (zp p4 p6 (zK k)), .int .u16 po])] w' → w'.cell? ⟨w.heap.size, 2, none⟩ = some (.pointer (zp p4 p6 (zK k))) := fun w' h => h.cell (i := 0) rfl rfl
  have c3 : ∀ w', Boxes w [(65, [.int .u64 (hiK k), .int .u64 (loK k), .pointer (zp p4 p6 (zK k)), .int .u16 po])] w' → w'.cell? ⟨w.heap.size, 3, none⟩ = some (.int .u16 po) := fun w' h => h.cell (i := 0) rfl rfl
  have HEnv := hide henv
  clear henv
  go_enter Ybad.func28, Ybad.ntmps28
  go_wp2_with fail
  refine (apIsValid_calls _ _ _ p4 p6 _ (zK_le k) _ (HEnv.out _ hB)).mono ?_
  rintro e w1 ⟨rfl, hb1⟩
  have hB1 := Boxes.later hB hb1
  clear hb1 hB
  by_cases hk0 : k = 0
  · subst hk0
    rw [zK_zero]
    have hbb := hB1.1
    clear hE
    go_wp2
    go_ret
    exact ⟨rfl, hbb⟩
  rw [zK_pos k (by omega)]
  have d0 := c0 _ hB1
  have d1 := c1 _ hB1
  have d2 := c2 _ hB1
  have d3 := c3 _ hB1
  go_wp2_with fail
  refine (apAddr_calls _ _ _ _ _).mono ?_
  rintro e w2 ⟨rfl, hb2⟩
  have hB2 := Boxes.later hB1 hb2
  clear hb2 hB1 d0 d1 d2 d3
  go_wp2_with fail
  refine (isUnspec_calls k (by omega) h1 p4 p6 _ (HEnv.out _ hB2)).mono ?_
  rintro e w3 ⟨rfl, hb3⟩
  have hB3 := Boxes.later hB2 hb3
  clear hb3 hB2
  by_cases hk1 : k = 1
  · subst hk1
    have hbb := hB3.1
    have hd : ((1 : Int) == 1) = true := rfl
    rw [hd]
    go_wp2
    go_ret
    exact ⟨rfl, hbb⟩
  have hd : (k == 1) = false := by simpa using hk1
  rw [hd]
  have d0 := c0 _ hB3
  have d1 := c1 _ hB3
  have d2 := c2 _ hB3
  have d3 := c3 _ hB3
  go_wp2_with fail
  refine (apAddr_calls _ _ _ _ _).mono ?_
  rintro e w4 ⟨rfl, hb4⟩
  have hB4 := Boxes.later hB3 hb4
  clear hb4 hB3 d0 d1 d2 d3
  go_wp2_with fail
  refine (is4in6_calls k (by omega) h1 p4 p6 _ (HEnv.out _ hB4)).mono ?_
  rintro e w5 ⟨rfl, hb5⟩
  have hB5 := Boxes.later hB4 hb5
  clear hb5 hB4
  by_cases hk4 : k = 4
  · subst hk4
    have hbb := hB5.1
    have hd4 : ((4 : Int) == 4) = true := rfl
    rw [hd4]
    go_wp2
    go_ret
    exact ⟨rfl, hbb⟩
  have hd4 : (k == 4) = false := by simpa using hk4
  rw [hd4]
  have d0 := c0 _ hB5
  have d1 := c1 _ hB5
  have d2 := c2 _ hB5
  have d3 := c3 _ hB5
  go_wp2_with fail
  refine (apPort_calls _ _ _ _ _).mono ?_
  rintro e w6 ⟨rfl, hb6⟩
  have hB6 := Boxes.later hB5 hb6
  have hbb := hB6.1
  clear hb6 hB5 hB6 d0 d1 d2 d3
  have hkk : k = 2 ∨ k = 3 ∨ k = 5 ∨ k = 6 := by omega
  go_wp2
  go_ret
  refine ⟨ret_bool ?_, hbb⟩
  rcases hkk with rfl | rfl | rfl | rfl <;> simp
end Go.Proofs.YbulkdxjmDoor

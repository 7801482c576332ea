/-
  THE TABLE OF PREFIXES: 'netip.Addr.withoutZone' (25), 'netip.PrefixFrom' (12), 'zzs6200cprefix' (5).
-/
import Derived.Test.YbulkdxjmDoorPoints
namespace Go.Proofs.YbulkdxjmDoor
open Go.RowKit
set_option linter.unusedVariables false

/-- Two blocks behind one another: their cells, in a later world. -/
theorem Boxes.cells2 {w0 w1 : World} {t u : TypeId} {cs ds : List Value} (h : Boxes w0 [(t, cs), (u, ds)] w1) :
    (∀ j v, cs[j]? = some v → w1.cell? ⟨w0.heap.size, j, none⟩ = some v) ∧ (∀ j, w1.frozen? ⟨w0.heap.size, j, none⟩ = false) ∧ (∀ j v, ds[j]? = some v → w1.cell? ⟨w0.heap.size + 1, j, none⟩ = some v) ∧ (∀ j, w1.frozen? ⟨w0.heap.size + 1, j, none⟩ = false) :=
  ⟨(h.res (i := 0) rfl).1, (h.res (i := 0) rfl).2, (h.res (i := 1) rfl).1, (h.res (i := 1) rfl).2⟩

theorem withoutZone_calls (hi lo : Int) (p4 p6 : Addr) (z : Nat) (hz : z ≤ 2) (w : World) (hE : Env w p4 p6) :
    Calls Ybad.prog 25 #[.agg #[.int .u64 hi, .int .u64 lo, .pointer (zp p4 p6 z)]] w fun e w' => e = .returned (.agg #[.int .u64 hi, .int .u64 lo, .pointer (zp p4 p6 z)]) ∧ Below w.heap.size w w' := by
  have hB := Boxes.two w 63 63 [.int .u64 hi, .int .u64 lo, .pointer (zp p4 p6 z)] [.int .u64 0, .int .u64 0, .pointer none]
  have hE1 := hE.boxes _ hB
  match z, hz with
  | 0, _ =>
    go_enter Ybad.func25, Ybad.ntmps25
    go_wp2_with fail
    refine (is6_calls hi lo p4 p6 0 (by decide) _ hE1).mono ?_
    rintro e w1 ⟨rfl, hb1⟩
    have hB1 := hB.later hb1
    obtain ⟨hc, hf, hd, hg⟩ := hB1.cells2
    have c0 := hc 0 _ rfl
    have c1 := hc 1 _ rfl
    have c2 := hc 2 _ rfl
    have d0 := hd 0 _ rfl
    have d1 := hd 1 _ rfl
    have d2 := hd 2 _ rfl
    have gz : w1.cell? ⟨2, 0, none⟩ = some (.pointer (zp p4 p6 2)) := (hE.boxes _ hB1).z6
    have hbb := hB1.1
    clear hc hd hb1 hB1 hB hE1
    go_wp2
    refine bodyPost_ret (v := .agg #[.int .u64 hi, .int .u64 lo, .pointer (zp p4 p6 0)]) (by simp [results, Ybad.results25, go_sem, d0, d1, d2]) rfl ⟨rfl, by go_grown⟩
  | 1, _ =>
    go_enter Ybad.func25, Ybad.ntmps25
    go_wp2_with fail
    refine (is6_calls hi lo p4 p6 1 (by decide) _ hE1).mono ?_
    rintro e w1 ⟨rfl, hb1⟩
    have hB1 := hB.later hb1
    obtain ⟨hc, hf, hd, hg⟩ := hB1.cells2
    have c0 := hc 0 _ rfl
    have c1 := hc 1 _ rfl
    have c2 := hc 2 _ rfl
    have d0 := hd 0 _ rfl
    have d1 := hd 1 _ rfl
    have d2 := hd 2 _ rfl
    have gz : w1.cell? ⟨2, 0, none⟩ = some (.pointer (zp p4 p6 2)) := (hE.boxes _ hB1).z6
    have hbb := hB1.1
    clear hc hd hb1 hB1 hB hE1
    go_wp2
    refine bodyPost_ret (v := .agg #[.int .u64 hi, .int .u64 lo, .pointer (zp p4 p6 1)]) (by simp [results, Ybad.results25, go_sem, d0, d1, d2]) rfl ⟨rfl, by go_grown⟩
  | 2, _ =>
    go_enter Ybad.func25, Ybad.ntmps25
    go_wp2_with fail
    refine (is6_calls hi lo p4 p6 2 (by decide) _ hE1).mono ?_
    rintro e w1 ⟨rfl, hb1⟩
    have hB1 := hB.later hb1
    obtain ⟨hc, hf, hd, hg⟩ := hB1.cells2
    have c0 := hc 0 _ rfl
    have c1 := hc 1 _ rfl
    have c2 := hc 2 _ rfl
    have d0 := hd 0 _ rfl
    have d1 := hd 1 _ rfl
    have d2 := hd 2 _ rfl
    have gz : w1.cell? ⟨2, 0, none⟩ = some (.pointer (zp p4 p6 2)) := (hE.boxes _ hB1).z6
    have hbb := hB1.1
    clear hc hd hb1 hB1 hB hE1
    go_wp2
    refine bodyPost_ret (v := .agg #[.int .u64 hi, .int .u64 lo, .pointer (zp p4 p6 2)]) (by simp [results, Ybad.results25, go_sem, d0, d1, d2]) rfl ⟨rfl, by go_grown⟩

theorem prefixFrom_calls (hi lo n : Int) (p4 p6 : Addr) (z : Nat) (h0 : 0 ≤ n) (hz0 : 1 ≤ z) (hz : z ≤ 2) (hn : n ≤ bitLen z) (w : World) (hE : Env w p4 p6) :
    Calls Ybad.prog 12 #[.agg #[.int .u64 hi, .int .u64 lo, .pointer (zp p4 p6 z)], .int .i64 n] w fun e w' => e = .returned (.agg #[.int .u64 hi, .int .u64 lo, .pointer (zp p4 p6 z), .int .u8 (n + 1)]) ∧ Below w.heap.size w w' := by
  have hB := Boxes.two w 63 75 [.int .u64 hi, .int .u64 lo, .pointer (zp p4 p6 z)] [.int .u64 0, .int .u64 0, .pointer none, .int .u8 0]
  have hE1 := hE.boxes _ hB
  match z, hz0, hz, hn with
  | 1, _, _, hn =>
    have hn' : n ≤ 32 := hn
    have hge : decide (n ≥ 0) = true := by simpa using h0
    have hw : IntKind.u8.wrap n = n := by rw [IntKind.wrap_u8]; omega
    have hw1 : IntKind.u8.wrap (n + 1) = n + 1 := by rw [IntKind.wrap_u8]; omega
    go_enter Ybad.func12, Ybad.ntmps12
    go_wp2_with fail
    refine (isZero_calls hi lo p4 p6 1 (by decide) _ hE1).mono ?_
    rintro e w1 ⟨rfl, hb1⟩
    have hB1 := hB.later hb1
    obtain ⟨hc, hf, hd, hg⟩ := hB1.cells2
    have c0 := hc 0 _ rfl
    have c1 := hc 1 _ rfl
    have c2 := hc 2 _ rfl
    have d0 := hd 0 _ rfl
    have d1 := hd 1 _ rfl
    have d2 := hd 2 _ rfl
    have d3 := hd 3 _ rfl
    have hE2 := hE.boxes _ hB1
    clear hc hd hb1 hB hE1
    go_wp2_with fail
    refine (bitLen_calls hi lo p4 p6 1 (by decide) _ hE2).mono ?_
    rintro e w2 ⟨rfl, hb2⟩
    have hB2 := hB1.later hb2
    have hle : decide (n ≤ bitLen 1) = true := by simpa using hn
    clear c0 c1 c2 d0 d1 d2 d3 hf hg
    obtain ⟨hc, hf, hd, hg⟩ := hB2.cells2
    have c0 := hc 0 _ rfl
    have c1 := hc 1 _ rfl
    have c2 := hc 2 _ rfl
    have d0 := hd 0 _ rfl
    have d1 := hd 1 _ rfl
    have d2 := hd 2 _ rfl
    have d3 := hd 3 _ rfl
    have hE3 := hE.boxes _ hB2
    clear hc hd hb2 hB1 hE2
    go_wp2_with fail
    refine (withoutZone_calls hi lo p4 p6 1 (by decide) _ hE3).mono ?_
    rintro e w3 ⟨rfl, hb3⟩
    have hB3 := hB2.later hb3
    clear c0 c1 c2 d0 d1 d2 d3 hf hg
    obtain ⟨hc, hf, hd, hg⟩ := hB3.cells2
    have c0 := hc 0 _ rfl
    have c1 := hc 1 _ rfl
    have c2 := hc 2 _ rfl
    have d0 := hd 0 _ rfl
    have d1 := hd 1 _ rfl
    have d2 := hd 2 _ rfl
    have d3 := hd 3 _ rfl
    have hE4 := hE.boxes _ hB3
    have hbb := hB3.1
    clear hc hd hb3 hB2 hB3 hE3 hE4
    go_wp2
    refine bodyPost_ret (v := .agg #[.int .u64 hi, .int .u64 lo, .pointer (zp p4 p6 1), .int .u8 (n + 1)]) (by simp [results, Ybad.results12, go_sem, d0, d1, d2, d3]) rfl ⟨rfl, by go_grown⟩
  | 2, _, _, hn =>
    have hn' : n ≤ 128 := hn
    have hge : decide (n ≥ 0) = true := by simpa using h0
    have hw : IntKind.u8.wrap n = n := by rw [IntKind.wrap_u8]; omega
    have hw1 : IntKind.u8.wrap (n + 1) = n + 1 := by rw [IntKind.wrap_u8]; omega
    go_enter Ybad.func12, Ybad.ntmps12
    go_wp2_with fail
    refine (isZero_calls hi lo p4 p6 2 (by decide) _ hE1).mono ?_
    rintro e w1 ⟨rfl, hb1⟩
    have hB1 := hB.later hb1
    obtain ⟨hc, hf, hd, hg⟩ := hB1.cells2
    have c0 := hc 0 _ rfl
    have c1 := hc 1 _ rfl
    have c2 := hc 2 _ rfl
    have d0 := hd 0 _ rfl
    have d1 := hd 1 _ rfl
    have d2 := hd 2 _ rfl
    have d3 := hd 3 _ rfl
    have hE2 := hE.boxes _ hB1
    clear hc hd hb1 hB hE1
    go_wp2_with fail
    refine (bitLen_calls hi lo p4 p6 2 (by decide) _ hE2).mono ?_
    rintro e w2 ⟨rfl, hb2⟩
    have hB2 := hB1.later hb2
    have hle : decide (n ≤ bitLen 2) = true := by simpa using hn
    clear c0 c1 c2 d0 d1 d2 d3 hf hg
    obtain ⟨hc, hf, hd, hg⟩ := hB2.cells2
    have c0 := hc 0 _ rfl
    have c1 := hc 1 _ rfl
    have c2 := hc 2 _ rfl
    have d0 := hd 0 _ rfl
    have d1 := hd 1 _ rfl
    have d2 := hd 2 _ rfl
    have d3 := hd 3 _ rfl
    have hE3 := hE.boxes _ hB2
    clear hc hd hb2 hB1 hE2
    go_wp2_with fail
    refine (withoutZone_calls hi lo p4 p6 2 (by decide) _ hE3).mono ?_
    rintro e w3 ⟨rfl, hb3⟩
    have hB3 := hB2.later hb3
    clear c0 c1 c2 d0 d1 d2 d3 hf hg
    obtain ⟨hc, hf, hd, hg⟩ := hB3.cells2
    have c0 := hc 0 _ rfl
    have c1 := hc 1 _ rfl
    have c2 := hc 2 _ rfl
    have d0 := hd 0 _ rfl
    have d1 := hd 1 _ rfl
    have d2 := hd 2 _ rfl
    have d3 := hd 3 _ rfl
    have hE4 := hE.boxes _ hB3
    have hbb := hB3.1
    clear hc hd hb3 hB2 hB3 hE3 hE4
    go_wp2
    refine bodyPost_ret (v := .agg #[.int .u64 hi, .int .u64 lo, .pointer (zp p4 p6 2), .int .u8 (n + 1)]) (by simp [results, Ybad.results12, go_sem, d0, d1, d2, d3]) rfl ⟨rfl, by go_grown⟩

/-- THE TABLE OF PREFIXES as plain data. -/
def kP (p : Int) : Int := if p = 0 then 2 else if p = 1 then 3 else if p = 2 ∨ p = 3 then 5 else 0
def bP (p : Int) : Int := if p = 0 then 9 else if p = 1 ∨ p = 2 then 33 else if p = 3 then 129 else 0
set_option maxRecDepth 100000 in
theorem cprefix_calls (p : Int) (h0 : 0 ≤ p) (h1 : p ≤ 4) (p4 p6 : Addr) (w : World) (hE : Env w p4 p6) :
    Calls Ybad.prog 5 #[.int .i64 p] w fun e w' => e = .returned (.agg #[.int .u64 (hiK (kP p)), .int .u64 (loK (kP p)), .pointer (zp p4 p6 (zK (kP p))), .int .u8 (bP p)]) ∧ Below w.heap.size w w' := by
  have hk : p = 0 ∨ p = 1 ∨ p = 2 ∨ p = 3 ∨ p = 4 := by omega
  have hB := Boxes.one w 75 [.int .u64 0, .int .u64 0, .pointer none, .int .u8 0]
  have hE1 := hE.boxes _ hB
  rcases hk with rfl | rfl | rfl | rfl | rfl
  · go_enter Ybad.func5, Ybad.ntmps5
    go_wp2_with fail
    refine (caddr_calls 2 (by decide) (by decide) p4 p6 _ hE1).mono ?_
    rintro e w1 ⟨rfl, hb1⟩
    have hB1 := hB.later hb1
    have hE2 := hE.boxes _ hB1
    clear hb1 hB hE1
    go_wp2_with fail
    refine (prefixFrom_calls (hiK 2) (loK 2) 8 p4 p6 (zK 2) (by decide) (by decide) (by decide) (by decide) _ hE2).mono ?_
    rintro e w2 ⟨rfl, hb2⟩
    have hB2 := hB1.later hb2
    obtain ⟨hc, hf⟩ := hB2.res (i := 0) rfl
    simp only [Nat.add_zero] at hc hf
    have c0 := hc 0 _ rfl
    have c1 := hc 1 _ rfl
    have c2 := hc 2 _ rfl
    have c3 := hc 3 _ rfl
    have hbb := hB2.1
    clear hc hb2 hB1 hB2 hE2
    go_wp2
    refine bodyPost_ret (v := .agg #[.int .u64 (hiK 2), .int .u64 (loK 2), .pointer (zp p4 p6 (zK 2)), .int .u8 (8 + 1)]) (by simp [results, Ybad.results5, go_sem, c0, c1, c2, c3]) rfl ⟨rfl, by go_grown⟩
  · go_enter Ybad.func5, Ybad.ntmps5
    go_wp2_with fail
    refine (caddr_calls 3 (by decide) (by decide) p4 p6 _ hE1).mono ?_
    rintro e w1 ⟨rfl, hb1⟩
    have hB1 := hB.later hb1
    have hE2 := hE.boxes _ hB1
    clear hb1 hB hE1
    go_wp2_with fail
    refine (prefixFrom_calls (hiK 3) (loK 3) 32 p4 p6 (zK 3) (by decide) (by decide) (by decide) (by decide) _ hE2).mono ?_
    rintro e w2 ⟨rfl, hb2⟩
    have hB2 := hB1.later hb2
    obtain ⟨hc, hf⟩ := hB2.res (i := 0) rfl
    simp only [Nat.add_zero] at hc hf
    have c0 := hc 0 _ rfl
    have c1 := hc 1 _ rfl
    have c2 := hc 2 _ rfl
    have c3 := hc 3 _ rfl
    have hbb := hB2.1
    clear hc hb2 hB1 hB2 hE2
    go_wp2
    refine bodyPost_ret (v := .agg #[.int .u64 (hiK 3), .int .u64 (loK 3), .pointer (zp p4 p6 (zK 3)), .int .u8 (32 + 1)]) (by simp [results, Ybad.results5, go_sem, c0, c1, c2, c3]) rfl ⟨rfl, by go_grown⟩
  · go_enter Ybad.func5, Ybad.ntmps5
    go_wp2_with fail
    refine (caddr_calls 5 (by decide) (by decide) p4 p6 _ hE1).mono ?_
    rintro e w1 ⟨rfl, hb1⟩
    have hB1 := hB.later hb1
    have hE2 := hE.boxes _ hB1
    clear hb1 hB hE1
    go_wp2_with fail
    refine (prefixFrom_calls (hiK 5) (loK 5) 32 p4 p6 (zK 5) (by decide) (by decide) (by decide) (by decide) _ hE2).mono ?_
    rintro e w2 ⟨rfl, hb2⟩
    have hB2 := hB1.later hb2
    obtain ⟨hc, hf⟩ := hB2.res (i := 0) rfl
    simp only [Nat.add_zero] at hc hf
    have c0 := hc 0 _ rfl
    have c1 := hc 1 _ rfl
    have c2 := hc 2 _ rfl
    have c3 := hc 3 _ rfl
    have hbb := hB2.1
    clear hc hb2 hB1 hB2 hE2
    go_wp2
    refine bodyPost_ret (v := .agg #[.int .u64 (hiK 5), .int .u64 (loK 5), .pointer (zp p4 p6 (zK 5)), .int .u8 (32 + 1)]) (by simp [results, Ybad.results5, go_sem, c0, c1, c2, c3]) rfl ⟨rfl, by go_grown⟩
  · go_enter Ybad.func5, Ybad.ntmps5
    go_wp2_with fail
    refine (caddr_calls 5 (by decide) (by decide) p4 p6 _ hE1).mono ?_
    rintro e w1 ⟨rfl, hb1⟩
    have hB1 := hB.later hb1
    have hE2 := hE.boxes _ hB1
    clear hb1 hB hE1
    go_wp2_with fail
    refine (prefixFrom_calls (hiK 5) (loK 5) 128 p4 p6 (zK 5) (by decide) (by decide) (by decide) (by decide) _ hE2).mono ?_
    rintro e w2 ⟨rfl, hb2⟩
    have hB2 := hB1.later hb2
    obtain ⟨hc, hf⟩ := hB2.res (i := 0) rfl
    simp only [Nat.add_zero] at hc hf
    have c0 := hc 0 _ rfl
    have c1 := hc 1 _ rfl
    have c2 := hc 2 _ rfl
    have c3 := hc 3 _ rfl
    have hbb := hB2.1
    clear hc hb2 hB1 hB2 hE2
    go_wp2
    refine bodyPost_ret (v := .agg #[.int .u64 (hiK 5), .int .u64 (loK 5), .pointer (zp p4 p6 (zK 5)), .int .u8 (128 + 1)]) (by simp [results, Ybad.results5, go_sem, c0, c1, c2, c3]) rfl ⟨rfl, by go_grown⟩
  · go_enter Ybad.func5, Ybad.ntmps5
    go_wp2
    go_returns
    exact ⟨rfl, by go_grown⟩
end Go.Proofs.YbulkdxjmDoor

/-
  THE TABLE OF ADDRESSES: 'zzs6200caddr' (13), 'netip.AddrPortFrom' (14), 'zzs6200cap' (6), 'zzs6200celem' (4).
-/
import Derived.Test.YbulkdxjmDoorAddrs
namespace Go.Proofs.YbulkdxjmDoor
open Go.RowKit
set_option linter.unusedVariables false

def hiK (k : Int) : Int := if k = 5 ∨ k = 6 then 2306139568115548160 else 0
def loK (k : Int) : Int := if k = 0 then 0 else if k = 1 then 281470681743360 else if k = 2 ∨ k = 4 then 281470849515521 else if k = 3 then 281470849515522 else if k = 5 then 1 else 2
def zK (k : Int) : Nat := if k = 0 then 0 else if k = 1 ∨ k = 2 ∨ k = 3 then 1 else 2

/-- A result's block of a type of three cells, in whatever later world. -/
theorem Boxes.res {w0 w1 : World} {rows : List (TypeId × List Value)} (h : Boxes w0 rows w1) {i : Nat} {t : TypeId} {cs : List Value} (hi : rows[i]? = some (t, cs)) :
    (∀ j v, cs[j]? = some v → w1.cell? ⟨w0.heap.size + i, j, none⟩ = some v) ∧ (∀ j, w1.frozen? ⟨w0.heap.size + i, j, none⟩ = false) :=
  ⟨fun j v hj => h.cell hi hj, fun j => (h.2.2 i t cs hi).frozen j⟩

theorem caddr_calls (k : Int) (h0 : 0 ≤ k) (h1 : k ≤ 6) (p4 p6 : Addr) (w : World) (hE : Env w p4 p6) :
    Calls Ybad.prog 13 #[.int .i64 k] w fun e w' => e = .returned (.agg #[.int .u64 (hiK k), .int .u64 (loK k), .pointer (zp p4 p6 (zK k))]) ∧ Below w.heap.size w w' := by
  have hk : k = 0 ∨ k = 1 ∨ k = 2 ∨ k = 3 ∨ k = 4 ∨ k = 5 ∨ k = 6 := by omega
  have hB := Boxes.one w 63 [.int .u64 0, .int .u64 0, .pointer none]
  have hE1 := hE.boxes _ hB
  rcases hk with rfl | rfl | rfl | rfl | rfl | rfl | rfl
  · go_enter Ybad.func13, Ybad.ntmps13
    go_wp2
    go_returns
    exact ⟨rfl, by go_grown⟩
  · go_enter Ybad.func13, Ybad.ntmps13
    go_wp2_with fail
    refine (from4_0 p4 p6 _ hE1).mono ?_
    rintro e w1 ⟨rfl, hb1⟩
    have hB1 := hB.later hb1
    obtain ⟨hc, hf⟩ := hB1.res (i := 0) rfl
    simp only [Nat.add_zero] at hc hf
    have c0 := hc 0 _ rfl
    have c1 := hc 1 _ rfl
    have c2 := hc 2 _ rfl
    have hbb := hB1.1
    clear hc hb1 hB1 hB hE1
    go_wp2
    refine bodyPost_ret (v := (.agg #[.int .u64 0, .int .u64 281470681743360, .pointer (zp p4 p6 1)])) (by simp [results, Ybad.results13, go_sem, c0, c1, c2]) rfl ⟨rfl, by go_grown⟩
  · go_enter Ybad.func13, Ybad.ntmps13
    go_wp2_with fail
    refine (from4_1 p4 p6 _ hE1).mono ?_
    rintro e w1 ⟨rfl, hb1⟩
    have hB1 := hB.later hb1
    obtain ⟨hc, hf⟩ := hB1.res (i := 0) rfl
    simp only [Nat.add_zero] at hc hf
    have c0 := hc 0 _ rfl
    have c1 := hc 1 _ rfl
    have c2 := hc 2 _ rfl
    have hbb := hB1.1
    clear hc hb1 hB1 hB hE1
    go_wp2
    refine bodyPost_ret (v := (.agg #[.int .u64 0, .int .u64 281470849515521, .pointer (zp p4 p6 1)])) (by simp [results, Ybad.results13, go_sem, c0, c1, c2]) rfl ⟨rfl, by go_grown⟩
  · go_enter Ybad.func13, Ybad.ntmps13
    go_wp2_with fail
    refine (from4_2 p4 p6 _ hE1).mono ?_
    rintro e w1 ⟨rfl, hb1⟩
    have hB1 := hB.later hb1
    obtain ⟨hc, hf⟩ := hB1.res (i := 0) rfl
    simp only [Nat.add_zero] at hc hf
    have c0 := hc 0 _ rfl
    have c1 := hc 1 _ rfl
    have c2 := hc 2 _ rfl
    have hbb := hB1.1
    clear hc hb1 hB1 hB hE1
    go_wp2
    refine bodyPost_ret (v := (.agg #[.int .u64 0, .int .u64 281470849515522, .pointer (zp p4 p6 1)])) (by simp [results, Ybad.results13, go_sem, c0, c1, c2]) rfl ⟨rfl, by go_grown⟩
  · go_enter Ybad.func13, Ybad.ntmps13
    go_wp2_with fail
    refine (from16_calls 0 0 0 0 0 0 0 0 0 0 255 255 10 0 0 1 p4 p6 _ hE1).mono ?_
    rintro e w1 ⟨rfl, hb1⟩
    have hB1 := hB.later hb1
    obtain ⟨hc, hf⟩ := hB1.res (i := 0) rfl
    simp only [Nat.add_zero] at hc hf
    have c0 := hc 0 _ rfl
    have c1 := hc 1 _ rfl
    have c2 := hc 2 _ rfl
    have hbb := hB1.1
    clear hc hb1 hB1 hB hE1
    go_wp2
    refine bodyPost_ret (v := (.agg #[.int .u64 (be 0 0 0 0 0 0 0 0), .int .u64 (be 0 0 255 255 10 0 0 1), .pointer (zp p4 p6 2)])) (by simp [results, Ybad.results13, go_sem, c0, c1, c2]) rfl ⟨by rw [be_0, be_m]; rfl, by go_grown⟩
  · go_enter Ybad.func13, Ybad.ntmps13
    go_wp2_with fail
    refine (from16_calls 32 1 13 184 0 0 0 0 0 0 0 0 0 0 0 1 p4 p6 _ hE1).mono ?_
    rintro e w1 ⟨rfl, hb1⟩
    have hB1 := hB.later hb1
    obtain ⟨hc, hf⟩ := hB1.res (i := 0) rfl
    simp only [Nat.add_zero] at hc hf
    have c0 := hc 0 _ rfl
    have c1 := hc 1 _ rfl
    have c2 := hc 2 _ rfl
    have hbb := hB1.1
    clear hc hb1 hB1 hB hE1
    go_wp2
    refine bodyPost_ret (v := (.agg #[.int .u64 (be 32 1 13 184 0 0 0 0), .int .u64 (be 0 0 0 0 0 0 0 1), .pointer (zp p4 p6 2)])) (by simp [results, Ybad.results13, go_sem, c0, c1, c2]) rfl ⟨by rw [be_d, be_1]; rfl, by go_grown⟩
  · go_enter Ybad.func13, Ybad.ntmps13
    go_wp2_with fail
    refine (from16_calls 32 1 13 184 0 0 0 0 0 0 0 0 0 0 0 2 p4 p6 _ hE1).mono ?_
    rintro e w1 ⟨rfl, hb1⟩
    have hB1 := hB.later hb1
    obtain ⟨hc, hf⟩ := hB1.res (i := 0) rfl
    simp only [Nat.add_zero] at hc hf
    have c0 := hc 0 _ rfl
    have c1 := hc 1 _ rfl
    have c2 := hc 2 _ rfl
    have hbb := hB1.1
    clear hc hb1 hB1 hB hE1
    go_wp2
    refine bodyPost_ret (v := (.agg #[.int .u64 (be 32 1 13 184 0 0 0 0), .int .u64 (be 0 0 0 0 0 0 0 2), .pointer (zp p4 p6 2)])) (by simp [results, Ybad.results13, go_sem, c0, c1, c2]) rfl ⟨by rw [be_d, be_2]; rfl, by go_grown⟩
end Go.Proofs.YbulkdxjmDoor

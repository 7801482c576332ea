/-
  THE WALK OF 'pdu.LawS6200BWhole' (function 3): too long; nil; not nil.
-/
import Derived.Test.YbulkdxjmRead
import Derived.Test.YbulkdxjmMem
namespace Go.Proofs.Ybulkdxjm.lawS6200BWhole
open Go.RowKit

theorem Yba.info5 : (Yba.prog.info? 5).map (fun i => (i.zero, i.size, i.bytes)) = some (some (.int .u8 0), 1, 1) := by kernel_rfl
theorem eqNil (w : World) (a : Option Addr) (l c : Nat) : (binOp .eql 22 (.slice a l c) (.slice none 0 0)).run Yba.prog w = .ok (.bool a.isNone) w := Lib.run_eql_slice_nil w 22 5 a l c 0 0 Yba.underlying22
theorem front_nil (w : World) : Front w none 0 0 0 := ⟨by decide, by decide, by decide, by decide, fun h => by omega⟩

/-- More than 2^20 bytes: it returns at once. -/
theorem walk_big (a0 : Option Addr) (len0 cap0 : Nat) (w : World) (hb : 1048576 < len0) :
    Calls Yba.prog 3 #[.slice a0 len0 cap0] w fun e w' => e = .returned (.bool true) ∧ Below w.heap.size w w' := by
  have hb' : (1048576 : Int) < (len0 : Int) := by omega
  go_enter Yba.func3, Yba.ntmps3
  go_wp2
  go_ret
  exact ⟨rfl, Below.refl _ _⟩

set_option maxHeartbeats 400000 in
theorem walk_nil (w : World) :
    Calls Yba.prog 3 #[.slice none 0 0] w fun e w' => e = .returned (.bool true) ∧ Below w.heap.size w w' := by
  have heq := eqNil
  go_enter Yba.func3, Yba.ntmps3
  go_wp2_with fail
  refine (model_calls w none 0 0 0 0 (front_nil w)).mono ?_
  rintro e w1 ⟨rfl, q1, rfl⟩
  go_wp2_with fail
  refine (read_calls _ none 0 0 0 0 (front_nil _)).mono ?_
  rintro e w2 ⟨rfl, q2, rfl⟩
  go_wp2
  go_loopw [11] (fun i wr => i = .int .i64 0 ∧ Below w.heap.size w wr) (fun _ _ => 0)
  case atStart => exact ⟨rfl, below_drewN (Below.refl _ _) _⟩
  case round =>
    obtain ⟨rfl, hbel⟩ := hrel
    go_wp2
    go_ret
    exact ⟨rfl, hbel⟩

set_option maxRecDepth 100000 in
set_option maxHeartbeats 400000 in
theorem walk_row (x0 : Addr) (len0 cap0 : Nat) (z0 : List Int) (w : World) (hb : len0 ≤ 1048576) (hz : ∀ j, 0 ≤ z0.getD j 0 ∧ z0.getD j 0 ≤ 255)
    (H0 : ∀ i, i < len0 → w.cell? (x0.add i) = some (.int .u8 (z0.getD i 0))) :
    Calls Yba.prog 3 #[.slice (some x0) len0 cap0] w fun e w' => e = .returned (.bool true) ∧ Below w.heap.size w w' := by
  have heq := eqNil
  obtain ⟨i5, hi, hz0, hz1, hz2⟩ := info_parts Yba.info5
  have hmk : ∀ (w : World), (Instr.makeSlice 22 (.int .i64 len0) (.int .i64 len0)).run Yba.prog w = .ok (.slice (some ⟨w.heap.size, 0, none⟩) len0 len0) (w.alloc (.cells (zeros (.int .u8 0) len0).toArray 5)) := by
    intro w
    have := run_make (P := Yba.prog) w 22 5 i5 _ Yba.underlying22 hi hz0 .i64 .i64 len0 len0 (by omega) (by omega) (by rw [hz2]; omega) (by omega)
    rw [hz1, Int.toNat_natCast, zeros_made _ rfl] at this
    exact this
  clear hi hz0 hz1 hz2
  have HH0 := hide H0
  have HZ := hide hz
  clear H0 hz
  go_enter Yba.func3, Yba.ntmps3
  go_wp2
  go_loopw [4] (fun i wr => ∃ k : Nat, k ≤ len0 ∧ i = .int .i64 k ∧ ∃ xs : List Int, xs.length = len0 ∧ (∀ j, j < k → xs.getD j 0 = z0.getD j 0) ∧ RowAt wr w.heap.size 5 (xs.map (Value.int .u8)) ∧ Below w.heap.size w wr) (fun i _ => len0 - (intOf i).toNat)
  case atStart => exact ⟨0, Nat.zero_le _, rfl, List.replicate len0 0, by simp, fun j hj => by omega, by rw [← zeros_eq]; exact RowAt.new _ _ _, (Below.refl _ _).alloc (Nat.le_refl _) _⟩
  case round =>
    clear hmk
    obtain ⟨k, hk, rfl, xs, hxl, hxs, hrow, hbel⟩ := hrel
    have HX := hide hxs
    have HL := hide hxl
    have HR := hide hrow
    have HB := hide hbel
    by_cases hlt : k < len0
    · obtain ⟨b0, o0, rfl, hb0⟩ := addr_of (HH0.out 0 (by omega))
      have hc0 : wr.cell? ⟨b0, o0 + k, none⟩ = some (.int .u8 (z0.getD k 0)) := (hbel.cell hb0).trans (by have := HH0.out k hlt; rwa [Addr.add_lit] at this)
      have hc1 : wr.cell? ⟨w.heap.size, k, none⟩ = some (.int .u8 (xs.getD k 0)) := hrow.cell (by simp [hxl, hlt])
      have hf1 := hrow.frozen k
      clear hxs hxl hrow hbel
      go_wp2
      go_roundw
      case rel =>
        refine ⟨k + 1, by omega, by go_num, xs.set k (z0.getD k 0), by simp [HL.out], fun j hj => ?_, by rw [List.map_set]; exact RowAt.set HR.out k _, HB.out.setCell (Nat.le_refl _) _⟩
        have hl := HL.out
        by_cases e : j = k
        · subst e; simp [hl, hlt]
        · have := HX.out j (by omega)
          rw [← this]
          simp [List.getD, List.getElem?_set_ne (fun e' => e e'.symm)]
      case measure => simp [intOf]; omega
    · obtain rfl : k = len0 := by omega
      obtain ⟨W5, rfl⟩ : ∃ W5, W5 = wr := ⟨_, rfl⟩
      have hlow : ∀ j, j < k → W5.cell? ⟨w.heap.size, j, none⟩ = some (.int .u8 (z0.getD j 0)) := fun j hj => by rw [← hxs j hj]; exact hrow.cell (by simp [hxl, hj])
      have HLow := hide hlow
      have f1 : Front W5 (some ⟨w.heap.size, 0, none⟩) k (z0.getD 0 0) (z0.getD 1 0) := ⟨(HZ.out 0).1, (HZ.out 0).2, (HZ.out 1).1, (HZ.out 1).2, fun h => ⟨_, _, rfl, hlow 0 (by omega), fun h2 => by simpa using hlow 1 (by omega)⟩⟩
      have f2 : Front W5 (some x0) k (z0.getD 0 0) (z0.getD 1 0) := ⟨(HZ.out 0).1, (HZ.out 0).2, (HZ.out 1).1, (HZ.out 1).2, fun h => by
        obtain ⟨b0, o0, rfl, hb0⟩ := addr_of (HH0.out 0 (by omega))
        refine ⟨b0, o0, rfl, (hbel.cell hb0).trans (by have := HH0.out 0 (by omega); simpa [Addr.add_lit] using this), fun h2 => (hbel.cell hb0).trans (by have := HH0.out 1 (by omega); rwa [Addr.add_lit] at this)⟩⟩
      have F1 := hide f1
      have F2 := hide f2
      clear f1 f2 hlow hxs hxl hrow hbel
      go_wp2_with fail
      refine (model_calls W5 (some ⟨w.heap.size, 0, none⟩) k k _ _ F1.out).mono ?_
      rintro e w1 ⟨rfl, q1, rfl⟩
      go_wp2_with fail
      refine (read_calls (W5.drewN q1) (some x0) k cap0 _ _ F2.out).mono ?_
      rintro e w2 ⟨rfl, q2, rfl⟩
      go_wp2
      go_loopw [11] (fun i wx => ∃ t : Nat, t ≤ k ∧ i = .int .i64 t ∧ ∃ q, wx = W5.drewN q) (fun i _ => k - (intOf i).toNat)
      case atStart => exact ⟨0, Nat.zero_le _, rfl, _, rfl⟩
      case round =>
        obtain ⟨t, ht, rfl, q, rfl⟩ := hrel
        by_cases hlt : t < k
        · obtain ⟨b0, o0, rfl, hb0⟩ := addr_of (HH0.out 0 (by omega))
          have hc1 : W5.cell? ⟨b0, o0 + t, none⟩ = some (.int .u8 (z0.getD t 0)) := (HB.out.cell hb0).trans (by have := HH0.out t hlt; rwa [Addr.add_lit] at this)
          have hc2 := HLow.out t hlt
          have hlt' : (t : Int) < (k : Int) := by omega
          go_wp2
          go_quiet (fail)
          go_wp2
          go_roundw
          case rel => exact ⟨t + 1, by omega, by go_num, _, rfl⟩
          case measure => simp [intOf]; omega
        · go_wp2
          go_ret
          exact ⟨rfl, below_drewN HB.out _⟩
end Go.Proofs.Ybulkdxjm.lawS6200BWhole

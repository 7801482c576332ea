/-
  THE CONTRACTS OF 'zzs6198bmk' (function 4) AND 'zzs6198bsame' (function 6), over slices of pointers in memory of the call's own ('Good').
-/
import Derived.Test.YbulkdxikRows
import Derived.Test.YbulkdxikMem
import Derived.WalkSpells
import Derived.WalkLawsBesides
import Derived.Deep.QuietTactic
import Derived.BigQuiet
import Derived.LaidEql
namespace Go.Proofs.Ybulkdxik
open Go.RowKit

theorem Yba.info23 : (Yba.prog.info? 23).map (fun i => (i.zero, i.size, i.bytes)) = some (some (.pointer none), 1, 8) := by kernel_rfl

/-- A slice of pointers as 'zzs6198bmk' hands it back: nil, or at most four pointers in a row whose block is from B on. -/
def Good (w : World) (B : Nat) (v : Value) : Prop :=
  v = .slice none 0 0 ∨ ∃ (g n : Nat) (ps : List (Option Addr)), v = .slice (some ⟨g, 0, none⟩) n n ∧ RowAt w g 23 (ps.map Value.pointer) ∧ ps.length = n ∧ n ≤ 4 ∧ B ≤ g

theorem Good.of_block {w w' : World} {B : Nat} {v : Value} (h : Good w B v) (hb : ∀ g, B ≤ g → g < w.heap.size → (∃ cs, RowAt w g 23 cs) → w'.heap[g]? = w.heap[g]?) : Good w' B v := by
  rcases h with rfl | ⟨g, n, ps, rfl, hr, hl, hn, hB⟩
  · exact .inl rfl
  · exact .inr ⟨g, n, ps, rfl, hr.of_block (hb g hB hr.lt ⟨_, hr⟩), hl, hn, hB⟩
theorem Good.mono {w : World} {B B' : Nat} {v : Value} (h : Good w B v) (hB : B' ≤ B) : Good w B' v := by
  rcases h with rfl | ⟨g, n, ps, rfl, hr, hl, hn, hg⟩
  · exact .inl rfl
  · exact .inr ⟨g, n, ps, rfl, hr, hl, hn, by omega⟩

set_option maxHeartbeats 400000 in
theorem mk_calls (k : Int) (w : World) (h4 : k ≤ 4) :
    Calls Yba.prog 4 #[.int .i64 k] w fun e w' => (∃ v, e = .returned v ∧ Good w' w.heap.size v) ∧ Below w.heap.size w w' := by
  by_cases h0 : k ≤ 0
  · go_enter Yba.func4, Yba.ntmps4
    go_wp2
    go_ret
    exact ⟨⟨_, rfl, .inl rfl⟩, Below.refl _ _⟩
  · obtain ⟨n, rfl⟩ := Int.eq_ofNat_of_zero_le (show 0 ≤ k by omega)
    obtain ⟨i, hi, hz0, hz1, hz2⟩ := info_parts Yba.info23
    have hm : ∀ (w : World), (Instr.makeSlice 32 (.int .i64 n) (.int .i64 n)).run Yba.prog w = .ok (.slice (some ⟨w.heap.size, 0, none⟩) n n) (w.alloc (.cells (zeros (.pointer none) n).toArray 23)) := by
      intro w
      have := run_make (P := Yba.prog) w 32 23 i _ Yba.underlying32 hi hz0 .i64 .i64 n n (by omega) (by omega) (by rw [hz2]; omega) (by omega)
      rw [hz1, Int.toNat_natCast, zeros_made _ rfl] at this
      exact this
    clear hi hz0 hz1 hz2
    go_enter Yba.func4, Yba.ntmps4
    go_wp2
    go_loopw [4] (fun i wr => ∃ j : Nat, j ≤ n ∧ i = .int .i64 j ∧ ∃ ps : List (Option Addr), ps.length = n ∧ RowAt wr w.heap.size 23 (ps.map Value.pointer) ∧ Below w.heap.size w wr) (fun i _ => n - (intOf i).toNat)
    case atStart => exact ⟨0, Nat.zero_le _, rfl, List.replicate n none, by simp, by rw [← zeros_eq]; exact RowAt.new _ _ _, (Below.refl _ _).alloc (Nat.le_refl _) _⟩
    case round =>
      obtain ⟨j, hj, rfl, ps, hps, hrow, hbel⟩ := hrel
      have HR := hide hrow
      have HP := hide hps
      have HB := hide hbel
      by_cases hlt : j < n
      · have hc : ∀ o, (wr.alloc o).cell? ⟨w.heap.size, j, none⟩ = some (.pointer (ps.getD j none)) := fun o => (hrow.alloc o).cell (by simp [hps, hlt])
        have hf : ∀ o, (wr.alloc o).frozen? ⟨w.heap.size, j, none⟩ = false := fun o => (hrow.alloc o).frozen j
        clear hrow hps hbel
        go_wp2
        go_roundw
        case rel => exact ⟨j + 1, by omega, by go_num, ps.set j (some ⟨wr.heap.size, 0, none⟩), by simp [HP.out], by rw [List.map_set]; exact (HR.out.alloc _).set j _, (HB.out.alloc HB.out.size _).setCell (Nat.le_refl _) _⟩
        case measure => simp [intOf]; omega
      · obtain rfl : j = n := by omega
        clear hrow hps hbel
        go_wp2
        go_ret
        exact ⟨⟨_, rfl, .inr ⟨_, _, ps, rfl, HR.out, HP.out, by omega, Nat.le_refl _⟩⟩, HB.out⟩

theorem eqNil (w : World) (a : Option Addr) (l c : Nat) : (binOp .eql 32 (.slice a l c) (.slice none 0 0)).run Yba.prog w = .ok (.bool a.isNone) w := Lib.run_eql_slice_nil w 32 23 a l c 0 0 Yba.underlying32

theorem Yba.info35 : (Yba.prog.info? 35).map (fun i => i.size) = some 16 := by kernel_rfl
/-- A pointer against itself. -/
theorem neSelf (w : World) (p : Option Addr) : (binOp .neq 23 (.pointer p) (.pointer p)).run Yba.prog w = .ok (.bool false) w := by
  obtain ⟨i, hi, _⟩ := Option.map_eq_some_iff.1 Yba.info35
  have h : ∀ d : Nat, (Op.equalIn (d + 1) 23 (.pointer p) (.pointer p)).run Yba.prog w = .ok true w := fun d => by
    cases p with
    | none => simp [Op.equalIn, run_underlying Yba.underlying23]
    | some a => simp [Op.equalIn, run_underlying Yba.underlying23, sizeOf, typeInfo, hi, run_sameAddr_same]
  simp only [binOp]
  simp [Op.equal, Op.maxDepth, h 9999]

/-- A slice against itself. -/
theorem same_nil (w : World) : Calls Yba.prog 6 #[.slice none 0 0, .slice none 0 0] w fun e w' => e = .returned (.bool true) ∧ ∃ q, w' = w.drewN q := by
  have heq := eqNil
  go_enter Yba.func6, Yba.ntmps6
  go_wp2
  go_loop [5] (fun i => i = .int .i64 0) (fun _ => 0)
  case atStart => rfl
  case round =>
    obtain rfl := hrel
    go_wp2
    go_ret
    exact ⟨rfl, 0, rfl⟩

set_option maxHeartbeats 400000 in
theorem same_row (w : World) (g n : Nat) (ps : List (Option Addr)) (hr : RowAt w g 23 (ps.map Value.pointer)) (hl : ps.length = n) (hn : n ≤ 4) :
    Calls Yba.prog 6 #[.slice (some ⟨g, 0, none⟩) n n, .slice (some ⟨g, 0, none⟩) n n] w fun e w' => e = .returned (.bool true) ∧ ∃ q, w' = w.drewN q := by
  have HR := hide hr
  have HL := hide hl
  clear hr hl
  have heq := eqNil
  go_enter Yba.func6, Yba.ntmps6
  go_wp2
  go_loopw [5] (fun i wr => ∃ j : Nat, j ≤ n ∧ i = .int .i64 j ∧ ∃ q, wr = w.drewN q) (fun i _ => n - (intOf i).toNat)
  case atStart => exact ⟨0, Nat.zero_le _, rfl, 0, rfl⟩
  case round =>
    obtain ⟨j, hj, rfl, q, rfl⟩ := hrel
    by_cases hlt : j < n
    · have hc : w.cell? ⟨g, j, none⟩ = some (.pointer (ps.getD j none)) := HR.out.cell (by simp [HL.out, hlt])
      have hlt' : (j : Int) < (n : Int) := by omega
      have hns := neSelf
      go_wp2
      go_quiet (fail)
      go_wp2
      go_roundw
      case rel => exact ⟨j + 1, by omega, by go_num, _, rfl⟩
      case measure => simp [intOf]; omega
    · go_wp2
      go_ret
      exact ⟨rfl, q, rfl⟩

theorem same_calls (w : World) (B : Nat) (v : Value) (h : Good w B v) : Calls Yba.prog 6 #[v, v] w fun e w' => e = .returned (.bool true) ∧ ∃ q, w' = w.drewN q := by
  rcases h with rfl | ⟨g, n, ps, rfl, hr, hl, hn, _⟩
  · exact same_nil w
  · exact same_row w g n ps hr hl hn

end Go.Proofs.Ybulkdxik

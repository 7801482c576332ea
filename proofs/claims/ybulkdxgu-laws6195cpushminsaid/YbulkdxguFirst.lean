/-
  THE CONTRACT OF '(*agenda).first' (function 8), and two rows of the program's table of types.
-/
import Derived.Test.YbulkdxguRows
import Derived.Test.YbulkdxguMem
import Derived.WalkSpells
import Derived.WalkLawsBesides
import Derived.Deep.QuietTactic
import Derived.BigQuiet
namespace Go.Proofs.Ybulkdxgu
open Go.RowKit

theorem Yba.info28 : (Yba.prog.info? 28).map (fun i => (i.zero, i.size, i.bytes)) = some (some (.agg #[.int .i64 0, .int .i64 0]), 2, 16) := by kernel_rfl
theorem Yba.info3 : (Yba.prog.info? 3).map (fun i => (i.zero, i.size, i.bytes)) = some (some (.int .i64 0), 1, 8) := by kernel_rfl

/-! ### '(*agenda).first': nothing in the heap; something in it -/
theorem first_none (w : World) (b : Nat) (a : Option Addr) (c : Nat) (h : w.cell? ⟨b, 1, none⟩ = some (.slice a 0 c)) :
    Calls Yba.prog 8 #[.pointer (some ⟨b, 0, none⟩)] w fun e w' => e = .returned (.tuple #[.int .i64 0, .bool false]) ∧ w = w' := by
  go_enter Yba.func8, Yba.ntmps8
  go_wp2
  go_ret2
  exact ⟨rfl, rfl⟩
theorem first_some (w : World) (b g n c : Nat) (x : Int) (hn : 0 < n) (h : w.cell? ⟨b, 1, none⟩ = some (.slice (some ⟨g, 0, none⟩) n c)) (hx : w.cell? ⟨g, 0, none⟩ = some (.int .i64 x)) :
    Calls Yba.prog 8 #[.pointer (some ⟨b, 0, none⟩)] w fun e w' => e = .returned (.tuple #[.int .i64 x, .bool true]) ∧ w = w' := by
  have hn0 : ((n : Int) == 0) = false := beq_eq_false_iff_ne.2 (by omega)
  go_enter Yba.func8, Yba.ntmps8
  go_wp2
  go_ret2
  exact ⟨rfl, rfl⟩

end Go.Proofs.Ybulkdxgu

/-
  THE CONTRACTS OF 'readLength' (function 5) AND 'zzs6200bmodel' (function 4): both answer 'outOf'.
-/
import Derived.Test.YbulkdxjmRows
import Derived.WalkKit
import Derived.ProofKit
import Derived.Below
import Derived.WalkSpells
import Derived.WalkLawsBesides
import Derived.Laws.BitsAllLaws
import Derived.Deep.QuietTactic
import Derived.BigQuiet
namespace Go.Proofs.Ybulkdxjm
open Go.RowKit

theorem and127 (x : Int) (h0 : 0 ≤ x) (h1 : x ≤ 255) : bits .and .u8 x 127 = x % 128 := bits_mask .u8 8 (by decide) wraps_u8 7 (by decide) x h0 (by omega)
theorem and128 (x : Int) (h0 : 0 ≤ x) (h1 : x ≤ 255) : bits .and .u8 x 128 = x / 128 % 2 * 128 := by
  rw [u8_and x 128 h0 (by omega) (by decide) (by decide)]
  have e : (128 : Int).toNat = 2 ^ 7 := by decide
  rw [e, nat_bit]
  omega
theorem wraps_i64 (n : Int) (h0 : 0 ≤ n) (h1 : n < 2 ^ 16) : IntKind.i64.wrap n = n := by rw [IntKind.wrap_i64]; omega
theorem or256 (x y : Int) (h0 : 0 ≤ x) (h1 : x ≤ 255) (g0 : 0 ≤ y) (g1 : y ≤ 255) : bits .or .i64 (x * 256) y = x * 256 + y :=
  bits_join .i64 16 (by decide) wraps_i64 8 (x * 256) y (by omega) (by omega) (by omega) (by omega) (by omega) (by omega)

/-- What both functions answer, of n bytes of which x is the first and y the second. -/
def outOf (n : Nat) (x y : Int) : Int × Int × Bool :=
  if n = 0 then (0, 0, false) else if 128 ≤ x then (x - 128, 1, true) else if n < 2 then (0, 0, false) else (x * 256 + y, 2, true)

theorem read_none (w : World) (a : Option Addr) (c : Nat) : Calls Yba.prog 5 #[.slice a 0 c] w fun e w' => e = .returned (.tuple #[.int .i64 0, .int .i64 0, .bool false]) ∧ ∃ q, w' = w.drewN q := by
  go_enter Yba.func5, Yba.ntmps5
  go_wp2
  go_ret3
  exact ⟨rfl, 0, rfl⟩
theorem read_high (w : World) (b o n c : Nat) (x : Int) (hn : 0 < n) (h0 : 0 ≤ x) (h1 : x ≤ 255) (hx : w.cell? ⟨b, o, none⟩ = some (.int .u8 x)) (hhi : 128 ≤ x) :
    Calls Yba.prog 5 #[.slice (some ⟨b, o, none⟩) n c] w fun e w' => e = .returned (.tuple #[.int .i64 (x - 128), .int .i64 1, .bool true]) ∧ ∃ q, w' = w.drewN q := by
  have hn' : (1 : Int) ≤ n := by omega
  have hn2 : (0 : Int) < n := by omega
  have e1 : (bits .and .u8 x 128 != 0) = true := by rw [and128 x h0 h1]; simp; omega
  have e2 : bits .and .u8 x 127 = x - 128 := by rw [and127 x h0 h1]; omega
  go_enter Yba.func5, Yba.ntmps5
  go_wp2
  go_ret3
  exact ⟨rfl, 0, rfl⟩
theorem read_short (w : World) (b o c : Nat) (x : Int) (h0 : 0 ≤ x) (h1 : x < 128) (hx : w.cell? ⟨b, o, none⟩ = some (.int .u8 x)) :
    Calls Yba.prog 5 #[.slice (some ⟨b, o, none⟩) 1 c] w fun e w' => e = .returned (.tuple #[.int .i64 0, .int .i64 0, .bool false]) ∧ ∃ q, w' = w.drewN q := by
  have e1 : (bits .and .u8 x 128 != 0) = false := by rw [and128 x h0 (by omega)]; simp; omega
  go_enter Yba.func5, Yba.ntmps5
  go_wp2
  go_ret3
  exact ⟨rfl, 0, rfl⟩
theorem read_long (w : World) (b o n c : Nat) (x y : Int) (hn : 2 ≤ n) (h0 : 0 ≤ x) (h1 : x < 128) (g0 : 0 ≤ y) (g1 : y ≤ 255) (hx : w.cell? ⟨b, o, none⟩ = some (.int .u8 x)) (hy : w.cell? ⟨b, o + 1, none⟩ = some (.int .u8 y)) :
    Calls Yba.prog 5 #[.slice (some ⟨b, o, none⟩) n c] w fun e w' => e = .returned (.tuple #[.int .i64 (x * 256 + y), .int .i64 2, .bool true]) ∧ ∃ q, w' = w.drewN q := by
  have hn' : (1 : Int) ≤ n := by omega
  have hn2 : (0 : Int) < n := by omega
  have hn3 : (1 : Int) < n := by omega
  have hn4 : (2 : Int) ≤ n := by omega
  have e1 : (bits .and .u8 x 128 != 0) = false := by rw [and128 x h0 (by omega)]; simp; omega
  have e2 := or256 x y h0 (by omega) g0 g1
  go_enter Yba.func5, Yba.ntmps5
  go_wp2
  go_quiet (fail)
  go_wp2
  go_ret3
  exact ⟨rfl, _, rfl⟩

theorem model_none (w : World) (a : Option Addr) (c : Nat) : Calls Yba.prog 4 #[.slice a 0 c] w fun e w' => e = .returned (.tuple #[.int .i64 0, .int .i64 0, .bool false]) ∧ ∃ q, w' = w.drewN q := by
  go_enter Yba.func4, Yba.ntmps4
  go_wp2
  go_ret3
  exact ⟨rfl, 0, rfl⟩
theorem model_high (w : World) (b o n c : Nat) (x : Int) (hn : 0 < n) (h0 : 0 ≤ x) (h1 : x ≤ 255) (hx : w.cell? ⟨b, o, none⟩ = some (.int .u8 x)) (hhi : 128 ≤ x) :
    Calls Yba.prog 4 #[.slice (some ⟨b, o, none⟩) n c] w fun e w' => e = .returned (.tuple #[.int .i64 (x - 128), .int .i64 1, .bool true]) ∧ ∃ q, w' = w.drewN q := by
  have hn' : ((n : Int) == 0) = false := beq_eq_false_iff_ne.2 (by omega)
  have hn2 : (0 : Int) < n := by omega
  go_enter Yba.func4, Yba.ntmps4
  go_wp2
  go_ret3
  exact ⟨rfl, 0, rfl⟩
theorem model_short (w : World) (b o c : Nat) (x : Int) (h0 : 0 ≤ x) (h1 : x < 128) (hx : w.cell? ⟨b, o, none⟩ = some (.int .u8 x)) :
    Calls Yba.prog 4 #[.slice (some ⟨b, o, none⟩) 1 c] w fun e w' => e = .returned (.tuple #[.int .i64 0, .int .i64 0, .bool false]) ∧ ∃ q, w' = w.drewN q := by
  go_enter Yba.func4, Yba.ntmps4
  go_wp2
  go_ret3
  exact ⟨rfl, 0, rfl⟩
theorem model_long (w : World) (b o n c : Nat) (x y : Int) (hn : 2 ≤ n) (h0 : 0 ≤ x) (h1 : x < 128) (g0 : 0 ≤ y) (g1 : y ≤ 255) (hx : w.cell? ⟨b, o, none⟩ = some (.int .u8 x)) (hy : w.cell? ⟨b, o + 1, none⟩ = some (.int .u8 y)) :
    Calls Yba.prog 4 #[.slice (some ⟨b, o, none⟩) n c] w fun e w' => e = .returned (.tuple #[.int .i64 (x * 256 + y), .int .i64 2, .bool true]) ∧ ∃ q, w' = w.drewN q := by
  have hn' : ((n : Int) == 0) = false := beq_eq_false_iff_ne.2 (by omega)
  have hn2 : (0 : Int) < n := by omega
  have hn3 : (1 : Int) < n := by omega
  have hn4 : (2 : Int) ≤ n := by omega
  go_enter Yba.func4, Yba.ntmps4
  go_wp2
  go_ret3
  exact ⟨rfl, 0, rfl⟩

/-- WHAT A SLICE OF BYTES HOLDS IN FRONT. -/
def Front (w : World) (a : Option Addr) (n : Nat) (x y : Int) : Prop :=
  0 ≤ x ∧ x ≤ 255 ∧ 0 ≤ y ∧ y ≤ 255 ∧ (0 < n → ∃ b o, a = some ⟨b, o, none⟩ ∧ w.cell? ⟨b, o, none⟩ = some (.int .u8 x) ∧ (2 ≤ n → w.cell? ⟨b, o + 1, none⟩ = some (.int .u8 y)))

theorem read_calls (w : World) (a : Option Addr) (n c : Nat) (x y : Int) (h : Front w a n x y) : Calls Yba.prog 5 #[.slice a n c] w fun e w' => e = .returned (.tuple #[.int .i64 (outOf n x y).1, .int .i64 (outOf n x y).2.1, .bool (outOf n x y).2.2]) ∧ ∃ q, w' = w.drewN q := by
  obtain ⟨h0, h1, g0, g1, hc⟩ := h
  by_cases hn : n = 0
  · subst hn; simpa [outOf] using read_none w a c
  · obtain ⟨b, o, rfl, hx, hy⟩ := hc (by omega)
    by_cases hhi : 128 ≤ x
    · simpa [outOf, hn, hhi] using read_high w b o n c x (by omega) h0 h1 hx hhi
    · by_cases h2 : n < 2
      · obtain rfl : n = 1 := by omega
        simpa [outOf, hhi] using read_short w b o c x h0 (by omega) hx
      · simpa [outOf, hn, hhi, h2] using read_long w b o n c x y (by omega) h0 (by omega) g0 g1 hx (hy (by omega))
theorem model_calls (w : World) (a : Option Addr) (n c : Nat) (x y : Int) (h : Front w a n x y) : Calls Yba.prog 4 #[.slice a n c] w fun e w' => e = .returned (.tuple #[.int .i64 (outOf n x y).1, .int .i64 (outOf n x y).2.1, .bool (outOf n x y).2.2]) ∧ ∃ q, w' = w.drewN q := by
  obtain ⟨h0, h1, g0, g1, hc⟩ := h
  by_cases hn : n = 0
  · subst hn; simpa [outOf] using model_none w a c
  · obtain ⟨b, o, rfl, hx, hy⟩ := hc (by omega)
    by_cases hhi : 128 ≤ x
    · simpa [outOf, hn, hhi] using model_high w b o n c x (by omega) h0 h1 hx hhi
    · by_cases h2 : n < 2
      · obtain rfl : n = 1 := by omega
        simpa [outOf, hhi] using model_short w b o c x h0 (by omega) hx
      · simpa [outOf, hn, hhi, h2] using model_long w b o n c x y (by omega) h0 (by omega) g0 g1 hx (hy (by omega))

end Go.Proofs.Ybulkdxjm

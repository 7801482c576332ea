/-
  THE THREE LISTED VARIABLES ('Env'), HANDLES AND THEIR COMPARISON, AND net/netip's SMALL PREDICATES.
-/
import Derived.Test.YbulkdxjmDoorModel
import Derived.LaidEql
namespace Go.Proofs.YbulkdxjmDoor
open Go.RowKit

/-- WHAT THE LISTED VARIABLES HOLD: z0 nil, z4 and z6noz two pointers apart, into plain blocks. -/
structure Env (w : World) (p4 p6 : Addr) : Prop where
  z0 : w.cell? ⟨0, 0, none⟩ = some (.pointer none)
  z4 : w.cell? ⟨1, 0, none⟩ = some (.pointer (some p4))
  z6 : w.cell? ⟨2, 0, none⟩ = some (.pointer (some p6))
  h4 : ∃ c t, w.heap[p4.block]? = some (.cells c t (0, 0))
  h6 : ∃ c t, w.heap[p6.block]? = some (.cells c t (0, 0))
  ne : p4 ≠ p6
theorem Env.size {w : World} {p4 p6 : Addr} (h : Env w p4 p6) : 2 < w.heap.size := World.block_lt_of_cell? w _ h.z6
theorem Env.below {w w' : World} {p4 p6 : Addr} {B : Nat} (h : Env w p4 p6) (hb : Below B w w') (hB : w.heap.size ≤ B) : Env w' p4 p6 := by
  have hs := h.size
  obtain ⟨c4, t4, h4⟩ := h.h4
  obtain ⟨c6, t6, h6⟩ := h.h6
  have l4 := (Array.getElem?_eq_some_iff.1 h4).1
  have l6 := (Array.getElem?_eq_some_iff.1 h6).1
  exact ⟨(hb.cell (by show 0 < B; omega)).trans h.z0, (hb.cell (by show 1 < B; omega)).trans h.z4, (hb.cell (by show 2 < B; omega)).trans h.z6, ⟨c4, t4, (hb.block _ (by omega)).trans h4⟩, ⟨c6, t6, (hb.block _ (by omega)).trans h6⟩, h.ne⟩

/-- The three handles by number: a name of its own, so that the walk leaves it standing. -/
def zp (p4 p6 : Addr) : Nat → Option Addr
  | 0 => none
  | 1 => some p4
  | _ => some p6

theorem eq_ptr {w : World} {p4 p6 : Addr} (h : Env w p4 p6) (d t e : Nat) (ht : Ybad.prog.underlying t = some (.pointer e)) {j : TypeInfo} (hj : Ybad.prog.info? e = some j) (hs : j.size ≠ 0) (a b : Nat) (ha : a ≤ 2) (hb : b ≤ 2) :
    (Op.equalIn (d + 1) t (.pointer (zp p4 p6 a)) (.pointer (zp p4 p6 b))).run Ybad.prog w = .ok (a == b) w := by
  obtain ⟨c4, t4, h4⟩ := h.h4
  obtain ⟨c6, t6, h6⟩ := h.h6
  have hne := h.ne
  have hsame := fun x : Addr => run_sameAddr_same (P := Ybad.prog) w x
  have h46 := run_sameAddr_other (P := Ybad.prog) w hne h4 h6
  have h64 := run_sameAddr_other (P := Ybad.prog) w hne.symm h6 h4
  match a, b, ha, hb with
  | 0, 0, _, _ => simp [Op.equalIn, run_underlying ht, zp]
  | 0, 1, _, _ => simp [Op.equalIn, run_underlying ht, zp]
  | 0, 2, _, _ => simp [Op.equalIn, run_underlying ht, zp]
  | 1, 0, _, _ => simp [Op.equalIn, run_underlying ht, zp]
  | 1, 1, _, _ => simp [Op.equalIn, run_underlying ht, zp, sizeOf, typeInfo, hj, hs, hsame]
  | 1, 2, _, _ => simp [Op.equalIn, run_underlying ht, zp, sizeOf, typeInfo, hj, hs, h46]
  | 2, 0, _, _ => simp [Op.equalIn, run_underlying ht, zp]
  | 2, 1, _, _ => simp [Op.equalIn, run_underlying ht, zp, sizeOf, typeInfo, hj, hs, h64]
  | 2, 2, _, _ => simp [Op.equalIn, run_underlying ht, zp, sizeOf, typeInfo, hj, hs, hsame]
theorem Ybad.info176 : (Ybad.prog.info? 176).map (fun i => i.size) = some 2 := by kernel_rfl
/-- TWO HANDLES' POINTERS COMPARED, in every world that meets 'Env': a rule for the walk, under whatever condition C gives 'Env'. -/
theorem eq_rule {p4 p6 : Addr} {C : World → Prop} (hC : ∀ w, C w → Env w p4 p6) (a b : Nat) (ha : a ≤ 2) (hb : b ≤ 2) : ∀ d w, C w → (Op.equalIn (d + 1) 59 (.pointer (zp p4 p6 a)) (.pointer (zp p4 p6 b))).run Ybad.prog w = .ok (a == b) w := by
  obtain ⟨j, hj, hs⟩ := Option.map_eq_some_iff.1 Ybad.info176
  exact fun d w h => eq_ptr (hC w h) d 59 176 Ybad.underlying59 hj (by rw [hs]; decide) a b ha hb
theorem Env.boxes {w : World} {p4 p6 : Addr} (h : Env w p4 p6) {rows : List (TypeId × List Value)} : ∀ w', Boxes w rows w' → Env w' p4 p6 := fun _ hB => h.below hB.1 (Nat.le_refl _)
/-- The cells of the listed variables, in every such world. -/
theorem Env.cells {w : World} {p4 p6 : Addr} (h : Env w p4 p6) {rows : List (TypeId × List Value)} :
    (∀ w', Boxes w rows w' → w'.cell? ⟨0, 0, none⟩ = some (.pointer (zp p4 p6 0))) ∧ (∀ w', Boxes w rows w' → w'.cell? ⟨1, 0, none⟩ = some (.pointer (zp p4 p6 1))) ∧ (∀ w', Boxes w rows w' → w'.cell? ⟨2, 0, none⟩ = some (.pointer (zp p4 p6 2))) :=
  ⟨fun _ hB => (h.boxes _ hB).z0, fun _ hB => (h.boxes _ hB).z4, fun _ hB => (h.boxes _ hB).z6⟩

set_option linter.unusedVariables false
theorem is4_calls (hi lo : Int) (p4 p6 : Addr) (z : Nat) (hz : z ≤ 2) (w : World) (hE : Env w p4 p6) :
    Calls Ybad.prog 53 #[.agg #[.int .u64 hi, .int .u64 lo, .pointer (zp p4 p6 z)]] w fun e w' => e = .returned (.bool (z == 1)) ∧ Below w.heap.size w w' := by
  have hB := Boxes.one w 63 [.int .u64 hi, .int .u64 lo, .pointer (zp p4 p6 z)]
  obtain ⟨g0, g1, g2⟩ := hE.cells (rows := [(63, [.int .u64 hi, .int .u64 lo, .pointer (zp p4 p6 z)])])
  have q1 := eq_rule (hE.boxes (rows := [(63, [.int .u64 hi, .int .u64 lo, .pointer (zp p4 p6 z)])])) z 1 hz (by decide)
  match z, hz with
  | 0, _ =>
    go_enter Ybad.func53, Ybad.ntmps53
    go_wp2
    go_ret
    exact ⟨rfl, hB.1⟩
  | 1, _ =>
    go_enter Ybad.func53, Ybad.ntmps53
    go_wp2
    go_ret
    exact ⟨rfl, hB.1⟩
  | 2, _ =>
    go_enter Ybad.func53, Ybad.ntmps53
    go_wp2
    go_ret
    exact ⟨rfl, hB.1⟩

theorem isZero_calls (hi lo : Int) (p4 p6 : Addr) (z : Nat) (hz : z ≤ 2) (w : World) (hE : Env w p4 p6) :
    Calls Ybad.prog 23 #[.agg #[.int .u64 hi, .int .u64 lo, .pointer (zp p4 p6 z)]] w fun e w' => e = .returned (.bool (z == 0)) ∧ Below w.heap.size w w' := by
  have hB := Boxes.one w 63 [.int .u64 hi, .int .u64 lo, .pointer (zp p4 p6 z)]
  obtain ⟨g0, g1, g2⟩ := hE.cells (rows := [(63, [.int .u64 hi, .int .u64 lo, .pointer (zp p4 p6 z)])])
  have q0 := eq_rule (hE.boxes (rows := [(63, [.int .u64 hi, .int .u64 lo, .pointer (zp p4 p6 z)])])) z 0 hz (by decide)
  match z, hz with
  | 0, _ =>
    go_enter Ybad.func23, Ybad.ntmps23
    go_wp2
    go_ret
    exact ⟨rfl, hB.1⟩
  | 1, _ =>
    go_enter Ybad.func23, Ybad.ntmps23
    go_wp2
    go_ret
    exact ⟨rfl, hB.1⟩
  | 2, _ =>
    go_enter Ybad.func23, Ybad.ntmps23
    go_wp2
    go_ret
    exact ⟨rfl, hB.1⟩

theorem isValid_calls (hi lo : Int) (p4 p6 : Addr) (z : Nat) (hz : z ≤ 2) (w : World) (hE : Env w p4 p6) :
    Calls Ybad.prog 47 #[.agg #[.int .u64 hi, .int .u64 lo, .pointer (zp p4 p6 z)]] w fun e w' => e = .returned (.bool (!(z == 0))) ∧ Below w.heap.size w w' := by
  have hB := Boxes.one w 63 [.int .u64 hi, .int .u64 lo, .pointer (zp p4 p6 z)]
  obtain ⟨g0, g1, g2⟩ := hE.cells (rows := [(63, [.int .u64 hi, .int .u64 lo, .pointer (zp p4 p6 z)])])
  have q0 := eq_rule (hE.boxes (rows := [(63, [.int .u64 hi, .int .u64 lo, .pointer (zp p4 p6 z)])])) z 0 hz (by decide)
  match z, hz with
  | 0, _ =>
    go_enter Ybad.func47, Ybad.ntmps47
    go_wp2
    go_ret
    exact ⟨rfl, hB.1⟩
  | 1, _ =>
    go_enter Ybad.func47, Ybad.ntmps47
    go_wp2
    go_ret
    exact ⟨rfl, hB.1⟩
  | 2, _ =>
    go_enter Ybad.func47, Ybad.ntmps47
    go_wp2
    go_ret
    exact ⟨rfl, hB.1⟩

/-- How many bits an address has. -/
def bitLen (z : Nat) : Int := if z = 0 then 0 else if z = 1 then 32 else 128
theorem bitLen_calls (hi lo : Int) (p4 p6 : Addr) (z : Nat) (hz : z ≤ 2) (w : World) (hE : Env w p4 p6) :
    Calls Ybad.prog 24 #[.agg #[.int .u64 hi, .int .u64 lo, .pointer (zp p4 p6 z)]] w fun e w' => e = .returned (.int .i64 (bitLen z)) ∧ Below w.heap.size w w' := by
  have hB := Boxes.one w 63 [.int .u64 hi, .int .u64 lo, .pointer (zp p4 p6 z)]
  obtain ⟨g0, g1, g2⟩ := hE.cells (rows := [(63, [.int .u64 hi, .int .u64 lo, .pointer (zp p4 p6 z)])])
  have q0 := eq_rule (hE.boxes (rows := [(63, [.int .u64 hi, .int .u64 lo, .pointer (zp p4 p6 z)])])) z 0 hz (by decide)
  have q1 := eq_rule (hE.boxes (rows := [(63, [.int .u64 hi, .int .u64 lo, .pointer (zp p4 p6 z)])])) z 1 hz (by decide)
  match z, hz with
  | 0, _ =>
    go_enter Ybad.func24, Ybad.ntmps24
    go_wp2
    go_ret
    exact ⟨rfl, hB.1⟩
  | 1, _ =>
    go_enter Ybad.func24, Ybad.ntmps24
    go_wp2
    go_ret
    exact ⟨rfl, hB.1⟩
  | 2, _ =>
    go_enter Ybad.func24, Ybad.ntmps24
    go_wp2
    go_ret
    exact ⟨rfl, hB.1⟩

theorem is6_calls (hi lo : Int) (p4 p6 : Addr) (z : Nat) (hz : z ≤ 2) (w : World) (hE : Env w p4 p6) :
    Calls Ybad.prog 33 #[.agg #[.int .u64 hi, .int .u64 lo, .pointer (zp p4 p6 z)]] w fun e w' => e = .returned (.bool (z == 2)) ∧ Below w.heap.size w w' := by
  have hB := Boxes.one w 63 [.int .u64 hi, .int .u64 lo, .pointer (zp p4 p6 z)]
  obtain ⟨g0, g1, g2⟩ := hE.cells (rows := [(63, [.int .u64 hi, .int .u64 lo, .pointer (zp p4 p6 z)])])
  have q0 := eq_rule (hE.boxes (rows := [(63, [.int .u64 hi, .int .u64 lo, .pointer (zp p4 p6 z)])])) z 0 hz (by decide)
  have q1 := eq_rule (hE.boxes (rows := [(63, [.int .u64 hi, .int .u64 lo, .pointer (zp p4 p6 z)])])) z 1 hz (by decide)
  match z, hz with
  | 0, _ =>
    go_enter Ybad.func33, Ybad.ntmps33
    go_wp2
    go_ret
    exact ⟨rfl, hB.1⟩
  | 1, _ =>
    go_enter Ybad.func33, Ybad.ntmps33
    go_wp2
    go_ret
    exact ⟨rfl, hB.1⟩
  | 2, _ =>
    go_enter Ybad.func33, Ybad.ntmps33
    go_wp2
    go_ret
    exact ⟨rfl, hB.1⟩

theorem hasZone_calls (hi lo : Int) (p4 p6 : Addr) (z : Nat) (hz : z ≤ 2) (w : World) (hE : Env w p4 p6) :
    Calls Ybad.prog 52 #[.agg #[.int .u64 hi, .int .u64 lo, .pointer (zp p4 p6 z)]] w fun e w' => e = .returned (.bool false) ∧ Below w.heap.size w w' := by
  have hB := Boxes.one w 63 [.int .u64 hi, .int .u64 lo, .pointer (zp p4 p6 z)]
  obtain ⟨g0, g1, g2⟩ := hE.cells (rows := [(63, [.int .u64 hi, .int .u64 lo, .pointer (zp p4 p6 z)])])
  have q0 := eq_rule (hE.boxes (rows := [(63, [.int .u64 hi, .int .u64 lo, .pointer (zp p4 p6 z)])])) z 0 hz (by decide)
  have q1 := eq_rule (hE.boxes (rows := [(63, [.int .u64 hi, .int .u64 lo, .pointer (zp p4 p6 z)])])) z 1 hz (by decide)
  have q2 := eq_rule (hE.boxes (rows := [(63, [.int .u64 hi, .int .u64 lo, .pointer (zp p4 p6 z)])])) z 2 hz (by decide)
  match z, hz with
  | 0, _ =>
    go_enter Ybad.func52, Ybad.ntmps52
    go_wp2
    go_ret
    exact ⟨rfl, hB.1⟩
  | 1, _ =>
    go_enter Ybad.func52, Ybad.ntmps52
    go_wp2
    go_ret
    exact ⟨rfl, hB.1⟩
  | 2, _ =>
    go_enter Ybad.func52, Ybad.ntmps52
    go_wp2
    go_ret
    exact ⟨rfl, hB.1⟩

end Go.Proofs.YbulkdxjmDoor

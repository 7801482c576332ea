/-
  ADDRESSES OUT OF BYTES: 'netip.AddrFrom4' (26), 'byteorder.BEUint64' (34), 'netip.AddrFrom16' (27).
-/
import Derived.Test.YbulkdxjmDoorHandles
import Derived.Laws.BitsAllLaws
namespace Go.Proofs.YbulkdxjmDoor
open Go.RowKit

theorem from4_0 (p4 p6 : Addr) (w : World) (hE : Env w p4 p6) :
    Calls Ybad.prog 26 #[.agg #[.int .u8 0, .int .u8 0, .int .u8 0, .int .u8 0]] w fun e w' => e = .returned (.agg #[.int .u64 0, .int .u64 281470681743360, .pointer (zp p4 p6 1)]) ∧ Below w.heap.size w w' := by
  have hB := Boxes.two w 127 63 [.int .u8 0, .int .u8 0, .int .u8 0, .int .u8 0] [.int .u64 0, .int .u64 0, .pointer none]
  obtain ⟨g0, g1, g2⟩ := hE.cells (rows := [(127, [.int .u8 0, .int .u8 0, .int .u8 0, .int .u8 0]), (63, [.int .u64 0, .int .u64 0, .pointer none])])
  have b0 : bits .or .u64 281470681743360 0 = 281470681743360 := by decide +kernel
  go_enter Ybad.func26, Ybad.ntmps26
  go_wp2
  go_returns
  exact ⟨rfl, by go_grown⟩
theorem from4_1 (p4 p6 : Addr) (w : World) (hE : Env w p4 p6) :
    Calls Ybad.prog 26 #[.agg #[.int .u8 10, .int .u8 0, .int .u8 0, .int .u8 1]] w fun e w' => e = .returned (.agg #[.int .u64 0, .int .u64 281470849515521, .pointer (zp p4 p6 1)]) ∧ Below w.heap.size w w' := by
  have hB := Boxes.two w 127 63 [.int .u8 10, .int .u8 0, .int .u8 0, .int .u8 1] [.int .u64 0, .int .u64 0, .pointer none]
  obtain ⟨g0, g1, g2⟩ := hE.cells (rows := [(127, [.int .u8 10, .int .u8 0, .int .u8 0, .int .u8 1]), (63, [.int .u64 0, .int .u64 0, .pointer none])])
  have b0 : bits .or .u64 281470681743360 167772160 = 281470849515520 := by decide +kernel
  have b1 : bits .or .u64 281470849515520 0 = 281470849515520 := by decide +kernel
  have b2 : bits .or .u64 281470849515520 1 = 281470849515521 := by decide +kernel
  go_enter Ybad.func26, Ybad.ntmps26
  go_wp2
  go_returns
  exact ⟨rfl, by go_grown⟩
theorem from4_2 (p4 p6 : Addr) (w : World) (hE : Env w p4 p6) :
    Calls Ybad.prog 26 #[.agg #[.int .u8 10, .int .u8 0, .int .u8 0, .int .u8 2]] w fun e w' => e = .returned (.agg #[.int .u64 0, .int .u64 281470849515522, .pointer (zp p4 p6 1)]) ∧ Below w.heap.size w w' := by
  have hB := Boxes.two w 127 63 [.int .u8 10, .int .u8 0, .int .u8 0, .int .u8 2] [.int .u64 0, .int .u64 0, .pointer none]
  obtain ⟨g0, g1, g2⟩ := hE.cells (rows := [(127, [.int .u8 10, .int .u8 0, .int .u8 0, .int .u8 2]), (63, [.int .u64 0, .int .u64 0, .pointer none])])
  have b0 : bits .or .u64 281470681743360 167772160 = 281470849515520 := by decide +kernel
  have b1 : bits .or .u64 281470849515520 0 = 281470849515520 := by decide +kernel
  have b2 : bits .or .u64 281470849515520 2 = 281470849515522 := by decide +kernel
  go_enter Ybad.func26, Ybad.ntmps26
  go_wp2
  go_returns
  exact ⟨rfl, by go_grown⟩

/-- Eight bytes as a number, the highest first. -/
def be (x0 x1 x2 x3 x4 x5 x6 x7 : Int) : Int :=
  bits .or .u64 (bits .or .u64 (bits .or .u64 (bits .or .u64 (bits .or .u64 (bits .or .u64 (bits .or .u64 (IntKind.u64.wrap x7) (IntKind.u64.wrap (IntKind.u64.wrap x6 * 256))) (IntKind.u64.wrap (IntKind.u64.wrap x5 * 65536))) (IntKind.u64.wrap (IntKind.u64.wrap x4 * 16777216)))
    (IntKind.u64.wrap (IntKind.u64.wrap x3 * 4294967296))) (IntKind.u64.wrap (IntKind.u64.wrap x2 * 1099511627776))) (IntKind.u64.wrap (IntKind.u64.wrap x1 * 281474976710656))) (IntKind.u64.wrap (IntKind.u64.wrap x0 * 72057594037927936))
theorem be_0 : be 0 0 0 0 0 0 0 0 = 0 := by decide +kernel
theorem be_1 : be 0 0 0 0 0 0 0 1 = 1 := by decide +kernel
theorem be_2 : be 0 0 0 0 0 0 0 2 = 2 := by decide +kernel
theorem be_m : be 0 0 255 255 10 0 0 1 = 281470849515521 := by decide +kernel
theorem be_d : be 32 1 13 184 0 0 0 0 = 2306139568115548160 := by decide +kernel
theorem be64_calls (x0 x1 x2 x3 x4 x5 x6 x7 : Int) (w : World) (b o n c : Nat) (hn : 8 ≤ n)
    (c0 : w.cell? ⟨b, o, none⟩ = some (.int .u8 x0)) (c1 : w.cell? ⟨b, o + 1, none⟩ = some (.int .u8 x1)) (c2 : w.cell? ⟨b, o + 2, none⟩ = some (.int .u8 x2)) (c3 : w.cell? ⟨b, o + 3, none⟩ = some (.int .u8 x3))
    (c4 : w.cell? ⟨b, o + 4, none⟩ = some (.int .u8 x4)) (c5 : w.cell? ⟨b, o + 5, none⟩ = some (.int .u8 x5)) (c6 : w.cell? ⟨b, o + 6, none⟩ = some (.int .u8 x6)) (c7 : w.cell? ⟨b, o + 7, none⟩ = some (.int .u8 x7)) :
    Calls Ybad.prog 34 #[.slice (some ⟨b, o, none⟩) n c] w fun e w' => e = .returned (.int .u64 (be x0 x1 x2 x3 x4 x5 x6 x7)) ∧ ∃ q, w' = w.drewN q := by
  have n0 : (0 : Int) < n := by omega
  have n1 : (1 : Int) < n := by omega
  have n2 : (2 : Int) < n := by omega
  have n3 : (3 : Int) < n := by omega
  have n4 : (4 : Int) < n := by omega
  have n5 : (5 : Int) < n := by omega
  have n6 : (6 : Int) < n := by omega
  have n7 : (7 : Int) < n := by omega
  go_enter Ybad.func34, Ybad.ntmps34
  go_wp2
  go_quiet (fail)
  go_wp2
  go_ret
  exact ⟨rfl, _, rfl⟩

set_option maxHeartbeats 1000000 in
/-- 'AddrFrom16' of sixteen given bytes. -/
theorem from16_calls (x0 x1 x2 x3 x4 x5 x6 x7 y0 y1 y2 y3 y4 y5 y6 y7 : Int) (p4 p6 : Addr) (w : World) (hE : Env w p4 p6) :
    Calls Ybad.prog 27 #[.agg #[.int .u8 x0, .int .u8 x1, .int .u8 x2, .int .u8 x3, .int .u8 x4, .int .u8 x5, .int .u8 x6, .int .u8 x7, .int .u8 y0, .int .u8 y1, .int .u8 y2, .int .u8 y3, .int .u8 y4, .int .u8 y5, .int .u8 y6, .int .u8 y7]] w
      fun e w' => e = .returned (.agg #[.int .u64 (be x0 x1 x2 x3 x4 x5 x6 x7), .int .u64 (be y0 y1 y2 y3 y4 y5 y6 y7), .pointer (zp p4 p6 2)]) ∧ Below w.heap.size w w' := by
  have hB := Boxes.two w 129 63 [.int .u8 x0, .int .u8 x1, .int .u8 x2, .int .u8 x3, .int .u8 x4, .int .u8 x5, .int .u8 x6, .int .u8 x7, .int .u8 y0, .int .u8 y1, .int .u8 y2, .int .u8 y3, .int .u8 y4, .int .u8 y5, .int .u8 y6, .int .u8 y7] [.int .u64 0, .int .u64 0, .pointer none]
  obtain ⟨g0, g1, g2⟩ := hE.cells (rows := [(129, [.int .u8 x0, .int .u8 x1, .int .u8 x2, .int .u8 x3, .int .u8 x4, .int .u8 x5, .int .u8 x6, .int .u8 x7, .int .u8 y0, .int .u8 y1, .int .u8 y2, .int .u8 y3, .int .u8 y4, .int .u8 y5, .int .u8 y6, .int .u8 y7]), (63, [.int .u64 0, .int .u64 0, .pointer none])])
  go_enter Ybad.func27, Ybad.ntmps27
  go_wp2
  go_region_with (first
    | (go_at_call_of 34 (Value.slice (some ⟨w.heap.size, 0, none⟩) 8 16); refine (be64_calls x0 x1 x2 x3 x4 x5 x6 x7 _ w.heap.size 0 8 16 (by decide) (by simp [go_sem]) (by simp [go_sem]) (by simp [go_sem]) (by simp [go_sem]) (by simp [go_sem]) (by simp [go_sem]) (by simp [go_sem]) (by simp [go_sem]) ).mono ?_; rintro e w1 ⟨rfl, q1, rfl⟩)
    | (go_at_call_of 34 (Value.slice (some ⟨w.heap.size, 8, none⟩) 8 8); refine (be64_calls y0 y1 y2 y3 y4 y5 y6 y7 _ w.heap.size 8 8 8 (by decide) (by simp [go_sem]) (by simp [go_sem]) (by simp [go_sem]) (by simp [go_sem]) (by simp [go_sem]) (by simp [go_sem]) (by simp [go_sem]) (by simp [go_sem]) ).mono ?_; rintro e w2 ⟨rfl, q2, rfl⟩))
  all_goals go_wp2
  all_goals go_returns
  all_goals refine ⟨rfl, ?_⟩
  all_goals repeat' (first | refine below_drewN ?_ _ | go_grown)

end Go.Proofs.YbulkdxjmDoor

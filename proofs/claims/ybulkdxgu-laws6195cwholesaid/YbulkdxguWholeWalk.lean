/-
  THE WALK OF 'simulate.LawS6195CWhole' (function 4): too long; 'search' nil; 'search' not nil.
-/
import Derived.Test.YbulkdxguFirst
namespace Go.Proofs.Ybulkdxgu.lawS6195CWhole
open Go.RowKit

/-- More than 2^20 elements in all: it returns at once. -/
theorem walk_big (a0 : Option Addr) (len0 cap0 : Nat) (a1 : Option Addr) (len1 cap1 : Nat) (a2 : Int) (a3 : Option Addr) (len3 cap3 : Nat) (w : World) (h0 : len0 ≤ 17592186043904) (h1 : len1 ≤ 17592186043904) (h3 : len3 ≤ 17592186043904) (hb : 1048576 < len0 + len1 + len3) :
    Calls Yba.prog 4 #[.slice a0 len0 cap0, .slice a1 len1 cap1, .int .i64 a2, .slice a3 len3 cap3] w fun e w' => e = .returned (.bool true) ∧ Below w.heap.size w w' := by
  go_enter Yba.func4, Yba.ntmps4
  go_wp2
  go_ret
  exact ⟨rfl, Below.refl _ _⟩

set_option maxRecDepth 100000 in
set_option maxHeartbeats 1000000 in
theorem walk_nil (a0 : Option Addr) (len0 cap0 : Nat) (z0 : List Int) (a1 : Option Addr) (len1 cap1 : Nat) (z1 : List Int) (a2 : Int) (w : World) (hb : len0 + len1 ≤ 1048576)
    (H0 : 0 < len0 → ∃ b o, a0 = some ⟨b, o, none⟩ ∧ b < w.heap.size ∧ ∀ i, i < len0 → w.cell? ⟨b, o + i, none⟩ = some (.int .i64 (z0.getD i 0)))
    (H1 : 0 < len1 → ∃ b o, a1 = some ⟨b, o, none⟩ ∧ b < w.heap.size ∧ ∀ i, i < len1 → w.cell? ⟨b, o + i, none⟩ = some (.int .i64 (z1.getD i 0))) :
    Calls Yba.prog 4 #[.slice a0 len0 cap0, .slice a1 len1 cap1, .int .i64 a2, .slice none 0 0] w fun e w' => e = .returned (.bool true) ∧ Below w.heap.size w w' := by
  obtain ⟨i28, hi, hz0, hz1, hz2⟩ := info_parts Yba.info28
  have hm0 : ∀ (w : World), (Instr.makeSlice 26 (.int .i64 len0) (.int .i64 len0)).run Yba.prog w = .ok (.slice (some ⟨w.heap.size, 0, none⟩) len0 len0) (w.alloc (.cells (flat (List.replicate len0 (0, 0))).toArray 28)) := by
    intro w
    have := run_make (P := Yba.prog) w 26 28 i28 _ Yba.underlying26 hi hz0 .i64 .i64 len0 len0 (by omega) (by omega) (by rw [hz2]; omega) (by omega)
    rw [hz1] at this
    simpa [flat_made] using this
  have HZ : Hid (i28.size = 2) := hz1
  have HI : Hid (Yba.prog.info? 28 = some i28) := hi
  clear hi hz0 hz1 hz2
  have HH0 : Hid (0 < len0 → ∃ b o, a0 = some ⟨b, o, none⟩ ∧ b < w.heap.size ∧ ∀ i, i < len0 → w.cell? ⟨b, o + i, none⟩ = some (.int .i64 (z0.getD i 0))) := H0
  have HH1 : Hid (0 < len1 → ∃ b o, a1 = some ⟨b, o, none⟩ ∧ b < w.heap.size ∧ ∀ i, i < len1 → w.cell? ⟨b, o + i, none⟩ = some (.int .i64 (z1.getD i 0))) := H1
  clear H0 H1
  go_enter Yba.func4, Yba.ntmps4
  go_wp2
  go_loopw [10] (fun i wr => ∃ k : Nat, k ≤ len0 ∧ i = .int .i64 k ∧ ∃ ps : List (Int × Int), ps.length = len0 ∧ (0 < k → (ps.getD 0 (0, 0)).1 = z0.getD 0 0) ∧ RowAt wr w.heap.size 28 (flat ps) ∧ wr.heap.size = w.heap.size + 1 ∧ Below w.heap.size w wr) (fun i _ => len0 - (intOf i).toNat)
  case atStart => exact ⟨0, Nat.zero_le _, rfl, List.replicate len0 (0, 0), by simp, fun h => absurd h (by omega), RowAt.new _ _ _, by simp, (Below.refl _ _).alloc (Nat.le_refl _) _⟩
  case round =>
    obtain ⟨k, hk, rfl, ps, hps, hfirst, hrow, hsz, hbel⟩ := hrel
    have HF : Hid (0 < k → (ps.getD 0 (0, 0)).1 = z0.getD 0 0) := hfirst
    have HP : Hid (ps.length = len0) := hps
    clear hfirst hps
    by_cases hlt : k < len0
    · obtain ⟨b0, o0, rfl, hb0, hc0⟩ := HH0.out (by omega)
      have hcc0 : wr.cell? ⟨b0, o0 + k, none⟩ = some (.int .i64 (z0.getD k 0)) := (hbel.cell hb0).trans (hc0 k hlt)
      have hx := hrow.at (j := k) (by rw [HP.out]; exact hlt)
      have hy := hrow.num (j := k) (by rw [HP.out]; exact hlt)
      have hf : ∀ j, wr.frozen? ⟨w.heap.size, j, none⟩ = false := hrow.frozen
      have fin : ∀ n : Int, ∃ qs : List (Int × Int), qs.length = len0 ∧ (0 < k + 1 → (qs.getD 0 (0, 0)).1 = z0.getD 0 0) ∧ RowAt ((wr.setCell ⟨w.heap.size, k * 2, none⟩ (.int .i64 (z0[k]?.getD 0))).setCell ⟨w.heap.size, k * 2 + 1, none⟩ (.int .i64 n)) w.heap.size 28 (flat qs) := by
        intro n
        refine ⟨ps.set k (z0[k]?.getD 0, n), by simp [HP.out], fun _ => ?_, hrow.put k _ n⟩
        have hp := HP.out
        by_cases hk0 : k = 0
        · subst hk0; simp [show 0 < ps.length by omega]
        · rw [← HF.out (by omega)]; simp [hk0]
      have HFin := show Hid _ from fin
      clear fin hrow hc0
      by_cases hl1 : k < len1
      · obtain ⟨b1, o1, rfl, hb1, hc1⟩ := HH1.out (by omega)
        have hcc1 : wr.cell? ⟨b1, o1 + k, none⟩ = some (.int .i64 (z1.getD k 0)) := (hbel.cell hb1).trans (hc1 k hl1)
        clear hc1
        go_wp2
        go_roundw
        case rel =>
          obtain ⟨qs, q1, q2, q3⟩ := HFin.out (z1[k]?.getD 0)
          exact ⟨k + 1, by omega, by go_num, qs, q1, q2, q3, by simpa using hsz, (hbel.setCell (Nat.le_refl _) _).setCell (Nat.le_refl _) _⟩
        case measure => simp [intOf]; omega
      · go_wp2
        go_roundw
        case rel =>
          obtain ⟨qs, q1, q2, q3⟩ := HFin.out 0
          exact ⟨k + 1, by omega, by go_num, qs, q1, q2, q3, by simpa using hsz, (hbel.setCell (Nat.le_refl _) _).setCell (Nat.le_refl _) _⟩
        case measure => simp [intOf]; omega
    · obtain rfl : k = len0 := by omega
      clear hlt hk
      obtain ⟨W2, hcp, hkeep, hrow2, hsz2, hbel2⟩ : ∃ W2, (Builtin.copy_ #[26, 26] 3 #[.slice (some ⟨w.heap.size + 1, 0, none⟩) k k, .slice (some ⟨w.heap.size, 0, none⟩) k k]).run Yba.prog (wr.alloc (.cells (flat (List.replicate k (0, 0))).toArray 28)) = .ok (goInt k) W2
          ∧ RowAt W2 (w.heap.size + 1) 28 (flat ps) ∧ RowAt W2 w.heap.size 28 (flat ps) ∧ W2.heap.size = w.heap.size + 2 ∧ Below w.heap.size w W2 := by
        have hn := RowAt.new wr 28 (flat (List.replicate k (0, 0)))
        rw [hsz] at hn
        have hr := run_copy_whole (P := Yba.prog) (wr.alloc (.cells (flat (List.replicate k (0, 0))).toArray 28)) 26 26 3 28 i28 Yba.underlying26 HI.out (w.heap.size + 1) k k ⟨w.heap.size, 0, none⟩ k 28 _ (flat ps) hn (by simp [flat_length, HZ.out]) (by simp [flat_length, HZ.out, HP.out]) (fun j v hv => by rw [Addr.add_lit]; simpa using (hrow.alloc _).cell hv) (flat_one _)
        refine ⟨_, hr, setRow_heap _ _ _ _ _ _ hn, (hrow.alloc _).of_block (setRow_other _ _ _ _ (by omega)), by simp [World.setRow, hsz], below_setRow (hbel.alloc (by omega) _) (by omega) _⟩
      go_wp2_with fail
      have hag := RowAt.new W2 33 [.slice none 0 0, .slice (some ⟨w.heap.size, 0, none⟩) k k, .slice none 0 0, .slice none 0 0, .int .i64 a2, .slice none 0 0]
      rw [hsz2] at hag
      have hkeep3 := hkeep.alloc (.cells #[.slice none 0 0, .slice (some ⟨w.heap.size, 0, none⟩) k k, .slice none 0 0, .slice none 0 0, .int .i64 a2, .slice none 0 0] 33)
      have hrow3 := hrow2.alloc (.cells #[.slice none 0 0, .slice (some ⟨w.heap.size, 0, none⟩) k k, .slice none 0 0, .slice none 0 0, .int .i64 a2, .slice none 0 0] 33)
      have hbel3 := hbel2.alloc (by omega) (.cells #[.slice none 0 0, .slice (some ⟨w.heap.size, 0, none⟩) k k, .slice none 0 0, .slice none 0 0, .int .i64 a2, .slice none 0 0] 33)
      generalize W2.alloc (.cells #[.slice none 0 0, .slice (some ⟨w.heap.size, 0, none⟩) k k, .slice none 0 0, .slice none 0 0, .int .i64 a2, .slice none 0 0] 33) = W3 at *
      clear hcp hkeep hrow2 hsz2 hbel2 hrow hsz hbel hm0
      have hc1 : W3.cell? ⟨w.heap.size + 2, 1, none⟩ = some (.slice (some ⟨w.heap.size, 0, none⟩) k k) := hag.cell rfl
      have hc2 : W3.cell? ⟨w.heap.size + 2, 3, none⟩ = some (.slice none 0 0) := hag.cell rfl
      have hc3 : W3.cell? ⟨w.heap.size + 2, 4, none⟩ = some (.int .i64 a2) := hag.cell rfl
      by_cases hk0 : k = 0
      · subst hk0
        refine (first_none _ _ _ _ hc1).mono ?_
        rintro e w' ⟨rfl, rfl⟩
        go_wp2
        go_loopw [19] (fun i wx => i = .int .i64 0 ∧ Below w.heap.size w wx) (fun _ _ => 0)
        case atStart => exact ⟨rfl, hbel3⟩
        case round =>
          clear hkeep3 hrow3 hag hbel3 hc1 hc2 hc3
          obtain ⟨rfl, hbel3⟩ := hrel
          go_wp2
          go_loopw [20] (fun i wx => i = .int .i64 0 ∧ Below w.heap.size w wx) (fun _ _ => 0)
          case atStart => exact ⟨rfl, hbel3⟩
          case round =>
            clear hbel3
            obtain ⟨rfl, hbel3⟩ := hrel
            go_wp2
            go_ret
            exact ⟨rfl, hbel3⟩
      · obtain ⟨b0, o0, rfl, hb0, hc0⟩ := HH0.out (by omega)
        have hcc0 : W3.cell? ⟨b0, o0, none⟩ = some (.int .i64 (z0.getD 0 0)) := (hbel3.cell hb0).trans (by simpa using hc0 0 (by omega))
        clear hc0
        have hx : W3.cell? ⟨w.heap.size, 0, none⟩ = some (.int .i64 (z0.getD 0 0)) := by
          have := hrow3.at (j := 0) (by have := HP.out; omega)
          rw [HF.out (by omega)] at this
          simpa using this
        refine (first_some _ _ _ _ _ _ (by omega) hc1 hx).mono ?_
        rintro e w' ⟨rfl, rfl⟩
        clear hx
        have hkp : (0 : Int) < k := by omega
        go_wp2
        go_loopw [19] (fun i wx => ∃ j : Nat, j ≤ k ∧ i = .int .i64 j ∧ RowAt wx (w.heap.size + 1) 28 (flat ps) ∧ RowAt wx w.heap.size 28 (flat ps) ∧ RowAt wx (w.heap.size + 2) 33 [.slice none 0 0, .slice (some ⟨w.heap.size, 0, none⟩) k k, .slice none 0 0, .slice none 0 0, .int .i64 a2, .slice none 0 0] ∧ Below w.heap.size w wx) (fun i _ => k - (intOf i).toNat)
        case atStart => exact ⟨0, Nat.zero_le _, rfl, hkeep3, hrow3, hag, hbel3⟩
        case round =>
          clear hkeep3 hrow3 hag hbel3 hc1 hc2 hc3
          obtain ⟨j, hj, rfl, hkeep3, hrow3, hag, hbel3⟩ := hrel
          have hc1 : wr.cell? ⟨w.heap.size + 2, 1, none⟩ = some (.slice (some ⟨w.heap.size, 0, none⟩) k k) := hag.cell rfl
          by_cases hjk : j < k
          · have hx1 := hkeep3.at (j := j) (by rw [HP.out]; exact hjk)
            have hy1 := hkeep3.num (j := j) (by rw [HP.out]; exact hjk)
            have hx2 := hrow3.at (j := j) (by rw [HP.out]; exact hjk)
            have hy2 := hrow3.num (j := j) (by rw [HP.out]; exact hjk)
            have hjk' : (j : Int) < (k : Int) := by omega
            go_wp2
            go_quiet (fail)
            go_wp2
            go_roundw
            case rel => exact ⟨j + 1, by omega, by go_num, hkeep3, hrow3, hag, below_drewN hbel3 _⟩
            case measure => simp [intOf]; omega
          · go_wp2
            go_loopw [20] (fun i wx => i = .int .i64 0 ∧ Below w.heap.size w wx) (fun _ _ => 0)
            case atStart => exact ⟨rfl, hbel3⟩
            case round =>
              clear hbel3
              obtain ⟨rfl, hbel3⟩ := hrel
              go_wp2
              go_ret
              exact ⟨rfl, hbel3⟩

set_option maxRecDepth 100000 in
set_option maxHeartbeats 1000000 in
theorem walk_row (a0 : Option Addr) (len0 cap0 : Nat) (z0 : List Int) (a1 : Option Addr) (len1 cap1 : Nat) (z1 : List Int) (a2 : Int) (x3 : Addr) (len3 cap3 : Nat) (z3 : List Int) (w : World) (hb : len0 + len1 + len3 ≤ 1048576)
    (H0 : 0 < len0 → ∃ b o, a0 = some ⟨b, o, none⟩ ∧ b < w.heap.size ∧ ∀ i, i < len0 → w.cell? ⟨b, o + i, none⟩ = some (.int .i64 (z0.getD i 0)))
    (H1 : 0 < len1 → ∃ b o, a1 = some ⟨b, o, none⟩ ∧ b < w.heap.size ∧ ∀ i, i < len1 → w.cell? ⟨b, o + i, none⟩ = some (.int .i64 (z1.getD i 0)))
    (hl3 : len3 ≤ z3.length) (H3 : ∀ i, i < len3 → w.cell? (x3.add i) = some (.int .i64 (z3.getD i 0))) :
    Calls Yba.prog 4 #[.slice a0 len0 cap0, .slice a1 len1 cap1, .int .i64 a2, .slice (some x3) len3 cap3] w fun e w' => e = .returned (.bool true) ∧ Below w.heap.size w w' := by
  obtain ⟨i28, hi, hz0, hz1, hz2⟩ := info_parts Yba.info28
  have hm0 : ∀ (w : World), (Instr.makeSlice 26 (.int .i64 len0) (.int .i64 len0)).run Yba.prog w = .ok (.slice (some ⟨w.heap.size, 0, none⟩) len0 len0) (w.alloc (.cells (flat (List.replicate len0 (0, 0))).toArray 28)) := by
    intro w
    have := run_make (P := Yba.prog) w 26 28 i28 _ Yba.underlying26 hi hz0 .i64 .i64 len0 len0 (by omega) (by omega) (by rw [hz2]; omega) (by omega)
    rw [hz1] at this
    simpa [flat_made] using this
  obtain ⟨i3, hi3, hy0, hy1, hy2⟩ := info_parts Yba.info3
  have hm3 : ∀ (w : World), (Instr.makeSlice 25 (.int .i64 len3) (.int .i64 len3)).run Yba.prog w = .ok (.slice (some ⟨w.heap.size, 0, none⟩) len3 len3) (w.alloc (.cells (zeros len3).toArray 3)) := by
    intro w
    have := run_make (P := Yba.prog) w 25 3 i3 _ Yba.underlying25 hi3 hy0 .i64 .i64 len3 len3 (by omega) (by omega) (by rw [hy2]; omega) (by omega)
    rw [hy1, Int.toNat_natCast, zeros_made] at this
    exact this
  have HZ3 : Hid (i3.size = 1) := hy1
  have HI3 : Hid (Yba.prog.info? 3 = some i3) := hi3
  clear hi3 hy0 hy1 hy2
  have HH3 : Hid (∀ i, i < len3 → w.cell? (x3.add i) = some (.int .i64 (z3.getD i 0))) := H3
  have HL3 : Hid (len3 ≤ z3.length) := hl3
  clear H3 hl3
  have HZ : Hid (i28.size = 2) := hz1
  have HI : Hid (Yba.prog.info? 28 = some i28) := hi
  clear hi hz0 hz1 hz2
  have HH0 : Hid (0 < len0 → ∃ b o, a0 = some ⟨b, o, none⟩ ∧ b < w.heap.size ∧ ∀ i, i < len0 → w.cell? ⟨b, o + i, none⟩ = some (.int .i64 (z0.getD i 0))) := H0
  have HH1 : Hid (0 < len1 → ∃ b o, a1 = some ⟨b, o, none⟩ ∧ b < w.heap.size ∧ ∀ i, i < len1 → w.cell? ⟨b, o + i, none⟩ = some (.int .i64 (z1.getD i 0))) := H1
  clear H0 H1
  go_enter Yba.func4, Yba.ntmps4
  go_wp2
  go_loopw [10] (fun i wr => ∃ k : Nat, k ≤ len0 ∧ i = .int .i64 k ∧ ∃ ps : List (Int × Int), ps.length = len0 ∧ (0 < k → (ps.getD 0 (0, 0)).1 = z0.getD 0 0) ∧ RowAt wr w.heap.size 28 (flat ps) ∧ wr.heap.size = w.heap.size + 1 ∧ Below w.heap.size w wr) (fun i _ => len0 - (intOf i).toNat)
  case atStart => exact ⟨0, Nat.zero_le _, rfl, List.replicate len0 (0, 0), by simp, fun h => absurd h (by omega), RowAt.new _ _ _, by simp, (Below.refl _ _).alloc (Nat.le_refl _) _⟩
  case round =>
    obtain ⟨k, hk, rfl, ps, hps, hfirst, hrow, hsz, hbel⟩ := hrel
    have HF : Hid (0 < k → (ps.getD 0 (0, 0)).1 = z0.getD 0 0) := hfirst
    have HP : Hid (ps.length = len0) := hps
    clear hfirst hps
    by_cases hlt : k < len0
    · obtain ⟨b0, o0, rfl, hb0, hc0⟩ := HH0.out (by omega)
      have hcc0 : wr.cell? ⟨b0, o0 + k, none⟩ = some (.int .i64 (z0.getD k 0)) := (hbel.cell hb0).trans (hc0 k hlt)
      have hx := hrow.at (j := k) (by rw [HP.out]; exact hlt)
      have hy := hrow.num (j := k) (by rw [HP.out]; exact hlt)
      have hf : ∀ j, wr.frozen? ⟨w.heap.size, j, none⟩ = false := hrow.frozen
      have fin : ∀ n : Int, ∃ qs : List (Int × Int), qs.length = len0 ∧ (0 < k + 1 → (qs.getD 0 (0, 0)).1 = z0.getD 0 0) ∧ RowAt ((wr.setCell ⟨w.heap.size, k * 2, none⟩ (.int .i64 (z0[k]?.getD 0))).setCell ⟨w.heap.size, k * 2 + 1, none⟩ (.int .i64 n)) w.heap.size 28 (flat qs) := by
        intro n
        refine ⟨ps.set k (z0[k]?.getD 0, n), by simp [HP.out], fun _ => ?_, hrow.put k _ n⟩
        have hp := HP.out
        by_cases hk0 : k = 0
        · subst hk0; simp [show 0 < ps.length by omega]
        · rw [← HF.out (by omega)]; simp [hk0]
      have HFin := show Hid _ from fin
      clear fin hrow hc0
      by_cases hl1 : k < len1
      · obtain ⟨b1, o1, rfl, hb1, hc1⟩ := HH1.out (by omega)
        have hcc1 : wr.cell? ⟨b1, o1 + k, none⟩ = some (.int .i64 (z1.getD k 0)) := (hbel.cell hb1).trans (hc1 k hl1)
        clear hc1
        go_wp2
        go_roundw
        case rel =>
          obtain ⟨qs, q1, q2, q3⟩ := HFin.out (z1[k]?.getD 0)
          exact ⟨k + 1, by omega, by go_num, qs, q1, q2, q3, by simpa using hsz, (hbel.setCell (Nat.le_refl _) _).setCell (Nat.le_refl _) _⟩
        case measure => simp [intOf]; omega
      · go_wp2
        go_roundw
        case rel =>
          obtain ⟨qs, q1, q2, q3⟩ := HFin.out 0
          exact ⟨k + 1, by omega, by go_num, qs, q1, q2, q3, by simpa using hsz, (hbel.setCell (Nat.le_refl _) _).setCell (Nat.le_refl _) _⟩
        case measure => simp [intOf]; omega
    · obtain rfl : k = len0 := by omega
      clear hlt hk
      obtain ⟨W2, hcp, hkeep, hrow2, hsz2, hbel2⟩ : ∃ W2, (Builtin.copy_ #[26, 26] 3 #[.slice (some ⟨w.heap.size + 1, 0, none⟩) k k, .slice (some ⟨w.heap.size, 0, none⟩) k k]).run Yba.prog (wr.alloc (.cells (flat (List.replicate k (0, 0))).toArray 28)) = .ok (goInt k) W2
          ∧ RowAt W2 (w.heap.size + 1) 28 (flat ps) ∧ RowAt W2 w.heap.size 28 (flat ps) ∧ W2.heap.size = w.heap.size + 2 ∧ Below w.heap.size w W2 := by
        have hn := RowAt.new wr 28 (flat (List.replicate k (0, 0)))
        rw [hsz] at hn
        have hr := run_copy_whole (P := Yba.prog) (wr.alloc (.cells (flat (List.replicate k (0, 0))).toArray 28)) 26 26 3 28 i28 Yba.underlying26 HI.out (w.heap.size + 1) k k ⟨w.heap.size, 0, none⟩ k 28 _ (flat ps) hn (by simp [flat_length, HZ.out]) (by simp [flat_length, HZ.out, HP.out]) (fun j v hv => by rw [Addr.add_lit]; simpa using (hrow.alloc _).cell hv) (flat_one _)
        refine ⟨_, hr, setRow_heap _ _ _ _ _ _ hn, (hrow.alloc _).of_block (setRow_other _ _ _ _ (by omega)), by simp [World.setRow, hsz], below_setRow (hbel.alloc (by omega) _) (by omega) _⟩
      obtain ⟨W4, hcp2, hsr, hkeep4, hrow4, hsz4, hbel4⟩ : ∃ W4, (Builtin.copy_ #[25, 25] 3 #[.slice (some ⟨w.heap.size + 2, 0, none⟩) len3 len3, .slice (some x3) len3 cap3]).run Yba.prog (W2.alloc (.cells (zeros len3).toArray 3)) = .ok (goInt len3) W4
          ∧ RowAt W4 (w.heap.size + 2) 3 ((z3.take len3).map (Value.int .i64)) ∧ RowAt W4 (w.heap.size + 1) 28 (flat ps) ∧ RowAt W4 w.heap.size 28 (flat ps) ∧ W4.heap.size = w.heap.size + 3 ∧ Below w.heap.size w W4 := by
        have hn := RowAt.new W2 3 (zeros len3)
        rw [hsz2] at hn
        have hl := HL3.out
        have hr := run_copy_whole (P := Yba.prog) (W2.alloc (.cells (zeros len3).toArray 3)) 25 25 3 3 i3 Yba.underlying25 HI3.out (w.heap.size + 2) len3 len3 x3 cap3 3 _ ((z3.take len3).map (Value.int .i64)) hn (by simp [HZ3.out, zeros_length]) (by simp [HZ3.out]; omega) (fun j v hv => by
            have hj : j < len3 := by
              have := (List.getElem?_eq_some_iff.1 hv).1
              simp at this
              omega
            have h3 := HH3.out j hj
            have hlt : (x3.add j).block < w.heap.size := World.block_lt_of_cell? w _ h3
            have e : v = .int .i64 (z3.getD j 0) := by
              have hj2 : j < z3.length := by omega
              simp [hj, hj2] at hv
              simp [hv, hj2]
            rw [e, ((hbel2.alloc (by omega) _).cell hlt), h3]) (ints_oneCell _ _)
        refine ⟨_, hr, setRow_heap _ _ _ _ _ _ hn, (hkeep.alloc _).of_block (setRow_other _ _ _ _ (by omega)), (hrow2.alloc _).of_block (setRow_other _ _ _ _ (by omega)), by simp [World.setRow, hsz2], below_setRow (hbel2.alloc (by omega) _) (by omega) _⟩
      go_wp2_with fail
      have hag := RowAt.new W4 33 [.slice none 0 0, .slice (some ⟨w.heap.size, 0, none⟩) k k, .slice none 0 0, .slice (some ⟨w.heap.size + 2, 0, none⟩) len3 len3, .int .i64 a2, .slice none 0 0]
      rw [hsz4] at hag
      have hsr3 := hsr.alloc (.cells #[.slice none 0 0, .slice (some ⟨w.heap.size, 0, none⟩) k k, .slice none 0 0, .slice (some ⟨w.heap.size + 2, 0, none⟩) len3 len3, .int .i64 a2, .slice none 0 0] 33)
      have hkeep3 := hkeep4.alloc (.cells #[.slice none 0 0, .slice (some ⟨w.heap.size, 0, none⟩) k k, .slice none 0 0, .slice (some ⟨w.heap.size + 2, 0, none⟩) len3 len3, .int .i64 a2, .slice none 0 0] 33)
      have hrow3 := hrow4.alloc (.cells #[.slice none 0 0, .slice (some ⟨w.heap.size, 0, none⟩) k k, .slice none 0 0, .slice (some ⟨w.heap.size + 2, 0, none⟩) len3 len3, .int .i64 a2, .slice none 0 0] 33)
      have hbel3 := hbel4.alloc (by omega) (.cells #[.slice none 0 0, .slice (some ⟨w.heap.size, 0, none⟩) k k, .slice none 0 0, .slice (some ⟨w.heap.size + 2, 0, none⟩) len3 len3, .int .i64 a2, .slice none 0 0] 33)
      generalize W4.alloc (.cells #[.slice none 0 0, .slice (some ⟨w.heap.size, 0, none⟩) k k, .slice none 0 0, .slice (some ⟨w.heap.size + 2, 0, none⟩) len3 len3, .int .i64 a2, .slice none 0 0] 33) = W3 at *
      clear hcp hkeep hrow2 hsz2 hbel2 hrow hsz hbel hm0 hcp2 hsr hkeep4 hrow4 hsz4 hbel4 hm3
      have hc1 : W3.cell? ⟨w.heap.size + 3, 1, none⟩ = some (.slice (some ⟨w.heap.size, 0, none⟩) k k) := hag.cell rfl
      have hc2 : W3.cell? ⟨w.heap.size + 3, 3, none⟩ = some (.slice (some ⟨w.heap.size + 2, 0, none⟩) len3 len3) := hag.cell rfl
      have hc3 : W3.cell? ⟨w.heap.size + 3, 4, none⟩ = some (.int .i64 a2) := hag.cell rfl
      by_cases hk0 : k = 0
      · subst hk0
        refine (first_none _ _ _ _ hc1).mono ?_
        rintro e w' ⟨rfl, rfl⟩
        go_wp2
        go_loopw [19] (fun i wx => i = .int .i64 0 ∧ RowAt wx (w.heap.size + 2) 3 ((z3.take len3).map (Value.int .i64)) ∧ RowAt wx (w.heap.size + 3) 33 [.slice none 0 0, .slice (some ⟨w.heap.size, 0, none⟩) 0 0, .slice none 0 0, .slice (some ⟨w.heap.size + 2, 0, none⟩) len3 len3, .int .i64 a2, .slice none 0 0] ∧ Below w.heap.size w wx) (fun _ _ => 0)
        case atStart => exact ⟨rfl, hsr3, hag, hbel3⟩
        case round =>
          clear hkeep3 hrow3 hag hbel3 hc1 hc2 hc3 hsr3
          obtain ⟨rfl, hsr3, hag, hbel3⟩ := hrel
          go_wp2
          go_loopw [20] (fun i wx => ∃ j : Nat, j ≤ len3 ∧ i = .int .i64 j ∧ RowAt wx (w.heap.size + 2) 3 ((z3.take len3).map (Value.int .i64)) ∧ RowAt wx (w.heap.size + 3) 33 [.slice none 0 0, .slice (some ⟨w.heap.size, 0, none⟩) 0 0, .slice none 0 0, .slice (some ⟨w.heap.size + 2, 0, none⟩) len3 len3, .int .i64 a2, .slice none 0 0] ∧ Below w.heap.size w wx) (fun i _ => len3 - (intOf i).toNat)
          case atStart => exact ⟨0, Nat.zero_le _, rfl, hsr3, hag, hbel3⟩
          case round =>
            clear hsr3 hag hbel3
            obtain ⟨j, hj, rfl, hsr3, hag, hbel3⟩ := hrel
            by_cases hj3 : j < len3
            · have hj3' : (j : Int) < (len3 : Int) := by omega
              have hc2 : wr.cell? ⟨w.heap.size + 3, 3, none⟩ = some (.slice (some ⟨w.heap.size + 2, 0, none⟩) len3 len3) := hag.cell rfl
              have hx1 : wr.cell? ⟨w.heap.size + 2, j, none⟩ = some (.int .i64 (z3.getD j 0)) := by
                have := hsr3.int (j := j) (by have := HL3.out; simp; omega)
                simpa [List.getElem?_take, hj3] using this
              obtain ⟨b3, o3, rfl, hb3⟩ : ∃ b o, x3 = ⟨b, o, none⟩ ∧ b < w.heap.size := addr_of (HH3.out 0 (by omega))
              have hx2 : wr.cell? ⟨b3, o3 + j, none⟩ = some (.int .i64 (z3.getD j 0)) := (hbel3.cell hb3).trans (by have := HH3.out j hj3; rwa [Addr.add_lit] at this)
              go_wp2
              go_quiet (fail)
              go_wp2
              go_roundw
              case rel => exact ⟨j + 1, by omega, by go_num, hsr3, hag, below_drewN hbel3 _⟩
              case measure => simp [intOf]; omega
            · go_wp2
              go_ret
              exact ⟨rfl, hbel3⟩
      · obtain ⟨b0, o0, rfl, hb0, hc0⟩ := HH0.out (by omega)
        have hcc0 : W3.cell? ⟨b0, o0, none⟩ = some (.int .i64 (z0.getD 0 0)) := (hbel3.cell hb0).trans (by simpa using hc0 0 (by omega))
        clear hc0
        have hx : W3.cell? ⟨w.heap.size, 0, none⟩ = some (.int .i64 (z0.getD 0 0)) := by
          have := hrow3.at (j := 0) (by have := HP.out; omega)
          rw [HF.out (by omega)] at this
          simpa using this
        refine (first_some _ _ _ _ _ _ (by omega) hc1 hx).mono ?_
        rintro e w' ⟨rfl, rfl⟩
        clear hx
        have hkp : (0 : Int) < k := by omega
        go_wp2
        go_loopw [19] (fun i wx => ∃ j : Nat, j ≤ k ∧ i = .int .i64 j ∧ RowAt wx (w.heap.size + 1) 28 (flat ps) ∧ RowAt wx w.heap.size 28 (flat ps) ∧ RowAt wx (w.heap.size + 2) 3 ((z3.take len3).map (Value.int .i64)) ∧ RowAt wx (w.heap.size + 3) 33 [.slice none 0 0, .slice (some ⟨w.heap.size, 0, none⟩) k k, .slice none 0 0, .slice (some ⟨w.heap.size + 2, 0, none⟩) len3 len3, .int .i64 a2, .slice none 0 0] ∧ Below w.heap.size w wx) (fun i _ => k - (intOf i).toNat)
        case atStart => exact ⟨0, Nat.zero_le _, rfl, hkeep3, hrow3, hsr3, hag, hbel3⟩
        case round =>
          clear hkeep3 hrow3 hag hbel3 hc1 hc2 hc3 hsr3 hcc0
          obtain ⟨j, hj, rfl, hkeep3, hrow3, hsr3, hag, hbel3⟩ := hrel
          have hc1 : wr.cell? ⟨w.heap.size + 3, 1, none⟩ = some (.slice (some ⟨w.heap.size, 0, none⟩) k k) := hag.cell rfl
          by_cases hjk : j < k
          · have hx1 := hkeep3.at (j := j) (by rw [HP.out]; exact hjk)
            have hy1 := hkeep3.num (j := j) (by rw [HP.out]; exact hjk)
            have hx2 := hrow3.at (j := j) (by rw [HP.out]; exact hjk)
            have hy2 := hrow3.num (j := j) (by rw [HP.out]; exact hjk)
            have hjk' : (j : Int) < (k : Int) := by omega
            go_wp2
            go_quiet (fail)
            go_wp2
            go_roundw
            case rel => exact ⟨j + 1, by omega, by go_num, hkeep3, hrow3, hsr3, hag, below_drewN hbel3 _⟩
            case measure => simp [intOf]; omega
          · clear hc1
            go_wp2
            go_loopw [20] (fun i wx => ∃ j : Nat, j ≤ len3 ∧ i = .int .i64 j ∧ RowAt wx (w.heap.size + 2) 3 ((z3.take len3).map (Value.int .i64)) ∧ RowAt wx (w.heap.size + 3) 33 [.slice none 0 0, .slice (some ⟨w.heap.size, 0, none⟩) k k, .slice none 0 0, .slice (some ⟨w.heap.size + 2, 0, none⟩) len3 len3, .int .i64 a2, .slice none 0 0] ∧ Below w.heap.size w wx) (fun i _ => len3 - (intOf i).toNat)
            case atStart => exact ⟨0, Nat.zero_le _, rfl, hsr3, hag, hbel3⟩
            case round =>
              clear hsr3 hag hbel3
              obtain ⟨j, hj, rfl, hsr3, hag, hbel3⟩ := hrel
              by_cases hj3 : j < len3
              · have hj3' : (j : Int) < (len3 : Int) := by omega
                have hc2 : wr.cell? ⟨w.heap.size + 3, 3, none⟩ = some (.slice (some ⟨w.heap.size + 2, 0, none⟩) len3 len3) := hag.cell rfl
                have hx1 : wr.cell? ⟨w.heap.size + 2, j, none⟩ = some (.int .i64 (z3.getD j 0)) := by
                  have := hsr3.int (j := j) (by have := HL3.out; simp; omega)
                  simpa [List.getElem?_take, hj3] using this
                obtain ⟨b3, o3, rfl, hb3⟩ : ∃ b o, x3 = ⟨b, o, none⟩ ∧ b < w.heap.size := addr_of (HH3.out 0 (by omega))
                have hx2 : wr.cell? ⟨b3, o3 + j, none⟩ = some (.int .i64 (z3.getD j 0)) := (hbel3.cell hb3).trans (by have := HH3.out j hj3; rwa [Addr.add_lit] at this)
                go_wp2
                go_quiet (fail)
                go_wp2
                go_roundw
                case rel => exact ⟨j + 1, by omega, by go_num, hsr3, hag, below_drewN hbel3 _⟩
                case measure => simp [intOf]; omega
              · go_wp2
                go_ret
                exact ⟨rfl, hbel3⟩
end Go.Proofs.Ybulkdxgu.lawS6195CWhole

/-
  'service.admits' (29) AND WHAT IT CALLS: its closure (41), slices.IndexFunc (50), slices.ContainsFunc (40).
-/
import Derived.Test.YbulkdxjmDoorContains
import Derived.Test.YbulkdxjmDoorAdmitsModel
namespace Go.Proofs.YbulkdxjmDoor
open Go.RowKit
set_option linter.unusedVariables false

/-- A BLOCK THAT HOLDS THE ENDPOINT (k, po) of the table. -/
def ApAt (w : World) (p4 p6 : Addr) (g : Nat) (k po : Int) : Prop :=
  g < w.heap.size ∧ w.cell? ⟨g, 0, none⟩ = some (.int .u64 (hiK k)) ∧ w.cell? ⟨g, 1, none⟩ = some (.int .u64 (loK k)) ∧ w.cell? ⟨g, 2, none⟩ = some (.pointer (zp p4 p6 (zK k))) ∧ w.cell? ⟨g, 3, none⟩ = some (.int .u16 po)
theorem ApAt.below {w w' : World} {p4 p6 : Addr} {g : Nat} {k po : Int} (h : ApAt w p4 p6 g k po) (hb : Below w.heap.size w w') : ApAt w' p4 p6 g k po :=
  ⟨Nat.lt_of_lt_of_le h.1 hb.size, (hb.cell h.1).trans h.2.1, (hb.cell h.1).trans h.2.2.1, (hb.cell h.1).trans h.2.2.2.1, (hb.cell h.1).trans h.2.2.2.2⟩

set_option maxHeartbeats 1000000 in
theorem admits1_calls (p k po : Int) (h0 : 0 ≤ p) (h1 : p ≤ 4) (hk : k = 2 ∨ k = 3 ∨ k = 5 ∨ k = 6) (p4 p6 : Addr) (g : Nat) (w : World) (hE : Env w p4 p6) (hA : ApAt w p4 p6 g k po) :
    Calls Ybad.prog 41 #[.agg #[.int .u64 (hiK (kP p)), .int .u64 (loK (kP p)), .pointer (zp p4 p6 (zK (kP p))), .int .u8 (bP p)], .pointer (some ⟨g, 0, none⟩)] w fun e w' => e = .returned (.bool (containsB p k)) ∧ Below w.heap.size w w' := by
  have hB := Boxes.one w 75 [.int .u64 (hiK (kP p)), .int .u64 (loK (kP p)), .pointer (zp p4 p6 (zK (kP p))), .int .u8 (bP p)]
  have henv : ∀ w', Boxes w [(75, [.int .u64 (hiK (kP p)), .int .u64 (loK (kP p)), .pointer (zp p4 p6 (zK (kP p))), .int .u8 (bP p)])] w' → Env w' p4 p6 := hE.boxes
  have c0 : ∀ w', Boxes w [(75, [.int .u64 (hiK (kP p)), .int .u64 (loK (kP p)), .pointer (zp p4 p6 (zK (kP p))), .int .u8 (bP p)])] w' → w'.cell? ⟨w.heap.size, 0, none⟩ = some (.int .u64 (hiK (kP p))) := fun w' h => h.cell (i := 0) rfl rfl
  have c1 : ∀ w', Boxes w [(75, [.int .u64 (hiK (kP p)), .int .u64 (loK (kP p)), .pointer (zp p4 p6 (zK (kP p))), .int .u8 (bP p)])] w' → w'.cell? ⟨w.heap.size, 1, none⟩ = some (.int .u64 (loK (kP p))) := fun w' h => h.cell (i := 0) rfl rfl
  have c2 : ∀ w', Boxes w [(75, [.int .u64 (hiK (kP p)), .int .u64 (loK (kP p)), .pointer (zp p4 p6 (zK (kP p))), .int .u8 (bP p)])] w' → w'.cell? ⟨w.heap.size, 2, none⟩ = some (.pointer (zp p4 p6 (zK (kP p)))) := fun w' h => h.cell (i := 0) rfl rfl
  have c3 : ∀ w', Boxes w [(75, [.int .u64 (hiK (kP p)), .int .u64 (loK (kP p)), .pointer (zp p4 p6 (zK (kP p))), .int .u8 (bP p)])] w' → w'.cell? ⟨w.heap.size, 3, none⟩ = some (.int .u8 (bP p)) := fun w' h => h.cell (i := 0) rfl rfl
  obtain ⟨hg, a0, a1, a2, a3⟩ := hA
  have d0 : ∀ w', Boxes w [(75, [.int .u64 (hiK (kP p)), .int .u64 (loK (kP p)), .pointer (zp p4 p6 (zK (kP p))), .int .u8 (bP p)])] w' → w'.cell? ⟨g, 0, none⟩ = some (.int .u64 (hiK k)) := fun w' h => (h.1.cell hg).trans a0
  have d1 : ∀ w', Boxes w [(75, [.int .u64 (hiK (kP p)), .int .u64 (loK (kP p)), .pointer (zp p4 p6 (zK (kP p))), .int .u8 (bP p)])] w' → w'.cell? ⟨g, 1, none⟩ = some (.int .u64 (loK k)) := fun w' h => (h.1.cell hg).trans a1
  have d2 : ∀ w', Boxes w [(75, [.int .u64 (hiK (kP p)), .int .u64 (loK (kP p)), .pointer (zp p4 p6 (zK (kP p))), .int .u8 (bP p)])] w' → w'.cell? ⟨g, 2, none⟩ = some (.pointer (zp p4 p6 (zK k))) := fun w' h => (h.1.cell hg).trans a2
  have d3 : ∀ w', Boxes w [(75, [.int .u64 (hiK (kP p)), .int .u64 (loK (kP p)), .pointer (zp p4 p6 (zK (kP p))), .int .u8 (bP p)])] w' → w'.cell? ⟨g, 3, none⟩ = some (.int .u16 po) := fun w' h => (h.1.cell hg).trans a3
  have HEnv := hide henv
  clear henv hg a0 a1 a2 a3
  go_enter Ybad.func41, Ybad.ntmps41
  go_wp2
  generalize [((75 : TypeId), [Value.int .u64 (hiK (kP p)), .int .u64 (loK (kP p)), .pointer (zp p4 p6 (zK (kP p))), .int .u8 (bP p)])] = rows1 at *
  generalize w.alloc (.cells #[.int .u64 (hiK (kP p)), .int .u64 (loK (kP p)), .pointer (zp p4 p6 (zK (kP p))), .int .u8 (bP p)] 75) = W at *
  go_region_held3 (fun w' => Boxes w rows1 w') (first | with_reducible assumption | with_reducible exact Boxes.drew hB) (first | (go_at_call 36; refine (apAddr_calls _ _ _ _ _).mono ?_; rintro e w1 ⟨rfl, hb1⟩; have hk1 := Boxes.later (rows := rows1) (by assumption) hb1; clear hb1) | (go_at_call 42; refine (contains_calls p k h0 h1 hk p4 p6 _ (HEnv.out _ (by assumption))).mono ?_; rintro e w2 ⟨rfl, hb2⟩; have hk2 := Boxes.later (rows := rows1) (by assumption) hb2; clear hb2))
  rename_i hH
  go_wp2
  go_ret
  exact ⟨rfl, hH.1⟩

/-- A SLICE OF TABLE PREFIXES, by the drawn bytes. -/
def PfxAt (w : World) (p4 p6 : Addr) (a : Option Addr) (zs : List Int) : Prop :=
  (∀ z ∈ zs, 0 ≤ z ∧ z ≤ 255) ∧ (0 < zs.length → ∃ b o, a = some ⟨b, o, none⟩ ∧ b < w.heap.size ∧ ∀ i z, zs[i]? = some z →
    w.cell? ⟨b, o + i * 4, none⟩ = some (.int .u64 (hiK (kP (z % 5)))) ∧ w.cell? ⟨b, o + i * 4 + 1, none⟩ = some (.int .u64 (loK (kP (z % 5)))) ∧ w.cell? ⟨b, o + i * 4 + 2, none⟩ = some (.pointer (zp p4 p6 (zK (kP (z % 5))))) ∧ w.cell? ⟨b, o + i * 4 + 3, none⟩ = some (.int .u8 (bP (z % 5))))
theorem PfxAt.below {w w' : World} {p4 p6 : Addr} {a : Option Addr} {zs : List Int} (h : PfxAt w p4 p6 a zs) (hb : Below w.heap.size w w') : PfxAt w' p4 p6 a zs := by
  refine ⟨h.1, fun h0 => ?_⟩
  obtain ⟨b, o, e, hlt, hc⟩ := h.2 h0
  exact ⟨b, o, e, Nat.lt_of_lt_of_le hlt hb.size, fun i x hx => by
    obtain ⟨c0, c1, c2, c3⟩ := hc i x hx
    exact ⟨(hb.cell hlt).trans c0, (hb.cell hlt).trans c1, (hb.cell hlt).trans c2, (hb.cell hlt).trans c3⟩⟩

set_option maxHeartbeats 1000000 in
theorem indexP_calls (k po : Int) (hk : k = 2 ∨ k = 3 ∨ k = 5 ∨ k = 6) (p4 p6 : Addr) (g : Nat) (w : World) (hE : Env w p4 p6) (hA : ApAt w p4 p6 g k po) (ao : Option Addr) (n c : Nat) (zs : List Int) (hl : zs.length = n) (hn : n ≤ 4096) (hzs : PfxAt w p4 p6 ao zs) :
    Calls Ybad.prog 50 #[.slice ao n c, .func (.func 41) #[] #[.pointer (some ⟨g, 0, none⟩)]] w fun e w' => (∃ i : Int, e = .returned (.int .i64 i) ∧ decide (i ≥ 0) = (zs.any fun z => containsB (z % 5) k)) ∧ Below w.heap.size w w' := by
  have HE := hide hE
  have HA := hide hA
  have HZ := hide hzs
  have HL := hide hl
  clear hE hA hzs hl
  go_enter Ybad.func50, Ybad.ntmps50
  go_wp2
  go_loopw [8] (fun i wr => ∃ j : Nat, j ≤ n ∧ i = .int .i64 j ∧ Below w.heap.size w wr ∧ ((zs.take j).any fun z => containsB (z % 5) k) = false) (fun i _ => n - (intOf i).toNat)
  case atStart => exact ⟨0, Nat.zero_le _, rfl, Below.refl _ _, rfl⟩
  case round =>
    obtain ⟨j, hj, rfl, hbr, hno⟩ := hrel
    have HN := hide hno
    clear hno
    by_cases hlt : j < n
    · obtain ⟨x, hx⟩ : ∃ x, zs[j]? = some x := ⟨_, List.getElem?_eq_getElem (by have := HL.out; omega)⟩
      obtain ⟨b, o, rfl, hb, hc⟩ := HZ.out.2 (by have := HL.out; omega)
      obtain ⟨q0, q1, q2, q3⟩ := hc j x hx
      have k0 := (hbr.cell hb).trans q0
      have k1 := (hbr.cell hb).trans q1
      have k2 := (hbr.cell hb).trans q2
      have k3 := (hbr.cell hb).trans q3
      obtain ⟨x0, x1⟩ := HZ.out.1 x (List.mem_of_getElem? hx)
      have HX := hide hx
      have hEr := hide (HE.out.below hbr (Nat.le_refl _))
      have hAr := hide (HA.out.below hbr)
      clear q0 q1 q2 q3 hc hx
      have hcl := admits1_calls (x % 5) k po (by omega) (by omega) hk p4 p6 g wr hEr.out hAr.out
      have HC := hide hcl
      clear hcl
      go_wp2_with fail
      refine HC.out.mono ?_
      rintro e w1 ⟨rfl, hb1⟩
      have hbb := hbr.trans (hb1.mono hbr.size)
      cases hs : containsB (x % 5) k with
      | true =>
        go_wp2
        go_ret
        exact ⟨⟨_, rfl, by rw [List.any_eq_true.2 ⟨x, List.mem_of_getElem? HX.out, hs⟩]; simp⟩, hbb⟩
      | false =>
        go_wp2
        go_roundw
        case rel =>
          refine ⟨j + 1, by omega, by go_num, hbb, ?_⟩
          obtain ⟨hkl, hkx⟩ := List.getElem?_eq_some_iff.1 HX.out
          rw [List.take_succ_eq_append_getElem hkl, List.any_append, HN.out, hkx]
          simp [hs]
        case measure => simp [intOf]; omega
    · obtain rfl : j = n := by omega
      go_wp2
      go_ret
      have hno := HN.out
      rw [List.take_of_length_le (by have := HL.out; omega)] at hno
      exact ⟨⟨_, rfl, by rw [hno]; rfl⟩, hbr⟩

theorem containsP_calls (k po : Int) (hk : k = 2 ∨ k = 3 ∨ k = 5 ∨ k = 6) (p4 p6 : Addr) (g : Nat) (w : World) (hE : Env w p4 p6) (hA : ApAt w p4 p6 g k po) (ao : Option Addr) (n c : Nat) (zs : List Int) (hl : zs.length = n) (hn : n ≤ 4096) (hzs : PfxAt w p4 p6 ao zs) :
    Calls Ybad.prog 40 #[.slice ao n c, .func (.func 41) #[] #[.pointer (some ⟨g, 0, none⟩)]] w fun e w' => e = .returned (.bool (zs.any fun z => containsB (z % 5) k)) ∧ Below w.heap.size w w' := by
  go_enter Ybad.func40, Ybad.ntmps40
  go_wp2_with fail
  refine (indexP_calls k po hk p4 p6 g w hE hA ao n c zs hl hn hzs).mono ?_
  rintro e w1 ⟨⟨i, rfl, hi⟩, hb1⟩
  clear hE hA hzs hl
  have HI := hide hi
  clear hi
  go_wp2
  go_ret
  exact ⟨ret_bool HI.out, hb1⟩

set_option maxHeartbeats 1000000 in
theorem admits_calls (k po : Int) (hk : k = 2 ∨ k = 3 ∨ k = 5 ∨ k = 6) (p4 p6 : Addr) (s : Nat) (w : World) (hE : Env w p4 p6) (ao : Option Addr) (n c : Nat) (zs : List Int) (hl : zs.length = n) (hn : n ≤ 4096) (hzs : PfxAt w p4 p6 ao zs) (hs : w.cell? ⟨s, 8, none⟩ = some (.slice ao n c)) :
    Calls Ybad.prog 29 #[.pointer (some ⟨s, 0, none⟩), .agg #[.int .u64 (hiK k), .int .u64 (loK k), .pointer (zp p4 p6 (zK k)), .int .u16 po]] w fun e w' => e = .returned (.bool (zs.isEmpty || zs.any fun z => containsB (z % 5) k)) ∧ Below w.heap.size w w' := by
  have hB := Boxes.one w 65 [.int .u64 (hiK k), .int .u64 (loK k), .pointer (zp p4 p6 (zK k)), .int .u16 po]
  have hs1 : (w.alloc (.cells #[.int .u64 (hiK k), .int .u64 (loK k), .pointer (zp p4 p6 (zK k)), .int .u16 po] 65)).cell? ⟨s, 8, none⟩ = some (.slice ao n c) := (hB.1.cell (World.block_lt_of_cell? w _ hs)).trans hs
  have HE := hide (hE.boxes _ hB)
  have HZ := hide (hzs.below hB.1)
  have HA : Hid (ApAt (w.alloc (.cells #[.int .u64 (hiK k), .int .u64 (loK k), .pointer (zp p4 p6 (zK k)), .int .u16 po] 65)) p4 p6 w.heap.size k po) := hide ⟨by simp, (hB.res (i := 0) rfl).1 0 _ rfl, (hB.res (i := 0) rfl).1 1 _ rfl, (hB.res (i := 0) rfl).1 2 _ rfl, (hB.res (i := 0) rfl).1 3 _ rfl⟩
  have HL := hide hl
  clear hE hzs hs hl
  have hbb := hB.1
  by_cases hz : n = 0
  · subst hz
    go_enter Ybad.func29, Ybad.ntmps29
    go_wp2
    go_ret
    obtain rfl : zs = [] := List.eq_nil_of_length_eq_zero HL.out
    exact ⟨rfl, hbb⟩
  · have hz' : ((n : Int) == 0) = false := beq_eq_false_iff_ne.2 (by omega)
    go_enter Ybad.func29, Ybad.ntmps29
    go_wp2_with fail
    refine (containsP_calls k po hk p4 p6 w.heap.size _ HE.out HA.out ao n c zs HL.out hn HZ.out).mono ?_
    rintro e w1 ⟨rfl, hb1⟩
    have hbb1 := hbb.trans (hb1.mono hbb.size)
    have hne : zs.isEmpty = false := by
      have := HL.out
      cases zs with
      | nil => simp at this; omega
      | cons _ _ => rfl
    have HNE := hide hne
    clear hne hB hb1 hbb
    go_wp2
    go_ret
    exact ⟨ret_bool (by rw [HNE.out]; rfl), hbb1⟩
end Go.Proofs.YbulkdxjmDoor

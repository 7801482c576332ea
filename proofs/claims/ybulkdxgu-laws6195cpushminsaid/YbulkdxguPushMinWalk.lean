/-
  THE WALK OF 'simulate.LawS6195CPushMin' (function 5).
-/
import Derived.Test.YbulkdxguUp
import Derived.Deep.AppendLies
import Derived.Deep.RegionLaw
namespace Go.Proofs.Ybulkdxgu.lawS6195CPushMin
open Go.RowKit

/-- THE AGENDA BEHIND k ROUNDS: its struct in block B + 1, its places in block B, its heap hv (nil or of the call's own) further on; it holds the first k times. -/
structure St (w wr : World) (hv : Value) (k N : Nat) (ps : List (Int × Int)) (zs : List Int) : Prop where
  row : RowAt wr (w.heap.size + 1) 33 [.slice none 0 0, hv, .slice (some ⟨w.heap.size, 0, none⟩) N N, .slice none 0 0, .int .i64 0, .slice none 0 0]
  heap : wr.ownsRow w.heap.size 28 2 hv k (flat ps)
  far : ∀ g, hv.ownBlock = some g → w.heap.size + 2 ≤ g
  place : ∃ pl : List Int, pl.length = N ∧ RowAt wr w.heap.size 3 (pl.map (Value.int .i64))
  nums : ∀ q ∈ ps, 0 ≤ q.2 ∧ q.2 < (N : Int)
  order : Heap ps
  has : ∀ x, Has ps x ↔ ∃ j, j < k ∧ zs.getD j 0 = x
  size : w.heap.size + 2 ≤ wr.heap.size
  below : Below w.heap.size w wr

theorem St.length {w wr : World} {hv : Value} {k N : Nat} {ps : List (Int × Int)} {zs : List Int} (h : St w wr hv k N ps zs) : ps.length = k := by have := h.heap.1; rw [flat_length] at this; omega

theorem St.start (w : World) (N : Nat) (zs : List Int) : St w ((w.alloc (.cells (zeros N).toArray 3)).alloc (.cells #[.slice none 0 0, .slice none 0 0, .slice (some ⟨w.heap.size, 0, none⟩) N N, .slice none 0 0, .int .i64 0, .slice none 0 0] 33)) (.slice none 0 0) 0 N [] zs := by
  refine ⟨?_, World.ownsRow_nil _ _ _ _, fun g hg => by simp [Value.ownBlock] at hg, ⟨List.replicate N 0, by simp, (RowAt.new w 3 (zeros N)).alloc _⟩, by simp, fun j _ hj => by simp at hj, ?_, by simp, ((Below.refl _ _).alloc (Nat.le_refl _) _).alloc (by simp) _⟩
  · have := RowAt.new_cells (w.alloc (.cells (zeros N).toArray 3)) 33 #[.slice none 0 0, .slice none 0 0, .slice (some ⟨w.heap.size, 0, none⟩) N N, .slice none 0 0, .int .i64 0, .slice none 0 0]
    simpa using this
  · intro x
    constructor
    · rintro ⟨j, hj, _⟩
      simp at hj
    · rintro ⟨j, hj, _⟩
      omega

/-- Behind the append, ahead of the store into the field. -/
theorem St.push {w wr w1 : World} {hv : Value} {k N g : Nat} {ps : List (Int × Int)} {zs : List Int} (h : St w wr hv k N ps zs) (o : Obj)
    (hgrow : (wr.alloc o).drew.grownBy w1 hv.ownBlock) (hat : hv.ownBlock = some g ∨ g = wr.heap.size + 1) :
    RowAt w1 (w.heap.size + 1) 33 [.slice none 0 0, hv, .slice (some ⟨w.heap.size, 0, none⟩) N N, .slice none 0 0, .int .i64 0, .slice none 0 0] ∧ (∃ pl : List Int, pl.length = N ∧ RowAt w1 w.heap.size 3 (pl.map (Value.int .i64))) ∧ w.heap.size + 2 ≤ g ∧
      w.heap.size + 2 ≤ w1.heap.size ∧ Below w.heap.size w w1 := by
  have hs := h.size
  have hsz : ((wr.alloc o).drew).heap.size = wr.heap.size + 1 := by simp
  have hg1 := hgrow.size
  have hne : ∀ j, j < w.heap.size + 2 → some j ≠ hv.ownBlock := fun j hj e => by have := h.far j e.symm; omega
  refine ⟨(h.row.alloc o).of_block (hgrow.block _ (by omega) (hne _ (by omega))), ?_, ?_, by omega, ?_⟩
  · obtain ⟨pl, hpl, hr⟩ := h.place
    exact ⟨pl, hpl, (hr.alloc o).of_block (hgrow.block _ (by omega) (hne _ (by omega)))⟩
  · rcases hat with e | e
    · exact h.far g e
    · omega
  · exact ((h.below.alloc (by omega) o).drew).grown hgrow (by omega) (fun j e => by have := h.far j e; omega)

theorem St.ag {w wr w1 : World} {hv : Value} {k N g cap : Nat} {ps : List (Int × Int)} {zs : List Int} (h : St w wr hv k N ps zs) (x : Int) (hk : k < N)
    (hrow : RowAt w1 (w.heap.size + 1) 33 [.slice none 0 0, hv, .slice (some ⟨w.heap.size, 0, none⟩) N N, .slice none 0 0, .int .i64 0, .slice none 0 0]) (hpl : ∃ pl : List Int, pl.length = N ∧ RowAt w1 w.heap.size 3 (pl.map (Value.int .i64)))
    (hg : w.heap.size + 2 ≤ g) (hown : w1.ownsRow w.heap.size 28 2 (.slice (some ⟨g, 0, none⟩) (k + 1) cap) (k + 1) (flat ps ++ [.int .i64 x, .int .i64 k])) :
    Ag ((w1.setCell ⟨w.heap.size + 1, 1, none⟩ (.slice (some ⟨g, 0, none⟩) (k + 1) cap)).setCell ⟨w.heap.size, k, none⟩ (.int .i64 k)) w.heap.size (w.heap.size + 1) g w.heap.size (k + 1) cap N (ps ++ [(x, (k : Int))]) := by
  obtain ⟨pl, hpl, hr⟩ := hpl
  refine ⟨?_, own_block (w := w1) (by rw [flat_append]; exact hown) ?_, ⟨_, by simpa using hpl, (hr.set_other _ (by simp)).putInt k k⟩, ?_⟩
  · have := (hrow.set 1 (.slice (some ⟨g, 0, none⟩) (k + 1) cap)).set_other (a := ⟨w.heap.size, k, none⟩) (.int .i64 k) (by simp)
    simpa using this
  · rw [heap_setCell_other _ _ _ _ (by show g ≠ w.heap.size; omega), heap_setCell_other _ _ _ _ (by show g ≠ w.heap.size + 1; omega)]
  · intro q hq
    rcases List.mem_append.1 hq with hq | hq
    · exact h.nums q hq
    · simp only [List.mem_singleton] at hq
      subst hq
      exact ⟨by simp, by simp; omega⟩

theorem St.next {w wr w2 : World} {hv : Value} {k N g cap : Nat} {ps qs : List (Int × Int)} {zs : List Int} (h : St w wr hv k N ps zs) (hA : Ag w2 w.heap.size (w.heap.size + 1) g w.heap.size (k + 1) cap N qs) (hH : Heap qs)
    (hhas : ∀ x, Has qs x ↔ Has (ps ++ [(zs.getD k 0, (k : Int))]) x) (hg : w.heap.size + 2 ≤ g) (hs : w.heap.size + 2 ≤ w2.heap.size) (hb : Below w.heap.size w w2) : St w w2 (.slice (some ⟨g, 0, none⟩) (k + 1) cap) (k + 1) N qs zs := by
  refine ⟨hA.row, hA.heap, fun g' e => ?_, hA.place, hA.nums, hH, fun x => ?_, hs, hb⟩
  · simp only [Value.ownBlock, Option.some.injEq] at e
    omega
  · rw [hhas x, has_push, h.has x]
    constructor
    · rintro (⟨j, hj, rfl⟩ | rfl)
      · exact ⟨j, by omega, rfl⟩
      · exact ⟨k, by omega, rfl⟩
    · rintro ⟨j, hj, rfl⟩
      by_cases e : j = k
      · exact .inr (by rw [e])
      · exact .inl ⟨j, by omega, rfl⟩

/-- What the walk is told at the end: the root's time is the least of the numbers. -/
theorem St.least {w wr : World} {hv : Value} {k N : Nat} {ps : List (Int × Int)} {zs : List Int} (h : St w wr hv k N ps zs) (hk : 0 < k) (v : Int) (h1 : ∃ t, t < k ∧ zs.getD t 0 = v) (h2 : ∀ t, t < k → v ≤ zs.getD t 0) : (ps.getD 0 (0, 0)).1 = v := by
  have hl := h.length
  obtain ⟨j, hj, hr⟩ := (h.has (ps.getD 0 (0, 0)).1).1 ⟨0, by omega, rfl⟩
  have g1 : v ≤ (ps.getD 0 (0, 0)).1 := by rw [← hr]; exact h2 j hj
  obtain ⟨i, hi, hv⟩ := (h.has v).2 h1
  have g2 := root_least h.order i i (Nat.le_refl _) hi
  omega

set_option maxRecDepth 100000 in
set_option maxHeartbeats 1000000 in
theorem walk_some (b0 o0 : Nat) (len0 cap0 : Nat) (z0 : List Int) (w : World) (h0 : 0 < len0) (hb : len0 ≤ 1048576) (hb0 : b0 < w.heap.size)
    (H0 : ∀ i, i < len0 → w.cell? ⟨b0, o0 + i, none⟩ = some (.int .i64 (z0.getD i 0))) :
    Calls Yba.prog 5 #[.slice (some ⟨b0, o0, none⟩) len0 cap0] w fun e w' => e = .returned (.bool true) ∧ Below w.heap.size w w' := by
  obtain ⟨i28, hi, hz0, hz1, hz2⟩ := info_parts Yba.info28
  obtain ⟨i3, hi3, hy0, hy1, hy2⟩ := info_parts Yba.info3
  have hm3 : ∀ (w : World), (Instr.makeSlice 25 (.int .i64 len0) (.int .i64 len0)).run Yba.prog w = .ok (.slice (some ⟨w.heap.size, 0, none⟩) len0 len0) (w.alloc (.cells (zeros len0).toArray 3)) := by
    intro w
    have := run_make (P := Yba.prog) w 25 3 i3 _ Yba.underlying25 hi3 hy0 .i64 .i64 len0 len0 (by omega) (by omega) (by rw [hy2]; omega) (by omega)
    rw [hy1, Int.toNat_natCast, zeros_made] at this
    exact this
  clear hi3 hy0 hy1 hy2
  have HI : Hid (Yba.prog.info? 28 = some i28 ∧ i28.zero = some (.agg #[.int .i64 0, .int .i64 0]) ∧ i28.size = 2 ∧ i28.bytes = 16) := ⟨hi, hz0, hz1, hz2⟩
  clear hi hz0 hz1 hz2
  have HH0 : Hid (∀ i, i < len0 → w.cell? ⟨b0, o0 + i, none⟩ = some (.int .i64 (z0.getD i 0))) := H0
  clear H0
  go_enter Yba.func5, Yba.ntmps5
  go_wp2
  go_loopw [4] (fun i wr => ∃ k : Nat, k ≤ len0 ∧ i = .int .i64 k ∧ ∃ hv ps, St w wr hv k len0 ps z0) (fun i _ => len0 - (intOf i).toNat)
  case atStart => exact ⟨0, Nat.zero_le _, rfl, _, _, St.start w len0 z0⟩
  case round =>
    obtain ⟨k, hk, rfl, hv, ps, hst⟩ := hrel
    by_cases hlt : k < len0
    · have hx : wr.cell? ⟨b0, o0 + k, none⟩ = some (.int .i64 (z0.getD k 0)) := (hst.below.cell hb0).trans (HH0.out k hlt)
      have hc : wr.cell? ⟨w.heap.size + 1, 1, none⟩ = some hv := hst.row.cell rfl
      have hca : ∀ o, (wr.alloc o).cell? ⟨w.heap.size + 1, 1, none⟩ = some hv := fun o => (hst.row.alloc o).cell rfl
      have hxa : ∀ o, (wr.alloc o).cell? ⟨b0, o0 + k, none⟩ = some (.int .i64 (z0.getD k 0)) := fun o => ((hst.below.alloc (by have := hst.size; omega) o).cell hb0).trans (HH0.out k hlt)
      have hlt' : (k : Int) < (len0 : Int) := by omega
      go_wp2
      go_region_law (refine step_append_lies _ rfl (.tmp 28) (.tmp 35) 26 rfl w.heap.size 28 i28 _ 2 16 Yba.underlying26 HI.out.1 HI.out.2.1 HI.out.2.2.1 HI.out.2.2.2 rfl (by decide) hv k (flat ps) rfl (by exact (hst.heap.alloc _).drew) ⟨wr.heap.size, 0, none⟩ 1 1 [.int .i64 (z0.getD k 0), .int .i64 k] rfl rfl (by exact World.news_of_block (heap_alloc_new wr _)) (by simp [Value.oneCell']) (by decide) (by unfold maxLen; omega) (by omega) (by have := hst.size; simp; omega) (wr.heap.size + 1) (by simp) ?_; intro g cap w1 hown1 hgrow1 hat1 hlt1; obtain ⟨r1, r2, r3, r4, r5⟩ := hst.push _ hgrow1 hat1; have hcb := r1.cell (j := 1) rfl; have hfb := r1.frozen 1)
      all_goals
        have HAg : Hid _ := hst.ag (z0.getD k 0) hlt r1 r2 r3 hown1
        have HST : Hid _ := hst
        have HB : Hid _ := r5
        have HS : Hid _ := r4
        have HG : Hid _ := r3
        have hpb : w1.cell? ⟨w.heap.size + 1, 2, none⟩ = some (.slice (some ⟨w.heap.size, 0, none⟩) len0 len0) := r1.cell rfl
        obtain ⟨u, hu⟩ : ∃ u, w1.cell? ⟨w.heap.size, k, none⟩ = some (.int .i64 u) := by obtain ⟨pl, hpl, hr⟩ := r2; exact ⟨_, hr.int (by omega)⟩
        have hfu : w1.frozen? ⟨w.heap.size, k, none⟩ = false := by obtain ⟨pl, hpl, hr⟩ := r2; exact hr.frozen k
        clear r1 r2 r3 r4 r5 hown1 hgrow1 hat1 hlt1 hst hx hc hca hxa
        go_wp2_with fail
        refine (up_calls _ w.heap.size (w.heap.size + 1) g w.heap.size (k + 1) cap len0 (ps ++ [(z0.getD k 0, (k : Int))]) k (by omega) (by omega) (by have := HG.out; omega) (by omega) (by have := HG.out; omega) (by have := HG.out; omega) (Nat.le_refl _) HAg.out (by have := heap_push HST.out.order (z0.getD k 0, (k : Int)); rwa [HST.out.length] at this)).mono ?_
        rintro e w2 ⟨rfl, ⟨qs, hA2, hH2, hhas2⟩, hsz2, hbel2⟩
        have hfin := HST.out.next hA2 hH2 hhas2 HG.out (by rw [hsz2]; simpa using HS.out) (((HB.out.setCell (by simp) _).setCell (Nat.le_refl _) _).trans hbel2)
        have HFin : Hid _ := hfin
        clear hfin hA2 hH2 hhas2 hsz2 hbel2 HAg HST HB HS HG hpb hu hfu hcb hfb
        go_wp2_with fail
        go_roundw
        case rel => exact ⟨k + 1, by omega, by go_num, _, _, HFin.out⟩
        case measure => simp [intOf]; omega
    · obtain rfl : k = len0 := by omega
      clear hlt hk
      obtain ⟨g, cap, rfl, hg1, hg2⟩ := hst.heap.form h0
      have hc : wr.cell? ⟨w.heap.size + 1, 1, none⟩ = some (.slice (some ⟨g, 0, none⟩) k cap) := hst.row.cell rfl
      have hx : wr.cell? ⟨g, 0, none⟩ = some (.int .i64 (ps.getD 0 (0, 0)).1) := by have := own_at hst.heap (j := 0) h0; simpa using this
      have HST : Hid _ := hst
      clear hst
      obtain ⟨r, hr⟩ : ∃ r, (ps.getD 0 (0, 0)).1 = r := ⟨_, rfl⟩
      rw [hr] at hx
      have HR : Hid _ := hr
      clear hr
      have hn0 : ((k : Int) == 0) = false := beq_eq_false_iff_ne.2 (by omega)
      have hkp : (0 : Int) < k := by omega
      have hcc0 : wr.cell? ⟨b0, o0, none⟩ = some (.int .i64 (z0.getD 0 0)) := (HST.out.below.cell hb0).trans (by simpa using HH0.out 0 h0)
      go_wp2_with fail
      refine (first_some wr (w.heap.size + 1) g k cap r h0 hc hx).mono ?_
      rintro e w' ⟨rfl, rfl⟩
      go_wp2_with fail
      go_loop [8, 9] (fun m i => ∃ (j : Nat) (v : Int), 1 ≤ j ∧ j ≤ k ∧ i = .int .i64 j ∧ m = .int .i64 v ∧ (∃ t, t < j ∧ z0.getD t 0 = v) ∧ ∀ t, t < j → v ≤ z0.getD t 0) (fun _ i => k - (intOf i).toNat)
      case atStart => exact ⟨1, z0.getD 0 0, by omega, by omega, rfl, by simp, ⟨0, by omega, rfl⟩, fun t ht => by rw [show t = 0 by omega]; exact Int.le_refl _⟩
      case round =>
        obtain ⟨j, v, hj1, hj2, rfl, rfl, hv1, hv2⟩ := hrel
        have HV1 : Hid _ := hv1
        have HV2 : Hid _ := hv2
        clear hv1 hv2 hcc0 hc hx
        by_cases hjk : j < k
        · have hxj : wr.cell? ⟨b0, o0 + j, none⟩ = some (.int .i64 (z0.getD j 0)) := (HST.out.below.cell hb0).trans (HH0.out j hjk)
          by_cases hlt : z0.getD j 0 < v
          · have HLT : Hid _ := hlt
            have hlt' : (z0[j]?.getD 0) < v := by simpa using hlt
            clear hlt
            go_wp2
            go_round
            case rel => exact ⟨j + 1, z0.getD j 0, by omega, by omega, by go_num, by simp, ⟨j, by omega, rfl⟩, fun t ht => by
              by_cases e : t = j
              · rw [e]; exact Int.le_refl _
              · have := HV2.out t (by omega); have := HLT.out; omega⟩
            case measure => simp [intOf]; omega
          · have HLT : Hid _ := hlt
            have hlt' : ¬ (z0[j]?.getD 0) < v := by simpa using hlt
            clear hlt
            go_wp2
            go_round
            case rel => exact ⟨j + 1, v, by omega, by omega, by go_num, rfl, (by obtain ⟨t, ht, e⟩ := HV1.out; exact ⟨t, by omega, e⟩), fun t ht => by
              by_cases e : t = j
              · rw [e]; exact Int.not_lt.1 HLT.out
              · exact HV2.out t (by omega)⟩
            case measure => simp [intOf]; omega
        · obtain rfl : j = k := by omega
          have hrv : r = v := HR.out.symm.trans (HST.out.least h0 v HV1.out HV2.out)
          subst hrv
          go_wp2
          go_ret
          exact ⟨rfl, HST.out.below⟩

/-- No element (nil or not): 'first' says false. -/
theorem walk_none (a0 : Option Addr) (cap0 : Nat) (w : World) :
    Calls Yba.prog 5 #[.slice a0 0 cap0] w fun e w' => e = .returned (.bool true) ∧ Below w.heap.size w w' := by
  obtain ⟨i3, hi3, hy0, hy1, hy2⟩ := info_parts Yba.info3
  have hm3 : ∀ (w : World), (Instr.makeSlice 25 (.int .i64 0) (.int .i64 0)).run Yba.prog w = .ok (.slice (some ⟨w.heap.size, 0, none⟩) 0 0) (w.alloc (.cells (zeros 0).toArray 3)) := by
    intro w
    have := run_make (P := Yba.prog) w 25 3 i3 _ Yba.underlying25 hi3 hy0 .i64 .i64 0 0 (by omega) (by omega) (by rw [hy2]; omega) (by omega)
    rw [hy1, show (0 : Int).toNat = 0 from rfl, zeros_made] at this
    exact this
  clear hi3 hy0 hy1 hy2
  go_enter Yba.func5, Yba.ntmps5
  go_wp2
  go_loopw [4] (fun i wr => i = .int .i64 0 ∧ St w wr (.slice none 0 0) 0 0 [] []) (fun _ _ => 0)
  case atStart => exact ⟨rfl, St.start w 0 []⟩
  case round =>
    obtain ⟨rfl, hst⟩ := hrel
    have hc : wr.cell? ⟨w.heap.size + 1, 1, none⟩ = some (.slice none 0 0) := hst.row.cell rfl
    have HB : Hid _ := hst.below
    clear hst
    go_wp2_with fail
    refine (first_none wr (w.heap.size + 1) none 0 hc).mono ?_
    rintro e w' ⟨rfl, rfl⟩
    go_wp2
    go_ret
    exact ⟨rfl, HB.out⟩

/-- More than 2^20 elements: it returns at once. -/
theorem walk_big (a0 : Option Addr) (len0 cap0 : Nat) (w : World) (hb : 1048576 < len0) :
    Calls Yba.prog 5 #[.slice a0 len0 cap0] w fun e w' => e = .returned (.bool true) ∧ Below w.heap.size w w' := by
  have hb' : (1048576 : Int) < (len0 : Int) := by omega
  go_enter Yba.func5, Yba.ntmps5
  go_wp2
  go_ret
  exact ⟨rfl, Below.refl _ _⟩
end Go.Proofs.Ybulkdxgu.lawS6195CPushMin

/-
  THE CONTRACT OF '(*agenda).up' (function 9): the heap's order is restored, the times stay the same.
-/
import Derived.Test.YbulkdxguSwap
namespace Go.Proofs.Ybulkdxgu
open Go.RowKit

set_option maxHeartbeats 1000000 in
theorem up_calls (w : World) (B b g p n cap N : Nat) (ps : List (Int × Int)) (k : Nat) (hk : k < n) (hn : n ≤ 1048576) (hbg : b ≠ g) (hbp : b ≠ p) (hgp : g ≠ p) (hBg : B ≤ g) (hBp : B ≤ p)
    (A : Ag w B b g p n cap N ps) (hh : HeapBut ps k) :
    Calls Yba.prog 9 #[.pointer (some ⟨b, 0, none⟩), .int .i64 k] w fun e w' => e = .returned (.tuple #[]) ∧ (∃ qs, Ag w' B b g p n cap N qs ∧ Heap qs ∧ ∀ x, Has qs x ↔ Has ps x) ∧ w'.heap.size = w.heap.size ∧ Below B w w' := by
  have HA : Hid _ := A
  have HH : Hid _ := hh
  clear A hh
  go_enter Yba.func9, Yba.ntmps9
  go_wp2
  go_loopw [1] (fun v wr => ∃ k' : Nat, k' < n ∧ v = .int .i64 k' ∧ (∃ qs, Ag wr B b g p n cap N qs ∧ HeapBut qs k' ∧ ∀ x, Has qs x ↔ Has ps x) ∧ wr.heap.size = w.heap.size ∧ Below B w wr) (fun v _ => (intOf v).toNat)
  case atStart => exact ⟨k, hk, rfl, ⟨ps, HA.out, HH.out, fun _ => Iff.rfl⟩, rfl, Below.refl _ _⟩
  case round =>
    clear HA HH hk
    obtain ⟨k, hk, rfl, ⟨qs, A, hh, hhas⟩, hsz, hbel⟩ := hrel
    have hlen := A.length
    have hc : wr.cell? ⟨b, 1, none⟩ = some (.slice (some ⟨g, 0, none⟩) n cap) := A.row.cell rfl
    have HA : Hid _ := A
    have HH : Hid _ := hh
    have HL : Hid _ := hlen
    have HS : Hid _ := hsz
    have HB : Hid _ := hbel
    have HX : Hid _ := hhas
    clear A hh hlen hsz hbel hhas
    by_cases hk0 : 0 < k
    · have hx := own_at HA.out.heap hk
      have hy := own_at HA.out.heap (j := (k - 1) / 2) (by omega)
      have ek : ((k : Int) - 1) / 2 = ((k - 1) / 2 : Nat) := by omega
      have EK : Hid _ := ek
      clear ek
      go_wp2_with fail
      rw [EK.out]
      clear EK
      refine (before_any wr b g n cap k ((k - 1) / 2) _ _ hk (by omega) hc hx hy).mono ?_
      rintro e w1 ⟨rfl, q, rfl⟩
      clear hx hy
      by_cases hlt : (qs.getD k (0, 0)).1 < (qs.getD ((k - 1) / 2) (0, 0)).1
      · have hd : decide ((qs.getD k (0, 0)).1 < (qs.getD ((k - 1) / 2) (0, 0)).1) = true := decide_eq_true hlt
        rw [hd]
        have HT : Hid _ := hlt
        clear hd hlt
        go_wp2_with fail
        refine (swap_calls (wr.drewN q) B b g p n cap N qs k ((k - 1) / 2) hk (by omega) (by omega) hbg hbp hgp hBg hBp (HA.out.drewN q)).mono ?_
        rintro e w2 ⟨rfl, hA2, hsz2, hbel2⟩
        have HA2 : Hid _ := hA2
        have HS2 : Hid _ := hsz2
        have HB2 : Hid _ := hbel2
        clear hA2 hsz2 hbel2
        go_wp2_with fail
        go_roundw
        case rel =>
          have hl := HL.out
          exact ⟨(k - 1) / 2, by omega, rfl, ⟨_, HA2.out, heap_step HH.out hk0 (by omega) HT.out, fun x => (has_swp qs k ((k - 1) / 2) (by omega) (by omega) (by omega) x).trans (HX.out x)⟩, HS2.out.trans HS.out, (below_drewN HB.out q).trans HB2.out⟩
        case measure => simp [intOf]; omega
      · have hd : decide ((qs.getD k (0, 0)).1 < (qs.getD ((k - 1) / 2) (0, 0)).1) = false := decide_eq_false hlt
        rw [hd]
        have HT : Hid _ := hlt
        clear hd hlt
        go_wp2_with fail
        refine bodyPost_ret (results_none rfl _ _ _) rfl ?_
        exact ⟨rfl, ⟨qs, HA.out.drewN q, heap_stop HH.out (Int.not_lt.1 HT.out), HX.out⟩, HS.out, below_drewN HB.out q⟩
    · go_wp2
      go_end0
      exact ⟨rfl, ⟨qs, HA.out, heap_root (by have := HH.out; rwa [show k = 0 by omega] at this), HX.out⟩, HS.out, HB.out⟩
end Go.Proofs.Ybulkdxgu

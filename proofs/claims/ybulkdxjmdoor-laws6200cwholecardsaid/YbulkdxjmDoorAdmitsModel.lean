/-
  'zzs6200cadmits' (8).
-/
import Derived.Test.YbulkdxjmDoorModel
namespace Go.Proofs.YbulkdxjmDoor
open Go.RowKit

/-- A SLICE OF BYTES. -/
def BytesAt (w : World) (a : Option Addr) (zs : List Int) : Prop :=
  (∀ z ∈ zs, 0 ≤ z ∧ z ≤ 255) ∧ (0 < zs.length → ∃ b o, a = some ⟨b, o, none⟩ ∧ b < w.heap.size ∧ ∀ i z, zs[i]? = some z → w.cell? ⟨b, o + i, none⟩ = some (.int .u8 z))
theorem BytesAt.below {w w' : World} {a : Option Addr} {zs : List Int} (h : BytesAt w a zs) (hb : Below w.heap.size w w') : BytesAt w' a zs := by
  refine ⟨h.1, fun h0 => ?_⟩
  obtain ⟨b, o, e, hlt, hc⟩ := h.2 h0
  exact ⟨b, o, e, Nat.lt_of_lt_of_le hlt hb.size, fun i x hx => (hb.cell hlt).trans (hc i x hx)⟩

theorem wrap_rem (x m : Int) (h0 : 0 ≤ x) (hm : 0 < m) (hm' : m ≤ 255) : IntKind.i64.wrap (x.tmod m) = x % m := by
  rw [IntKind.wrap_i64, Int.tmod_eq_emod_of_nonneg h0]
  have := Int.emod_nonneg x (show m ≠ 0 by omega)
  have := Int.emod_lt_of_pos x hm
  omega

/-- Whether a drawn endpoint is admitted by the drawn prefixes. -/
def admitB (a : Int) (zs : List Int) : Bool := zs.isEmpty || zs.any fun z => containsB (z % 5) (a % 7)
set_option maxHeartbeats 400000 in
theorem cadmits_calls (a p s d : Int) (w : World) (h0 : 0 ≤ a) (h1 : a ≤ 255) (ao : Option Addr) (n c : Nat) (zs : List Int) (hl : zs.length = n) (hn : n ≤ 4096) (hzs : BytesAt w ao zs) :
    Calls Ybad.prog 8 #[.agg #[.int .u8 a, .int .u16 p, .int .u8 s, .int .u8 d], .slice ao n c] w fun e w' => e = .returned (.bool (admitB a zs)) ∧ Below w.heap.size w w' := by
  have HE := hide hzs
  have HL := hide hl
  have hB := Boxes.one w 70 [.int .u8 a, .int .u16 p, .int .u8 s, .int .u8 d]
  obtain ⟨c0, c1, c2, c3⟩ := Boxes.ep (w0 := w) (rows := [(70, [.int .u8 a, .int .u16 p, .int .u8 s, .int .u8 d])]) (i := 0) rfl
  simp only [Nat.add_zero] at c0 c1 c2 c3
  clear hzs hl
  by_cases hz : n = 0
  · subst hz
    go_enter Ybad.func8, Ybad.ntmps8
    go_wp2
    go_ret
    obtain rfl : zs = [] := List.eq_nil_of_length_eq_zero HL.out
    exact ⟨rfl, hB.1⟩
  · have hz' : ((n : Int) == 0) = false := beq_eq_false_iff_ne.2 (by omega)
    go_enter Ybad.func8, Ybad.ntmps8
    go_wp2
    generalize [((70 : TypeId), [Value.int .u8 a, .int .u16 p, .int .u8 s, .int .u8 d])] = rows at *
    generalize w.alloc (.cells #[.int .u8 a, .int .u16 p, .int .u8 s, .int .u8 d] 70) = W at *
    go_loopw [5] (fun i wr => ∃ k : Nat, k ≤ n ∧ i = .int .i64 k ∧ Boxes w rows wr ∧ ((zs.take k).any fun z => containsB (z % 5) (a % 7)) = false) (fun i _ => n - (intOf i).toNat)
    case atStart => exact ⟨0, Nat.zero_le _, rfl, hB, rfl⟩
    case round =>
      obtain ⟨k, hk, rfl, hBr, hno⟩ := hrel
      clear hB
      have hne : zs.isEmpty = false := by
        have := HL.out
        cases zs with
        | nil => simp at this; omega
        | cons _ _ => rfl
      have HNE := hide hne
      clear hne
      by_cases hlt : k < n
      · obtain ⟨x, hx⟩ : ∃ x, zs[k]? = some x := ⟨_, List.getElem?_eq_getElem (by have := HL.out; omega)⟩
        obtain ⟨b, o, rfl, hb, hc⟩ := HE.out.2 (by have := HL.out; omega)
        have k0 := hc k x hx
        have f0 : ∀ w', Boxes w rows w' → w'.cell? ⟨b, o + k, none⟩ = some (.int .u8 x) := fun w' h => (h.1.cell hb).trans k0
        obtain ⟨x0, x1⟩ := HE.out.1 x (List.mem_of_getElem? hx)
        have hwr := wrap_rem x 5 x0 (by decide) (by decide)
        have HX := hide hx
        have HN := hide hno
        have hlt' : (k : Int) < (n : Int) := by omega
        clear k0 hc hx hno
        go_wp2
        go_region_held3 (fun w' => Boxes w rows w') (first | assumption | exact Boxes.drew hBr) (first | (go_at_call 10; refine (ck_calls _ _ _ _ _ h0 h1).mono ?_; rintro e w1 ⟨rfl, hb1⟩; have hB1 := Boxes.later (by assumption) hb1) | (go_at_call 16; refine (ccontains_calls _ _ _).mono ?_; rintro e w2 ⟨rfl, rfl⟩))
        cases hs : containsB (x % 5) (a % 7) with
        | true =>
          go_wp2
          go_ret
          exact ⟨ret_bool (by unfold admitB; rw [HNE.out]; exact Eq.symm (List.any_eq_true.2 ⟨x, List.mem_of_getElem? HX.out, hs⟩)), (‹Boxes w rows w1›).1⟩
        | false =>
          go_wp2
          go_roundw
          case rel =>
            refine ⟨k + 1, by omega, by go_num, ‹Boxes w rows w1›, ?_⟩
            obtain ⟨hkl, hkx⟩ := List.getElem?_eq_some_iff.1 HX.out
            rw [List.take_succ_eq_append_getElem hkl, List.any_append, HN.out, hkx]
            simp [hs]
          case measure => simp [intOf]; omega
      · obtain rfl : k = n := by omega
        go_wp2
        go_ret
        rw [List.take_of_length_le (by have := HL.out; omega)] at hno
        exact ⟨ret_bool (by unfold admitB; rw [HNE.out, hno]; rfl), hBr.1⟩

end Go.Proofs.YbulkdxjmDoor

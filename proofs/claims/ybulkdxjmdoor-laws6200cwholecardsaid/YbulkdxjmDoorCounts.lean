/-
  'versions' (45), 'service.localEndpoints' (32), 'service.invalidEndpoints' (21), 'weighted' (22).
-/
import Derived.Test.YbulkdxjmDoorElems
namespace Go.Proofs.YbulkdxjmDoor
open Go.RowKit
set_option linter.unusedVariables false

/-- Whether an IPv4 address is among them. -/
def hasV4 (es : List Ep) : Bool := es.any fun e => zK (e.a % 7) == 1
theorem any_take {es : List Ep} {j : Nat} {e : Ep} (he : es[j]? = some e) (p : Ep → Bool) : (es.take (j + 1)).any p = ((es.take j).any p || p e) := by
  obtain ⟨hkl, hkx⟩ := List.getElem?_eq_some_iff.1 he
  rw [List.take_succ_eq_append_getElem hkl, List.any_append, hkx]
  simp

set_option maxRecDepth 100000 in
set_option maxHeartbeats 1000000 in
theorem versions_calls (p4 p6 : Addr) (w : World) (hE : Env w p4 p6) (ao : Option Addr) (n c : Nat) (es : List Ep) (hl : es.length = n) (hn : n ≤ 4096) (hes : ElemsAt w p4 p6 ao es) :
    Calls Ybad.prog 45 #[.slice ao n c] w fun e w' => (∃ a b : Int, e = .returned (.tuple #[.int .i64 a, .int .i64 b]) ∧ decide (a > 0) = hasV4 es) ∧ Below w.heap.size w w' := by
  have HZ := hide hes
  have HL := hide hl
  have HE := hide hE
  clear hes hl hE
  go_enter Ybad.func45, Ybad.ntmps45
  go_wp2
  go_loopw [8, 2, 3] (fun i va vb wr => ∃ j : Nat, ∃ a b : Int, j ≤ n ∧ i = .int .i64 j ∧ va = .int .i64 a ∧ vb = .int .i64 b ∧ 0 ≤ a ∧ a ≤ j ∧ 0 ≤ b ∧ b ≤ j ∧ Below w.heap.size w wr ∧ decide (a > 0) = hasV4 (es.take j)) (fun i _ _ _ => n - (intOf i).toNat)
  case atStart => exact ⟨0, 0, 0, Nat.zero_le _, rfl, rfl, rfl, by omega, by omega, by omega, by omega, Below.refl _ _, rfl⟩
  case round =>
    obtain ⟨j, a, b', hj, rfl, rfl, rfl, ha0, ha1, hb0, hb1, hbr, hv⟩ := hrel
    have HV := hide hv
    clear hv
    by_cases hlt : j < n
    · obtain ⟨x, hx⟩ : ∃ x, es[j]? = some x := ⟨_, List.getElem?_eq_getElem (by have := HL.out; omega)⟩
      obtain ⟨b, o, rfl, hb, hc⟩ := HZ.out.2 (by have := HL.out; omega)
      obtain ⟨k0, k1, k2, k3, k4, k5⟩ := (hc j x hx).below hbr hb
      have HX := hide hx
      clear hx hc
      have hB := Boxes.one wr 67 [.int .u64 (hiK (x.a % 7)), .int .u64 (loK (x.a % 7)), .pointer (zp p4 p6 (zK (x.a % 7))), .int .u16 (x.p % 4), .int .u8 x.s, .int .u8 x.d]
      have hBw := hide (hbr.trans (hB.1.mono hbr.size))
      have hwa : IntKind.i64.wrap (a + 1) = a + 1 := by rw [IntKind.wrap_i64]; omega
      have hwb : IntKind.i64.wrap (b' + 1) = b' + 1 := by rw [IntKind.wrap_i64]; omega
      go_wp2_with fail
      refine (apAddr_calls _ _ _ _ _).mono ?_
      rintro e w1 ⟨rfl, hb1'⟩
      have hw1 := hBw.out.trans (hb1'.mono hBw.out.size)
      have hic := hide (is4_calls (hiK (x.a % 7)) (loK (x.a % 7)) p4 p6 (zK (x.a % 7)) (zK_le _) w1 (HE.out.below hw1 (Nat.le_refl _)))
      clear hBw hB hb1' k0 k1 k2 k3 k4 k5
      go_wp2_with fail
      refine hic.out.mono ?_
      rintro e w2 ⟨rfl, hb2⟩
      have hw2 := hw1.trans (hb2.mono hw1.size)
      clear hic hb2 hw1
      cases h4 : (zK (x.a % 7) == 1) with
      | true =>
        have H4 := hide h4
        clear h4
        go_wp2
        go_roundw
        case rel =>
          refine ⟨j + 1, a + 1, b', by omega, by go_num, rfl, rfl, by omega, by omega, by omega, by omega, hw2, ?_⟩
          unfold hasV4
          rw [any_take HX.out, H4.out, Bool.or_true]
          simp; omega
        case measure => simp [intOf]; omega
      | false =>
        have H4 := hide h4
        clear h4
        go_wp2
        go_roundw
        case rel =>
          refine ⟨j + 1, a, b' + 1, by omega, by go_num, rfl, rfl, by omega, by omega, by omega, by omega, hw2, ?_⟩
          unfold hasV4
          rw [any_take HX.out, H4.out, Bool.or_false]
          exact HV.out
        case measure => simp [intOf]; omega
    · obtain rfl : j = n := by omega
      go_wp2
      go_ret2
      have hv := HV.out
      rw [List.take_of_length_le (by have := HL.out; omega)] at hv
      exact ⟨⟨a, b', rfl, hv⟩, hbr⟩

set_option maxHeartbeats 1000000 in
theorem localEndpoints_calls (p4 p6 : Addr) (w : World) (hE : Env w p4 p6) (s : Nat) (ao : Option Addr) (n c : Nat) (es : List Ep) (hl : es.length = n) (hn : n ≤ 4096) (hes : PtrsAt w p4 p6 ao es) (hs : w.cell? ⟨s, 0, none⟩ = some (.slice ao n c)) :
    Calls Ybad.prog 32 #[.pointer (some ⟨s, 0, none⟩)] w fun e w' => (∃ a b : Int, e = .returned (.tuple #[.int .i64 a, .int .i64 b]) ∧ decide (a > 0) = hasV4 es) ∧ Below w.heap.size w w' := by
  have HC := hide (elementsOf_calls p4 p6 w ao n c es hl hn hes)
  have HE := hide hE
  clear hes hE
  go_enter Ybad.func32, Ybad.ntmps32
  go_wp2_with fail
  refine HC.out.mono ?_
  rintro e w1 ⟨⟨g, rfl, hel⟩, hb1⟩
  have HD := hide (versions_calls p4 p6 w1 (HE.out.below hb1 (Nat.le_refl _)) (some ⟨g, 0, none⟩) n n es hl hn hel)
  clear hel HC
  go_wp2_with fail
  refine HD.out.mono ?_
  rintro e w2 ⟨⟨a, b, rfl, hv⟩, hb2⟩
  have HV := hide hv
  have hbb := hb1.trans (hb2.mono hb1.size)
  clear hv HD hb1 hb2
  go_wp2
  go_ret2
  exact ⟨⟨a, b, rfl, HV.out⟩, hbb⟩

def noneCause : Bool → Int
  | true => 14
  | false => 15
set_option maxHeartbeats 1000000 in
theorem invalidEndpoints_calls (p4 p6 : Addr) (w : World) (hE : Env w p4 p6) (s : Nat) (ao : Option Addr) (n c : Nat) (es : List Ep) (hl : es.length = n) (hn : n ≤ 4096) (hes : PtrsAt w p4 p6 ao es) (hs : w.cell? ⟨s, 0, none⟩ = some (.slice ao n c)) :
    Calls Ybad.prog 21 #[.pointer (some ⟨s, 0, none⟩)] w fun e w' => e = .returned (.int .u8 (noneCause (hasV4 es))) ∧ Below w.heap.size w w' := by
  have HC := hide (localEndpoints_calls p4 p6 w hE s ao n c es hl hn hes hs)
  clear hes hE hs
  go_enter Ybad.func21, Ybad.ntmps21
  go_wp2_with fail
  refine HC.out.mono ?_
  rintro e w1 ⟨⟨a, b, rfl, hv⟩, hb1⟩
  clear HC
  have HV := hide hv
  clear hv
  cases h : decide (a > 0) with
  | true =>
    have H := hide h
    clear h
    have h := of_decide_eq_true H.out
    go_wp2
    go_ret
    exact ⟨by rw [← HV.out, H.out]; rfl, hb1⟩
  | false =>
    have H := hide h
    clear h
    have h := of_decide_eq_false H.out
    go_wp2
    go_ret
    exact ⟨by rw [← HV.out, H.out]; rfl, hb1⟩

def hasSig (es : List Ep) : Bool := es.any fun e => decide (e.s > 0)
def hasDat (es : List Ep) : Bool := es.any fun e => decide (e.d > 0)
set_option maxRecDepth 100000 in
set_option maxHeartbeats 1000000 in
theorem weighted_calls (p4 p6 : Addr) (w : World) (ao : Option Addr) (n c : Nat) (es : List Ep) (hl : es.length = n) (hn : n ≤ 4096) (hes : ElemsAt w p4 p6 ao es) :
    Calls Ybad.prog 22 #[.slice ao n c] w fun e w' => e = .returned (.bool (hasSig es && hasDat es)) ∧ Below w.heap.size w w' := by
  have HZ := hide hes
  have HL := hide hl
  clear hes hl
  go_enter Ybad.func22, Ybad.ntmps22
  go_wp2
  go_loopw [9, 3, 4] (fun i va vb wr => ∃ j : Nat, ∃ a b : Int, j ≤ n ∧ i = .int .i64 j ∧ va = .int .i64 a ∧ vb = .int .i64 b ∧ 0 ≤ a ∧ a ≤ 255 * j ∧ 0 ≤ b ∧ b ≤ 255 * j ∧ Below w.heap.size w wr ∧ decide (a > 0) = hasSig (es.take j) ∧ decide (b > 0) = hasDat (es.take j)) (fun i _ _ _ => n - (intOf i).toNat)
  case atStart => exact ⟨0, 0, 0, Nat.zero_le _, rfl, rfl, rfl, by omega, by omega, by omega, by omega, Below.refl _ _, rfl, rfl⟩
  case round =>
    obtain ⟨j, a, b', hj, rfl, rfl, rfl, ha0, ha1, hb0, hb1, hbr, hv, hv'⟩ := hrel
    have HV := hide hv
    have HV' := hide hv'
    clear hv hv'
    by_cases hlt : j < n
    · obtain ⟨x, hx⟩ : ∃ x, es[j]? = some x := ⟨_, List.getElem?_eq_getElem (by have := HL.out; omega)⟩
      obtain ⟨b, o, rfl, hb, hc⟩ := HZ.out.2 (by have := HL.out; omega)
      obtain ⟨k0, k1, k2, k3, k4, k5⟩ := (hc j x hx).below hbr hb
      obtain ⟨_, _, _, _, s0, s1, d0, d1⟩ := HZ.out.1 x (List.mem_of_getElem? hx)
      have HX := hide hx
      clear hx hc
      have hwa : IntKind.i64.wrap (a + x.s) = a + x.s := by rw [IntKind.wrap_i64]; omega
      have hwb : IntKind.i64.wrap (b' + x.d) = b' + x.d := by rw [IntKind.wrap_i64]; omega
      have hws : IntKind.i64.wrap x.s = x.s := by rw [IntKind.wrap_i64]; omega
      have hwd : IntKind.i64.wrap x.d = x.d := by rw [IntKind.wrap_i64]; omega
      go_wp2
      go_roundw
      case rel =>
        refine ⟨j + 1, a + x.s, b' + x.d, by omega, by go_num, rfl, rfl, by omega, by omega, by omega, by omega, by go_grown; exact hbr.size, ?_, ?_⟩
        · unfold hasSig
          rw [any_take HX.out]
          have := HV.out
          unfold hasSig at this
          rw [← this, ← Bool.decide_or]
          exact decide_eq_decide.2 (by omega)
        · unfold hasDat
          rw [any_take HX.out]
          have := HV'.out
          unfold hasDat at this
          rw [← this, ← Bool.decide_or]
          exact decide_eq_decide.2 (by omega)
      case measure => simp [intOf]; omega
    · obtain rfl : j = n := by omega
      have hv := HV.out
      have hv' := HV'.out
      rw [List.take_of_length_le (by have := HL.out; omega)] at hv hv'
      have HW := hide hv
      have HW' := hide hv'
      clear hv hv'
      cases h : decide (a > 0) with
      | true =>
        have H := hide h
        clear h
        have h := of_decide_eq_true H.out
        go_wp2
        go_ret
        exact ⟨ret_bool (by rw [← HW.out, ← HW'.out, H.out]; rfl), hbr⟩
      | false =>
        have H := hide h
        clear h
        have h := of_decide_eq_false H.out
        go_wp2
        go_ret
        exact ⟨ret_bool (by rw [← HW.out, H.out]; rfl), hbr⟩
end Go.Proofs.YbulkdxjmDoor

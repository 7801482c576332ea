/-
  THE MODEL's SMALL FUNCTIONS: 'zzs6200ck' (10), 'zzs6200cport' (15), 'zzs6200ccontains' (16), 'zzs6200creachable' (7), 'zzs6200csame' (17), 'zzs6200cin' (9), 'zzs6200cadmits' (8).
-/
import Derived.Test.YbulkdxjmDoorRows
import Derived.Test.YbulkdxjmDoorMem
import Derived.WalkSpells
import Derived.WalkLawsBesides
import Derived.Deep.QuietTactic
import Derived.BigQuiet
import Derived.Deep.RegionHeld3
import Derived.Handy
namespace Go.Proofs.YbulkdxjmDoor
open Go.RowKit

/-- An endpoint drawn as plain data. -/
structure Ep where
  a : Int
  p : Int
  s : Int
  d : Int
def Ep.ok (e : Ep) : Prop := 0 ≤ e.a ∧ e.a ≤ 255 ∧ 0 ≤ e.p ∧ e.p ≤ 65535 ∧ 0 ≤ e.s ∧ e.s ≤ 255 ∧ 0 ≤ e.d ∧ e.d ≤ 255

theorem ck_calls (a p s d : Int) (w : World) (h0 : 0 ≤ a) (h1 : a ≤ 255) :
    Calls Ybad.prog 10 #[.agg #[.int .u8 a, .int .u16 p, .int .u8 s, .int .u8 d]] w fun e w' => e = .returned (.int .i64 (a % 7)) ∧ Below w.heap.size w w' := by
  go_enter Ybad.func10, Ybad.ntmps10
  go_wp2
  go_ret
  exact ⟨rfl, (Below.refl _ _).alloc (Nat.le_refl _) _⟩
theorem cport_calls (a p s d : Int) (w : World) (h0 : 0 ≤ p) (h1 : p ≤ 65535) :
    Calls Ybad.prog 15 #[.agg #[.int .u8 a, .int .u16 p, .int .u8 s, .int .u8 d]] w fun e w' => e = .returned (.int .u16 (p % 4)) ∧ Below w.heap.size w w' := by
  go_enter Ybad.func15, Ybad.ntmps15
  go_wp2
  go_ret
  exact ⟨rfl, (Below.refl _ _).alloc (Nat.le_refl _) _⟩

/-- Which table addresses each table prefix holds. -/
def containsB (p k : Int) : Bool := if p = 0 then (k == 1 || k == 2 || k == 3) else if p = 1 then k == 3 else if p = 2 then (k == 5 || k == 6) else if p = 3 then k == 5 else false

theorem ret_bool {a b : Bool} (h : a = b) : Ending.returned (.bool a) = .returned (.bool b) := by rw [h]

theorem ccontains_calls (p k : Int) (w : World) :
    Calls Ybad.prog 16 #[.int .i64 p, .int .i64 k] w fun e w' => e = .returned (.bool (containsB p k)) ∧ w = w' := by
  go_enter Ybad.func16, Ybad.ntmps16
  go_wp2
  all_goals go_ret
  all_goals refine ⟨?_, rfl⟩
  all_goals simp_all [containsB]

/-- Whether a drawn endpoint can be reached. -/
def reachB (a p : Int) : Bool := (a % 7 == 2 || a % 7 == 3 || a % 7 == 5 || a % 7 == 6) && (p % 4 != 0)
theorem creach_calls (a p s d : Int) (w : World) (h0 : 0 ≤ a) (h1 : a ≤ 255) (g0 : 0 ≤ p) (g1 : p ≤ 65535) :
    Calls Ybad.prog 7 #[.agg #[.int .u8 a, .int .u16 p, .int .u8 s, .int .u8 d]] w fun e w' => e = .returned (.bool (reachB a p)) ∧ Below w.heap.size w w' := by
  go_enter Ybad.func7, Ybad.ntmps7
  go_wp2
  all_goals go_ret
  all_goals refine ⟨?_, by go_grown⟩
  all_goals simp_all [reachB]

/-- THE CALL's OWN BOXES: from block B on the rows 'rows' (type and cells each), behind a world w0 of size B; nothing old has turned. -/
def Boxes (w0 : World) (rows : List (TypeId × List Value)) (w' : World) : Prop :=
  Below w0.heap.size w0 w' ∧ w0.heap.size + rows.length ≤ w'.heap.size ∧ ∀ i t cs, rows[i]? = some (t, cs) → RowAt w' (w0.heap.size + i) t cs
theorem Boxes.later {w0 w' w1 : World} {rows : List (TypeId × List Value)} (h : Boxes w0 rows w') (hb : Below w'.heap.size w' w1) : Boxes w0 rows w1 :=
  ⟨h.1.trans (hb.mono h.1.size), Nat.le_trans h.2.1 hb.size, fun i t cs hi => (h.2.2 i t cs hi).below hb (h.2.2 i t cs hi).lt⟩
theorem Boxes.drew {w0 w' : World} {rows : List (TypeId × List Value)} (h : Boxes w0 rows w') : Boxes w0 rows w'.drew := ⟨h.1.drew, h.2.1, h.2.2⟩
theorem Boxes.nil (w0 : World) : Boxes w0 [] w0 := ⟨Below.refl _ _, Nat.le_refl _, fun i t cs h => by simp at h⟩
theorem Boxes.alloc {w0 w' : World} {rows : List (TypeId × List Value)} (h : Boxes w0 rows w') (hs : w'.heap.size = w0.heap.size + rows.length) (cs : List Value) (t : TypeId) : Boxes w0 (rows ++ [(t, cs)]) (w'.alloc (.cells cs.toArray t)) := by
  refine ⟨h.1.alloc h.1.size _, by simp; omega, fun i t' cs' hi => ?_⟩
  by_cases hlt : i < rows.length
  · rw [List.getElem?_append_left hlt] at hi
    exact (h.2.2 i t' cs' hi).alloc _
  · have hi' : i = rows.length := by
      have := (List.getElem?_eq_some_iff.1 hi).1
      simp at this
      omega
    subst hi'
    simp at hi
    obtain ⟨rfl, rfl⟩ := hi
    have := RowAt.new w' t cs
    rwa [hs] at this
theorem Boxes.one (w0 : World) (t : TypeId) (cs : List Value) : Boxes w0 [(t, cs)] (w0.alloc (.cells cs.toArray t)) := (Boxes.nil w0).alloc rfl cs t
theorem Boxes.two (w0 : World) (t u : TypeId) (cs ds : List Value) : Boxes w0 [(t, cs), (u, ds)] ((w0.alloc (.cells cs.toArray t)).alloc (.cells ds.toArray u)) := (Boxes.one w0 t cs).alloc (by simp) ds u
theorem Boxes.cell {w0 w' : World} {rows : List (TypeId × List Value)} (h : Boxes w0 rows w') {i j : Nat} {t : TypeId} {cs : List Value} {v : Value} (hi : rows[i]? = some (t, cs)) (hj : cs[j]? = some v) : w'.cell? ⟨w0.heap.size + i, j, none⟩ = some v :=
  (h.2.2 i t cs hi).cell hj
/-- The cells of a drawn endpoint, in a box. -/
theorem Boxes.ep {w0 : World} {rows : List (TypeId × List Value)} {i : Nat} {a p s d : Int} (hi : rows[i]? = some (70, [.int .u8 a, .int .u16 p, .int .u8 s, .int .u8 d])) :
    (∀ w', Boxes w0 rows w' → w'.cell? ⟨w0.heap.size + i, 0, none⟩ = some (.int .u8 a)) ∧ (∀ w', Boxes w0 rows w' → w'.cell? ⟨w0.heap.size + i, 1, none⟩ = some (.int .u16 p)) ∧
    (∀ w', Boxes w0 rows w' → w'.cell? ⟨w0.heap.size + i, 2, none⟩ = some (.int .u8 s)) ∧ (∀ w', Boxes w0 rows w' → w'.cell? ⟨w0.heap.size + i, 3, none⟩ = some (.int .u8 d)) :=
  ⟨fun _ h => h.cell hi rfl, fun _ h => h.cell hi rfl, fun _ h => h.cell hi rfl, fun _ h => h.cell hi rfl⟩

/-- Whether two drawn endpoints are one. -/
def sameB (a p a' p' : Int) : Bool := (a % 7 == a' % 7) && (p % 4 == p' % 4)
set_option maxHeartbeats 2000000 in
theorem csame_calls (a p s d a' p' s' d' : Int) (w : World) (h0 : 0 ≤ a) (h1 : a ≤ 255) (g0 : 0 ≤ p) (g1 : p ≤ 65535) (h0' : 0 ≤ a') (h1' : a' ≤ 255) (g0' : 0 ≤ p') (g1' : p' ≤ 65535) :
    Calls Ybad.prog 17 #[.agg #[.int .u8 a, .int .u16 p, .int .u8 s, .int .u8 d], .agg #[.int .u8 a', .int .u16 p', .int .u8 s', .int .u8 d']] w fun e w' => e = .returned (.bool (sameB a p a' p')) ∧ Below w.heap.size w w' := by
  have hB := Boxes.two w 70 70 [.int .u8 a, .int .u16 p, .int .u8 s, .int .u8 d] [.int .u8 a', .int .u16 p', .int .u8 s', .int .u8 d']
  obtain ⟨c0, c1, c2, c3⟩ := Boxes.ep (w0 := w) (rows := [(70, [.int .u8 a, .int .u16 p, .int .u8 s, .int .u8 d]), (70, [.int .u8 a', .int .u16 p', .int .u8 s', .int .u8 d'])]) (i := 0) rfl
  obtain ⟨e0, e1, e2, e3⟩ := Boxes.ep (w0 := w) (rows := [(70, [.int .u8 a, .int .u16 p, .int .u8 s, .int .u8 d]), (70, [.int .u8 a', .int .u16 p', .int .u8 s', .int .u8 d'])]) (i := 1) rfl
  simp only [Nat.add_zero] at c0 c1 c2 c3
  go_enter Ybad.func17, Ybad.ntmps17
  go_wp2
  generalize [((70 : TypeId), [Value.int .u8 a, .int .u16 p, .int .u8 s, .int .u8 d]), (70, [.int .u8 a', .int .u16 p', .int .u8 s', .int .u8 d'])] = rows at *
  generalize (w.alloc (.cells #[.int .u8 a, .int .u16 p, .int .u8 s, .int .u8 d] 70)).alloc (.cells #[.int .u8 a', .int .u16 p', .int .u8 s', .int .u8 d'] 70) = W at *
  by_cases hk : a % 7 = a' % 7
  · have hk' : (a % 7 == a' % 7) = true := by simp [hk]
    go_region_held3 (fun w' => Boxes w rows w') (first | assumption | exact Boxes.drew hB) (first | (go_at_call 10; refine (ck_calls _ _ _ _ _ (by assumption) (by assumption)).mono ?_; rintro e w1 ⟨rfl, hb1⟩; have hB1 := Boxes.later (by assumption) hb1) | (go_at_call 15; refine (cport_calls _ _ _ _ _ (by assumption) (by assumption)).mono ?_; rintro e w1 ⟨rfl, hb1⟩; have hB1 := Boxes.later (by assumption) hb1))
    go_wp2
    go_ret
    exact ⟨ret_bool (by simp [sameB, hk]), (‹Boxes w rows _›).1⟩
  · have hk' : (a % 7 == a' % 7) = false := by simp [hk]
    have hBd := hB.drew
    go_region_with (first | (go_at_call 10; refine (ck_calls _ _ _ _ _ (by assumption) (by assumption)).mono ?_; rintro e w1 ⟨rfl, hb1⟩; have hB1 := Boxes.later (by assumption) hb1) | (go_at_call 15; refine (cport_calls _ _ _ _ _ (by assumption) (by assumption)).mono ?_; rintro e w1 ⟨rfl, hb1⟩; have hB1 := Boxes.later (by assumption) hb1))
    all_goals go_wp2
    all_goals go_ret
    all_goals exact ⟨ret_bool (by simp [sameB, hk]), (‹Boxes w rows _›).1⟩

/-- A SLICE OF DRAWN ENDPOINTS. -/
def EpsAt (w : World) (a : Option Addr) (es : List Ep) : Prop :=
  (∀ e ∈ es, e.ok) ∧ (0 < es.length → ∃ b o, a = some ⟨b, o, none⟩ ∧ b < w.heap.size ∧ ∀ i e, es[i]? = some e →
    w.cell? ⟨b, o + i * 4, none⟩ = some (.int .u8 e.a) ∧ w.cell? ⟨b, o + i * 4 + 1, none⟩ = some (.int .u16 e.p) ∧ w.cell? ⟨b, o + i * 4 + 2, none⟩ = some (.int .u8 e.s) ∧ w.cell? ⟨b, o + i * 4 + 3, none⟩ = some (.int .u8 e.d))
theorem EpsAt.below {w w' : World} {a : Option Addr} {es : List Ep} (h : EpsAt w a es) (hb : Below w.heap.size w w') : EpsAt w' a es := by
  refine ⟨h.1, fun h0 => ?_⟩
  obtain ⟨b, o, e, hlt, hc⟩ := h.2 h0
  exact ⟨b, o, e, Nat.lt_of_lt_of_le hlt hb.size, fun i x hx => by
    obtain ⟨c0, c1, c2, c3⟩ := hc i x hx
    exact ⟨(hb.cell hlt).trans c0, (hb.cell hlt).trans c1, (hb.cell hlt).trans c2, (hb.cell hlt).trans c3⟩⟩

def inB (a p : Int) (es : List Ep) : Bool := es.any fun e => sameB a p e.a e.p
set_option maxHeartbeats 400000 in
theorem cin_calls (a p s d : Int) (w : World) (h0 : 0 ≤ a) (h1 : a ≤ 255) (g0 : 0 ≤ p) (g1 : p ≤ 65535) (ao : Option Addr) (n c : Nat) (es : List Ep) (hl : es.length = n) (hn : n ≤ 4096) (hes : EpsAt w ao es) :
    Calls Ybad.prog 9 #[.agg #[.int .u8 a, .int .u16 p, .int .u8 s, .int .u8 d], .slice ao n c] w fun e w' => e = .returned (.bool (inB a p es)) ∧ Below w.heap.size w w' := by
  have HE := hide hes
  have HL := hide hl
  have hB := Boxes.one w 70 [.int .u8 a, .int .u16 p, .int .u8 s, .int .u8 d]
  obtain ⟨c0, c1, c2, c3⟩ := Boxes.ep (w0 := w) (rows := [(70, [.int .u8 a, .int .u16 p, .int .u8 s, .int .u8 d])]) (i := 0) rfl
  simp only [Nat.add_zero] at c0 c1 c2 c3
  clear hes hl
  go_enter Ybad.func9, Ybad.ntmps9
  go_wp2
  generalize [((70 : TypeId), [Value.int .u8 a, .int .u16 p, .int .u8 s, .int .u8 d])] = rows at *
  generalize w.alloc (.cells #[.int .u8 a, .int .u16 p, .int .u8 s, .int .u8 d] 70) = W at *
  go_loopw [5] (fun i wr => ∃ k : Nat, k ≤ n ∧ i = .int .i64 k ∧ Boxes w rows wr ∧ inB a p (es.take k) = false) (fun i _ => n - (intOf i).toNat)
  case atStart => exact ⟨0, Nat.zero_le _, rfl, hB, rfl⟩
  case round =>
    obtain ⟨k, hk, rfl, hBr, hno⟩ := hrel
    clear hB
    by_cases hlt : k < n
    · obtain ⟨x, hx⟩ : ∃ x, es[k]? = some x := ⟨_, List.getElem?_eq_getElem (by have := HL.out; omega)⟩
      obtain ⟨b, o, rfl, hb, hc⟩ := HE.out.2 (by have := HL.out; omega)
      obtain ⟨k0, k1, k2, k3⟩ := hc k x hx
      have f0 : ∀ w', Boxes w rows w' → w'.cell? ⟨b, o + k * 4, none⟩ = some (.int .u8 x.a) := fun w' h => (h.1.cell hb).trans k0
      have f1 : ∀ w', Boxes w rows w' → w'.cell? ⟨b, o + k * 4 + 1, none⟩ = some (.int .u16 x.p) := fun w' h => (h.1.cell hb).trans k1
      have f2 : ∀ w', Boxes w rows w' → w'.cell? ⟨b, o + k * 4 + 2, none⟩ = some (.int .u8 x.s) := fun w' h => (h.1.cell hb).trans k2
      have f3 : ∀ w', Boxes w rows w' → w'.cell? ⟨b, o + k * 4 + 3, none⟩ = some (.int .u8 x.d) := fun w' h => (h.1.cell hb).trans k3
      obtain ⟨x0, x1, x2, x3, _⟩ := HE.out.1 x (List.mem_of_getElem? hx)
      have HX := hide hx
      have HN := hide hno
      have hlt' : (k : Int) < (n : Int) := by omega
      clear k0 k1 k2 k3 hc hx hno
      go_wp2
      go_region_held3 (fun w' => Boxes w rows w') (first | assumption | exact Boxes.drew hBr) ((go_at_call 17; refine (csame_calls _ _ _ _ _ _ _ _ _ h0 h1 g0 g1 x0 x1 x2 x3).mono ?_; rintro e w1 ⟨rfl, hb1⟩; have hB1 := Boxes.later (by assumption) hb1))
      cases hs : sameB a p x.a x.p with
      | true =>
        go_wp2
        go_ret
        exact ⟨ret_bool (Eq.symm (List.any_eq_true.2 ⟨x, List.mem_of_getElem? HX.out, hs⟩)), (‹Boxes w rows w1›).1⟩
      | false =>
        go_wp2
        go_roundw
        case rel =>
          refine ⟨k + 1, by omega, by go_num, ‹Boxes w rows w1›, ?_⟩
          obtain ⟨hkl, hkx⟩ := List.getElem?_eq_some_iff.1 HX.out
          have hn := HN.out
          unfold inB at hn ⊢
          rw [List.take_succ_eq_append_getElem hkl, List.any_append, hn, hkx]
          simp [hs]
        case measure => simp [intOf]; omega
    · obtain rfl : k = n := by omega
      go_wp2
      go_ret
      exact ⟨ret_bool (by rw [← hno, List.take_of_length_le (by have := HL.out; omega)]), hBr.1⟩
end Go.Proofs.YbulkdxjmDoor

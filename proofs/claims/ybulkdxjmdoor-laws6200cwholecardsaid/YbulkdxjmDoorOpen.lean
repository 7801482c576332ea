/-
  WHAT CAME IN: the drawn endpoints, the drawn prefixes, the listed variables.
-/
import Derived.Test.YbulkdxjmDoorHandles
import Derived.Test.YbulkdxjmDoorAdmitsModel
import Derived.Test.YbulkdxjmDoorRows
import Derived.Deep.Slices
import Derived.SizedLaws
import Derived.Handy
import Derived.OpenShut
namespace Go.Proofs.YbulkdxjmDoor
open Go.ChangeShapes Go.WideShapes Go.ChangeAt Go.RowKit
set_option linter.unusedVariables false
set_option maxRecDepth 100000

theorem Ybad.cells70 : Ybad.prog.cellsOf 70 = 4 := by kernel_rfl
theorem Ybad.cells5 : Ybad.prog.cellsOf 5 = 1 := by kernel_rfl
theorem Ybad.cells24 : Ybad.prog.cellsOf 24 = 1 := by kernel_rfl
theorem Ybad.cells61 : Ybad.prog.cellsOf 61 = 1 := by kernel_rfl
theorem Ybad.cells59 : Ybad.prog.cellsOf 59 = 1 := by kernel_rfl
theorem Ybad.cells176 : Ybad.prog.cellsOf 176 = 2 := by kernel_rfl
theorem u8_range {n : Int} (h : (Lit.int .u8 n).wf = true) : 0 ≤ n ∧ n ≤ 255 := by simpa [Lit.wf, IntKind.min, IntKind.max, IntKind.signed, IntKind.bits] using h
theorem u16_range {n : Int} (h : (Lit.int .u16 n).wf = true) : 0 ≤ n ∧ n ≤ 65535 := by simpa [Lit.wf, IntKind.min, IntKind.max, IntKind.signed, IntKind.bits] using h
instance : Inhabited Ep := ⟨⟨0, 0, 0, 0⟩⟩

/-- A slice of drawn endpoints. -/
theorem eps_of {H : Type} {enc : TypeId × Value → H} {W : World} {fuel : Nat} {a : Option Addr} {len cap : Nat} {x : DataW H × List MemPlace} (h : DataW.trod enc Ybad.prog W 0 (fun _ => true) true fuel 22 [.slice a len cap] = some x) :
    ∃ es : List Ep, es.length = len ∧ EpsAt W a es ∧ (len = 0 ∨ ∃ elems spare, x.1 = .slice elems spare ∧ elems.length = len) := by
  rcases Go.Deep.open_slice Ybad.underlying22 h with ⟨hcs, rfl⟩ | ⟨ad, len', cap', m, n, D, Pl, hcs, _, hl, hm, hmm, rfl, hel⟩
  · simp at hcs
    obtain ⟨rfl, rfl, rfl⟩ := hcs
    exact ⟨[], rfl, ⟨fun e h => by simp at h, fun h => by simp at h⟩, .inl rfl⟩
  · simp at hcs
    obtain ⟨rfl, rfl, rfl⟩ := hcs
    have hlm : len ≤ m := by rw [hmm]; split <;> omega
    have each : ∀ i, i < len → ∃ e : Ep, e.ok ∧ W.cell? (ad.add (i * 4)) = some (.int .u8 e.a) ∧ W.cell? (ad.add (i * 4 + 1)) = some (.int .u16 e.p) ∧ W.cell? (ad.add (i * 4 + 2)) = some (.int .u8 e.s) ∧ W.cell? (ad.add (i * 4 + 3)) = some (.int .u8 e.d) := by
      intro i hi
      obtain ⟨cs', h1, h2⟩ := hel i (by omega)
      rw [Ybad.cells70] at h1
      obtain ⟨_, hlen, hcell⟩ := World.cells?_some h1
      obtain ⟨xs, k, hk, hxy, _, hxl, hf⟩ := DataW.trod_struct Ybad.underlying70 h2
      have hxl' : xs.length = 4 := hxl
      match xs, hxl', cs', hlen with
      | [z0, z1, z2, z3], _, [v0, v1, v2, v3], _ =>
        have g0 := hf 0 _ rfl
        have g1 := hf 1 _ rfl
        have g2 := hf 2 _ rfl
        have g3 := hf 3 _ rfl
        simp [Ybad.cells5, Ybad.cells24] at g0 g1 g2 g3
        have e0 := hcell 0 (by omega)
        have e1 := hcell 1 (by omega)
        have e2 := hcell 2 (by omega)
        have e3 := hcell 3 (by omega)
        rw [Go.Deep.add_add] at e0 e1 e2 e3
        obtain ⟨q0, hv0, _, r0⟩ := DataW.trod_int Ybad.underlying5 g0
        obtain ⟨q1, hv1, _, r1⟩ := DataW.trod_int Ybad.underlying24 g1
        obtain ⟨q2, hv2, _, r2⟩ := DataW.trod_int Ybad.underlying5 g2
        obtain ⟨q3, hv3, _, r3⟩ := DataW.trod_int Ybad.underlying5 g3
        simp only [List.cons.injEq, and_true] at hv0 hv1 hv2 hv3
        subst hv0 hv1 hv2 hv3
        have s0 := u8_range r0
        have s1 := u16_range r1
        have s2 := u8_range r2
        have s3 := u8_range r3
        exact ⟨⟨q0, q1, q2, q3⟩, ⟨s0.1, s0.2, s1.1, s1.2, s2.1, s2.2, s3.1, s3.2⟩, by simpa using e0, by simpa using e1, by simpa using e2, by simpa using e3⟩
    obtain ⟨q, hq⟩ := Go.Deep.choose_lt each
    have hget : ∀ i e, ((List.range len).map q)[i]? = some e → i < len ∧ q i = e := fun i e he => by
      have hi : i < len := by have := (List.getElem?_eq_some_iff.1 he).1; simpa using this
      refine ⟨hi, ?_⟩
      rw [List.getElem?_map, List.getElem?_range hi] at he
      simpa using he
    refine ⟨(List.range len).map q, by simp, ⟨fun e he => ?_, fun h0 => ?_⟩, .inr ⟨_, _, rfl, by simp⟩⟩
    · obtain ⟨i, hi, rfl⟩ := List.mem_map.1 he
      exact (hq i (List.mem_range.1 hi)).1
    · have hpos : 0 < len := by simpa using h0
      obtain ⟨b, o, rfl, hb⟩ := addr_of (x := ad) (by have := (hq 0 hpos).2.1; simpa using this)
      refine ⟨b, o, rfl, hb, fun i e he => ?_⟩
      obtain ⟨hi, rfl⟩ := hget i e he
      obtain ⟨_, c0, c1, c2, c3⟩ := hq i hi
      rw [Addr.add_lit] at c0 c1 c2 c3
      exact ⟨c0, by rw [Nat.add_assoc]; exact c1, by rw [Nat.add_assoc]; exact c2, by rw [Nat.add_assoc]; exact c3⟩

/-- A slice of bytes. -/
theorem bytes_of {H : Type} {enc : TypeId × Value → H} {W : World} {fuel : Nat} {a : Option Addr} {len cap : Nat} {x : DataW H × List MemPlace} (h : DataW.trod enc Ybad.prog W 0 (fun _ => true) true fuel 23 [.slice a len cap] = some x) :
    ∃ zs : List Int, zs.length = len ∧ BytesAt W a zs ∧ (len = 0 ∨ ∃ elems spare, x.1 = .slice elems spare ∧ elems.length = len) := by
  rcases Go.Deep.open_slice Ybad.underlying23 h with ⟨hcs, rfl⟩ | ⟨ad, len', cap', m, n, D, Pl, hcs, _, hl, hm, hmm, rfl, hel⟩
  · simp at hcs
    obtain ⟨rfl, rfl, rfl⟩ := hcs
    exact ⟨[], rfl, ⟨fun e h => by simp at h, fun h => by simp at h⟩, .inl rfl⟩
  · simp at hcs
    obtain ⟨rfl, rfl, rfl⟩ := hcs
    have hlm : len ≤ m := by rw [hmm]; split <;> omega
    have each : ∀ i, i < len → ∃ e : Int, (0 ≤ e ∧ e ≤ 255) ∧ W.cell? (ad.add i) = some (.int .u8 e) := by
      intro i hi
      obtain ⟨cs', h1, h2⟩ := hel i (by omega)
      rw [Ybad.cells5] at h1
      obtain ⟨_, hlen, hcell⟩ := World.cells?_some h1
      match cs', hlen with
      | [v0], _ =>
        have e0 := hcell 0 (by omega)
        rw [Go.Deep.add_add] at e0
        obtain ⟨q0, hv0, _, r0⟩ := DataW.trod_int Ybad.underlying5 h2
        simp only [List.cons.injEq, and_true] at hv0
        subst hv0
        exact ⟨q0, u8_range r0, by simpa using e0⟩
    obtain ⟨q, hq⟩ := Go.Deep.choose_lt each
    have hget : ∀ i e, ((List.range len).map q)[i]? = some e → i < len ∧ q i = e := fun i e he => by
      have hi : i < len := by have := (List.getElem?_eq_some_iff.1 he).1; simpa using this
      refine ⟨hi, ?_⟩
      rw [List.getElem?_map, List.getElem?_range hi] at he
      simpa using he
    refine ⟨(List.range len).map q, by simp, ⟨fun e he => ?_, fun h0 => ?_⟩, .inr ⟨_, _, rfl, by simp⟩⟩
    · obtain ⟨i, hi, rfl⟩ := List.mem_map.1 he
      exact (hq i (List.mem_range.1 hi)).1
    · have hpos : 0 < len := by simpa using h0
      obtain ⟨b, o, rfl, hb⟩ := addr_of (x := ad) (hq 0 hpos).2
      refine ⟨b, o, rfl, hb, fun i e he => ?_⟩
      obtain ⟨hi, rfl⟩ := hget i e he
      have c0 := (hq i hi).2
      rw [Addr.add_lit] at c0
      exact c0

/-- A listed handle. -/
theorem handle_ptr {W : World} {n : String} {g : Nat} {cs : Array Value} {fuel : Nat} {d : DataW Unit} {p : List MemPlace} (hg : Ybad.prog.globalNamed n = some g) (hv : W.var? Ybad.prog n = some cs) (h : DataW.trod (fun _ => ()) Ybad.prog W 0 (fun _ => true) false fuel 61 cs.toList = some (.agg [.ptr d], p)) :
    ∃ a : Addr, W.cell? ⟨g, 0, none⟩ = some (.pointer (some a)) ∧ ∃ q, p = MemPlace.row a 2 ++ q := by
  obtain ⟨xs, k, hk, hxy, hcl, hxl, hf⟩ := DataW.trod_struct Ybad.underlying61 h
  rw [Ybad.cells61] at hcl
  obtain ⟨ty, fr, hb⟩ : ∃ ty fr, W.heap[g]? = some (.cells cs ty fr) := by
    simp only [World.var?, hg, Option.bind_some] at hv
    split at hv
    · rename_i cs' ty fr hh
      simp only [Option.some.injEq] at hv
      subst hv
      exact ⟨ty, fr, hh⟩
    · cases hv
  obtain ⟨L⟩ := cs
  have hxl' : xs.length = 1 := hxl
  match xs, hxl', L, hcl with
  | [z0], _, [v0], _ =>
    have g0 := hf 0 _ rfl
    simp [Ybad.cells59] at g0
    rcases DataW.trod_pointer Ybad.underlying59 g0 with ⟨h1, h2⟩ | ⟨a, cs', y, m, _, h1, h2, h3, h4⟩
    · subst h2
      simp at hxy
    · simp only [List.cons.injEq, and_true] at h1
      subst h1
      refine ⟨a, ?_, y.2, ?_⟩
      · rw [cell_of_row W g 0 _ ty fr hb]
        rfl
      · subst h2
        rw [Ybad.cells176] at hxy
        simpa using (Prod.mk.inj hxy).2
theorem handle_nil {W : World} {n : String} {g : Nat} {cs : Array Value} {fuel : Nat} {p : List MemPlace} (hg : Ybad.prog.globalNamed n = some g) (hv : W.var? Ybad.prog n = some cs) (h : DataW.trod (fun _ => ()) Ybad.prog W 0 (fun _ => true) false fuel 61 cs.toList = some (.agg [.nil], p)) :
    W.cell? ⟨g, 0, none⟩ = some (.pointer none) := by
  obtain ⟨xs, k, hk, hxy, hcl, hxl, hf⟩ := DataW.trod_struct Ybad.underlying61 h
  rw [Ybad.cells61] at hcl
  obtain ⟨ty, fr, hb⟩ : ∃ ty fr, W.heap[g]? = some (.cells cs ty fr) := by
    simp only [World.var?, hg, Option.bind_some] at hv
    split at hv
    · rename_i cs' ty fr hh
      simp only [Option.some.injEq] at hv
      subst hv
      exact ⟨ty, fr, hh⟩
    · cases hv
  obtain ⟨L⟩ := cs
  have hxl' : xs.length = 1 := hxl
  match xs, hxl', L, hcl with
  | [z0], _, [v0], _ =>
    have g0 := hf 0 _ rfl
    simp [Ybad.cells59] at g0
    rcases DataW.trod_pointer Ybad.underlying59 g0 with ⟨h1, h2⟩ | ⟨a, cs', y, m, _, h1, h2, h3, h4⟩
    · simp only [List.cons.injEq, and_true] at h1
      subst h1
      rw [cell_of_row W g 0 _ ty fr hb]
      rfl
    · subst h2
      simp at hxy

theorem g4 : Ybad.prog.globalNamed "net/netip.z4" = some 1 := by kernel_rfl
theorem g6 : Ybad.prog.globalNamed "net/netip.z6noz" = some 2 := by kernel_rfl
theorem g0 : Ybad.prog.globalNamed "net/netip.z0" = some 0 := by kernel_rfl
theorem t4 : (Ybad.prog.globals[1]?).map (·.type) = some 61 := by kernel_rfl
theorem t6 : (Ybad.prog.globals[2]?).map (·.type) = some 61 := by kernel_rfl
theorem t0 : (Ybad.prog.globals[0]?).map (·.type) = some 61 := by kernel_rfl

/-- THE LISTED VARIABLES HOLD WHAT 'Env' SAYS. -/
theorem env_of {W : World} (h : laidMet Ybad.prog Rows.lawS6200CWholeRow.laid W) : ∃ p4 p6, Env W p4 p6 := by
  obtain ⟨ps, hL, hnd, hpl⟩ := h
  obtain ⟨ga, ta, ca, fa, pa, qa, A1, A2, A3, A4, hLb, rfl⟩ := hL
  obtain ⟨gb, tb, cb, fb, pb, qb, B1, B2, B3, B4, hLc, rfl⟩ := hLb
  obtain ⟨gc, tc, cc, fc, pc, qc, C1, C2, C3, C4, hLd, rfl⟩ := hLc
  obtain rfl : (1 : Nat) = ga := Option.some.inj (g4.symm.trans A1)
  obtain rfl : (2 : Nat) = gb := Option.some.inj (g6.symm.trans B1)
  obtain rfl : (0 : Nat) = gc := Option.some.inj (g0.symm.trans C1)
  obtain rfl : (61 : TypeId) = ta := Option.some.inj (t4.symm.trans A2)
  obtain rfl : (61 : TypeId) = tb := Option.some.inj (t6.symm.trans B2)
  obtain rfl : (61 : TypeId) = tc := Option.some.inj (t0.symm.trans C2)
  obtain ⟨p4, z4, r4, rfl⟩ := handle_ptr g4 A3 A4
  obtain ⟨p6, z6, r6, rfl⟩ := handle_ptr g6 B3 B4
  have z0 := handle_nil g0 C3 C4
  have m4 : MemPlace.cell p4.block p4.off ∈ MemPlace.row p4 2 := by simp [MemPlace.row]
  have m6 : MemPlace.cell p6.block p6.off ∈ MemPlace.row p6 2 := by simp [MemPlace.row]
  refine ⟨p4, p6, z0, z4, z6, (hpl p4.block p4.off (by simp [m4])).1, (hpl p6.block p6.off (by simp [m6])).1, fun e => ?_⟩
  subst e
  rw [List.append_assoc, List.append_assoc] at hnd
  have h1 := (List.nodup_append.1 hnd).2.1
  have h2 := (List.nodup_append.1 h1).2.2
  exact h2 _ m4 _ (List.mem_append_right _ (List.mem_append_left _ (List.mem_append_right _ (List.mem_append_left _ m4)))) rfl
end Go.Proofs.YbulkdxjmDoor

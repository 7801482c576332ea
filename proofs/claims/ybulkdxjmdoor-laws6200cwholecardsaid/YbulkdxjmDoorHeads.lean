/-
  NAMES FOR THE LAW's OWN STATEMENTS: the rows that it fills, the map, the model; a statement taken out of the translation by its number.
-/
import Derived.Test.YbulkdxjmDoorIns
namespace Go.Proofs.YbulkdxjmDoor
open Go.RowKit
set_option linter.unusedVariables false
set_option linter.unusedSimpArgs false
/-- The block of a number. -/
def findBlock (n : Nat) : Code → Option Code
  | .block id c => if id == n then some (.block id c) else findBlock n c
  | .seq a b => match findBlock n a with
    | some c => some c
    | none => findBlock n b
  | .scope c => findBlock n c
  | .loop c => findBlock n c
  | .cond _ a b => match findBlock n a with
    | some c => some c
    | none => findBlock n b
  | _ => none
/-- The test over a slot. -/
def findIf (n : Nat) : Code → Option Code
  | .cond (.tmp k) a b => if k == n then some (.cond (.tmp k) a b) else match findIf n a with
    | some c => some c
    | none => findIf n b
  | .cond _ a b => match findIf n a with
    | some c => some c
    | none => findIf n b
  | .block _ c => findIf n c
  | .seq a b => match findIf n a with
    | some c => some c
    | none => findIf n b
  | .scope c => findIf n c
  | .loop c => findIf n c
  | _ => none
/-- The service's block by its locals. -/
def svcL (B : Nat) (pv : Value) (lv : Value) : List Value := svcRow B lv pv
theorem svcL_set (B : Nat) (pv v u : Value) : (svcL B pv v).set 0 u = svcL B pv u := rfl
/-- The service's block by its prefixes. -/
def svcP (B : Nat) (lv : Value) (pv : Value) : List Value := svcRow B lv pv
theorem svcP_set (B : Nat) (lv v u : Value) : (svcP B lv v).set 8 u = svcP B lv u := rfl
def locRow (p4 p6 : Addr) (e : Ep) : List Value := elCells p4 p6 e ++ [.pointer none]
theorem Ybad.info55 : (Ybad.prog.info? 55).map (fun i => (i.size, i.bytes, i.zero)) = some (1, 8, some (.pointer none)) := by kernel_rfl
theorem info55_parts : ∃ i, Ybad.prog.info? 55 = some i ∧ i.zero = some (.pointer none) ∧ i.size = 1 ∧ i.bytes = 8 := by
  obtain ⟨i, hi, hs⟩ := Option.map_eq_some_iff.1 Ybad.info55
  simp only [Prod.mk.injEq] at hs
  exact ⟨i, hi, hs.2.2, hs.1, hs.2.1⟩
theorem Ybad.info75 : (Ybad.prog.info? 75).map (fun i => (i.size, i.bytes, i.zero.map (fun z => z.cells.size))) = some (4, 32, some 4) := by kernel_rfl
theorem info75_parts : ∃ i z, Ybad.prog.info? 75 = some i ∧ i.zero = some z ∧ z.cells.size = 4 ∧ i.size = 4 ∧ i.bytes = 32 := by
  obtain ⟨i, hi, hs⟩ := Option.map_eq_some_iff.1 Ybad.info75
  simp only [Prod.mk.injEq] at hs
  obtain ⟨z, hz, hc⟩ := Option.map_eq_some_iff.1 hs.2.2
  exact ⟨i, z, hi, hz, hc, hs.1, hs.2.1⟩
/-! ### The peers' map -/
def ptrOk (v : Value) : Prop := ∃ a, v = .pointer (some a)
/-- What a region that writes one key keeps. -/
def MapOpen (A : World) (p4 p6 : Addr) (B : Nat) (ps : List Ep) (j : Nat) (w' : World) : Prop := A.grownBy w' (some B) ∧ (MapAt w' p4 p6 B ptrOk (keyIn (ps.take j)) ∨ MapAt w' p4 p6 B ptrOk (keyIn (ps.take (j + 1))))
noncomputable def updW (w : World) (r : Nat) (key v : Value) : World := match (Instr.mapUpdate 26 (.map (some r)) key v).run Ybad.prog w with
  | .ok _ w' => w'
  | _ => w
section
variable {A w' w2 : World} {p4 p6 : Addr} {B : Nat} {ps : List Ep} {j : Nat}
theorem MapOpen.later (h : MapOpen A p4 p6 B ps j w') (hb : Below w'.heap.size w' w2) : MapOpen A p4 p6 B ps j w2 :=
  ⟨h.1.trans (below_grownBy hb _), h.2.imp (fun h => h.below hb h.lt) (fun h => h.below hb h.lt)⟩
theorem MapOpen.alloc (h : MapOpen A p4 p6 B ps j w') (o : Obj) : MapOpen A p4 p6 B ps j (w'.alloc o) := h.later ((Below.refl _ _).alloc (Nat.le_refl _) _)
theorem MapOpen.drew (h : MapOpen A p4 p6 B ps j w') : MapOpen A p4 p6 B ps j w'.drew := h.later (Below.refl _ _).drew
theorem MapOpen.upd {W : World} {x : Ep} (h : MapOpen A p4 p6 B ps j w') (hE : Env w' p4 p6) (hx : ps[j]? = some x) (hok : x.ok) (a : Addr) :
    (Instr.mapUpdate 26 (.map (some B)) (apV p4 p6 (x.a % 7) (x.p % 4)) (.pointer (some a))).run Ybad.prog w' = .ok () (updW w' B (apV p4 p6 (x.a % 7) (x.p % 4)) (.pointer (some a))) ∧
    A.grownBy (updW w' B (apV p4 p6 (x.a % 7) (x.p % 4)) (.pointer (some a))) (some B) ∧ MapAt (updW w' B (apV p4 p6 (x.a % 7) (x.p % 4)) (.pointer (some a))) p4 p6 B ptrOk (keyIn (ps.take (j + 1))) := by
  obtain ⟨x0, x1, y0, y1, _⟩ := hok
  have hk1 : ∀ f, (f = keyIn (ps.take j) ∨ f = keyIn (ps.take (j + 1))) → (fun k' po' => f k' po' || (k' == x.a % 7 && po' == x.p % 4)) = keyIn (ps.take (j + 1)) := by
    rintro f (rfl | rfl) <;> funext k' po' <;> rw [keyIn_take hx, beq_swap k', beq_swap po']
    cases keyIn (ps.take j) k' po' <;> cases (x.a % 7 == k') <;> cases (x.p % 4 == po') <;> rfl
  have hf : ∃ f, MapAt w' p4 p6 B ptrOk f ∧ (f = keyIn (ps.take j) ∨ f = keyIn (ps.take (j + 1))) := by
    rcases h.2 with h | h
    · exact ⟨_, h, .inl rfl⟩
    · exact ⟨_, h, .inr rfl⟩
  obtain ⟨f, hM, hfe⟩ := hf
  obtain ⟨w4, hu, hM4, hB4, hsz, hbl⟩ := mapUpdate_run hE hM (x.a % 7) (x.p % 4) (by omega) (by omega) 26 77 (.pointer (some a)) ⟨a, rfl⟩ Ybad.underlying26
  have hw : updW w' B (apV p4 p6 (x.a % 7) (x.p % 4)) (.pointer (some a)) = w4 := by unfold updW; rw [hu]
  rw [hw]
  rw [hk1 f hfe] at hM4
  have hb0 := hB4 0 (Nat.zero_le _)
  refine ⟨hu, ⟨hb0.os.trans h.1.os, hb0.tape.trans h.1.tape, hb0.output.trans h.1.output, by rw [hsz]; exact h.1.size, fun k hk hne => (hbl k (fun e => hne (by rw [e]))).trans (h.1.block k hk hne)⟩, hM4⟩
end
/-! ### The entity -/
def nseP (nsei : Int) (v : Value) : List Value := [.int .u16 nsei, .int .i64 0, .int .u16 0, .bool false, .int .u16 0, .int .u16 0, .int .u16 0, .slice none 0 0, v, .int .i64 0, .slice none 0 0, .int .u32 0, .pointer none, .int .u64 0, .int .u64 0, .pointer none, .int .u16 0, .int .u8 0, .int .u16 0, .int .u8 0, .slice none 0 0, .int .u64 0, .int .u64 0, .pointer none, .slice none 0 0, .string { data := #[] }, .int .i64 0, .slice none 0 0, .slice none 0 0, .pointer none, .int .u64 0, .int .u64 0, .pointer none, .int .u16 0, .int .i64 0, .pointer none, .int .u64 0]
theorem nseP_set (nsei : Int) (v u : Value) : (nseP nsei v).set 8 u = nseP nsei u := rfl
def peerRow (p4 p6 : Addr) (e : Ep) : List Value := elCells p4 p6 e ++ [.slice none 0 0]
theorem Ybad.info77 : (Ybad.prog.info? 77).map (fun i => (i.size, i.bytes, i.zero)) = some (1, 8, some (.pointer none)) := by kernel_rfl
theorem info77_parts : ∃ i, Ybad.prog.info? 77 = some i ∧ i.zero = some (.pointer none) ∧ i.size = 1 ∧ i.bytes = 8 := by
  obtain ⟨i, hi, hs⟩ := Option.map_eq_some_iff.1 Ybad.info77
  simp only [Prod.mk.injEq] at hs
  exact ⟨i, hi, hs.2.2, hs.1, hs.2.1⟩
/-! ### The model -/
theorem EpsAt.take {w : World} {b o : Nat} {es : List Ep} {j : Nat} (h : EpsAt w (some ⟨b, o, none⟩) es) : EpsAt w (some ⟨b, o, none⟩) (es.take j) := by
  refine ⟨fun e he => h.1 e (List.mem_of_mem_take he), fun h0 => ?_⟩
  have hpos : 0 < es.length := by simp at h0; omega
  obtain ⟨b', o', e, hlt, hc⟩ := h.2 hpos
  exact ⟨b', o', e, hlt, fun i x hx => hc i x (by
    rw [List.getElem?_take] at hx
    split at hx
    · exact hx
    · cases hx)⟩
theorem zK_one (k : Int) : (zK k == 1) = (k == 1 || k == 2 || k == 3) := by
  unfold zK
  by_cases h0 : k = 0
  · subst h0; rfl
  · by_cases h1 : k = 1
    · subst h1; rfl
    · by_cases h2 : k = 2
      · subst h2; rfl
      · by_cases h3 : k = 3
        · subst h3; rfl
        · simp [h0, h1, h2, h3]
theorem answer_weights {ls qs es : List Ep} (hd : decide (qs.length + es.length = 0) = false) {s d : Bool} (hs : hasSig (qs ++ es) = s) (ht : hasDat (qs ++ es) = d) : answer none true ls qs es = (cond (s && d) 0 17, !(s && d)) := by
  cases s <;> cases d <;> simp only [answer, hd, hs, ht] <;> rfl
theorem answer_none {ls qs es : List Ep} (hd : decide (qs.length + es.length = 0) = true) {v : Bool} (hv : hasV4 ls = v) : answer none true ls qs es = (noneCause v, true) := by
  simp only [answer, hd, hv]
/-! ### What the first loops leave -/
def After1 (p4 p6 : Addr) (W X : World) (n0 : Nat) (ls : List Ep) (wr : World) : Prop := ∃ (lv : Value) (xs : List Value), X.grownBy wr (some (W.heap.size + 1)) ∧ RowAt wr (W.heap.size + 1) 54 (svcL W.heap.size (.slice none 0 0) lv) ∧ wr.ownsRow (W.heap.size + 2) 55 1 lv n0 xs ∧ PtrRow wr 73 (locRow p4 p6) xs ls
def After2 (p4 p6 : Addr) (W A1 : World) (lv : Value) (n1 : Nat) (zs : List Int) (wr : World) : Prop := ∃ (pv : Value), A1.grownBy wr (some (W.heap.size + 1)) ∧ RowAt wr (W.heap.size + 1) 54 (svcP W.heap.size lv pv) ∧ wr.ownsRow A1.heap.size 75 4 pv n1 (zs.flatMap (pfxCells p4 p6))
def After4 (p4 p6 : Addr) (A3 X4 : World) (nsei : Int) (n3 : Nat) (qs : List Ep) (wr : World) : Prop := ∃ (v : Value) (ys : List Value), X4.grownBy wr (some A3.heap.size) ∧ RowAt wr A3.heap.size 101 (nseP nsei v) ∧ wr.ownsRow (A3.heap.size + 1) 77 1 v n3 ys ∧ PtrRow wr 80 (peerRow p4 p6) ys qs
end Go.Proofs.YbulkdxjmDoor

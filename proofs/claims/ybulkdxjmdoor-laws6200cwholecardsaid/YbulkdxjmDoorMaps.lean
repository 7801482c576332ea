/-
  MAPS KEYED BY A TABLE ENDPOINT: the look-up, the store.
-/
import Derived.Test.YbulkdxjmDoorLocal
import Derived.MapKept
namespace Go.Proofs.YbulkdxjmDoor
open Go.RowKit
set_option linter.unusedVariables false

theorem eq_apV {w : World} {p4 p6 : Addr} (hE : Env w p4 p6) (k k' po po' : Int) (h0 : 0 ≤ k) (h1 : k ≤ 6) (h0' : 0 ≤ k') (h1' : k' ≤ 6) : (Op.equal 65 (apV p4 p6 k po) (apV p4 p6 k' po')).run Ybad.prog w = .ok (k == k' && po == po') w :=
  eq_ap hE k k' po po' h0 h1 h0' h1' 9990

/-- Every key is a table endpoint. -/
def Keys (p4 p6 : Addr) (es : List MapEntry) : Prop := ∀ e ∈ es, ∃ k po : Int, 0 ≤ k ∧ k ≤ 6 ∧ e.key = apV p4 p6 k po

theorem apV_ne {w : World} {p4 p6 : Addr} (hE : Env w p4 p6) {k k' po po' : Int} (h0 : 0 ≤ k) (h1 : k ≤ 6) (h0' : 0 ≤ k') (h1' : k' ≤ 6) (h : (k == k' && po == po') = false) : apV p4 p6 k' po' ≠ apV p4 p6 k po := by
  intro e
  have := eq_apV hE k k' po po' h0 h1 h0' h1'
  rw [e, eq_apV hE k k po po h0 h1 h0 h1, h] at this
  simp at this

theorem asking_run {w : World} {p4 p6 : Addr} (hE : Env w p4 p6) (k po : Int) (h0 : 0 ≤ k) (h1 : k ≤ 6) : ∀ (es : List MapEntry) (i : Nat), Keys p4 p6 es →
    ((Instr.findAsking 65 (apV p4 p6 k po) es i).run Ybad.prog w = .ok none w ∧ ∀ e ∈ es, e.key ≠ apV p4 p6 k po) ∨ ∃ j e, (Instr.findAsking 65 (apV p4 p6 k po) es i).run Ybad.prog w = .ok (some (i + j, e.val)) w ∧ es[j]? = some e ∧ e.key = apV p4 p6 k po
  | [], i, _ => .inl ⟨rfl, by simp⟩
  | e :: es, i, h => by
    obtain ⟨k', po', g0, g1, hk⟩ := h e (.head _)
    have hq := eq_apV hE k k' po po' h0 h1 g0 g1
    cases hs : (k == k' && po == po') with
    | true =>
      refine .inr ⟨0, e, ?_, rfl, ?_⟩
      · simp [Instr.findAsking, hk, hq, hs]
      · simp only [Bool.and_eq_true, beq_iff_eq] at hs
        rw [hk, hs.1, hs.2]
    | false =>
      have hne := apV_ne hE h0 h1 g0 g1 hs
      rcases asking_run hE k po h0 h1 es (i + 1) (fun x hx => h x (.tail _ hx)) with ⟨q1, q2⟩ | ⟨j, e', q1, q2, q3⟩
      · refine .inl ⟨by simp [Instr.findAsking, hk, hq, hs, q1], fun x hx => ?_⟩
        cases hx with
        | head => rw [hk]; exact hne
        | tail _ hx => exact q2 x hx
      · refine .inr ⟨j + 1, e', ?_, by simpa using q2, q3⟩
        simp [Instr.findAsking, hk, hq, hs, q1]
        omega

theorem findKey_run {w : World} {p4 p6 : Addr} (hE : Env w p4 p6) (k po : Int) (h0 : 0 ≤ k) (h1 : k ≤ 6) (es : List MapEntry) (hK : Keys p4 p6 es) :
    ((Instr.findKey 65 (apV p4 p6 k po) es).run Ybad.prog w = .ok none w ∧ ∀ e ∈ es, e.key ≠ apV p4 p6 k po) ∨ ∃ j e, (Instr.findKey 65 (apV p4 p6 k po) es).run Ybad.prog w = .ok (some (j, e.val)) w ∧ es[j]? = some e ∧ e.key = apV p4 p6 k po := by
  cases es with
  | nil => exact .inl ⟨by simp [Instr.findKey, run_underlying Ybad.underlying65, Instr.findNow], by simp⟩
  | cons e es =>
    have hn : (Instr.findKey 65 (apV p4 p6 k po) (e :: es)).run Ybad.prog w = (Instr.findAsking 65 (apV p4 p6 k po) (e :: es)).run Ybad.prog w := by
      simp [Instr.findKey, run_underlying Ybad.underlying65, Instr.findNow, Instr.sameNow]
    rw [hn]
    simpa using asking_run hE k po h0 h1 (e :: es) 0 hK

theorem checkKey_run {w : World} {p4 p6 : Addr} (k po : Int) (b : Bool) : (Instr.checkKey b 10000 65 (apV p4 p6 k po)).run Ybad.prog w = .ok () w := by
  have h : ∀ n, (Instr.checkKey b (n + 10) 65 (apV p4 p6 k po)).run Ybad.prog w = .ok () w := fun n => by
    simp [Instr.checkKey, run_underlying Ybad.underlying65, apV, go_sem]
  exact h 9990

/-- A MAP WITH TABLE ENDPOINTS FOR KEYS: every value is 'ok'; f tells which keys are in it. -/
def MapAt (w : World) (p4 p6 : Addr) (r : Nat) (ok : Value → Prop) (f : Int → Int → Bool) : Prop :=
  ∃ es clock, w.heap[r]? = some (.map es clock) ∧ Keys p4 p6 es.toList ∧ (∀ e ∈ es.toList, ok e.val) ∧ ∀ k po, 0 ≤ k → k ≤ 6 → (f k po = true ↔ ∃ e ∈ es.toList, e.key = apV p4 p6 k po)
theorem MapAt.of_block {w w' : World} {p4 p6 : Addr} {r : Nat} {ok : Value → Prop} {f : Int → Int → Bool} (h : MapAt w p4 p6 r ok f) (hb : w'.heap[r]? = w.heap[r]?) : MapAt w' p4 p6 r ok f := by
  obtain ⟨es, c, h1, h2⟩ := h
  exact ⟨es, c, hb.trans h1, h2⟩
theorem MapAt.lt {w : World} {p4 p6 : Addr} {r : Nat} {ok : Value → Prop} {f : Int → Int → Bool} (h : MapAt w p4 p6 r ok f) : r < w.heap.size := by
  obtain ⟨es, c, h1, h2⟩ := h
  exact (Array.getElem?_eq_some_iff.1 h1).1
theorem MapAt.below {w w' : World} {p4 p6 : Addr} {r B : Nat} {ok : Value → Prop} {f : Int → Int → Bool} (h : MapAt w p4 p6 r ok f) (hb : Below B w w') (hr : r < B) : MapAt w' p4 p6 r ok f := h.of_block (hb.block r hr)
theorem MapAt.new {w : World} {p4 p6 : Addr} (ok : Value → Prop) : MapAt (w.alloc (.map #[] 0)) p4 p6 w.heap.size ok (fun _ _ => false) :=
  ⟨#[], 0, heap_alloc_new w _, fun e h => by simp at h, fun e h => by simp at h, fun k po _ _ => by simp⟩

theorem lookup_run {w : World} {p4 p6 : Addr} (hE : Env w p4 p6) {r : Nat} {ok : Value → Prop} {f : Int → Int → Bool} (hM : MapAt w p4 p6 r ok f) (k po : Int) (h0 : 0 ≤ k) (h1 : k ≤ 6) (mt et : TypeId) (z : Value) (hu : Ybad.prog.underlying mt = some (.map 65 et)) (hz : ∀ w, (zeroValue et).run Ybad.prog w = .ok z w) :
    ∃ v, (Instr.lookup mt (.map (some r)) (apV p4 p6 k po) false).run Ybad.prog w = .ok v w ∧ (f k po = true → ok v) ∧ (f k po = false → v = z) := by
  obtain ⟨es, c, hb, hK, hok, hf⟩ := hM
  rcases findKey_run hE k po h0 h1 es.toList hK with ⟨hr, hno⟩ | ⟨j, e, hr, hj, hk⟩
  · refine ⟨z, ?_, fun ht => ?_, fun _ => rfl⟩
    · simp [Instr.lookup, run_underlying hu, MapKept.run_getObj_map hb, checkKey_run, hr, hz]
    · obtain ⟨e, he, hk⟩ := (hf k po h0 h1).1 ht
      exact absurd hk (hno e he)
  · have hm := List.mem_of_getElem? hj
    refine ⟨e.val, ?_, fun _ => hok e hm, fun hff => ?_⟩
    · simp [Instr.lookup, run_underlying hu, MapKept.run_getObj_map hb, checkKey_run, hr]
    · rw [(hf k po h0 h1).2 ⟨e, hm, hk⟩] at hff
      simp at hff

/-- THE SAME, ONE ANSWER FOR ALL WORLDS. -/
theorem asking_fix {w : World} {p4 p6 : Addr} (hE : Env w p4 p6) (k po : Int) (h0 : 0 ≤ k) (h1 : k ≤ 6) : ∀ (es : List MapEntry) (i : Nat), Keys p4 p6 es →
    ∃ res, ∀ w', Env w' p4 p6 → (Instr.findAsking 65 (apV p4 p6 k po) es i).run Ybad.prog w' = .ok res w'
  | [], i, _ => ⟨none, fun _ _ => rfl⟩
  | e :: es, i, h => by
    obtain ⟨k', po', g0, g1, hk⟩ := h e (.head _)
    cases hs : (k == k' && po == po') with
    | true => exact ⟨some (i, e.val), fun w' hE' => by simp [Instr.findAsking, hk, eq_apV hE' k k' po po' h0 h1 g0 g1, hs]⟩
    | false =>
      obtain ⟨res, hr⟩ := asking_fix hE k po h0 h1 es (i + 1) (fun x hx => h x (.tail _ hx))
      exact ⟨res, fun w' hE' => by simp [Instr.findAsking, hk, eq_apV hE' k k' po po' h0 h1 g0 g1, hs, hr w' hE']⟩
theorem findKey_fix {w : World} {p4 p6 : Addr} (hE : Env w p4 p6) (k po : Int) (h0 : 0 ≤ k) (h1 : k ≤ 6) (es : List MapEntry) (hK : Keys p4 p6 es) :
    ∃ res, ∀ w', Env w' p4 p6 → (Instr.findKey 65 (apV p4 p6 k po) es).run Ybad.prog w' = .ok res w' := by
  cases es with
  | nil => exact ⟨none, fun w' _ => by simp [Instr.findKey, run_underlying Ybad.underlying65, Instr.findNow]⟩
  | cons e es =>
    obtain ⟨res, hr⟩ := asking_fix hE k po h0 h1 (e :: es) 0 hK
    refine ⟨res, fun w' hE' => ?_⟩
    have hn : (Instr.findKey 65 (apV p4 p6 k po) (e :: es)).run Ybad.prog w' = (Instr.findAsking 65 (apV p4 p6 k po) (e :: es)).run Ybad.prog w' := by
      simp [Instr.findKey, run_underlying Ybad.underlying65, Instr.findNow, Instr.sameNow]
    rw [hn]
    exact hr w' hE'
/-- A LOOK-UP ANSWERS ONE VALUE in all worlds that hold the map as it is. -/
theorem lookup_fix {w : World} {p4 p6 : Addr} (hE : Env w p4 p6) {r : Nat} {ok : Value → Prop} {f : Int → Int → Bool} (hM : MapAt w p4 p6 r ok f) (k po : Int) (h0 : 0 ≤ k) (h1 : k ≤ 6) (mt et : TypeId) (z : Value) (hu : Ybad.prog.underlying mt = some (.map 65 et)) (hz : ∀ w, (zeroValue et).run Ybad.prog w = .ok z w) :
    ∃ v, (∀ w', Env w' p4 p6 → w'.heap[r]? = w.heap[r]? → (Instr.lookup mt (.map (some r)) (apV p4 p6 k po) false).run Ybad.prog w' = .ok v w') ∧ (f k po = true → ok v) ∧ (f k po = false → v = z) := by
  obtain ⟨v, hv, ht, hf⟩ := lookup_run hE hM k po h0 h1 mt et z hu hz
  refine ⟨v, fun w' hE' hb' => ?_, ht, hf⟩
  obtain ⟨es, c, hb, hK, _, _⟩ := hM
  obtain ⟨res, hr⟩ := findKey_fix hE k po h0 h1 es.toList hK
  have h2 := hr w hE
  have h3 := hr w' hE'
  have hb2 := hb'.trans hb
  cases res with
  | none =>
    simp [Instr.lookup, run_underlying hu, MapKept.run_getObj_map hb, checkKey_run, h2, hz] at hv
    subst hv
    simp [Instr.lookup, run_underlying hu, MapKept.run_getObj_map hb2, checkKey_run, h3, hz]
  | some q =>
    obtain ⟨i, u⟩ := q
    simp [Instr.lookup, run_underlying hu, MapKept.run_getObj_map hb, checkKey_run, h2] at hv
    subst hv
    simp [Instr.lookup, run_underlying hu, MapKept.run_getObj_map hb2, checkKey_run, h3]

theorem same_apV (p4 p6 : Addr) (k po : Int) : Instr.sameBits 10000 (apV p4 p6 k po) (apV p4 p6 k po) = true := by
  have h : ∀ n, Instr.sameBits (n + 1) (apV p4 p6 k po) (apV p4 p6 k po) = true := fun n => by simp [Instr.sameBits, apV]
  exact h 9999

theorem mapUpdate_run {w : World} {p4 p6 : Addr} (hE : Env w p4 p6) {r : Nat} {ok : Value → Prop} {f : Int → Int → Bool} (hM : MapAt w p4 p6 r ok f) (k po : Int) (h0 : 0 ≤ k) (h1 : k ≤ 6) (mt et : TypeId) (v : Value) (hv : ok v) (hu : Ybad.prog.underlying mt = some (.map 65 et)) :
    ∃ w', (Instr.mapUpdate mt (.map (some r)) (apV p4 p6 k po) v).run Ybad.prog w = .ok () w' ∧ MapAt w' p4 p6 r ok (fun k' po' => f k' po' || (k' == k && po' == po)) ∧ (∀ B, B ≤ r → Below B w w') ∧ w'.heap.size = w.heap.size ∧ ∀ b, b ≠ r → w'.heap[b]? = w.heap[b]? := by
  obtain ⟨es, c, hb, hK, hok, hf⟩ := hM
  have hset := fun o => MapKept.heap_set (o' := o) hb
  have hkk : ∀ k' po', 0 ≤ k' → k' ≤ 6 → ((f k' po' || (k' == k && po' == po)) = true ↔ (∃ e ∈ es.toList, e.key = apV p4 p6 k' po') ∨ apV p4 p6 k po = apV p4 p6 k' po') := fun k' po' g0 g1 => by
    rw [Bool.or_eq_true, hf k' po' g0 g1]
    refine or_congr Iff.rfl ⟨fun h => ?_, fun h => ?_⟩
    · simp only [Bool.and_eq_true, beq_iff_eq] at h
      rw [h.1, h.2]
    · cases hs : (k' == k && po' == po) with
      | true => rfl
      | false => exact absurd h (apV_ne hE g0 g1 h0 h1 hs)
  have hbel : ∀ o B, B ≤ r → Below B w { w with heap := w.heap.setIfInBounds r o } := fun o B hB => ⟨rfl, rfl, rfl, by simp, fun b hlt => (hset o).2 b (by omega)⟩
  rcases findKey_run hE k po h0 h1 es.toList hK with ⟨hr, hno⟩ | ⟨j, e, hr, hj, hk⟩
  · refine ⟨{ w with heap := w.heap.setIfInBounds r (.map (es.push { key := apV p4 p6 k po, val := v, born := c }) (c + 1)) }, ?_, ⟨_, _, (hset _).1, ?_, ?_, ?_⟩, hbel _, by simp, (hset _).2⟩
    · simp [Instr.mapUpdate, run_underlying hu, MapKept.run_getObj_map hb, checkKey_run, hr, MapKept.run_setObj_map _ hb]
    · intro x hx
      simp only [Array.toList_push, List.mem_append, List.mem_singleton] at hx
      rcases hx with hx | rfl
      · exact hK x hx
      · exact ⟨k, po, h0, h1, rfl⟩
    · intro x hx
      simp only [Array.toList_push, List.mem_append, List.mem_singleton] at hx
      rcases hx with hx | rfl
      · exact hok x hx
      · exact hv
    · intro k' po' g0 g1
      rw [hkk k' po' g0 g1]
      simp only [Array.toList_push, List.mem_append, List.mem_singleton]
      constructor
      · rintro (⟨e, he, h⟩ | h)
        · exact ⟨e, .inl he, h⟩
        · exact ⟨_, .inr rfl, h⟩
      · rintro ⟨e, he | rfl, h⟩
        · exact .inl ⟨e, he, h⟩
        · exact .inr h
  · have hj' : es[j]? = some e := by simpa using hj
    obtain ⟨hjl, hje⟩ := Array.getElem?_eq_some_iff.1 hj'
    have hmod : (es.modify j fun e => { e with key := apV p4 p6 k po, val := v }).toList = es.toList.set j { e with key := apV p4 p6 k po, val := v } := by
      have hjl' : j < es.toList.length := by simpa using hjl
      rw [Array.toList_modify]
      refine List.ext_getElem? fun i => ?_
      rw [List.getElem?_modify, List.getElem?_set]
      by_cases hij : j = i
      · subst hij
        simp only [if_true]
        rw [if_pos hjl', hj]
        rfl
      · simp [hij]
    refine ⟨{ w with heap := w.heap.setIfInBounds r (.map (es.modify j fun e => { e with key := apV p4 p6 k po, val := v }) c) }, ?_, ⟨_, _, (hset _).1, ?_, ?_, ?_⟩, hbel _, by simp, (hset _).2⟩
    · simp [Instr.mapUpdate, run_underlying hu, MapKept.run_getObj_map hb, checkKey_run, hr, hj', hk, Instr.keyThatStays, same_apV, MapKept.run_setObj_map _ hb]
    · intro x hx
      rw [hmod] at hx
      rcases List.mem_or_eq_of_mem_set hx with hx | rfl
      · exact hK x hx
      · exact ⟨k, po, h0, h1, rfl⟩
    · intro x hx
      rw [hmod] at hx
      rcases List.mem_or_eq_of_mem_set hx with hx | rfl
      · exact hok x hx
      · exact hv
    · intro k' po' g0 g1
      rw [hkk k' po' g0 g1, hmod]
      have hjl' : j < es.toList.length := by simpa using hjl
      constructor
      · rintro (⟨x, hx, h⟩ | h)
        · obtain ⟨i, hi, rfl⟩ := List.getElem_of_mem hx
          by_cases hij : i = j
          · subst hij
            have : es.toList[i] = e := by simpa using hje
            rw [this, hk] at h
            exact ⟨_, List.mem_of_getElem? (i := i) (by rw [List.getElem?_set_self hjl']), h⟩
          · exact ⟨es.toList[i], List.mem_of_getElem? (i := i) (by rw [List.getElem?_set_ne (Ne.symm hij)]; exact List.getElem?_eq_getElem hi), h⟩
        · exact ⟨_, List.mem_of_getElem? (i := j) (by rw [List.getElem?_set_self hjl']), h⟩
      · rintro ⟨x, hx, h⟩
        rcases List.mem_or_eq_of_mem_set hx with hx | rfl
        · exact .inl ⟨x, hx, h⟩
        · exact .inr h
end Go.Proofs.YbulkdxjmDoor

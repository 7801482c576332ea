/-
  THE STATE OF 'LawS6198BWhole' (function 3) IN MEMORY: the definition that it builds, and what each of its statements does to it.
-/
import Derived.Test.YbulkdxikAdd
namespace Go.Proofs.Ybulkdxik
open Go.RowKit

theorem Yba.info32 : (Yba.prog.info? 32).map (fun i => (i.zero, i.size, i.bytes)) = some (some (.slice none 0 0), 1, 24) := by kernel_rfl
theorem Yba.info4 : (Yba.prog.info? 4).map (fun i => (i.zero, i.size, i.bytes)) = some (some (.bool false), 1, 1) := by kernel_rfl

theorem make_run {T E bytes : Nat} {z : Value} (hT : Yba.prog.underlying T = some (.slice E)) (hE : (Yba.prog.info? E).map (fun i => (i.zero, i.size, i.bytes)) = some (some z, 1, bytes)) (hz : z.cells = #[z]) (n : Nat) (hb : bytes * n ≤ 281474976710656) (hn : n ≤ 1048576) (w : World) :
    (Instr.makeSlice T (.int .i64 n) (.int .i64 n)).run Yba.prog w = .ok (.slice (some ⟨w.heap.size, 0, none⟩) n n) (w.alloc (.cells (zeros z n).toArray E)) := by
  obtain ⟨i, hi, hz0, hz1, hz2⟩ := info_parts hE
  have hb' : (i.bytes : Int) * (n : Int) ≤ 281474976710656 := by
    have h : ((bytes * n : Nat) : Int) ≤ 281474976710656 := by omega
    rw [hz2]
    rwa [Int.natCast_mul] at h
  have := run_make (P := Yba.prog) w T E i z hT hi hz0 .i64 .i64 n n (by omega) (by omega) hb' (by omega)
  rw [hz1, Int.toNat_natCast, zeros_made z hz] at this
  exact this

/-- THE LOOK-UP IN THE FIELD's MAP, nil or not. -/
theorem MapV.look {w : World} {B N : Nat} {mv : Value} {D : DataW Value} (h : MapV w B mv N D) (s : ByteArray) (hs : s.size ≤ maxLen) :
    ∃ v, (∀ q, (Instr.lookup 33 mv (.string s) true).run Yba.prog (w.drewN q) = .ok (.tuple #[v, .bool (Maps.has D (kLit s))]) (w.drewN q)) ∧ D.atKey (kLit s) (.held (.slice none 0 0)) = .held v := by
  rcases h with ⟨rfl, rfl⟩ | ⟨b, rfl, _, hm⟩
  · exact ⟨.slice none 0 0, fun q => Maps.look_nil true law Yba.underlying33 (zeroE _) (key_of s hs), rfl⟩
  · obtain ⟨v, ps, hrun, hv⟩ := hm.look_ok law Yba.underlying33 (zeroE w) (zd := .held (.slice none 0 0)) (zp := []) rfl (key_of s hs)
    simp only [Rv, Option.some.injEq, Prod.mk.injEq] at hv
    refine ⟨v, fun q => ?_, hv.1.symm⟩
    have hm' : (w.drewN q).ownsMap Yba.prog 9 Rv b N D := hm
    obtain ⟨v', ps', hrun', hv'⟩ := hm'.look_ok law Yba.underlying33 (zeroE _) (zd := .held (.slice none 0 0)) (zp := []) rfl (key_of s hs)
    simp only [Rv, Option.some.injEq, Prod.mk.injEq] at hv'
    have e : v' = v := by
      have := hv'.1.trans hv.1.symm
      simpa using this
    rw [← e]
    exact hrun'
theorem MapV.look0 {w : World} {B N : Nat} {mv : Value} {D : DataW Value} (h : MapV w B mv N D) (s : ByteArray) (hs : s.size ≤ maxLen) :
    ∃ v, ((Instr.lookup 33 mv (.string s) true).run Yba.prog w = .ok (.tuple #[v, .bool (Maps.has D (kLit s))]) w ∧ ∀ q, (Instr.lookup 33 mv (.string s) true).run Yba.prog (w.drewN q) = .ok (.tuple #[v, .bool (Maps.has D (kLit s))]) (w.drewN q)) ∧ D.atKey (kLit s) (.held (.slice none 0 0)) = .held v := by
  obtain ⟨v, h1, h2⟩ := h.look s hs
  exact ⟨v, ⟨h1 0, h1⟩, h2⟩
theorem MapV.len {w : World} {B N : Nat} {mv : Value} {D : DataW Value} (h : MapV w B mv N D) (q : Nat) : (Builtin.len_ #[33] 3 #[mv]).run Yba.prog (w.drewN q) = .ok (.int .i64 (Maps.size D)) (w.drewN q) := by
  rcases h with ⟨rfl, rfl⟩ | ⟨b, rfl, _, hm⟩
  · exact Maps.len_nil Yba.underlying33 3
  · exact World.ownsMap.len (w := w.drewN q) hm Yba.underlying33 3

/-- THE DEFINITION IN MEMORY: its struct in block B, its names, its map; each of the map's slices can be read. -/
structure Df (w wr : World) (title : ByteArray) (nv mv : Value) (len : Nat) (ns : List Value) (N : Nat) (D : DataW Value) : Prop where
  row : RowAt wr w.heap.size 35 (defCells title nv mv)
  names : wr.ownsRow w.heap.size 9 1 nv len ns
  map : MapV wr w.heap.size mv N D
  good : ∀ s, ∃ v, D.atKey (kLit s) (.held (.slice none 0 0)) = .held v ∧ Good wr w.heap.size v
  below : Below w.heap.size w wr

theorem Df.start (w : World) (title : ByteArray) : Df w (w.alloc (.cells (defCells title (.slice none 0 0) (.map none)).toArray 35)) title (.slice none 0 0) (.map none) 0 [] 0 (.map []) :=
  ⟨RowAt.new w 35 _, World.ownsRow_nil _ _ _ _, .inl ⟨rfl, rfl⟩, fun _ => ⟨_, rfl, .inl rfl⟩, (Below.refl _ _).alloc (Nat.le_refl _) _⟩

theorem strs_one (ss : List ByteArray) : ∀ u ∈ ss.map Value.string, u.oneCell' = true := by
  intro u hu
  obtain ⟨_, _, rfl⟩ := List.mem_map.1 hu
  rfl

/-- 'def.names = make([]string, len(names)); copy(def.names, names)'. -/
theorem names_made {w W1 : World} {title : ByteArray} {len0 cap0 : Nat} {s0 : List ByteArray} {x : Addr} (hD : Df w W1 title (.slice none 0 0) (.map none) 0 [] 0 (.map [])) (hsz : W1.heap.size = w.heap.size + 1) (hm : len0 ≤ 65536) (hl0 : len0 ≤ s0.length)
    (H0 : ∀ i, i < len0 → w.cell? (x.add i) = some (.string (s0.getD i ByteArray.empty))) :
    ∃ W3, (Builtin.copy_ #[22, 22] 3 #[.slice (some ⟨w.heap.size + 1, 0, none⟩) len0 len0, .slice (some x) len0 cap0]).run Yba.prog ((W1.setCell ⟨w.heap.size, 14, none⟩ (.slice (some ⟨w.heap.size + 1, 0, none⟩) len0 len0)).alloc (.cells (zeros (.string ByteArray.empty) len0).toArray 9)) = .ok (goInt len0) W3 ∧
      Df w W3 title (.slice (some ⟨w.heap.size + 1, 0, none⟩) len0 len0) (.map none) len0 ((s0.take len0).map Value.string) 0 (.map []) := by
  obtain ⟨i, hi, _, hz1, _⟩ := info_parts Yba.info9
  have hs2 : (W1.setCell ⟨w.heap.size, 14, none⟩ (.slice (some ⟨w.heap.size + 1, 0, none⟩) len0 len0)).heap.size = w.heap.size + 1 := by simpa using hsz
  have hr2 : RowAt (W1.setCell ⟨w.heap.size, 14, none⟩ (.slice (some ⟨w.heap.size + 1, 0, none⟩) len0 len0)) w.heap.size 35 (defCells title (.slice (some ⟨w.heap.size + 1, 0, none⟩) len0 len0) (.map none)) := by
    have := hD.row.set 14 (.slice (some ⟨w.heap.size + 1, 0, none⟩) len0 len0)
    simpa [defCells] using this
  have hb2 := hD.below.setCell (p := ⟨w.heap.size, 14, none⟩) (Nat.le_refl _) (.slice (some ⟨w.heap.size + 1, 0, none⟩) len0 len0)
  generalize W1.setCell ⟨w.heap.size, 14, none⟩ (.slice (some ⟨w.heap.size + 1, 0, none⟩) len0 len0) = W2 at *
  have hn := RowAt.new W2 9 (zeros (.string ByteArray.empty) len0)
  rw [hs2] at hn
  have hb3 := hb2.alloc (by omega) (.cells (zeros (.string ByteArray.empty) len0).toArray 9)
  have hr := run_copy_whole (P := Yba.prog) (W2.alloc (.cells (zeros (.string ByteArray.empty) len0).toArray 9)) 22 22 3 9 i Yba.underlying22 hi (w.heap.size + 1) len0 len0 x cap0 9 _ ((s0.take len0).map Value.string) hn (by simp [hz1, zeros_length]) (by simp [hz1]; omega) (fun j v hv => by
      have hj : j < len0 := by
        have := (List.getElem?_eq_some_iff.1 hv).1
        simp at this
        omega
      have h3 := H0 j hj
      have hlt : (x.add j).block < w.heap.size := World.block_lt_of_cell? w _ h3
      have e : v = .string (s0.getD j ByteArray.empty) := by
        have hj2 : j < s0.length := by omega
        simp [hj, hj2] at hv
        simp [hv, hj2]
      rw [e, hb3.cell hlt, h3]) (strs_one _)
  have hrow3 := setRow_heap (W2.alloc (.cells (zeros (.string ByteArray.empty) len0).toArray 9)) (w.heap.size + 1) _ ((s0.take len0).map Value.string).toArray 9 _ hn
  refine ⟨_, hr, (hr2.alloc _).of_block (setRow_other _ _ _ _ (by omega)), ⟨by simp; omega, .inr ⟨w.heap.size + 1, len0, _, rfl, by omega, hrow3, Nat.le_refl _, by unfold maxLen; omega, by simp; omega, ?_⟩⟩, .inl ⟨rfl, rfl⟩, fun _ => ⟨_, rfl, .inl rfl⟩, below_setRow hb3 (by omega) _⟩
  simp [List.take_take]

/-- 'def.byName = make(map[string]alternatives)'. -/
theorem map_made {w wc : World} {title : ByteArray} {nv : Value} {len0 : Nat} {ns : List Value} (hD : Df w wc title nv (.map none) len0 ns 0 (.map [])) :
    Df w ((wc.setCell ⟨w.heap.size, 15, none⟩ (.map (some wc.heap.size))).alloc (.map #[] 0)) title nv (.map (some wc.heap.size)) len0 ns 0 (.map []) := by
  have hlt := hD.row.lt
  have hr2 : RowAt (wc.setCell ⟨w.heap.size, 15, none⟩ (.map (some wc.heap.size))) w.heap.size 35 (defCells title nv (.map (some wc.heap.size))) := by
    have := hD.row.set 15 (.map (some wc.heap.size))
    simpa [defCells] using this
  have hne := own_ne hD.names hD.row (by decide)
  have hn2 : (wc.setCell ⟨w.heap.size, 15, none⟩ (.map (some wc.heap.size))).ownsRow w.heap.size 9 1 nv len0 ns :=
    hD.names.kept (row := some w.heap.size) ⟨rfl, rfl, rfl, by simp, fun k _ hk => heap_setCell_other wc ⟨w.heap.size, 15, none⟩ k _ (fun e => hk (by rw [e]))⟩ (.inr hne.symm)
  exact ⟨hr2.alloc _, hn2.alloc _, .inr ⟨_, rfl, by omega, made_at _ _ (by simp)⟩, fun _ => ⟨_, rfl, .inl rfl⟩, (hD.below.setCell (Nat.le_refl _) _).alloc (by simp; omega) _⟩

/-- 'def.byName[key] = v', v a slice that was made meanwhile. -/
theorem map_step {w wr w1 : World} {title : ByteArray} {nv v : Value} {len0 k bm : Nat} {ns : List Value} {D : DataW Value} (hD : Df w wr title nv (.map (some bm)) len0 ns k D) (hbel : Below wr.heap.size wr w1) (hgood : Good w1 wr.heap.size v) (hk : k ≤ 65536) (key : ByteArray) (hkey : key.size ≤ maxLen) :
    ∃ w2, (Instr.mapUpdate 33 (.map (some bm)) (.string key) v).run Yba.prog w1 = .ok () w2 ∧ (∃ D', Df w w2 title nv (.map (some bm)) len0 ns (k + 1) D') := by
  have hlt := hD.row.lt
  obtain ⟨hB, hm⟩ : w.heap.size ≤ bm ∧ wr.ownsMap Yba.prog 9 Rv bm k D := by
    rcases hD.map with ⟨e, _⟩ | ⟨b, e, hB, hm⟩
    · cases e
    · cases e; exact ⟨hB, hm⟩
  have hg1 : wr.grownBy w1 none := ⟨hbel.os, hbel.tape, hbel.output, hbel.size, fun k hk _ => hbel.block k hk⟩
  have hm1 := hm.kept hg1 (by simp)
  obtain ⟨w2, hrun, hm2, hg2⟩ := hm1.update law Yba.underlying33 (by unfold maxLen; omega) (key_of key hkey) (d := .held v) (ps := []) rfl
  have hr1 := hD.row.below hbel hlt
  have hn1 := hD.names.kept hg1 (by cases hD.names.2 with | inl h => exact .inl (by rw [h.1]; rfl) | inr h => exact .inr (by obtain ⟨g, cap, cur, h, _⟩ := h; rw [h]; simp [Value.ownBlock]))
  refine ⟨w2, hrun, _, hr1.of_block (hg2.block _ hr1.lt (by simpa using row_ne_map hr1 hm1)), hn1.kept hg2 (.inr (own_ne_map hn1 hm1).symm), .inr ⟨bm, rfl, hB, hm2⟩, fun s => ?_, ((hD.below.trans (hbel.mono (by omega)))).grown hg2 (by have := hbel.size; omega) (fun j e => by cases e; exact hB)⟩
  by_cases e : kLit s = kLit key
  · refine ⟨v, by rw [e]; exact Maps.atKey_put_same hm.isMap (show WideAt.IsKeyLit (kLit key) from trivial) _ _, (hgood.mono (by omega)).of_block fun g _ hg hr => ?_⟩
    obtain ⟨cs, hr⟩ := hr
    exact hg2.block g hg (by simpa using row_ne_map hr hm1)
  · obtain ⟨u, hu, hgu⟩ := hD.good s
    refine ⟨u, by rw [Maps.atKey_put_other e]; exact hu, hgu.of_block fun g _ hg hr => ?_⟩
    obtain ⟨cs, hr⟩ := hr
    have hr1 := hr.below hbel hg
    exact (hg2.block g hr1.lt (by simpa using row_ne_map hr1 hm1)).trans (hbel.block g hg)

theorem Df.drewN {w wr : World} {title : ByteArray} {nv mv : Value} {len N : Nat} {ns : List Value} {D : DataW Value} (h : Df w wr title nv mv len ns N D) (q : Nat) : Df w (wr.drewN q) title nv mv len ns N D :=
  ⟨h.row, h.names, h.map, h.good, h.below.trans ⟨rfl, rfl, rfl, Nat.le_refl _, fun _ _ => rfl⟩⟩

/-- Whatever leaves the definition, the strings, the rows of pointers and the maps as they are. -/
theorem Df.kept {w wr w' : World} {title : ByteArray} {nv mv : Value} {len N : Nat} {ns : List Value} {D : DataW Value} (h : Df w wr title nv mv len ns N D) (hb : Below w.heap.size wr w')
    (hk : ∀ k, k < wr.heap.size → (∀ t cs, RowAt wr k t cs → t = 9 ∨ t = 35 ∨ t = 23) → w'.heap[k]? = wr.heap[k]?) : Df w w' title nv mv len ns N D := by
  have hrow : ∀ g t cs, t = 9 ∨ t = 35 ∨ t = 23 → RowAt wr g t cs → w'.heap[g]? = wr.heap[g]? := fun g t cs ht hr => hk g hr.lt fun t' cs' hr' => by
    have e := hr.symm.trans hr'
    simp at e
    rw [← e.2]; exact ht
  refine ⟨h.row.of_block (hrow _ _ _ (.inr (.inl rfl)) h.row), ⟨h.names.1, ?_⟩, ?_, fun s => ?_, h.below.trans hb⟩
  · rcases h.names.2 with hn | ⟨g, cap, cur, e, hB, hg, r⟩
    · exact .inl hn
    · exact .inr ⟨g, cap, cur, e, hB, (hrow g 9 cur.toList (.inl rfl) (by simpa [RowAt] using hg)).trans hg, r⟩
  · rcases h.map with hn | ⟨b, e, hB, es, clock, hb', r⟩
    · exact .inl hn
    · refine .inr ⟨b, e, hB, es, clock, (hk b (Array.getElem?_eq_some_iff.1 hb').1 fun t cs hr => ?_).trans hb', r⟩
      have := hb'.symm.trans hr
      simp at this
  · obtain ⟨v, hv, hg⟩ := h.good s
    exact ⟨v, hv, hg.of_block fun g _ _ hr => by obtain ⟨cs, hr⟩ := hr; exact hrow g 23 cs (.inr (.inr rfl)) hr⟩

theorem Df.alloc {w wr : World} {title : ByteArray} {nv mv : Value} {len N : Nat} {ns : List Value} {D : DataW Value} (h : Df w wr title nv mv len ns N D) (o : Obj) : Df w (wr.alloc o) title nv mv len ns N D :=
  h.kept ((Below.refl _ _).alloc (by have := h.row.lt; omega) o) fun k hk _ => Below.heap_alloc wr o k hk
theorem Df.later {w wr w' : World} {title : ByteArray} {nv mv : Value} {len N : Nat} {ns : List Value} {D : DataW Value} (h : Df w wr title nv mv len ns N D) (hb : Below wr.heap.size wr w') : Df w w' title nv mv len ns N D :=
  h.kept (hb.mono (by have := h.row.lt; omega)) fun k hk _ => hb.block k hk
/-- A store into a row of another kind. -/
theorem Df.set {w wr : World} {title : ByteArray} {nv mv : Value} {len N g j : Nat} {ns cs : List Value} {D : DataW Value} {t : TypeId} (h : Df w wr title nv mv len ns N D) (hr : RowAt wr g t cs) (ht : t ≠ 9 ∧ t ≠ 35 ∧ t ≠ 23) (hB : w.heap.size ≤ g) (u : Value) : Df w (wr.setCell ⟨g, j, none⟩ u) title nv mv len ns N D :=
  h.kept ((Below.refl _ _).setCell (p := ⟨g, j, none⟩) hB u) fun k _ hk => heap_setCell_other wr ⟨g, j, none⟩ k u fun e => by
    have e' : k = g := e
    subst e'
    rcases hk t cs hr with e | e | e
    · exact ht.1 e
    · exact ht.2.1 e
    · exact ht.2.2 e

/-- A slice of pointers in one form, nil or not. -/
theorem Good.form {w : World} {B : Nat} {v : Value} (h : Good w B v) : ∃ (ao : Option Addr) (n : Nat) (ps : List (Option Addr)), v = .slice ao n n ∧ ps.length = n ∧ n ≤ 4 ∧ (0 < n → ∃ g, ao = some ⟨g, 0, none⟩ ∧ RowAt w g 23 (ps.map Value.pointer) ∧ B ≤ g) := by
  rcases h with rfl | ⟨g, n, ps, rfl, hr, hl, hn, hB⟩
  · exact ⟨none, 0, [], rfl, rfl, by omega, fun h => by omega⟩
  · exact ⟨_, n, ps, rfl, hl, hn, fun _ => ⟨g, rfl, hr, hB⟩⟩

theorem ptrs_one (ps : List (Option Addr)) : ∀ u ∈ ps.map Value.pointer, u.oneCell' = true := by
  intro u hu
  obtain ⟨_, _, rfl⟩ := List.mem_map.1 hu
  rfl

/-- 'altsCopy := make(alternatives, len(alts)); copy(altsCopy, alts)'. -/
theorem alts_copied {w1 : World} {B n : Nat} {ao : Option Addr} {ps : List (Option Addr)} (hl : ps.length = n) (ha : 0 < n → ∃ g, ao = some ⟨g, 0, none⟩ ∧ RowAt w1 g 23 (ps.map Value.pointer) ∧ B ≤ g) :
    ∃ W, (Builtin.copy_ #[32, 32] 3 #[.slice (some ⟨w1.heap.size, 0, none⟩) n n, .slice ao n n]).run Yba.prog (w1.alloc (.cells (zeros (.pointer none) n).toArray 23)) = .ok (goInt n) W ∧
      RowAt W w1.heap.size 23 (ps.map Value.pointer) ∧ Below w1.heap.size w1 W := by
  obtain ⟨i, hi, _, hz1, _⟩ := info_parts Yba.info23
  have hn := RowAt.new w1 23 (zeros (.pointer none) n)
  by_cases h0 : 0 < n
  · obtain ⟨g, rfl, hr, hB⟩ := ha h0
    have hrun := run_copy_whole (P := Yba.prog) (w1.alloc (.cells (zeros (.pointer none) n).toArray 23)) 32 32 3 23 i Yba.underlying32 hi w1.heap.size n n ⟨g, 0, none⟩ n 23 _ (ps.map Value.pointer) hn (by simp [hz1, zeros_length]) (by simp [hz1, hl]) (fun j v hv => by rw [Addr.add_lit]; simpa using (hr.alloc _).cell hv) (ptrs_one ps)
    exact ⟨_, hrun, setRow_heap _ _ _ _ _ _ hn, below_setRow ((Below.refl _ _).alloc (Nat.le_refl _) _) (Nat.le_refl _) _⟩
  · obtain rfl : n = 0 := by omega
    obtain rfl : ps = [] := List.eq_nil_of_length_eq_zero hl
    have hrun := run_copy_none (P := Yba.prog) (w1.alloc (.cells (zeros (.pointer none) 0).toArray 23)) 32 32 3 23 (some ⟨w1.heap.size, 0, none⟩) ao 0 0 0 0 Yba.underlying32 (by rw [hi]; simp [hz1]) rfl
    exact ⟨_, hrun, hn, (Below.refl _ _).alloc (Nat.le_refl _) _⟩

/-- Behind 'def.add(name, alts)'. -/
theorem Df.added {w wr w' : World} {title name : ByteArray} {nv mv nv' alts : Value} {len N bm' : Nat} {ns : List Value} {D : DataW Value} (h : Df w wr title nv mv len ns N D) (ha : Good wr w.heap.size alts)
    (hrow : RowAt w' w.heap.size 35 (defCells title nv' (.map (some bm')))) (hn : w'.ownsRow w.heap.size 9 1 nv' (len + 1) (ns ++ [.string name])) (hm : w'.ownsMap Yba.prog 9 Rv bm' (N + 1) (D.put (kLit name) (.held alts))) (hk : Keeps wr w') (hb : Below w.heap.size wr w') (hbm : w.heap.size ≤ bm') :
    Df w w' title nv' (.map (some bm')) (len + 1) (ns ++ [.string name]) (N + 1) (D.put (kLit name) (.held alts)) := by
  have gk : ∀ v, Good wr w.heap.size v → Good w' w.heap.size v := fun v hg => by
    rcases hg with rfl | ⟨g, n, ps, rfl, hr, hl, hn, hB⟩
    · exact .inl rfl
    · exact .inr ⟨g, n, ps, rfl, hk g 23 _ (by decide) (by decide) hr, hl, hn, hB⟩
  have hD : Maps.IsMap D := by
    rcases h.map with ⟨_, rfl⟩ | ⟨b, _, _, hm⟩
    · exact Maps.isMap_empty
    · exact hm.isMap
  refine ⟨hrow, hn, .inr ⟨bm', rfl, hbm, hm⟩, fun s => ?_, h.below.trans hb⟩
  by_cases e : kLit s = kLit name
  · exact ⟨alts, by rw [e]; exact Maps.atKey_put_same hD (show WideAt.IsKeyLit (kLit name) from trivial) _ _, gk _ ha⟩
  · obtain ⟨u, hu, hgu⟩ := h.good s
    exact ⟨u, by rw [Maps.atKey_put_other e]; exact hu, gk _ hgu⟩

/-- WHAT LOOP 2 HAS WRITTEN DOWN: of the first k keys the slice that was found and whether one was. -/
structure Rec (wr : World) (g n k : Nat) (s1 : List ByteArray) (D : DataW Value) (bs hs : List Value) : Prop where
  lb : bs.length = n
  lh : hs.length = n
  at_ : ∀ j, j < k → (∃ v, bs[j]? = some v ∧ D.atKey (kLit (s1.getD j ByteArray.empty)) (.held (.slice none 0 0)) = .held v) ∧ hs[j]? = some (.bool (Maps.has D (kLit (s1.getD j ByteArray.empty))))
  rowB : RowAt wr g 32 bs
  rowH : RowAt wr (g + 1) 4 hs

theorem Rec.start (wc : World) (n : Nat) (s1 : List ByteArray) (D : DataW Value) : Rec ((wc.alloc (.cells (zeros (.slice none 0 0) n).toArray 32)).alloc (.cells (zeros (.bool false) n).toArray 4)) wc.heap.size n 0 s1 D (zeros (.slice none 0 0) n) (zeros (.bool false) n) := by
  refine ⟨zeros_length _ _, zeros_length _ _, fun j hj => by omega, (RowAt.new wc 32 _).alloc _, ?_⟩
  have := RowAt.new (wc.alloc (.cells (zeros (.slice none 0 0) n).toArray 32)) 4 (zeros (.bool false) n)
  simpa using this

theorem Rec.step {wr : World} {g n k : Nat} {s1 : List ByteArray} {D : DataW Value} {bs hs : List Value} (h : Rec wr g n k s1 D bs hs) (hk : k < n) (v : Value) (hv : D.atKey (kLit (s1.getD k ByteArray.empty)) (.held (.slice none 0 0)) = .held v) :
    Rec ((wr.setCell ⟨g, k, none⟩ v).setCell ⟨g + 1, k, none⟩ (.bool (Maps.has D (kLit (s1.getD k ByteArray.empty))))) g n (k + 1) s1 D (bs.set k v) (hs.set k (.bool (Maps.has D (kLit (s1.getD k ByteArray.empty))))) := by
  have hlb := h.lb
  have hlh := h.lh
  refine ⟨by simpa using hlb, by simpa using hlh, fun j hj => ?_, (h.rowB.set k v).set_other _ (by simp), (h.rowH.set_other v (by simp)).set k _⟩
  by_cases e : j = k
  · subst e
    exact ⟨⟨v, List.getElem?_set_self (by omega), hv⟩, List.getElem?_set_self (by omega)⟩
  · obtain ⟨⟨u, hu, ha⟩, hh⟩ := h.at_ j (by omega)
    exact ⟨⟨u, by rw [List.getElem?_set_ne (fun e' => e e'.symm)]; exact hu, ha⟩, by rw [List.getElem?_set_ne (fun e' => e e'.symm)]; exact hh⟩

theorem Rec.moved {wr w' : World} {g n k : Nat} {s1 : List ByteArray} {D : DataW Value} {bs hs : List Value} (h : Rec wr g n k s1 D bs hs) (hk : Keeps wr w') : Rec w' g n k s1 D bs hs :=
  ⟨h.lb, h.lh, h.at_, hk _ _ _ (by decide) (by decide) h.rowB, hk _ _ _ (by decide) (by decide) h.rowH⟩
theorem Good.moved {wr w' : World} {B : Nat} {v : Value} (h : Good wr B v) (hk : Keeps wr w') : Good w' B v := by
  rcases h with rfl | ⟨g, n, ps, rfl, hr, hl, hn, hB⟩
  · exact .inl rfl
  · exact .inr ⟨g, n, ps, rfl, hk g 23 _ (by decide) (by decide) hr, hl, hn, hB⟩
theorem Df.isMap {w wr : World} {title : ByteArray} {nv mv : Value} {len N : Nat} {ns : List Value} {D : DataW Value} (h : Df w wr title nv mv len ns N D) : Maps.Tidy D := by
  rcases h.map with ⟨_, rfl⟩ | ⟨b, _, _, hm⟩
  · exact Maps.tidy_empty
  · exact hm.tidy law
theorem Df.size_le {w wr : World} {title : ByteArray} {nv mv : Value} {len N : Nat} {ns : List Value} {D : DataW Value} (h : Df w wr title nv mv len ns N D) : Maps.size D ≤ N := by
  rcases h.map with ⟨_, rfl⟩ | ⟨b, _, _, hm⟩
  · exact Nat.zero_le _
  · exact hm.size_le

/-- The names behind 'add', place by place. -/
theorem Df.nameAt {w wr : World} {title name : ByteArray} {mv : Value} {len N g cap : Nat} {s0 : List ByteArray} {D : DataW Value} (h : Df w wr title (.slice (some ⟨g, 0, none⟩) (len + 1) cap) mv (len + 1) ((s0.take len).map Value.string ++ [.string name]) N D) (hl : len ≤ s0.length) :
    (∀ j, j < len → wr.cell? ⟨g, j, none⟩ = some (.string (s0.getD j ByteArray.empty))) ∧ wr.cell? ⟨g, len, none⟩ = some (.string name) := by
  refine ⟨fun j hj => ?_, ?_⟩
  · rw [h.names.cellAt j (by omega), List.getElem?_append_left (by simp; omega)]
    have hj2 : j < s0.length := by omega
    simp [hj, hj2]
  · rw [h.names.cellAt len (by omega), List.getElem?_append_right (by simp; omega)]
    simp [Nat.min_eq_left hl]

theorem toList_ne {a b : ByteArray} (h : a ≠ b) : (a.toList == b.toList) = false := by
  rw [beq_eq_false_iff_ne]
  intro e
  rw [ByteArray.toList_eq, ByteArray.toList_eq] at e
  exact h (ByteArray.ext (Array.ext' e))
theorem drew_twice (w : World) (a b : Nat) : (w.drewN a).drewN b = w.drewN (a + b) := by simp [World.drewN, Nat.add_assoc]

/-- The key that was stored. -/
theorem look_same {w W5 : World} {title name : ByteArray} {nv v : Value} {len N bm : Nat} {ns : List Value} {D : DataW Value} (h : Df w W5 title nv (.map (some bm)) len ns N (D.put (kLit name) (.held v))) (hD : Maps.IsMap D) (hname : name.size ≤ maxLen) (q : Nat) :
    (Instr.lookup 33 (.map (some bm)) (.string name) true).run Yba.prog (W5.drewN q) = .ok (.tuple #[v, .bool true]) (W5.drewN q) := by
  obtain ⟨u, ⟨_, hu⟩, hat⟩ := h.map.look0 name hname
  rw [Maps.atKey_put_same hD (show WideAt.IsKeyLit (kLit name) from trivial)] at hat
  have e : u = v := by simpa using hat.symm
  have e2 : Maps.has (D.put (kLit name) (.held v)) (kLit name) = true := Maps.has_put_same hD (show WideAt.IsKeyLit (kLit name) from trivial) _
  have := hu q
  rwa [e, e2] at this

theorem kLit_inj {a b : ByteArray} (h : kLit a = kLit b) : a = b := by
  have : a.data.toList = b.data.toList := by simpa [kLit] using h
  exact ByteArray.ext (Array.ext' this)

/-- Another key. -/
theorem look_other {w W5 : World} {title name key : ByteArray} {nv v u : Value} {len N bm : Nat} {ns : List Value} {D : DataW Value} (h : Df w W5 title nv (.map (some bm)) len ns N (D.put (kLit name) (.held u))) (hne : key ≠ name) (hk : key.size ≤ maxLen)
    (hat : D.atKey (kLit key) (.held (.slice none 0 0)) = .held v) :
    (∀ q, (Instr.lookup 33 (.map (some bm)) (.string key) true).run Yba.prog (W5.drewN q) = .ok (.tuple #[v, .bool (Maps.has D (kLit key))]) (W5.drewN q)) ∧ Good W5 w.heap.size v := by
  have hkl : kLit key ≠ kLit name := fun e => hne (kLit_inj e)
  have hat' : (D.put (kLit name) (.held u)).atKey (kLit key) (.held (.slice none 0 0)) = .held v := by rw [Maps.atKey_put_other hkl]; exact hat
  obtain ⟨x, ⟨_, hx⟩, hxa⟩ := h.map.look0 key hk
  have e : x = v := by have := hxa.symm.trans hat'; simpa using this
  obtain ⟨y, hy, hg⟩ := h.good key
  have e2 : y = v := by have := hy.symm.trans hat'; simpa using this
  refine ⟨fun q => ?_, e2 ▸ hg⟩
  have := hx q
  rwa [e, Maps.has_put_other hkl] at this

end Go.Proofs.Ybulkdxik

/-
  THE CONTRACT OF '(*definition).add' (function 5): the definition in memory, its names and its map.
-/
import Derived.Test.YbulkdxikMk
import Derived.Maps.OwnSet
import Derived.Deep.AppendLies
namespace Go.Proofs.Ybulkdxik
open Go.RowKit
open Go.Maps (Keyed string_keyed)
open Go.WideMaps (keyOf_string_mk)

theorem Yba.info9 : (Yba.prog.info? 9).map (fun i => (i.zero, i.size, i.bytes)) = some (some (.string ByteArray.empty), 1, 16) := by kernel_rfl
theorem law : Keyed Yba.prog 9 := string_keyed Yba.underlying9
theorem zeroE (w : World) : (zeroValue 32).run Yba.prog w = .ok (.slice none 0 0) w := by kernel_rfl

/-- How an element of the map reads: as itself. -/
def Rv (v : Value) : Option (DataW Value × List MemPlace) := some (.held v, [])
/-- What a key reads as. -/
def kLit (s : ByteArray) : Lit := .string s.data.toList
theorem key_of (s : ByteArray) (h : s.size ≤ maxLen) : keyOf Yba.prog 9 (.string s) = some (kLit s) := keyOf_string_mk Yba.underlying9 h

/-- THE CELLS OF A DEFINITION: all zero but its title, its names and its map. -/
def defCells (title : ByteArray) (nv mv : Value) : List Value :=
  [.pointer none, .pointer none, .slice none 0 0, .bool false, .bool false, .string title, .string ByteArray.empty, .pointer none, .pointer none, .pointer none, .pointer none, .pointer none, .slice none 0 0, .slice none 0 0, nv, mv]

/-- THE MAP IN ITS FIELD: nil, or a block of the call's own; it reads as D. -/
def MapV (w : World) (B : Nat) (mv : Value) (n : Nat) (D : DataW Value) : Prop :=
  (mv = .map none ∧ D = .map []) ∨ ∃ b, mv = .map (some b) ∧ B ≤ b ∧ w.ownsMap Yba.prog 9 Rv b n D

/-- Rows that are neither strings nor definitions stay. -/
def Keeps (w w' : World) : Prop := ∀ g t cs, t ≠ 9 → t ≠ 35 → RowAt w g t cs → RowAt w' g t cs

theorem Keeps.refl (w : World) : Keeps w w := fun _ _ _ _ _ h => h
theorem Keeps.trans {a b c : World} (h : Keeps a b) (k : Keeps b c) : Keeps a c := fun g t cs h1 h2 hr => k g t cs h1 h2 (h g t cs h1 h2 hr)
theorem Keeps.alloc (w : World) (o : Obj) : Keeps w (w.alloc o) := fun _ _ _ _ _ hr => hr.alloc o
theorem Keeps.drewN (w : World) (q : Nat) : Keeps w (w.drewN q) := fun _ _ _ _ _ hr => hr
theorem Keeps.below {w w' : World} (h : Below w.heap.size w w') : Keeps w w' := fun _ _ _ _ _ hr => hr.below h hr.lt
theorem Keeps.set {w : World} {b : Nat} {cs : List Value} (hrow : RowAt w b 35 cs) (j : Nat) (u : Value) : Keeps w (w.setCell ⟨b, j, none⟩ u) := fun g t ds _ h2 hr => by
  refine hr.set_other u fun e => ?_
  have e' : g = b := e
  subst e'
  have := hr.symm.trans hrow
  simp at this
  exact h2 this.2
/-- A row of another type than strings is not the names' row. -/
theorem own_ne {w : World} {B len g : Nat} {nv : Value} {ns cs : List Value} {t : TypeId} (h : w.ownsRow B 9 1 nv len ns) (hr : RowAt w g t cs) (ht : t ≠ 9) : some g ≠ nv.ownBlock := by
  intro e
  rcases h.2 with ⟨rfl, _⟩ | ⟨g', cap, cur, rfl, _, hg, _⟩
  · simp [Value.ownBlock] at e
  · simp only [Value.ownBlock, Option.some.injEq] at e
    subst e
    have := hr.symm.trans hg
    simp at this
    exact ht this.2
theorem own_ne_map {w : World} {B len b n : Nat} {nv : Value} {ns : List Value} {D : DataW Value} (h : w.ownsRow B 9 1 nv len ns) (hm : w.ownsMap Yba.prog 9 Rv b n D) : some b ≠ nv.ownBlock := by
  intro e
  obtain ⟨es, clock, hb, _⟩ := hm
  rcases h.2 with ⟨rfl, _⟩ | ⟨g', cap, cur, rfl, _, hg, _⟩
  · simp [Value.ownBlock] at e
  · simp only [Value.ownBlock, Option.some.injEq] at e
    subst e
    have := hb.symm.trans hg
    simp at this
theorem row_ne_map {w : World} {g b n : Nat} {t : TypeId} {cs : List Value} {D : DataW Value} (hr : RowAt w g t cs) (hm : w.ownsMap Yba.prog 9 Rv b n D) : g ≠ b := by
  intro e
  subst e
  obtain ⟨es, clock, hb, _⟩ := hm
  have := hb.symm.trans hr
  simp at this
theorem Keeps.grown {w w' : World} {B len : Nat} {nv : Value} {ns : List Value} (h : w.ownsRow B 9 1 nv len ns) (hg : w.grownBy w' nv.ownBlock) : Keeps w w' := fun g _ _ h1 _ hr => hr.of_block (hg.block g hr.lt (own_ne h hr h1))
theorem Keeps.mapped {w w' : World} {b n : Nat} {D : DataW Value} (h : w.ownsMap Yba.prog 9 Rv b n D) (hg : w.grownBy w' (some b)) : Keeps w w' := fun g _ _ _ _ hr => hr.of_block (hg.block g hr.lt (by simpa using row_ne_map hr h))

/-- THE NAMES AND THE DEFINITION behind the append and the store of the new slice. -/
theorem names_step {w w1 : World} {B b len g cap : Nat} {title name : ByteArray} {nv mv : Value} {ns : List Value} {o : Obj} (hB : B ≤ b) (hrow : RowAt w b 35 (defCells title nv mv)) (hown : w.ownsRow B 9 1 nv len ns)
    (hown1 : w1.ownsRow B 9 1 (.slice (some ⟨g, 0, none⟩) (len + 1) cap) (len + 1) (ns ++ [.string name])) (hgrow : (w.alloc o).grownBy w1 nv.ownBlock) :
    RowAt w1 b 35 (defCells title nv mv) ∧ RowAt (w1.setCell ⟨b, 14, none⟩ (.slice (some ⟨g, 0, none⟩) (len + 1) cap)) b 35 (defCells title (.slice (some ⟨g, 0, none⟩) (len + 1) cap) mv) ∧
      (w1.setCell ⟨b, 14, none⟩ (.slice (some ⟨g, 0, none⟩) (len + 1) cap)).ownsRow B 9 1 (.slice (some ⟨g, 0, none⟩) (len + 1) cap) (len + 1) (ns ++ [.string name]) ∧
      Keeps w (w1.setCell ⟨b, 14, none⟩ (.slice (some ⟨g, 0, none⟩) (len + 1) cap)) ∧ Below B w (w1.setCell ⟨b, 14, none⟩ (.slice (some ⟨g, 0, none⟩) (len + 1) cap)) ∧
      (∀ bm n D, w.ownsMap Yba.prog 9 Rv bm n D → (w1.setCell ⟨b, 14, none⟩ (.slice (some ⟨g, 0, none⟩) (len + 1) cap)).ownsMap Yba.prog 9 Rv bm n D) ∧ w.heap.size ≤ (w1.setCell ⟨b, 14, none⟩ (.slice (some ⟨g, 0, none⟩) (len + 1) cap)).heap.size := by
  have hr1 : RowAt w1 b 35 (defCells title nv mv) := (hrow.alloc o).of_block (hgrow.block b (hrow.alloc o).lt (own_ne (hown.alloc o) (hrow.alloc o) (by decide)))
  have hgb : g ≠ b := by
    intro e
    subst e
    exact own_ne hown1 hr1 (by decide) rfl
  have hs : w.heap.size + 1 ≤ w1.heap.size := by have := hgrow.size; simpa using this
  have hlt := hrow.lt
  refine ⟨hr1, ?_, ?_, ((Keeps.alloc w o).trans (Keeps.grown (hown.alloc o) hgrow)).trans (Keeps.set hr1 _ _), ?_, fun bm n D hm => ?_, by simp; omega⟩
  · have := hr1.set 14 (.slice (some ⟨g, 0, none⟩) (len + 1) cap)
    simpa [defCells] using this
  · refine ⟨hown1.1, ?_⟩
    rcases hown1.2 with ⟨h', _⟩ | ⟨g', cap', cur, h', hbg, hg, r⟩
    · simp at h'
    · simp only [Value.slice.injEq, Option.some.injEq, Addr.mk.injEq, and_true, true_and] at h'
      obtain ⟨rfl, rfl⟩ := h'
      exact .inr ⟨g, cap, cur, rfl, hbg, (heap_setCell_other w1 _ g _ hgb).trans hg, r⟩
  · exact ((((Below.refl B w).alloc (by omega) o)).grown hgrow (by simp; omega) (fun j e => (hown.lt j e).1)).setCell hB _
  · refine (World.ownsMap.setCell ((hm.alloc o).kept hgrow (own_ne_map (hown.alloc o) (hm.alloc o))) ?_ _)
    exact fun e => row_ne_map hrow hm e.symm

set_option maxHeartbeats 400000 in
theorem add_some (w : World) (B b bm N len : Nat) (title name : ByteArray) (nv alts : Value) (ns : List Value) (D : DataW Value) (hB : B ≤ b) (hBm : B ≤ bm) (hname : name.size ≤ maxLen) (hlen : len ≤ 65536) (hN : N ≤ 65536)
    (hrow : RowAt w b 35 (defCells title nv (.map (some bm)))) (hown : w.ownsRow B 9 1 nv len ns) (hmap : w.ownsMap Yba.prog 9 Rv bm N D) :
    Calls Yba.prog 5 #[.pointer (some ⟨b, 0, none⟩), .string name, alts] w fun e w' => e = .returned (.tuple #[]) ∧
      ∃ nv' bm', RowAt w' b 35 (defCells title nv' (.map (some bm'))) ∧ w'.ownsRow B 9 1 nv' (len + 1) (ns ++ [.string name]) ∧ w'.ownsMap Yba.prog 9 Rv bm' (N + 1) (D.put (kLit name) (.held alts)) ∧ Keeps w w' ∧ Below B w w' ∧ B ≤ bm' := by
  obtain ⟨i, hi, hz0, hz1, hz2⟩ := info_parts Yba.info9
  have HI : Hid (Yba.prog.info? 9 = some i ∧ i.zero = some (.string ByteArray.empty) ∧ i.size = 1 ∧ i.bytes = 16) := ⟨hi, hz0, hz1, hz2⟩
  clear hi hz0 hz1 hz2
  have hc : w.cell? ⟨b, 14, none⟩ = some nv := hrow.cell rfl
  have hem := fun (w : World) r => run_eql_map_nil (P := Yba.prog) w 33 9 32 r Yba.underlying33
  have HR := hide hrow
  have HO := hide hown
  have HM := hide hmap
  clear hrow hown hmap
  go_enter Yba.func5, Yba.ntmps5
  go_wp2_with (first
    | (at_builtin; refine wpList_append_lies _ rfl (.tmp 10) (.tmp 12) 22 rfl B 9 i _ 1 16 Yba.underlying22 HI.out.1 HI.out.2.1 HI.out.2.2.1 HI.out.2.2.2 rfl (by decide) nv len ns rfl (HO.out.alloc _) ⟨w.heap.size, 0, none⟩ 1 1 [.string name] rfl rfl (World.news_of_block (heap_alloc_new w _)) (by simp [Value.oneCell']) (by decide) (by unfold maxLen; omega) (by omega) (by have := HR.out.lt; simp; omega) (w.heap.size + 1) (by simp) ?_; intro g cap w1 hown1 hgrow1 hat1 hlt1; obtain ⟨r1, r2, r3, r4, r5, r6, r7⟩ := names_step hB HR.out HO.out hown1 hgrow1; have hc1 := r1.cell (j := 14) rfl; have hf1 := r1.frozen 14; have hc2 := r1.cell (j := 15) rfl; have hm2 := r6 _ _ _ HM.out; have R2 := hide r2; have R3 := hide r3; have R4 := hide r4; have R5 := hide r5; have R7 := hide r7; clear r1 r2 r3 r4 r5 r6 r7 hown1 hgrow1 hat1 hlt1)
    | (at_mapUpdate; refine wpList_mapUpdate_own _ rfl _ _ _ 33 rfl 9 32 law Yba.underlying33 Rv bm N D rfl (by assumption) (by unfold maxLen; omega) _ _ _ rfl rfl (key_of name hname) (.held alts) [] rfl ?_; intro w2 hown2 hgrow2))
  go_end0
  have hne := row_ne_map R2.out hm2
  exact ⟨rfl, _, bm, R2.out.of_block (hgrow2.block b R2.out.lt (by simpa using hne)), R3.out.kept hgrow2 (.inr (own_ne_map R3.out hm2).symm), hown2, R4.out.trans (Keeps.mapped hm2 hgrow2), R5.out.grown hgrow2 (by have := R7.out; have := HR.out.lt; omega) (fun j e => by cases e; exact hBm), hBm⟩

theorem made_at (W : World) (n : Nat) (h : W.heap.size = n) : (W.alloc (.map #[] 0)).ownsMap Yba.prog 9 Rv n 0 (.map []) := by
  subst h
  exact World.ownsMap_made W Yba.prog 9 Rv

set_option maxHeartbeats 400000 in
theorem add_none (w : World) (B b len : Nat) (title name : ByteArray) (nv alts : Value) (ns : List Value) (hB : B ≤ b) (hname : name.size ≤ maxLen) (hlen : len ≤ 65536)
    (hrow : RowAt w b 35 (defCells title nv (.map none))) (hown : w.ownsRow B 9 1 nv len ns) :
    Calls Yba.prog 5 #[.pointer (some ⟨b, 0, none⟩), .string name, alts] w fun e w' => e = .returned (.tuple #[]) ∧
      ∃ nv' bm', RowAt w' b 35 (defCells title nv' (.map (some bm'))) ∧ w'.ownsRow B 9 1 nv' (len + 1) (ns ++ [.string name]) ∧ w'.ownsMap Yba.prog 9 Rv bm' 1 ((DataW.map []).put (kLit name) (.held alts)) ∧ Keeps w w' ∧ Below B w w' ∧ B ≤ bm' := by
  obtain ⟨i, hi, hz0, hz1, hz2⟩ := info_parts Yba.info9
  have HI : Hid (Yba.prog.info? 9 = some i ∧ i.zero = some (.string ByteArray.empty) ∧ i.size = 1 ∧ i.bytes = 16) := ⟨hi, hz0, hz1, hz2⟩
  clear hi hz0 hz1 hz2
  have hc : w.cell? ⟨b, 14, none⟩ = some nv := hrow.cell rfl
  have hem := fun (w : World) r => run_eql_map_nil (P := Yba.prog) w 33 9 32 r Yba.underlying33
  have hmm := @run_makeMap Yba.prog
  have HR := hide hrow
  have HO := hide hown
  clear hrow hown
  go_enter Yba.func5, Yba.ntmps5
  go_wp2_with (first
    | (at_builtin; refine wpList_append_lies _ rfl (.tmp 10) (.tmp 12) 22 rfl B 9 i _ 1 16 Yba.underlying22 HI.out.1 HI.out.2.1 HI.out.2.2.1 HI.out.2.2.2 rfl (by decide) nv len ns rfl (HO.out.alloc _) ⟨w.heap.size, 0, none⟩ 1 1 [.string name] rfl rfl (World.news_of_block (heap_alloc_new w _)) (by simp [Value.oneCell']) (by decide) (by unfold maxLen; omega) (by omega) (by have := HR.out.lt; simp; omega) (w.heap.size + 1) (by simp) ?_; intro g cap w1 hown1 hgrow1 hat1 hlt1; obtain ⟨r1, r2, r3, r4, r5, r6, r7⟩ := names_step hB HR.out HO.out hown1 hgrow1; have hb1 := r1.lt; have hc1 := r1.cell (j := 14) rfl; have hf1 := r1.frozen 14; have hf2 := r1.frozen 15; have hc2 := r1.cell (j := 15) rfl; have R2 := hide r2; have R3 := hide r3; have R4 := hide r4; have R5 := hide r5; have R7 := hide r7; clear r1 r2 r3 r4 r5 r6 r7 hown1 hgrow1 hat1 hlt1)
    | (at_mapUpdate; refine wpList_mapUpdate_own _ rfl _ _ _ 33 rfl 9 32 law Yba.underlying33 Rv w1.heap.size 0 (.map []) rfl (by exact made_at _ _ (by simp)) (by unfold maxLen; omega) _ _ _ rfl rfl (key_of name hname) (.held alts) [] rfl ?_; intro w2 hown2 hgrow2))
  go_end0
  have hr3 : RowAt ((w1.setCell ⟨b, 14, none⟩ (.slice (some ⟨g, 0, none⟩) (len + 1) cap)).setCell ⟨b, 15, none⟩ (.map (some w1.heap.size))) b 35 (defCells title (.slice (some ⟨g, 0, none⟩) (len + 1) cap) (.map (some w1.heap.size))) := by
    have := R2.out.set 15 (.map (some w1.heap.size))
    simpa [defCells] using this
  have hk3 := R4.out.trans (Keeps.set R2.out 15 (.map (some w1.heap.size)))
  have hb3 := R5.out.setCell (p := ⟨b, 15, none⟩) hB (.map (some w1.heap.size))
  have ho3 : ((w1.setCell ⟨b, 14, none⟩ (.slice (some ⟨g, 0, none⟩) (len + 1) cap)).setCell ⟨b, 15, none⟩ (.map (some w1.heap.size))).ownsRow B 9 1 (.slice (some ⟨g, 0, none⟩) (len + 1) cap) (len + 1) (ns ++ [.string name]) := by
    have hgb : g ≠ b := by
      intro e
      subst e
      exact own_ne R3.out R2.out (by decide) rfl
    refine R3.out.kept (row := some b) ⟨rfl, rfl, rfl, by simp, fun k _ hk => heap_setCell_other _ _ _ _ (fun e => hk (by rw [e]))⟩ (.inr (by simpa [Value.ownBlock] using hgb))
  have hs3 : ((w1.setCell ⟨b, 14, none⟩ (.slice (some ⟨g, 0, none⟩) (len + 1) cap)).setCell ⟨b, 15, none⟩ (.map (some w1.heap.size))).heap.size = w1.heap.size := by simp
  generalize (w1.setCell ⟨b, 14, none⟩ (.slice (some ⟨g, 0, none⟩) (len + 1) cap)).setCell ⟨b, 15, none⟩ (.map (some w1.heap.size)) = W3 at *
  have hm3 := made_at W3 w1.heap.size hs3
  have hr4 := hr3.alloc (.map #[] 0)
  have ho4 := ho3.alloc (.map #[] 0)
  exact ⟨rfl, _, w1.heap.size, hr4.of_block (hgrow2.block b hr4.lt (by simpa using row_ne_map hr4 hm3)), ho4.kept hgrow2 (.inr (own_ne_map ho4 hm3).symm), hown2, (hk3.trans (Keeps.alloc W3 _)).trans (Keeps.mapped hm3 hgrow2),
    (hb3.alloc (by omega) _).grown hgrow2 (by simp; omega) (fun j e => by cases e; omega), by omega⟩

/-- '(*definition).add', WHATEVER MAP ITS FIELD HOLDS. -/
theorem add_calls (w : World) (B b N len : Nat) (title name : ByteArray) (nv mv alts : Value) (ns : List Value) (D : DataW Value) (hB : B ≤ b) (hname : name.size ≤ maxLen) (hlen : len ≤ 65536) (hN : N ≤ 65536)
    (hrow : RowAt w b 35 (defCells title nv mv)) (hown : w.ownsRow B 9 1 nv len ns) (hmap : MapV w B mv N D) :
    Calls Yba.prog 5 #[.pointer (some ⟨b, 0, none⟩), .string name, alts] w fun e w' => e = .returned (.tuple #[]) ∧
      ∃ nv' bm', RowAt w' b 35 (defCells title nv' (.map (some bm'))) ∧ w'.ownsRow B 9 1 nv' (len + 1) (ns ++ [.string name]) ∧ w'.ownsMap Yba.prog 9 Rv bm' (N + 1) (D.put (kLit name) (.held alts)) ∧ Keeps w w' ∧ Below B w w' ∧ B ≤ bm' := by
  rcases hmap with ⟨rfl, rfl⟩ | ⟨bm, rfl, hBm, hm⟩
  · refine (add_none w B b len title name nv alts ns hB hname hlen hrow hown).mono ?_
    rintro e w' ⟨rfl, nv', bm', h1, h2, h3, h4, h5, h6⟩
    exact ⟨rfl, nv', bm', h1, h2, h3.mono (by omega), h4, h5, h6⟩
  · exact add_some w B b bm N len title name nv alts ns D hB hBm hname hlen hN hrow hown hm
end Go.Proofs.Ybulkdxik

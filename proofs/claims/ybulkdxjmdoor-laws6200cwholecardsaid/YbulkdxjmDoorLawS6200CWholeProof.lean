/-
  'Rows.LawS6200CWholeCardSaid' (the tied card of 'gbwire.LawS6200CWhole') PROVED.
-/
import Derived.Test.YbulkdxjmDoorOpen
import Derived.Test.YbulkdxjmDoorLaw
import Derived.Test.YbulkdxjmDoorTie
import Derived.Test.YbulkdxjmDoorCards
import Derived.WalkKit
import Derived.ProofKit
import Derived.Handy
import Derived.Lay
import Derived.SevenTiedAt
import Derived.ChangeOld
import Derived.Below
namespace Go.Proofs.YbulkdxjmDoor.lawS6200CWhole
open Go.ChangeShapes Go.WideShapes Go.ChangeAt Go.RowKit
set_option linter.unusedVariables false
theorem eps_at {H : Type} {enc : TypeId × Value → H} {W : World} {a : Option Addr} {len cap : Nat} {d : DataW H} {ps : List MemPlace} (h : DataW.Trod enc Ybad.prog W 0 (fun _ => true) true 22 (.slice a len cap) d ps) :
    ∃ es : List Ep, es.length = len ∧ EpsAt W a es ∧ (len = 0 ∨ ∃ elems spare, d = .slice elems spare ∧ elems.length = len) := by
  obtain ⟨f, hf⟩ := h
  exact eps_of (enc := enc) hf
theorem bytes_at {H : Type} {enc : TypeId × Value → H} {W : World} {a : Option Addr} {len cap : Nat} {d : DataW H} {ps : List MemPlace} (h : DataW.Trod enc Ybad.prog W 0 (fun _ => true) true 23 (.slice a len cap) d ps) :
    ∃ zs : List Int, zs.length = len ∧ BytesAt W a zs ∧ (len = 0 ∨ ∃ elems spare, d = .slice elems spare ∧ elems.length = len) := by
  obtain ⟨f, hf⟩ := h
  exact bytes_of (enc := enc) hf
theorem cap_at {H : Type} {enc : TypeId × Value → H} {W : World} {a : Option Addr} {len cap : Nat} {d : DataW H} {ps : List MemPlace} (h : DataW.Trod enc Ybad.prog W 0 (fun _ => true) true 22 (.slice a len cap) d ps) : len ≤ cap := by
  obtain ⟨f, hf⟩ := h
  rcases Go.Deep.open_slice Ybad.underlying22 hf with ⟨hcs, _⟩ | ⟨ad, l', c', m, n, D, Pl, hcs, _, hl, _⟩
  · simp [Value.cells] at hcs
    obtain ⟨_, rfl, rfl⟩ := hcs
    exact Nat.le_refl _
  · simp [Value.cells] at hcs
    obtain ⟨rfl, rfl, rfl⟩ := hcs
    exact hl
theorem own : ownKnob Ybad.prog.godebug = none := by kernel_rfl
theorem laidOut : laidOutB Ybad.prog = true := by kernel_rfl
theorem Ybad.bytes70 : Ybad.prog.bytesOf 70 = 6 := by kernel_rfl
theorem Ybad.bytes5 : Ybad.prog.bytesOf 5 = 1 := by kernel_rfl
/-- How long a slice that came in can be. -/
theorem len_of {H : Type} {ts : List TypeId} {ds : List (DataW H)} (h : (DataW.weightsEach Ybad.prog ts ds).all (· ≤ reachBytes) = true) {j : Nat} {t e : TypeId} {d : DataW H} {len : Nat} (ht : ts[j]? = some t) (hd : ds[j]? = some d) (hu : Ybad.prog.underlying t = some (.slice e)) (hb : 0 < Ybad.prog.bytesOf e)
    (hx : len = 0 ∨ ∃ elems spare, d = .slice elems spare ∧ elems.length = len) : len < 140737488355328 := by
  rcases hx with h0 | ⟨elems, spare, rfl, rfl⟩
  · omega
  · have h1 := sized_slice h ht hd hu
    have h2 := reachBytes_lt
    have h3 : (elems.length + spare.length) * 1 ≤ (elems.length + spare.length) * Ybad.prog.bytesOf e := Nat.mul_le_mul_left _ hb
    have h4 : (2 : Nat) ^ 47 = 140737488355328 := by decide
    omega

set_option maxRecDepth 100000 in
theorem lifted (os : Os) (started : os.Started) (H : Type) (enc : TypeId × Value → H) :
    ReturnsInHanded {} Ybad.checked os 3 .any (fun w args => (Rows.lawS6200CWholeSpec.pre enc Ybad.prog Ybad.f3 [] false w args ∧ laidMetH Ybad.prog Rows.lawS6200CWholeRow.laid w) ∧ sizedMet enc Ybad.prog Ybad.f3 (OpenSpec.ofChange Rows.lawS6200CWholeSpec) false w args)
      (Rows.lawS6200CWholeSpec.post enc Ybad.prog Ybad.f3 false true false false) := by
  refine returnsInHanded_of_change_and (C := Ybad.checked) (X := fun w _ => laidMetH Ybad.prog Rows.lawS6200CWholeRow.laid w) (fun _ _ _ hh h => h.of_heap hh) own started (by kernel_rfl) Ybad.func3
    (ChangeSpec.witness_shaped (enc := enc) (C := Ybad.checked) (os := os) (X := fun w _ => laidMetH Ybad.prog Rows.lawS6200CWholeRow.laid w) false (World.laidAll Ybad.prog os Rows.lawS6200CWholeRow.laid) #[.slice none 0 0, .slice none 0 0, .slice none 0 0, .slice none 0 0, .bool false, .int .u16 0, .slice none 0 0] 8 (World.laidAll_os _ _ _)
      (World.shaped_of_ZipB (by kernel_rfl) (by kernel_rfl)) (by kernel_rfl) (by kernel_rfl) (by kernel_rfl)
      (by rw [MakeChecks.laidMetH_plain _ _ _ (by kernel_rfl)]; exact laidMet_laidAll _ (by kernel_rfl) (by kernel_rfl))) ?_
  intro W base args ds gs before hval0 hW _ hsz hL _
  have hval : ∀ (j : Nat) t v, Ybad.f3.params[j]? = some t → args[j]? = some v → Value.okWide Ybad.prog W .any base t v := hval0
  have hW' := hW
  obtain ⟨p, q, hA0, hV, rfl, hfz, hnd⟩ := hW
  have hA : DataW.TrodAll enc Ybad.prog W 0 (fun _ => true) true Ybad.f3.params.toList args.toList ds p := hA0
  replace hsz : (DataW.weightsEach Ybad.prog (Ybad.f3.params.toList ++ Rows.lawS6200CWholeSpec.plain.varTypes Ybad.prog) (ds ++ gs)).all (· ≤ reachBytes) = true := hsz
  rw [Ybad.params3] at hA hval hsz
  obtain ⟨v0, vs0, d0, ds0, p0, q0, e0, rfl, rfl, h0, r0⟩ := trodAll_cons hA
  obtain ⟨v1, vs1, d1, ds1, p1, q1, e1, rfl, rfl, h1, r1⟩ := trodAll_cons r0
  obtain ⟨v2, vs2, d2, ds2, p2, q2, e2, rfl, rfl, h2, r2⟩ := trodAll_cons r1
  obtain ⟨v3, vs3, d3, ds3, p3, q3, e3, rfl, rfl, h3, r3⟩ := trodAll_cons r2
  obtain ⟨v4, vs4, d4, ds4, p4, q4, e4, rfl, rfl, h4, r4⟩ := trodAll_cons r3
  obtain ⟨v5, vs5, d5, ds5, p5, q5, e5, rfl, rfl, h5, r5⟩ := trodAll_cons r4
  obtain ⟨v6, vs6, d6, ds6, p6, q6, e6, rfl, rfl, h6, r6⟩ := trodAll_cons r5
  obtain ⟨rfl, rfl, rfl⟩ := trodAll_nil r6
  subst e1 e2 e3 e4 e5 e6
  obtain rfl : args = #[v0, v1, v2, v3, v4, v5, v6] := by cases args; simp_all
  obtain ⟨rfl, rfl⟩ := trodVars_none hV
  obtain ⟨a0, len0, cap0, rfl⟩ := okWide_slice Ybad.underlying22 (hval 0 22 v0 rfl rfl)
  obtain ⟨a1, len1, cap1, rfl⟩ := okWide_slice Ybad.underlying23 (hval 1 23 v1 rfl rfl)
  obtain ⟨a2, len2, cap2, rfl⟩ := okWide_slice Ybad.underlying22 (hval 2 22 v2 rfl rfl)
  obtain ⟨a3, len3, cap3, rfl⟩ := okWide_slice Ybad.underlying22 (hval 3 22 v3 rfl rfl)
  obtain ⟨a6, len6, cap6, rfl⟩ := okWide_slice Ybad.underlying22 (hval 6 22 v6 rfl rfl)
  obtain ⟨en, rfl, rfl, rfl⟩ := open_bool Ybad.underlying4 (hval 4 4 v4 rfl rfl) h4
  obtain ⟨nsei, rfl, rfl, rfl, wn⟩ := open_int Ybad.underlying24 (hval 5 24 v5 rfl rfl) h5
  have lt : ∀ {t : TypeId} {v : Value} {d : DataW H} {ps : List MemPlace}, DataW.Trod enc Ybad.prog W 0 (fun _ => true) true t v d ps → ∀ x ∈ ps, x.block < W.heap.size := fun h => by obtain ⟨m, hm⟩ := h; exact DataW.trod_lt m _ _ _ hm
  obtain ⟨es0, l0, E0, y0⟩ := eps_at h0
  obtain ⟨zs, l1, E1, y1⟩ := bytes_at h1
  obtain ⟨es2, l2, E2, y2⟩ := eps_at h2
  obtain ⟨es3, l3, E3, y3⟩ := eps_at h3
  obtain ⟨es6, l6, E6, y6⟩ := eps_at h6
  have s0 := len_of hsz (j := 0) rfl rfl Ybad.underlying22 (by rw [Ybad.bytes70]; decide) y0
  have s1 := len_of hsz (j := 1) rfl rfl Ybad.underlying23 (by rw [Ybad.bytes5]; decide) y1
  have s2 := len_of hsz (j := 2) rfl rfl Ybad.underlying22 (by rw [Ybad.bytes70]; decide) y2
  have s3 := len_of hsz (j := 3) rfl rfl Ybad.underlying22 (by rw [Ybad.bytes70]; decide) y3
  have s6 := len_of hsz (j := 6) rfl rfl Ybad.underlying22 (by rw [Ybad.bytes70]; decide) y6
  obtain ⟨z4, z6, hE⟩ := env_of (by rw [MakeChecks.laidMetH_plain _ _ _ (by kernel_rfl)] at hL; exact hL)
  refine (law_calls z4 z6 W hE a0 a1 a2 a3 a6 len0 cap0 len1 cap1 len2 cap2 len3 cap3 len6 cap6 es0 zs es2 es3 es6 E0 E1 E2 E3 E6 l0 l1 l2 l3 l6 (by omega) (cap_at h6) en nsei).mono fun e W' ⟨he, bel⟩ => ?_
  subst he
  exact ⟨_, rfl, _, _, _, [], _, [], hW', trodAll_mk1 (shut_bool Ybad.underlying4 _),
    (trodAll_cons_mk (Below.trod laidOut (by kernel_rfl) (of_decide_eq_true (by kernel_rfl)) h0 bel (lt h0)) (trodAll_cons_mk (Below.trod laidOut (by kernel_rfl) (of_decide_eq_true (by kernel_rfl)) h1 bel (lt h1)) (trodAll_cons_mk (Below.trod laidOut (by kernel_rfl) (of_decide_eq_true (by kernel_rfl)) h2 bel (lt h2)) (trodAll_cons_mk (Below.trod laidOut (by kernel_rfl) (of_decide_eq_true (by kernel_rfl)) h3 bel (lt h3)) (trodAll_cons_mk (shut_bool Ybad.underlying4 _) (trodAll_cons_mk (shut_int Ybad.underlying24 wn) (trodAll_cons_mk (Below.trod laidOut (by kernel_rfl) (of_decide_eq_true (by kernel_rfl)) h6 bel (lt h6)) trodAll_mk0))))))), rfl, bel.frame _, fun h => by cases h⟩

theorem over : Rows.LawS6200CWholeSaid :=
  OpenClaim.holds_of_wide 3 Ybad.f3 rfl rfl rfl rfl rfl rfl rfl ⟨rfl, rfl, rfl, rfl, rfl⟩ rfl rfl rfl rfl rfl (by kernel_rfl) Ybad.func3 (by kernel_rfl)
    (of_decide_eq_true (by kernel_rfl)) (by unfold Func.isWrapper; first | (rw [if_pos (by decide +kernel)]; kernel_rfl) | (rw [if_neg (by decide +kernel)]; exact ⟨rfl, rfl⟩))
    (fun os started H enc _ => lifted os started H enc)

/-- ████ THE STATEMENT ████ -/
theorem proved : Rows.LawS6200CWholeCardSaid :=
  Claim7.holds_tied_plain_at .later [] [.called, .called, .zero] true (true, "94253505f4e47b0939f08c14cd1a38e01e6aaf518e3d538da349203353668f6b") false over (fun _ h => by cases h) (by kernel_rfl) (fun _ h => by cases h) lawS6200CWhole_row_tie rfl ⟨rfl, rfl⟩ (by kernel_rfl) rfl
    (fun f fn hf hfn => by
      obtain rfl : f = 3 := Option.some.inj ((show Ybad.prog.funcNamed "example.com/gbwire/gbwire.LawS6200CWhole" = some 3 by kernel_rfl).symm.trans hf) |>.symm
      obtain rfl : fn = Ybad.f3 := (Option.some.inj (Ybad.func3.symm.trans hfn)).symm
      exact ⟨by kernel_rfl, fun j t ht => by
        rw [Ybad.params3] at ht
        have hm : t ∈ [22, 23, 22, 22, 4, 24, 22] := by simpa using Array.mem_of_getElem? ht
        have hall : ([22, 23, 22, 22, 4, 24, 22].all fun u => !Ybad.prog.wantsStandIn u) = true := by kernel_rfl
        exact (show Ybad.prog.wantsStandIn t = false by simpa using List.all_eq_true.1 hall t hm)⟩)
    (by kernel_rfl)
#print axioms proved
end Go.Proofs.YbulkdxjmDoor.lawS6200CWhole

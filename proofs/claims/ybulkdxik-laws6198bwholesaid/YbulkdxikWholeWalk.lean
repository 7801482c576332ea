/-
  THE WALK OF 'LawS6198BWhole' (function 3).
-/
import Derived.Test.YbulkdxikState
import Derived.Deep.DeepCutAuto
import Derived.Deep.RegionHeld3
namespace Go.Proofs.Ybulkdxik
open Go.RowKit

set_option maxRecDepth 100000 in
set_option maxHeartbeats 8000000 in
theorem walk_main (a0 : Option Addr) (len0 cap0 : Nat) (s0 : List ByteArray) (a1 : Option Addr) (len1 cap1 : Nat) (s1 : List ByteArray) (nilMap : Bool) (title name : ByteArray) (alt : Int) (w : World) (hb : len0 + len1 ≤ 65536)
    (hname : name.size ≤ maxLen) (ha0 : 0 ≤ alt) (ha1 : alt < 256)
    (hnil : a0 = none → len0 = 0) (hl0 : len0 ≤ s0.length)
    (H0 : ∀ x, a0 = some x → ∀ i, i < len0 → w.cell? (x.add i) = some (.string (s0.getD i ByteArray.empty)))
    (H1 : 0 < len1 → ∃ b o, a1 = some ⟨b, o, none⟩ ∧ b < w.heap.size ∧ ∀ i, i < len1 → w.cell? ⟨b, o + i, none⟩ = some (.string (s1.getD i ByteArray.empty)) ∧ (s1.getD i ByteArray.empty).size ≤ maxLen) :
    Calls Yba.prog 3 #[.slice a0 len0 cap0, .slice a1 len1 cap1, .bool nilMap, .string title, .string name, .int .u8 alt] w fun e w' => e = .returned (.bool true) ∧ Below w.heap.size w w' := by
  have HH0 := hide H0
  have HH1 := hide H1
  have HN := hide hnil
  clear H0 H1 hnil
  go_enter Yba.func3, Yba.ntmps3
  go_upto_if 43 with (fail)
  go_cut [] (fun wr => ∃ nv, Df w wr title nv (.map none) len0 ((s0.take len0).map Value.string) 0 (.map []))
  case first =>
    as_aux_lemma =>
    have hD : Df w (w.alloc (.cells #[.pointer none, .pointer none, .slice none 0 0, .bool false, .bool false, .string title, .string { data := #[] }, .pointer none, .pointer none, .pointer none, .pointer none, .pointer none, .slice none 0 0, .slice none 0 0, .slice none 0 0, .map none] 35)) title (.slice none 0 0) (.map none) 0 [] 0 (.map []) := Df.start w title
    have hsz : (w.alloc (.cells #[.pointer none, .pointer none, .slice none 0 0, .bool false, .bool false, .string title, .string { data := #[] }, .pointer none, .pointer none, .pointer none, .pointer none, .pointer none, .slice none 0 0, .slice none 0 0, .slice none 0 0, .map none] 35)).heap.size = w.heap.size + 1 := by simp
    generalize w.alloc (.cells #[.pointer none, .pointer none, .slice none 0 0, .bool false, .bool false, .string title, .string { data := #[] }, .pointer none, .pointer none, .pointer none, .pointer none, .pointer none, .slice none 0 0, .slice none 0 0, .slice none 0 0, .map none] 35) = W1 at *
    cases a0 with
    | none =>
      obtain rfl : len0 = 0 := HN.out rfl
      have HD := hide hD
      clear hD
      go_wp2
      go_meet
      case rel => exact ⟨_, by simpa using HD.out⟩
    | some x =>
      obtain ⟨W3, hcp, hD3⟩ := names_made (cap0 := cap0) hD hsz (by omega) hl0 (HH0.out x rfl)
      have HD := hide hD3
      have hmk := make_run Yba.underlying22 Yba.info9 rfl len0 (by omega) (by omega)
      have hc := hD.row.cell (j := 14) rfl
      have hf := hD.row.frozen 14
      clear hD hD3
      go_wp2
      go_meet
      case rel => exact ⟨_, HD.out⟩
  case rest =>
    obtain ⟨nv, hD⟩ := hcut
    have HD := hide hD
    clear hD
    go_upto_if 57 with (fail)
    go_cut [] (fun wr => ∃ mv N D, N ≤ len1 ∧ Df w wr title nv mv len0 ((s0.take len0).map Value.string) N D)
    case first =>
      as_aux_lemma =>
      cases nilMap with
      | true =>
        go_wp2
        go_meet
        case rel => exact ⟨_, _, _, Nat.zero_le _, HD.out⟩
      | false =>
        simp only [Bool.not_false]
        have hmm := @run_makeMap Yba.prog
        have hc := HD.out.row.cell (j := 15) rfl
        have hf := HD.out.row.frozen 15
        have hlt := HD.out.row.lt
        go_wp2
        go_loopw [14] (fun i wr => ∃ k : Nat, k ≤ len1 ∧ i = .int .i64 k ∧ ∃ D, Df w wr title nv (.map (some wc.heap.size)) len0 ((s0.take len0).map Value.string) k D) (fun i _ => len1 - (intOf i).toNat)
        case atStart => exact ⟨0, Nat.zero_le _, rfl, _, map_made HD.out⟩
        case round =>
          clear hmm hc hf hlt HD
          obtain ⟨k, hk, rfl, D, hD⟩ := hrel
          by_cases hlt : k < len1
          · as_aux_lemma =>
            obtain ⟨b1, o1, rfl, hb1, hc1⟩ := HH1.out (by omega)
            obtain ⟨hck, hks⟩ := hc1 k hlt
            have hx : wr.cell? ⟨b1, o1 + k, none⟩ = some (.string (s1.getD k ByteArray.empty)) := (hD.below.cell hb1).trans hck
            have hm : wr.cell? ⟨w.heap.size, 15, none⟩ = some (.map (some wc.heap.size)) := hD.row.cell rfl
            have hlt' : (k : Int) < (len1 : Int) := by omega
            have hbw : b1 < wr.heap.size := by have := hD.row.lt; omega
            have hww := hD.row.lt
            clear hc1
            generalize s1.getD k ByteArray.empty = key at *
            have HK := hide hks
            have HD := hide hD
            clear hks hD
            go_wp2
            go_region_held3 (fun w' => w'.cell? ⟨w.heap.size, 15, none⟩ = some (.map (some wc.heap.size)) ∧ w'.cell? ⟨b1, o1 + k, none⟩ = some (.string key)) (go_keep) ((go_at_call 4; refine (mk_calls _ _ (Int.le_of_lt (Int.tmod_lt_of_pos _ (by decide)))).mono ?_; rintro e w1 ⟨⟨v, rfl, hgood⟩, hbel⟩; obtain ⟨w2, hrun, D2, hD2⟩ := map_step HD.out ⟨hbel.os, hbel.tape, hbel.output, hbel.size, hbel.block⟩ hgood (by omega) key HK.out; have HD2 := hide hD2; have k1 : w1.cell? ⟨w.heap.size, 15, none⟩ = some (.map (some wc.heap.size)) := (hbel.cell (by exact hww)).trans hm; have k2 : w1.cell? ⟨b1, o1 + k, none⟩ = some (.string key) := (hbel.cell (by exact hbw)).trans hx; have k3 : w2.cell? ⟨w.heap.size, 15, none⟩ = some (.map (some wc.heap.size)) := hD2.row.cell rfl; have k4 : w2.cell? ⟨b1, o1 + k, none⟩ = some (.string key) := (hD2.below.cell hb1).trans hck; clear hD2 hgood hbel))
            go_wp2
            go_roundw
            case rel => exact ⟨k + 1, by omega, by go_num, _, HD2.out⟩
            case measure => simp [intOf]; omega
          · go_wp2
            go_meet
            case rel => exact ⟨_, _, _, hk, hD⟩
    case rest =>
      obtain ⟨mv, N, D, hN, hD⟩ := hcut
      obtain ⟨v0, ⟨hlk, _⟩, _⟩ := hD.map.look0 name hname
      have hln : (Builtin.len_ #[33] 3 #[mv]).run Yba.prog wc = .ok (.int .i64 (Maps.size D)) wc := hD.map.len 0
      have hmk1 := make_run Yba.underlying38 Yba.info32 rfl len1 (by omega) (by omega)
      have hmk2 := make_run Yba.underlying39 Yba.info4 rfl len1 (by omega) (by omega)
      have hc := hD.row.cell (j := 15) rfl
      have HD2 := hide hD
      clear hD HD
      go_wp2
      go_loopw [20] (fun i wr => ∃ k : Nat, k ≤ len1 ∧ i = .int .i64 k ∧ ∃ bs hs, Rec wr wc.heap.size len1 k s1 D bs hs ∧ Df w wr title nv mv len0 ((s0.take len0).map Value.string) N D) (fun i _ => len1 - (intOf i).toNat)
      case atStart => exact ⟨0, Nat.zero_le _, rfl, _, _, Rec.start wc len1 s1 D, (HD2.out.alloc _).alloc _⟩
      case round =>
        have hBc : w.heap.size ≤ wc.heap.size := by have := HD2.out.row.lt; omega
        clear hlk hln hmk1 hmk2 hc HD2
        obtain ⟨k, hk, rfl, bs, hs, hrec, hD⟩ := hrel
        by_cases hlt : k < len1
        · as_aux_lemma =>
          obtain ⟨b1, o1, rfl, hb1, hc1⟩ := HH1.out (by omega)
          obtain ⟨hck, hks⟩ := hc1 k hlt
          have hx : wr.cell? ⟨b1, o1 + k, none⟩ = some (.string (s1.getD k ByteArray.empty)) := (hD.below.cell hb1).trans hck
          have hm : wr.cell? ⟨w.heap.size, 15, none⟩ = some mv := hD.row.cell rfl
          have hlt' : (k : Int) < (len1 : Int) := by omega
          obtain ⟨v, ⟨_, hlk⟩, hat⟩ := hD.map.look0 _ hks
          obtain ⟨u, hu, hgu⟩ := hD.good (s1.getD k ByteArray.empty)
          obtain ⟨ao, n, ps, rfl, _, _, _⟩ := hgu.form
          obtain rfl : v = .slice ao n n := by have := hat.symm.trans hu; simpa using this
          have hstep := hrec.step hlt _ hu
          have hdf := (hD.set (j := k) hrec.rowB (by decide) hBc (.slice ao n n)).set (j := k) (hrec.rowH.set_other (a := ⟨wc.heap.size, k, none⟩) (.slice ao n n) (by simp)) (by decide) (by omega) (.bool (Maps.has D (kLit (s1.getD k ByteArray.empty))))
          have HSt := hide hstep
          have HDf := hide hdf
          have cb : ∃ u, wr.cell? ⟨wc.heap.size, k, none⟩ = some u := ⟨_, hrec.rowB.cell (List.getElem?_eq_getElem (by have := hrec.lb; omega))⟩
          have ch : ∃ u, wr.cell? ⟨wc.heap.size + 1, k, none⟩ = some u := ⟨_, hrec.rowH.cell (List.getElem?_eq_getElem (by have := hrec.lh; omega))⟩
          obtain ⟨ub, cb⟩ := cb
          obtain ⟨uh, ch⟩ := ch
          have fb := hrec.rowB.frozen k
          have fh := hrec.rowH.frozen k
          clear hstep hdf hu hgu hat hks hck hc1 hD hrec
          generalize s1.getD k ByteArray.empty = key at *
          go_wp2
          go_quiet (fail)
          go_wp2
          go_roundw
          case rel => exact ⟨k + 1, by omega, by go_num, _, _, ⟨HSt.out.lb, HSt.out.lh, HSt.out.at_, HSt.out.rowB, HSt.out.rowH⟩, HDf.out.drewN _⟩
          case measure => simp [intOf]; omega
        · as_aux_lemma =>
          obtain rfl : k = len1 := by omega
          clear hlt hk
          go_wp2_with fail
          refine (mk_calls (alt % 5) wr (by omega)).mono ?_
          rintro e w1 ⟨⟨av, rfl, hga⟩, hbel1⟩
          obtain ⟨ao, n, ps, rfl, hpl, hn4, hrow⟩ := hga.form
          have hD1 := hD.later hbel1
          have hrec1 := hrec.moved (Keeps.below hbel1)
          have hmk := make_run Yba.underlying32 Yba.info23 rfl n (by omega) (by omega)
          obtain ⟨W4, hcp, hcr, hbel4⟩ := alts_copied (w1 := w1) hpl hrow
          have hD4 := hD1.later hbel4
          have hrec4 := hrec1.moved (Keeps.below hbel4)
          have hga4 := (hga.mono (by have := hD.row.lt; omega : w.heap.size ≤ wr.heap.size)).moved (Keeps.below hbel4)
          have hrow4 : 0 < n → ∃ g, ao = some ⟨g, 0, none⟩ ∧ RowAt W4 g 23 (ps.map Value.pointer) := fun h => by
            obtain ⟨g, e, hr, _⟩ := hrow h
            exact ⟨g, e, Keeps.below hbel4 g 23 _ (by decide) (by decide) hr⟩
          have HD4 := hide hD4
          have HR4 := hide hrec4
          have HG4 := hide hga4
          have HRow4 := hide hrow4
          have HC4 := hide hcr
          have HPL := hide hpl
          clear hD hrec hD1 hrec1 hD4 hrec4 hga4 hrow4 hcr hbel4 hbel1 hga hrow hpl
          go_wp2_with fail
          refine (add_calls W4 w.heap.size w.heap.size N len0 title name nv mv (.slice ao n n) _ D (Nat.le_refl _) hname (by omega) (by omega) HD4.out.row HD4.out.names HD4.out.map).mono ?_
          rintro e W5 ⟨rfl, nv', bm, r1, r2, r3, r4, r5, r6⟩
          have HD5 := hide (HD4.out.added HG4.out r1 r2 r3 r4 r5 r6)
          have HR5 := hide (HR4.out.moved r4)
          have HG5 := hide (HG4.out.moved r4)
          have HC5 := hide (r4 _ 23 _ (by decide) (by decide) HC4.out)
          have HRow5 : Hid (0 < n → ∃ g, ao = some ⟨g, 0, none⟩ ∧ RowAt W5 g 23 (ps.map Value.pointer)) := fun h => by
            obtain ⟨g, e, hr⟩ := HRow4.out h
            exact ⟨g, e, r4 g 23 _ (by decide) (by decide) hr⟩
          have hsz := HD4.out.size_le
          have htidy := hide HD4.out.isMap
          clear r1 r2 r3 r4 r5 r6 hcp hmk HD4 HR4 HG4 HRow4 HC4
          obtain ⟨g, cap, rfl, hgB, hglt⟩ := HD5.out.names.form (by omega)
          have c14 : W5.cell? ⟨w.heap.size, 14, none⟩ = some (.slice (some ⟨g, 0, none⟩) (len0 + 1) cap) := HD5.out.row.cell rfl
          have c15 : W5.cell? ⟨w.heap.size, 15, none⟩ = some (.map (some bm)) := HD5.out.row.cell rfl
          obtain ⟨hnm, hlast⟩ := HD5.out.nameAt hl0
          have HNm := hide hnm
          clear hnm
          go_wp2
          go_loopw [25] (fun i wx => ∃ j : Nat, j ≤ len0 ∧ i = .int .i64 j ∧ ∃ q, wx = W5.drewN q) (fun i _ => len0 - (intOf i).toNat)
          case atStart => exact ⟨0, Nat.zero_le _, rfl, 0, rfl⟩
          case round =>
            obtain ⟨j, hj, rfl, q, rfl⟩ := hrel
            by_cases hlt : j < len0
            · as_aux_lemma =>
              obtain ⟨x, rfl⟩ : ∃ x, a0 = some x := by
                cases a0 with
                | none => have := HN.out rfl; omega
                | some x => exact ⟨x, rfl⟩
              obtain ⟨b0, o0, rfl, hb0⟩ := addr_of (HH0.out x rfl 0 (by omega))
              have hx1 : W5.cell? ⟨b0, o0 + j, none⟩ = some (.string (s0.getD j ByteArray.empty)) := (HD5.out.below.cell hb0).trans (by have := HH0.out _ rfl j hlt; rwa [Addr.add_lit] at this)
              have hx2 : W5.cell? ⟨g, j, none⟩ = some (.string (s0.getD j ByteArray.empty)) := HNm.out j hlt
              have hlt' : (j : Int) < (len0 : Int) := by omega
              have hlt2 : (j : Int) < ((len0 + 1 : Nat) : Int) := by omega
              have hlt3 : (j : Int) < (len0 : Int) + 1 := by omega
              generalize s0.getD j ByteArray.empty = s at *
              go_wp2
              go_quiet (fail)
              go_wp2
              go_roundw
              case rel => exact ⟨j + 1, by omega, by go_num, _, rfl⟩
              case measure => simp [intOf]; omega
            · obtain rfl : j = len0 := by omega
              clear hlt hj
              have hem := fun (w : World) r => run_eql_map_nil (P := Yba.prog) w 33 9 32 r Yba.underlying33
              have hll : (j : Int) < ((j + 1 : Nat) : Int) := by omega
              have hll2 : (j : Int) < (j : Int) + 1 := by omega
              go_upto_if 183 with (fail)
              have hsp := hide (Maps.size_put htidy.out (k := kLit name) (.held (.slice ao n n)))
              go_cut [17, 26] (fun _ want wx => want = .int .i64 (Maps.size (D.put (kLit name) (.held (.slice ao n n)))) ∧ wx = W5.drewN q)
              case first =>
                as_aux_lemma =>
                cases hh : Maps.has D (kLit name) with
                | true =>
                  go_wp2
                  go_meet
                  case rel => exact ⟨by rw [hsp.out, hh]; rfl, rfl⟩
                | false =>
                  go_wp2
                  go_meet
                  case rel => exact ⟨by rw [hsp.out, hh]; rfl, rfl⟩
              case rest =>
                obtain ⟨rfl, rfl⟩ := hcut
                have hln5 : ∀ q, (Builtin.len_ #[33] 3 #[.map (some bm)]).run Yba.prog (W5.drewN q) = .ok (.int .i64 (Maps.size (D.put (kLit name) (.held (.slice ao n n))))) (W5.drewN q) := HD5.out.map.len
                have hlk5 : ∀ q, (Instr.lookup 33 (.map (some bm)) (.string name) true).run Yba.prog (W5.drewN q) = .ok (.tuple #[.slice ao n n, .bool true]) (W5.drewN q) := look_same HD5.out htidy.out.isMap hname
                clear hsp hll hll2 hem hlast
                go_wp2_with fail
                refine (same_calls (W5.drewN q) w.heap.size (.slice ao n n) (HG5.out.moved (Keeps.drewN W5 q))).mono ?_
                rintro e w6 ⟨rfl, q6, rfl⟩
                rw [drew_twice]
                generalize q + q6 = q7
                clear hln5 hlk5
                go_wp2
                go_loopw [29] (fun i wx => ∃ t : Nat, t ≤ n ∧ i = .int .i64 t ∧ ∃ q, wx = W5.drewN q) (fun i _ => n - (intOf i).toNat)
                case atStart => exact ⟨0, Nat.zero_le _, rfl, _, rfl⟩
                case round =>
                  obtain ⟨t, ht, rfl, q, rfl⟩ := hrel
                  by_cases hlt : t < n
                  · as_aux_lemma =>
                    obtain ⟨g2, rfl, hr2⟩ := HRow5.out (by omega)
                    have hp1 : W5.cell? ⟨g2, t, none⟩ = some (.pointer (ps.getD t none)) := hr2.cell (by simp [HPL.out, hlt])
                    have hp2 : W5.cell? ⟨w1.heap.size, t, none⟩ = some (.pointer (ps.getD t none)) := RowAt.cell HC5.out (by simp [HPL.out, hlt])
                    have hns := neSelf
                    have hlt' : (t : Int) < (n : Int) := by omega
                    clear hr2
                    generalize ps.getD t none = pt at *
                    go_wp2
                    go_quiet (fail)
                    go_wp2
                    go_roundw
                    case rel => exact ⟨t + 1, by omega, by go_num, _, rfl⟩
                    case measure => simp [intOf]; omega
                  · go_wp2
                    clear hlt ht
                    go_loopw [30] (fun i wx => ∃ t : Nat, t ≤ k ∧ i = .int .i64 t ∧ ∃ q, wx = W5.drewN q) (fun i _ => k - (intOf i).toNat)
                    case atStart => exact ⟨0, Nat.zero_le _, rfl, _, rfl⟩
                    case round =>
                      obtain ⟨t, ht, rfl, q, rfl⟩ := hrel
                      by_cases hlt : t < k
                      · as_aux_lemma =>
                        obtain ⟨b1, o1, rfl, hb1, hc1⟩ := HH1.out (by omega)
                        obtain ⟨hck, hks⟩ := hc1 t hlt
                        have hx : W5.cell? ⟨b1, o1 + t, none⟩ = some (.string (s1.getD t ByteArray.empty)) := (HD5.out.below.cell hb1).trans hck
                        obtain ⟨⟨v, hbv, hat⟩, hh⟩ := HR5.out.at_ t hlt
                        have cB : W5.cell? ⟨wc.heap.size, t, none⟩ = some v := HR5.out.rowB.cell hbv
                        have cH : W5.cell? ⟨wc.heap.size + 1, t, none⟩ = some (.bool (Maps.has D (kLit (s1.getD t ByteArray.empty)))) := HR5.out.rowH.cell hh
                        have hlt' : (t : Int) < (k : Int) := by omega
                        clear hck hc1 hbv hh
                        generalize s1.getD t ByteArray.empty = key at *
                        by_cases hkn : key = name
                        · subst hkn
                          clear hat cB cH
                          go_wp2
                          go_roundw
                          case rel => exact ⟨t + 1, by omega, by go_num, _, rfl⟩
                          case measure => simp [intOf]; omega
                        · obtain ⟨hlk, hgv⟩ := look_other HD5.out hkn hks hat
                          have HGV := hide hgv
                          clear hat hgv
                          have hne := toList_ne hkn
                          go_wp2_with fail
                          go_quiet (fail)
                          go_wp2_with fail
                          refine (same_calls _ w.heap.size v (HGV.out.moved (Keeps.drewN W5 _))).mono ?_
                          rintro e w6 ⟨rfl, q6, rfl⟩
                          rw [drew_twice]
                          go_wp2_with fail
                          go_roundw
                          case rel => exact ⟨t + 1, by omega, by go_num, _, rfl⟩
                          case measure => simp [intOf]; omega
                      · have c5 : W5.cell? ⟨w.heap.size, 5, none⟩ = some (.string title) := HD5.out.row.cell rfl
                        have c0 : W5.cell? ⟨w.heap.size, 0, none⟩ = some (.pointer none) := HD5.out.row.cell rfl
                        have c1 : W5.cell? ⟨w.heap.size, 1, none⟩ = some (.pointer none) := HD5.out.row.cell rfl
                        have c12 : W5.cell? ⟨w.heap.size, 12, none⟩ = some (.slice none 0 0) := HD5.out.row.cell rfl
                        have c13 : W5.cell? ⟨w.heap.size, 13, none⟩ = some (.slice none 0 0) := HD5.out.row.cell rfl
                        go_wp2
                        go_ret
                        exact ⟨rfl, below_drewN HD5.out.below _⟩
end Go.Proofs.Ybulkdxik

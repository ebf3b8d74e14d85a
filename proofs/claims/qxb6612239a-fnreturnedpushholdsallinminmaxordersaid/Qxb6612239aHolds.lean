/-
  The first law's walk: what was pushed is held, laid out as a min-max heap.
-/
import Derived.Test.Qxb6612239aOrder
set_option linter.unusedVariables false
namespace Go.Proofs.Qxb6612239a
open Go.RowKit

theorem info2 : (Try.prog.info? 2).map (fun i => (i.zero, i.size, i.bytes)) = some (some (.int .i64 0), 1, 8) := by kernel_rfl

theorem take_succ_at0 (zl : List Int) (j : Nat) (hj : j < zl.length) : zl.take (j + 1) = zl.take j ++ [at0 zl j] := by
  unfold at0
  rw [List.getD_eq_getElem?_getD, List.take_add_one, List.getElem?_eq_getElem hj]
  rfl

set_option maxRecDepth 100000 in
set_option maxHeartbeats 1600000 in
theorem holds_core (a : Option Addr) (len cap : Nat) (zl : List Int) (w : World) (hl : zl.length = len) (hm : len ≤ maxLen)
    (hc : ∀ i, i < len → ∃ x, a = some x ∧ w.cell? (x.add i) = some (.int .i64 (at0 zl i))) (hi : ∀ z ∈ zl, I64 z) :
    Calls Try.prog 3 #[.slice a len cap] w fun e w' => e = .returned (.bool true) ∧ Below w.heap.size w w' := by
  have HB := bytes5 a len cap w hm
  have HC : Hid (∀ i, i < len → ∃ x, a = some x ∧ w.cell? (x.add i) = some (.int .i64 (at0 zl i))) := hc
  have HI : Hid (∀ z ∈ zl, I64 z) := hi
  have HZ : Hid (zl.length = len) := hl
  clear hc hi hl
  by_cases h1 : len ≤ 1048576
  · have hd : decide (len ≤ 1048576) = true := by simpa using h1
    rw [hd] at HB
    clear hd
    by_cases h2 : (len : Int) > 4096
    · go_enter Try.func3, Try.ntmps3
      go_wp2_with fail
      refine HB.mono ?_
      rintro e w' ⟨rfl, rfl⟩
      clear HB
      go_wp2
      go_ret
      exact ⟨rfl, Below.refl _ _⟩
    · have hlen : len ≤ 4096 := by omega
      clear h1 hm
      go_enter Try.func3, Try.ntmps3
      go_wp2_with fail
      refine HB.mono ?_
      rintro e w' ⟨rfl, rfl⟩
      clear HB
      go_wp2_with fail
      refine (new_calls _).mono ?_
      rintro e w1 ⟨rfl, hb1, hp1⟩
      generalize hB : w'.heap.size = B at *
      have HBB : Hid (w'.heap.size = B) := hB
      clear hB
      go_wp2_with fail
      go_loopw [4] (fun s4 wr => ∃ (j : Nat) (zs : List Int), j ≤ len ∧ s4 = .int .i64 j ∧ Hid (zs.length = j) ∧ Hp B wr B zs ∧ Below B w' wr ∧ Hid (MM zs) ∧ Hid (zs.Perm (zl.take j))) (fun s4 _ => len - (intOf s4).toNat)
      case atStart => exact ⟨0, [], Nat.zero_le _, rfl, (show Hid _ from rfl), hp1, hb1, (show Hid _ from mm_nil), (show Hid _ from List.Perm.refl [])⟩
      case round =>
        clear hb1 hp1 w1
        obtain ⟨j, zs, hj, rfl, HL, hp, hb, HM, HP⟩ := hrel
        by_cases hlt : j < len
        · obtain ⟨x, rfl, cx0⟩ := HC.out j hlt
          have cx : wr.cell? (x.add j) = some (.int .i64 (at0 zl j)) := by
            rw [← cx0]
            exact hb.cell (by rw [← HBB.out]; exact World.block_lt_of_cell? w' _ cx0)
          have hX : I64 (at0 zl j) := HI.out _ (at0_mem _ _ (by rw [HZ.out]; exact hlt))
          have HT : Hid (zl.take (j + 1) = zl.take j ++ [at0 zl j]) := take_succ_at0 zl j (by rw [HZ.out]; exact hlt)
          clear cx0 HC
          generalize at0 zl j = v at *
          have hlt' : (j : Int) < (len : Int) := by omega
          have Lp : Hid ((pushZ zs v).length = j + 1) := by show _ = _; rw [pushZ_length, HL.out]
          have Mp : Hid (MM (pushZ zs v)) := pushZ_mm zs v HM.out
          have Pp : Hid ((pushZ zs v).Perm (zl.take (j + 1))) := by
            show List.Perm _ _
            rw [HT.out]
            exact (pushZ_perm zs v).trans (HP.out.append_right _)
          have hn : zs.length ≤ 100000 := by rw [HL.out]; omega
          have HPU := zzpush_calls hp v hX hn
          clear hX hn HM HL hp HP HT
          go_wp2_with fail
          refine HPU.mono ?_
          rintro e w2 ⟨rfl, hb2, hp2⟩
          clear HPU
          have hb3 := hb.trans hb2
          clear cx hb hb2
          go_wp2
          go_round
          case rel =>
            go_light
            exact ⟨j + 1, pushZ zs v, by omega, by go_num, Lp, hp2, hb3, Mp, Pp⟩
          case measure => simp [intOf]; omega
        · have hlt' : ¬ (j : Int) < (len : Int) := by omega
          have hjl : j = len := by omega
          subst hjl
          have HP' : Hid (zs.Perm zl) := by
            have := HP.out
            rwa [List.take_of_length_le (by rw [HZ.out]; exact Nat.le_refl _)] at this
          clear HP hj hlt
          have HLN := len_calls hp (by rw [HL.out]; omega)
          rw [HL.out] at HLN
          go_wp2_with fail
          refine HLN.mono ?_
          rintro e w3 ⟨rfl, rfl⟩
          clear HLN
          have hmk := fun w => run_make_row' (P := Try.prog) 22 2 (.int .i64 0) 8 Try.underlying22 info2 rfl .i64 .i64 j (by omega) (by omega) w
          go_wp2_with fail
          have hrow := World.rowIs_made w3 (.int .i64 0) j 2
          have hbm : Below w3.heap.size w3 (w3.alloc (.cells (madeCells #[.int .i64 0] j) 2)) := (Below.refl _ _).alloc (Nat.le_refl _) _
          have hHB : B < w3.heap.size := hp.lt
          generalize w3.alloc (.cells (madeCells #[.int .i64 0] j) 2) = w4 at *
          generalize hH : w3.heap.size = H at *
          have HH : Hid (w3.heap.size = H) := hH
          clear hH hmk
          go_loopw [7] (fun s7 wr => ∃ (k : Nat), k ≤ j ∧ s7 = .int .i64 k ∧ Below H w3 wr ∧ ∃ f, wr.rowIs H 2 j f ∧ ∀ i, i < k → f i = .int .i64 (at0 zs i)) (fun s7 _ => j - (intOf s7).toNat)
          case atStart => exact ⟨0, Nat.zero_le _, rfl, hbm, _, hrow, fun i hi => by omega⟩
          case round =>
            clear hrow hbm w4
            obtain ⟨k, hk, rfl, hbk, f, hf, hfF⟩ := hrel
            have hpk := hp.below (w' := wr) (by rw [HH.out]; exact hbk)
            by_cases hlt : k < j
            · have hlt' : (k : Int) < (j : Int) := by omega
              have HAT := at_calls hpk k (by rw [HL.out]; exact hlt) (by rw [HL.out]; omega) (HI.out _ (HP'.out.mem_iff.1 (at0_mem _ _ (by rw [HL.out]; exact hlt))))
              have HF : Hid (∀ i, i < k → f i = .int .i64 (at0 zs i)) := hfF
              clear hfF
              obtain ⟨y, hy⟩ : ∃ y, at0 zs k = y := ⟨_, rfl⟩
              have HY : Hid (at0 zs k = y) := hy
              rw [hy] at HAT
              clear hy
              go_wp2_with fail
              refine HAT.mono ?_
              rintro e w5 ⟨rfl, hb5⟩
              clear HAT
              have hf5 : w5.rowIs H 2 j f := World.rowIs.of_block hf (hb5.block _ hf.lt)
              have c5 := hf5.cell hlt
              have z5 := hf5.frozen k
              have hs := hf.lt
              have hb6 : Below H w3 w5 := hbk.trans (hb5.mono (by omega))
              go_wp2
              go_round
              case rel =>
                go_light
                refine ⟨k + 1, by omega, by go_num, hb6.setCell (Nat.le_refl _) _, _, hf5.set k _, ?_⟩
                intro i hi
                by_cases e : i = k
                · subst e; simp [HY.out]
                · simp only [if_neg e]; exact HF.out i (by omega)
              case measure => simp [intOf]; omega
            · have hlt' : ¬ (k : Int) < (j : Int) := by omega
              have hkj : k = j := by omega
              subst hkj
              have hG : Ir wr H zs := by
                unfold Ir
                rw [HL.out]
                exact hf.congr (fun i hi => hfF i hi)
              clear hf hfF hk hlt hpk hp
              go_wp2_with fail
              go_loopw [8] (fun s8 wr => ∃ (i : Nat), 1 ≤ i ∧ (i ≤ k ∨ i = 1) ∧ s8 = .int .i64 i ∧ Below H w3 wr ∧ Ir wr H zs) (fun s8 _ => k - (intOf s8).toNat)
              case atStart => exact ⟨1, Nat.le_refl _, .inr rfl, rfl, hbk, hG⟩
              case round =>
                clear hbk hG
                obtain ⟨i, hi1, hik, rfl, hbi, hG⟩ := hrel
                have hHs : H < wr.heap.size := World.rowIs.lt hG
                by_cases hlt : i < k
                · have hlt' : (i : Int) < (k : Int) := by omega
                  obtain ⟨p, hp⟩ : ∃ p, (i - 1) / 2 = p := ⟨_, rfl⟩
                  have q1 : ((i : Int) - 1).tdiv 2 = (p : Int) := by rw [Int.tdiv_eq_ediv_of_nonneg (by omega)]; omega
                  have hpi : p < i := by omega
                  have ai : Anc p i := by rw [← hp]; exact .par (by omega)
                  have HO1 := inOrder_calls hG (by rw [HL.out]; omega) p i (by rw [HL.out]; omega) (by rw [HL.out]; omega) (HM.out p i (by rw [HL.out]; omega) ai)
                  rw [HL.out] at HO1
                  by_cases hp0 : 0 < p
                  · have hp0' : (0 : Int) < (p : Int) := by omega
                    obtain ⟨r, hr⟩ : ∃ r, (p - 1) / 2 = r := ⟨_, rfl⟩
                    have q2 : ((p : Int) - 1).tdiv 2 = (r : Int) := by rw [Int.tdiv_eq_ediv_of_nonneg (by omega)]; omega
                    have ap : Anc r p := by rw [← hr]; exact .par (by omega)
                    have hri : r < i := by omega
                    have HO2 := fun w5 (hb : Below wr.heap.size wr w5) => inOrder_calls (hG.below hb) (by rw [HL.out]; omega) r i (by rw [HL.out]; omega) (by rw [HL.out]; omega) (HM.out r i (by rw [HL.out]; omega) (ap.trans ai))
                    rw [HL.out] at HO2
                    clear hp hr
                    go_wp2_with fail
                    refine HO1.mono ?_
                    rintro e w5 ⟨rfl, hb5⟩
                    clear HO1
                    go_wp2_with fail
                    refine (HO2 _ hb5).mono ?_
                    rintro e w6 ⟨rfl, hb6⟩
                    clear HO2
                    have hs5 := hb5.size
                    have hG6 : Ir w6 H zs := (hG.below hb5).below hb6
                    have hbi6 : Below H w3 w6 := (hbi.trans (hb5.mono (by omega))).trans (hb6.mono (by omega))
                    go_wp2
                    go_round
                    case rel =>
                      go_light
                      exact ⟨i + 1, by omega, by omega, by go_num, hbi6, hG6⟩
                    case measure => simp [intOf]; omega
                  · have hp0' : ¬ (0 : Int) < (p : Int) := by omega
                    clear hp
                    go_wp2_with fail
                    refine HO1.mono ?_
                    rintro e w5 ⟨rfl, hb5⟩
                    clear HO1
                    have hG5 : Ir w5 H zs := hG.below hb5
                    have hbi5 : Below H w3 w5 := hbi.trans (hb5.mono (by omega))
                    go_wp2
                    go_round
                    case rel =>
                      go_light
                      exact ⟨i + 1, by omega, by omega, by go_num, hbi5, hG5⟩
                    case measure => simp [intOf]; omega
                · have hlt' : ¬ (i : Int) < (k : Int) := by omega
                  clear hlt hik hi1
                  have hmk := fun w => run_make_row' (P := Try.prog) 22 2 (.int .i64 0) 8 Try.underlying22 info2 rfl .i64 .i64 k (by omega) (by omega) w
                  go_wp2_with fail
                  have hrow := World.rowIs_made wr (.int .i64 0) k 2
                  have hbm : Below H w3 (wr.alloc (.cells (madeCells #[.int .i64 0] k) 2)) := hbi.alloc (by omega) _
                  have hGm : Ir (wr.alloc (.cells (madeCells #[.int .i64 0] k) 2)) H zs := World.rowIs.alloc hG _
                  generalize wr.alloc (.cells (madeCells #[.int .i64 0] k) 2) = w4 at *
                  generalize wr.heap.size = M at *
                  clear hmk hbi hG
                  go_loopw [11] (fun s11 wr => ∃ (q : Nat), q ≤ k ∧ s11 = .int .i64 q ∧ Below H w3 wr ∧ Ir wr H zs ∧ ∃ f, wr.rowIs M 2 k f ∧ ∀ i, i < q → f i = .int .i64 (at0 zl i)) (fun s11 _ => k - (intOf s11).toNat)
                  case atStart => exact ⟨0, Nat.zero_le _, rfl, hbm, hGm, _, hrow, fun i hi => by omega⟩
                  case round =>
                    clear hrow hbm hGm w4
                    obtain ⟨q, hq, rfl, hbq, hGq, f, hf, hfF⟩ := hrel
                    by_cases hlt : q < k
                    · have hlt' : (q : Int) < (k : Int) := by omega
                      obtain ⟨x, rfl, cx0⟩ := HC.out q hlt
                      have cx : wr.cell? (x.add q) = some (.int .i64 (at0 zl q)) := by
                        rw [← cx0]
                        exact (hb.trans (hbq.mono (by omega))).cell (by rw [← HBB.out]; exact World.block_lt_of_cell? w' _ cx0)
                      have HF : Hid (∀ i, i < q → f i = .int .i64 (at0 zl i)) := hfF
                      obtain ⟨y, hy⟩ : ∃ y, at0 zl q = y := ⟨_, rfl⟩
                      have HY : Hid (at0 zl q = y) := hy
                      rw [hy] at cx
                      clear hy hfF cx0 HC
                      have c5 := hf.cell hlt
                      have z5 := hf.frozen q
                      go_wp2
                      go_round
                      case rel =>
                        go_light
                        refine ⟨q + 1, by omega, by go_num, hbq.setCell (show H ≤ M by omega) _, World.rowIs.setOther hGq (show H ≠ M by omega) _, _, hf.set q _, ?_⟩
                        intro i hi
                        by_cases e : i = q
                        · subst e; simp [HY.out]
                        · simp only [if_neg e]; exact HF.out i (by omega)
                      case measure => simp [intOf]; omega
                    · have hlt' : ¬ (q : Int) < (k : Int) := by omega
                      have hWt : Ir wr M zl := by
                        unfold Ir
                        rw [HZ.out]
                        exact hf.congr (fun i hi => hfF i (by omega))
                      clear hf hfF hlt hq
                      have HS1 := sort_calls hWt (by rw [HZ.out]; omega)
                      rw [HZ.out] at HS1
                      go_wp2_with fail
                      refine HS1.mono ?_
                      rintro e w5 ⟨rfl, hg5, ys, hY5, PY, SY⟩
                      clear HS1
                      have hM5 : H ≠ M := by omega
                      have hG5 : Ir w5 H zs := hGq.grown hg5 hM5
                      have hlt5 : H < w5.heap.size := World.rowIs.lt hG5
                      have hb5 : Below H w3 w5 := hbq.grown hg5 (by have := World.rowIs.lt hGq; omega) (by rintro r e; injection e with e; omega)
                      have HS2 := sort_calls hG5 (by rw [HL.out]; omega)
                      rw [HL.out] at HS2
                      go_wp2_with fail
                      refine HS2.mono ?_
                      rintro e w6 ⟨rfl, hg6, xs, hX6, PX, SX⟩
                      clear HS2
                      have hY6 : Ir w6 M ys := hY5.grown hg6 (Ne.symm hM5)
                      have hb6 : Below H w3 w6 := hb5.grown hg6 (by omega) (by rintro r e; injection e with e; omega)
                      have hxy : xs = ys := sorted_eq (PX.trans (HP'.out.trans PY.symm)) SX SY
                      subst hxy
                      have HX : Hid (xs.length = k) := by show _ = _; rw [PX.length_eq]; exact HL.out
                      clear PX PY SX SY hY5 hG5 hGq hWt hb5 hg5 hg6 hbq
                      have hbw : Below B w' w6 := hb.trans (hb6.mono (by omega))
                      go_wp2_with fail
                      go_loopw [12] (fun s12 wr => ∃ (r : Nat), r ≤ k ∧ s12 = .int .i64 r ∧ Below B w' wr ∧ Ir wr H xs ∧ Ir wr M xs) (fun s12 _ => k - (intOf s12).toNat)
                      case atStart => exact ⟨0, Nat.zero_le _, rfl, hbw, hX6, hY6⟩
                      case round =>
                        clear hbw hX6 hY6 hb6
                        obtain ⟨r, hr, rfl, hbr, hXr, hYr⟩ := hrel
                        by_cases hlt : r < k
                        · have hlt' : (r : Int) < (k : Int) := by omega
                          have c1 := hXr.cell r (by rw [HX.out]; exact hlt)
                          have c2 := hYr.cell r (by rw [HX.out]; exact hlt)
                          generalize at0 xs r = y at *
                          go_wp2_with fail
                          go_quiet (fail)
                          go_wp2
                          go_round
                          case rel =>
                            go_light
                            exact ⟨r + 1, by omega, by go_num, ⟨hbr.os, hbr.tape, hbr.output, hbr.size, hbr.block⟩, hXr.drewN _, hYr.drewN _⟩
                          case measure => simp [intOf]; omega
                        · have hlt' : ¬ (r : Int) < (k : Int) := by omega
                          go_wp2
                          go_ret
                          exact ⟨rfl, by rw [HBB.out]; exact hbr⟩
  · have hd : decide (len ≤ 1048576) = false := by simpa using h1
    rw [hd] at HB
    clear hd h1
    go_enter Try.func3, Try.ntmps3
    go_wp2_with fail
    refine HB.mono ?_
    rintro e w' ⟨rfl, rfl⟩
    clear HB
    go_wp2
    go_ret
    exact ⟨rfl, Below.refl _ _⟩
end Go.Proofs.Qxb6612239a

/-
  The second law's walk: after each push the heap's earliest and latest are the least and the greatest.
-/
import Derived.Test.Qxb6612239aHands
import Derived.OpenShut
import Derived.Deep.Light
set_option linter.unusedVariables false
namespace Go.Proofs.Qxb6612239a
open Go.RowKit

/-! ### The plain law -/
theorem at0_mem (zs : List Int) (k : Nat) (hk : k < zs.length) : at0 zs k ∈ zs := by
  unfold at0
  rw [List.getD_eq_getElem?_getD, List.getElem?_eq_getElem hk]
  exact List.getElem_mem hk
theorem mem_at0 (zs : List Int) (z : Int) (h : z ∈ zs) : ∃ k, k < zs.length ∧ at0 zs k = z := by
  obtain ⟨k, hk, e⟩ := List.getElem_of_mem h
  refine ⟨k, hk, ?_⟩
  unfold at0
  rw [List.getD_eq_getElem?_getD, List.getElem?_eq_getElem hk, Option.getD_some, e]

theorem least_push (zs : List Int) (z : Int) (h : MM zs) : at0 (pushZ zs z) 0 = if zs.length = 0 ∨ z < at0 zs 0 then z else at0 zs 0 := by
  have hp := pushZ_perm zs z
  have hl := pushZ_length zs z
  have hm := pushZ_mm zs z h
  have h1 : ∀ y ∈ zs ++ [z], at0 (pushZ zs z) 0 ≤ y := by
    intro y hy
    obtain ⟨k, hk, rfl⟩ := mem_at0 _ _ (hp.mem_iff.2 hy)
    exact mm_least _ hm k hk
  have h2 : at0 (pushZ zs z) 0 ∈ zs ++ [z] := hp.mem_iff.1 (at0_mem _ _ (by omega))
  have h3 := h1 z (by simp)
  rcases List.mem_append.1 h2 with k | k
  · obtain ⟨j, hj, e⟩ := mem_at0 _ _ k
    have k1 := mm_least zs h j hj
    have k2 := h1 (at0 zs 0) (List.mem_append.2 (.inl (at0_mem _ _ (by omega))))
    rw [if_neg (by omega)]
    omega
  · have k' : at0 (pushZ zs z) 0 = z := by simpa using k
    split
    · exact k'
    · rename_i hh
      have k2 := h1 (at0 zs 0) (List.mem_append.2 (.inl (at0_mem _ _ (by omega))))
      omega

theorem greatest_push (zs : List Int) (z : Int) (h : MM zs) : at0 (pushZ zs z) (latest (pushZ zs z)) = if zs.length = 0 ∨ at0 zs (latest zs) < z then z else at0 zs (latest zs) := by
  have hp := pushZ_perm zs z
  have hl := pushZ_length zs z
  have hm := pushZ_mm zs z h
  have h1 : ∀ y ∈ zs ++ [z], y ≤ at0 (pushZ zs z) (latest (pushZ zs z)) := by
    intro y hy
    obtain ⟨k, hk, rfl⟩ := mem_at0 _ _ (hp.mem_iff.2 hy)
    exact mm_greatest _ hm k hk
  have h2 : at0 (pushZ zs z) (latest (pushZ zs z)) ∈ zs ++ [z] := hp.mem_iff.1 (at0_mem _ _ (latest_lt _ (by omega)))
  have h3 := h1 z (by simp)
  rcases List.mem_append.1 h2 with k | k
  · obtain ⟨j, hj, e⟩ := mem_at0 _ _ k
    have k1 := mm_greatest zs h j hj
    have k2 := h1 (at0 zs (latest zs)) (List.mem_append.2 (.inl (at0_mem _ _ (latest_lt _ (by omega)))))
    rw [if_neg (by omega)]
    omega
  · have k' : at0 (pushZ zs z) (latest (pushZ zs z)) = z := by simpa using k
    split
    · exact k'
    · rename_i hh
      have k2 := h1 (at0 zs (latest zs)) (List.mem_append.2 (.inl (at0_mem _ _ (latest_lt _ (by omega)))))
      omega

/-! ### The walk -/
theorem bytes12 (a : Option Addr) (len cap : Nat) (w : World) (hm : len ≤ maxLen) :
    Calls Try.prog 12 #[.slice a len cap] w fun e w' => e = .returned (.bool (decide (len ≤ 1048576))) ∧ w' = w := by
  unfold maxLen at hm
  have h63 : (len : Int) ≤ 9223372036854775807 := by omega
  by_cases h : (len : Int) > 1048576
  · have hd : decide (len ≤ 1048576) = false := by simp; omega
    rw [hd]
    go_enter Try.func12, Try.ntmps12
    go_wp2
    go_ret
    exact ⟨rfl, rfl⟩
  · have hd : decide (len ≤ 1048576) = true := by simp; omega
    rw [hd]
    go_enter Try.func12, Try.ntmps12
    go_wp2
    go_ret
    exact ⟨rfl, rfl⟩

set_option maxRecDepth 100000 in
set_option maxHeartbeats 800000 in
theorem tracks_nil (w : World) : Calls Try.prog 4 #[.slice none 0 0] w fun e w' => e = .returned (.bool true) ∧ Below w.heap.size w w' := by
  have HB := bytes12 none 0 0 w (by decide)
  rw [show decide (0 ≤ 1048576) = true from rfl] at HB
  go_enter Try.func4, Try.ntmps4
  go_wp2_with fail
  refine HB.mono ?_
  rintro e w' ⟨rfl, rfl⟩
  clear HB
  go_wp2_with fail
  refine (new_calls _).mono ?_
  rintro e w1 ⟨rfl, hb1, h1⟩
  go_wp2_with fail
  refine wp_loop_rounds 1 ?_
  rw [rounds_succ]
  go_wp2
  go_ret
  exact ⟨rfl, hb1⟩

set_option maxRecDepth 100000 in
set_option maxHeartbeats 800000 in
theorem tracks_some (x : Addr) (len cap : Nat) (z0 : List Int) (w : World) (hl : len ≤ cap) (hm : cap ≤ maxLen) (hz : z0.length = cap)
    (hc : ∀ i, i < z0.length → w.cell? (x.add i) = some (.int .i64 (z0.getD i 0))) (hw : ∀ n ∈ z0, (Lit.int .i64 n).wf = true) :
    Calls Try.prog 4 #[.slice (some x) len cap] w fun e w' => e = .returned (.bool true) ∧ Below w.heap.size w w' := by
  have HB := bytes12 (some x) len cap w (by omega)
  by_cases h1 : len ≤ 1048576
  · have hd : decide (len ≤ 1048576) = true := by simpa using h1
    rw [hd] at HB
    by_cases h2 : (len : Int) > 65536
    · clear hd h1 hc hw
      go_enter Try.func4, Try.ntmps4
      go_wp2_with fail
      refine HB.mono ?_
      rintro e w' ⟨rfl, rfl⟩
      clear HB
      go_wp2
      go_ret
      exact ⟨rfl, Below.refl _ _⟩
    · have HC : Hid (∀ i, i < z0.length → w.cell? (x.add i) = some (.int .i64 (z0.getD i 0))) := hc
      have HW : Hid (∀ n ∈ z0, (Lit.int .i64 n).wf = true) := hw
      clear hd hc hw
      go_enter Try.func4, Try.ntmps4
      go_wp2_with fail
      refine HB.mono ?_
      rintro e w' ⟨rfl, rfl⟩
      clear HB
      go_wp2_with fail
      refine (new_calls _).mono ?_
      rintro e w1 ⟨rfl, hb1, hp1⟩
      generalize hB : w'.heap.size = B at *
      have HBB : Hid (w'.heap.size = B) := hB
      clear hB
      go_wp2_with fail
      go_loopw [4, 5, 6] (fun s4 s5 s6 wr => ∃ (j : Nat) (lo hi : Int) (zs : List Int), j ≤ len ∧ s4 = .int .i64 lo ∧ s5 = .int .i64 hi ∧ s6 = .int .i64 j ∧ Hid (zs.length = j) ∧ Hp B wr B zs ∧ Below B w' wr ∧ Hid (MM zs) ∧ Hid (∀ z ∈ zs, I64 z) ∧ Hid (j ≠ 0 → lo = at0 zs 0 ∧ hi = at0 zs (latest zs)))
        (fun _ _ s6 _ => len - (intOf s6).toNat)
      case atStart => exact ⟨0, 0, 0, [], Nat.zero_le _, rfl, rfl, rfl, (show Hid _ from rfl), hp1, hb1, (show Hid _ from mm_nil), (show Hid _ from by intro z hz; simp at hz), (show Hid _ from fun h => absurd rfl h)⟩
      case round =>
        clear hb1 hp1 w1
        obtain ⟨j, lo, hi, zs, hj, rfl, rfl, rfl, HL, hp, hb, HM, HI, HE⟩ := hrel
        by_cases hlt : j < len
        · have cx : wr.cell? (x.add j) = some (.int .i64 (z0.getD j 0)) := by
            have := HC.out j (by omega)
            rw [← this]
            exact hb.cell (by rw [← HBB.out]; exact World.block_lt_of_cell? w' _ this)
          have hX : I64 (z0.getD j 0) := by
            rw [List.getD_eq_getElem?_getD]
            have := range_i64 HW.out j
            unfold I64
            omega
          generalize z0.getD j 0 = v at *
          have hlt' : (j : Int) < (len : Int) := by omega
          have Lp : Hid ((pushZ zs v).length = j + 1) := by show _ = _; rw [pushZ_length, HL.out]
          have Mp : Hid (MM (pushZ zs v)) := pushZ_mm zs v HM.out
          have Ip : Hid (∀ z ∈ pushZ zs v, I64 z) := by
            intro z hz
            rcases List.mem_append.1 ((pushZ_perm zs v).mem_iff.1 hz) with k | k
            · exact HI.out z k
            · rw [show z = v by simpa using k]; exact hX
          have E1 : (j = 0 ∨ v < lo → at0 (pushZ zs v) 0 = v) ∧ (¬ (j = 0 ∨ v < lo) → at0 (pushZ zs v) 0 = lo) := by
            have k := least_push zs v HM.out
            rw [HL.out] at k
            by_cases h0 : j = 0
            · rw [if_pos (.inl h0)] at k
              exact ⟨fun _ => k, fun h => absurd (.inl h0) h⟩
            · rw [← (HE.out h0).1] at k
              exact ⟨fun h => by rw [k, if_pos h], fun h => by rw [k, if_neg h]⟩
          have E2 : (j = 0 ∨ hi < v → at0 (pushZ zs v) (latest (pushZ zs v)) = v) ∧ (¬ (j = 0 ∨ hi < v) → at0 (pushZ zs v) (latest (pushZ zs v)) = hi) := by
            have k := greatest_push zs v HM.out
            rw [HL.out] at k
            by_cases h0 : j = 0
            · rw [if_pos (.inl h0)] at k
              exact ⟨fun _ => k, fun h => absurd (.inl h0) h⟩
            · rw [← (HE.out h0).2] at k
              exact ⟨fun h => by rw [k, if_pos h], fun h => by rw [k, if_neg h]⟩
          have I1 : Hid (I64 (at0 (pushZ zs v) 0)) := Ip.out _ (at0_mem _ _ (by have := Lp.out; omega))
          have I2 : Hid (I64 (at0 (pushZ zs v) (latest (pushZ zs v)))) := Ip.out _ (at0_mem _ _ (latest_lt _ (by have := Lp.out; omega)))
          have hn : zs.length ≤ 100000 := by rw [HL.out]; omega
          have HPU := zzpush_calls hp v hX hn
          have hBB : B ≤ wr.heap.size := by have := hp.lt; omega
          have hxB : (x.add j).block < B := by rw [← HBB.out]; exact World.block_lt_of_cell? w' _ (HC.out j (by omega))
          clear hX hn HM HI HE HL hp
          generalize hps : pushZ zs v = ps at *
          have HPS : Hid (pushZ zs v = ps) := hps
          clear hps
          go_wp2_with fail
          refine HPU.mono ?_
          rintro e w2 ⟨rfl, hb2, hp2⟩
          clear HPU
          have cx2 : w2.cell? (x.add j) = some (.int .i64 v) := by rw [← cx]; exact hb2.cell hxB
          have hb3 := hb.trans hb2
          clear cx hb hb2 hBB wr
          by_cases h0 : j = 0
          · have hj0 : ((j : Int) == 0) = true := by simp; omega
            have H0 : Hid (j = 0) := h0
            clear h0
            have hl2 : ps.length ≤ 100000 := by rw [Lp.out]; omega
            have h02 : 0 < ps.length := by rw [Lp.out]; omega
            have HLN := len_calls hp2 hl2
            rw [Lp.out, show ((j + 1 : Nat) : Int) = (j : Int) + 1 by omega] at HLN
            have HEA := zzearliest_calls hp2 h02 hl2 I1.out
            have eLO := E1.1 (.inl H0.out)
            have eHI := E2.1 (.inl H0.out)
            have HLA := fun w3 (hb : Below w2.heap.size w2 w3) => zzlatest_calls (hp2.below hb) h02 hl2 I2.out
            rw [eLO] at HEA
            rw [eHI] at HLA
            have HLO : Hid (at0 ps 0 = v) := eLO
            have HHI : Hid (at0 ps (latest ps) = v) := eHI
            clear eLO eHI E1 E2 hl2 h02
            go_wp2_with fail
            refine HLN.mono ?_
            rintro e w3 ⟨rfl, rfl⟩
            clear HLN
            go_wp2_with fail
            refine HEA.mono ?_
            rintro e w3 ⟨rfl, hb4⟩
            clear HEA
            go_wp2_with fail
            refine (HLA _ hb4).mono ?_
            rintro e w4 ⟨rfl, hb5⟩
            clear HLA
            have s4 := hb4.size
            have hp4 := (hp2.below hb4).below hb5
            have hB2 := hp2.lt
            have hb6 : Below B w' w4 := hb3.trans ((hb4.trans (hb5.mono s4)).mono (by omega))
            go_wp2
            go_round
            case rel =>
              go_light
              exact ⟨j + 1, _, _, ps, by omega, rfl, rfl, by go_num, Lp, hp4, hb6, Mp, Ip, (show Hid _ from fun _ => ⟨HLO.out.symm, HHI.out.symm⟩)⟩
            case measure => simp [intOf]; omega
          · have hj0 : ((j : Int) == 0) = false := by simp; omega
            by_cases c1 : v < lo
            · by_cases c2 : hi < v
              · skip
                have hl2 : ps.length ≤ 100000 := by rw [Lp.out]; omega
                have h02 : 0 < ps.length := by rw [Lp.out]; omega
                have HLN := len_calls hp2 hl2
                rw [Lp.out, show ((j + 1 : Nat) : Int) = (j : Int) + 1 by omega] at HLN
                have HEA := zzearliest_calls hp2 h02 hl2 I1.out
                have eLO := E1.1 (.inr c1)
                have eHI := E2.1 (.inr c2)
                have HLA := fun w3 (hb : Below w2.heap.size w2 w3) => zzlatest_calls (hp2.below hb) h02 hl2 I2.out
                rw [eLO] at HEA
                rw [eHI] at HLA
                have HLO : Hid (at0 ps 0 = v) := eLO
                have HHI : Hid (at0 ps (latest ps) = v) := eHI
                clear eLO eHI E1 E2 hl2 h02
                go_wp2_with fail
                refine HLN.mono ?_
                rintro e w3 ⟨rfl, rfl⟩
                clear HLN
                go_wp2_with fail
                refine HEA.mono ?_
                rintro e w3 ⟨rfl, hb4⟩
                clear HEA
                go_wp2_with fail
                refine (HLA _ hb4).mono ?_
                rintro e w4 ⟨rfl, hb5⟩
                clear HLA
                have s4 := hb4.size
                have hp4 := (hp2.below hb4).below hb5
                have hB2 := hp2.lt
                have hb6 : Below B w' w4 := hb3.trans ((hb4.trans (hb5.mono s4)).mono (by omega))
                go_wp2
                go_round
                case rel =>
                  go_light
                  exact ⟨j + 1, _, _, ps, by omega, rfl, rfl, by go_num, Lp, hp4, hb6, Mp, Ip, (show Hid _ from fun _ => ⟨HLO.out.symm, HHI.out.symm⟩)⟩
                case measure => simp [intOf]; omega
              · skip
                have hl2 : ps.length ≤ 100000 := by rw [Lp.out]; omega
                have h02 : 0 < ps.length := by rw [Lp.out]; omega
                have HLN := len_calls hp2 hl2
                rw [Lp.out, show ((j + 1 : Nat) : Int) = (j : Int) + 1 by omega] at HLN
                have HEA := zzearliest_calls hp2 h02 hl2 I1.out
                have eLO := E1.1 (.inr c1)
                have eHI := E2.2 (by omega)
                have HLA := fun w3 (hb : Below w2.heap.size w2 w3) => zzlatest_calls (hp2.below hb) h02 hl2 I2.out
                rw [eLO] at HEA
                rw [eHI] at HLA
                have HLO : Hid (at0 ps 0 = v) := eLO
                have HHI : Hid (at0 ps (latest ps) = hi) := eHI
                clear eLO eHI E1 E2 hl2 h02
                go_wp2_with fail
                refine HLN.mono ?_
                rintro e w3 ⟨rfl, rfl⟩
                clear HLN
                go_wp2_with fail
                refine HEA.mono ?_
                rintro e w3 ⟨rfl, hb4⟩
                clear HEA
                go_wp2_with fail
                refine (HLA _ hb4).mono ?_
                rintro e w4 ⟨rfl, hb5⟩
                clear HLA
                have s4 := hb4.size
                have hp4 := (hp2.below hb4).below hb5
                have hB2 := hp2.lt
                have hb6 : Below B w' w4 := hb3.trans ((hb4.trans (hb5.mono s4)).mono (by omega))
                go_wp2
                go_round
                case rel =>
                  go_light
                  exact ⟨j + 1, _, _, ps, by omega, rfl, rfl, by go_num, Lp, hp4, hb6, Mp, Ip, (show Hid _ from fun _ => ⟨HLO.out.symm, HHI.out.symm⟩)⟩
                case measure => simp [intOf]; omega
            · by_cases c2 : hi < v
              · skip
                have hl2 : ps.length ≤ 100000 := by rw [Lp.out]; omega
                have h02 : 0 < ps.length := by rw [Lp.out]; omega
                have HLN := len_calls hp2 hl2
                rw [Lp.out, show ((j + 1 : Nat) : Int) = (j : Int) + 1 by omega] at HLN
                have HEA := zzearliest_calls hp2 h02 hl2 I1.out
                have eLO := E1.2 (by omega)
                have eHI := E2.1 (.inr c2)
                have HLA := fun w3 (hb : Below w2.heap.size w2 w3) => zzlatest_calls (hp2.below hb) h02 hl2 I2.out
                rw [eLO] at HEA
                rw [eHI] at HLA
                have HLO : Hid (at0 ps 0 = lo) := eLO
                have HHI : Hid (at0 ps (latest ps) = v) := eHI
                clear eLO eHI E1 E2 hl2 h02
                go_wp2_with fail
                refine HLN.mono ?_
                rintro e w3 ⟨rfl, rfl⟩
                clear HLN
                go_wp2_with fail
                refine HEA.mono ?_
                rintro e w3 ⟨rfl, hb4⟩
                clear HEA
                go_wp2_with fail
                refine (HLA _ hb4).mono ?_
                rintro e w4 ⟨rfl, hb5⟩
                clear HLA
                have s4 := hb4.size
                have hp4 := (hp2.below hb4).below hb5
                have hB2 := hp2.lt
                have hb6 : Below B w' w4 := hb3.trans ((hb4.trans (hb5.mono s4)).mono (by omega))
                go_wp2
                go_round
                case rel =>
                  go_light
                  exact ⟨j + 1, _, _, ps, by omega, rfl, rfl, by go_num, Lp, hp4, hb6, Mp, Ip, (show Hid _ from fun _ => ⟨HLO.out.symm, HHI.out.symm⟩)⟩
                case measure => simp [intOf]; omega
              · skip
                have hl2 : ps.length ≤ 100000 := by rw [Lp.out]; omega
                have h02 : 0 < ps.length := by rw [Lp.out]; omega
                have HLN := len_calls hp2 hl2
                rw [Lp.out, show ((j + 1 : Nat) : Int) = (j : Int) + 1 by omega] at HLN
                have HEA := zzearliest_calls hp2 h02 hl2 I1.out
                have eLO := E1.2 (by omega)
                have eHI := E2.2 (by omega)
                have HLA := fun w3 (hb : Below w2.heap.size w2 w3) => zzlatest_calls (hp2.below hb) h02 hl2 I2.out
                rw [eLO] at HEA
                rw [eHI] at HLA
                have HLO : Hid (at0 ps 0 = lo) := eLO
                have HHI : Hid (at0 ps (latest ps) = hi) := eHI
                clear eLO eHI E1 E2 hl2 h02
                go_wp2_with fail
                refine HLN.mono ?_
                rintro e w3 ⟨rfl, rfl⟩
                clear HLN
                go_wp2_with fail
                refine HEA.mono ?_
                rintro e w3 ⟨rfl, hb4⟩
                clear HEA
                go_wp2_with fail
                refine (HLA _ hb4).mono ?_
                rintro e w4 ⟨rfl, hb5⟩
                clear HLA
                have s4 := hb4.size
                have hp4 := (hp2.below hb4).below hb5
                have hB2 := hp2.lt
                have hb6 : Below B w' w4 := hb3.trans ((hb4.trans (hb5.mono s4)).mono (by omega))
                go_wp2
                go_round
                case rel =>
                  go_light
                  exact ⟨j + 1, _, _, ps, by omega, rfl, rfl, by go_num, Lp, hp4, hb6, Mp, Ip, (show Hid _ from fun _ => ⟨HLO.out.symm, HHI.out.symm⟩)⟩
                case measure => simp [intOf]; omega
        · have hlt' : ¬ (j : Int) < (len : Int) := by omega
          go_wp2
          go_ret
          exact ⟨rfl, by rw [HBB.out]; exact hb⟩
  · have hd : decide (len ≤ 1048576) = false := by simpa using h1
    rw [hd] at HB
    clear hd h1 hc hw
    go_enter Try.func4, Try.ntmps4
    go_wp2_with fail
    refine HB.mono ?_
    rintro e w' ⟨rfl, rfl⟩
    clear HB
    go_wp2
    go_ret
    exact ⟨rfl, Below.refl _ _⟩
end Go.Proofs.Qxb6612239a

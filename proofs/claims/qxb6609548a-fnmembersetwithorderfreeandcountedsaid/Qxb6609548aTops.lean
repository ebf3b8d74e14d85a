/-
  The two laws' walks, over numbers.
-/
import Derived.Test.Qxb6609548aBits
import Derived.OpenShut
namespace Go.Proofs.Qxb6609548a
open Go.RowKit

theorem u64_bounds {a : Int} (h : (Lit.int .u64 a).wf = true) : 0 ≤ a ∧ a < 18446744073709551616 := by
  obtain ⟨h0, h1⟩ := bounds_u64 h
  exact ⟨h0, by omega⟩

set_option maxHeartbeats 400000 in
theorem exact_core (x i : Nat) (hx : x < 2 ^ 64) (w : World) :
    Calls Try.prog 3 #[.int .u64 x, .int .i64 i] w fun e w' => e = .returned (.bool true) ∧ Grown w w' := by
  have H5 : Hid _ := with5 x i hx
  have Hx : Hid _ := fun j => has6 x j hx
  have Hr : Hid _ := fun j => has6 (wth x i) j (wth_lt hx i)
  have hr := wth_lt hx i
  go_enter Try.func3, Try.ntmps3
  go_wp2_with fail
  refine (H5.out _).mono ?_
  rintro e w' ⟨rfl, rfl⟩
  clear H5
  go_wp2_with fail
  go_loop [6] (fun k => ∃ j : Nat, j ≤ 64 ∧ k = .int .i64 j) (fun k => 64 - (intOf k).toNat)
  case atStart => exact ⟨0, by omega, rfl⟩
  case round =>
    obtain ⟨j, hj, rfl⟩ := hrel
    by_cases hlt : j < 64
    · have hw := wth_has x i j hlt
      go_wp2_with fail
      refine (Hx.out j _).mono ?_
      rintro e w' ⟨rfl, rfl⟩
      cases hb : hasB x j
      · by_cases e : j = i
        · have eq1 : ((j : Int) == (i : Int)) = true := by simp; omega
          have hwt : Hid (hasB (wth x i) j = true) := by show _ = _; rw [hw, hb]; simp [e]
          clear hw hb e
          go_wp2_with fail
          refine (Hr.out j _).mono ?_
          rintro e w' ⟨rfl, rfl⟩
          rw [hwt.out]
          go_wp2
          go_round
          case rel => exact ⟨j + 1, by omega, by go_num⟩
          case measure => simp [intOf]; omega
        · have eq1 : ((j : Int) == (i : Int)) = false := by simp; omega
          have hwt : Hid (hasB (wth x i) j = false) := by show _ = _; rw [hw, hb]; simp [e]
          clear hw hb e
          go_wp2_with fail
          refine (Hr.out j _).mono ?_
          rintro e w' ⟨rfl, rfl⟩
          rw [hwt.out]
          go_wp2
          go_round
          case rel => exact ⟨j + 1, by omega, by go_num⟩
          case measure => simp [intOf]; omega
      · have hwt : Hid (hasB (wth x i) j = true) := by show _ = _; rw [hw, hb]; simp
        clear hw hb
        go_wp2_with fail
        refine (Hr.out j _).mono ?_
        rintro e w' ⟨rfl, rfl⟩
        rw [hwt.out]
        go_wp2
        go_round
        case rel => exact ⟨j + 1, by omega, by go_num⟩
        case measure => simp [intOf]; omega
    · go_wp2
      go_ret
      exact ⟨rfl, Grown.refl _⟩


set_option maxHeartbeats 1000000 in
theorem counted_core (x i j : Nat) (hx : x < 2 ^ 64) (w : World) :
    Calls Try.prog 4 #[.int .u64 x, .int .i64 i, .int .i64 j] w fun e w' => e = .returned (.bool true) ∧ Grown w w' := by
  have hr := wth_lt hx i
  have hri := wth_lt hr i
  have hrj := wth_lt hr j
  have hj := wth_lt hx j
  have hji := wth_lt hj i
  have H1 : Hid _ := with5 x i hx
  have H2 : Hid _ := with5 (wth x i) i hr
  have H3 : Hid _ := with5 (wth x i) j hr
  have H4 : Hid _ := with5 x j hx
  have H5 : Hid _ := with5 (wth x j) i hj
  have C1 : Hid _ := count7 (wth x i) hr
  have C2 : Hid _ := count7 x hx
  have S1 : Hid _ := has6 x i hx
  have S2 : Hid _ := has6 (wth x i) i hr
  have c1 := cnt_le x 64
  have c2 := cnt_le (wth x i) 64
  have hand : (bits .and .u64 ((wth x i : Nat) : Int) ((x : Nat) : Int)) = (x : Int) := by rw [bits_and_nat _ _ (by omega) (by omega), wth_and]
  have E1 : Hid (wth (wth x i) i = wth x i) := wth_self x i
  have E2 : Hid (wth (wth x i) j = wth (wth x j) i) := wth_comm x i j
  by_cases hi : i < 64
  · have hhas : Hid (hasB (wth x i) i = true) := by show _ = _; unfold hasB; rw [wth_bit]; simp [hi]
    have hc := cnt_wth x i 64 hi
    cases hb : hasB x i
    · have hbit : x.testBit i = false := by have := hb; unfold hasB at this; simpa [hi] using this
      have hcc : Hid (cnt (wth x i) 64 = cnt x 64 + 1) := by show _ = _; rw [hc, if_pos ⟨hi, hbit⟩]
      have HB : Hid (hasB x i = false) := hb
      clear hc hbit hb
      go_enter Try.func4, Try.ntmps4
      go_wp2_with fail
      refine (H1.out _).mono ?_
      rintro e w' ⟨rfl, rfl⟩
      go_wp2_with fail
      refine (S1.out _).mono ?_
      rw [HB.out]
      rintro e w' ⟨rfl, rfl⟩
      go_wp2_with fail
      refine (C1.out _).mono ?_
      rw [hcc.out]
      rintro e w' ⟨rfl, rfl⟩
      go_wp2_with fail
      refine (C2.out _).mono ?_
      rintro e w' ⟨rfl, rfl⟩
      go_wp2_with fail
      refine (S2.out _).mono ?_
      rw [hhas.out]
      rintro e w' ⟨rfl, rfl⟩
      go_wp2_with fail
      refine (H2.out _).mono ?_
      rw [E1.out]
      rintro e w' ⟨rfl, rfl⟩
      go_wp2_with fail
      refine (H1.out _).mono ?_
      rintro e w' ⟨rfl, rfl⟩
      go_wp2_with fail
      refine (H3.out _).mono ?_
      rw [E2.out]
      rintro e w' ⟨rfl, rfl⟩
      go_wp2_with fail
      refine (H4.out _).mono ?_
      rintro e w' ⟨rfl, rfl⟩
      go_wp2_with fail
      refine (H5.out _).mono ?_
      rintro e w' ⟨rfl, rfl⟩
      go_wp2
      go_ret
      exact ⟨rfl, Grown.refl _⟩
    · have hbit : x.testBit i = true := by have := hb; unfold hasB at this; simpa [hi] using this
      have hcc : Hid (cnt (wth x i) 64 = cnt x 64) := by show _ = _; rw [hc, if_neg (by simp [hbit])]; rfl
      have HB : Hid (hasB x i = true) := hb
      clear hc hbit hb
      go_enter Try.func4, Try.ntmps4
      go_wp2_with fail
      refine (H1.out _).mono ?_
      rintro e w' ⟨rfl, rfl⟩
      go_wp2_with fail
      refine (S1.out _).mono ?_
      rw [HB.out]
      rintro e w' ⟨rfl, rfl⟩
      go_wp2_with fail
      refine (C1.out _).mono ?_
      rw [hcc.out]
      rintro e w' ⟨rfl, rfl⟩
      go_wp2_with fail
      refine (C2.out _).mono ?_
      rintro e w' ⟨rfl, rfl⟩
      go_wp2_with fail
      refine (S2.out _).mono ?_
      rw [hhas.out]
      rintro e w' ⟨rfl, rfl⟩
      go_wp2_with fail
      refine (H2.out _).mono ?_
      rw [E1.out]
      rintro e w' ⟨rfl, rfl⟩
      go_wp2_with fail
      refine (H1.out _).mono ?_
      rintro e w' ⟨rfl, rfl⟩
      go_wp2_with fail
      refine (H3.out _).mono ?_
      rw [E2.out]
      rintro e w' ⟨rfl, rfl⟩
      go_wp2_with fail
      refine (H4.out _).mono ?_
      rintro e w' ⟨rfl, rfl⟩
      go_wp2_with fail
      refine (H5.out _).mono ?_
      rintro e w' ⟨rfl, rfl⟩
      go_wp2
      go_ret
      exact ⟨rfl, Grown.refl _⟩
  · have hcc : Hid (cnt (wth x i) 64 = cnt x 64) := cnt_wth_far x i 64 hi
    have d1 : decide ((i : Int) < 64) = false := by simp; omega
    go_enter Try.func4, Try.ntmps4
    go_wp2_with fail
    refine (H1.out _).mono ?_
    rintro e w' ⟨rfl, rfl⟩
    go_wp2_with fail
    refine (C1.out _).mono ?_
    rw [hcc.out]
    rintro e w' ⟨rfl, rfl⟩
    go_wp2_with fail
    refine (C2.out _).mono ?_
    rintro e w' ⟨rfl, rfl⟩
    go_wp2_with fail
    refine (H2.out _).mono ?_
    rw [E1.out]
    rintro e w' ⟨rfl, rfl⟩
    go_wp2_with fail
    refine (H1.out _).mono ?_
    rintro e w' ⟨rfl, rfl⟩
    go_wp2_with fail
    refine (H3.out _).mono ?_
    rw [E2.out]
    rintro e w' ⟨rfl, rfl⟩
    go_wp2_with fail
    refine (H4.out _).mono ?_
    rintro e w' ⟨rfl, rfl⟩
    go_wp2_with fail
    refine (H5.out _).mono ?_
    rintro e w' ⟨rfl, rfl⟩
    go_wp2
    go_ret
    exact ⟨rfl, Grown.refl _⟩

end Go.Proofs.Qxb6609548a

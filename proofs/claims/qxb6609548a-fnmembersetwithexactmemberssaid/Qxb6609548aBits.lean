/-
  memberSet's with, the law's hasMember and countMembers, as plain functions of numbers.
-/
import Derived.Test.Qxb6609548aRows
import Derived.WalkKit
import Derived.WalkSpells
import Derived.WalkLawsBesides
import Derived.ProofKit
import Derived.Laws.Bits64
namespace Go.Proofs.Qxb6609548a
open Go.RowKit

/-! ### The plain functions: no Go in sight -/
/-- s.with(i). -/
def wth (x i : Nat) : Nat := x ||| (if i < 64 then 2 ^ i else 0)
/-- hasMember(x, j). -/
def hasB (x j : Nat) : Bool := decide (j < 64) && x.testBit j
/-- Of the places below n those that are members. -/
def cnt (x : Nat) : Nat → Nat
  | 0 => 0
  | n + 1 => cnt x n + (if x.testBit n then 1 else 0)

theorem two_pow_testBit (i j : Nat) : (2 ^ i).testBit j = decide (i = j) := Nat.testBit_two_pow

theorem wth_lt {x : Nat} (hx : x < 2 ^ 64) (i : Nat) : wth x i < 2 ^ 64 := by
  unfold wth
  split
  · rename_i h
    exact Nat.or_lt_two_pow hx (Nat.pow_lt_pow_right (by decide) h)
  · simpa using hx

theorem wth_bit (x i j : Nat) : (wth x i).testBit j = (x.testBit j || (decide (i < 64) && decide (i = j))) := by
  unfold wth
  rw [Nat.testBit_or]
  split
  · rename_i h
    rw [two_pow_testBit]; simp [h]
  · rename_i h
    simp [h]

theorem wth_has (x i j : Nat) (hj : j < 64) : hasB (wth x i) j = (hasB x j || decide (j = i)) := by
  unfold hasB
  rw [wth_bit]
  by_cases e : i = j
  · subst e; simp [hj]
  · have e' : ¬ j = i := fun h => e h.symm
    simp [e, e']

theorem wth_self (x i : Nat) : wth (wth x i) i = wth x i := by
  unfold wth
  rw [Nat.or_assoc, Nat.or_self]
theorem wth_comm (x i j : Nat) : wth (wth x i) j = wth (wth x j) i := by
  unfold wth
  rw [Nat.or_assoc, Nat.or_assoc]
  congr 1
  exact Nat.or_comm _ _
theorem wth_and (x i : Nat) : wth x i &&& x = x := by
  apply Nat.eq_of_testBit_eq
  intro j
  rw [Nat.testBit_and, wth_bit]
  cases x.testBit j <;> simp

theorem cnt_le (x n : Nat) : cnt x n ≤ n := by
  induction n with
  | zero => exact Nat.le_refl _
  | succ n ih => unfold cnt; split <;> omega

theorem cnt_wth (x i n : Nat) (hi : i < 64) : cnt (wth x i) n = cnt x n + (if i < n ∧ x.testBit i = false then 1 else 0) := by
  induction n with
  | zero => simp [cnt]
  | succ n ih =>
    unfold cnt
    rw [ih, wth_bit]
    by_cases e : i = n
    · subst e
      simp [hi]
      cases x.testBit i <;> simp
    · have h1 : (i < n + 1) ↔ (i < n) := by omega
      simp only [e, decide_false, Bool.and_false, Bool.or_false, h1]
      omega
theorem cnt_wth_far (x i n : Nat) (hi : ¬ i < 64) : cnt (wth x i) n = cnt x n := by
  unfold wth
  rw [if_neg hi]
  simp

theorem bits_or_nat (a b : Nat) (ha : a < 18446744073709551616) (hb : b < 18446744073709551616) : bits .or .u64 (a : Int) (b : Int) = ((a ||| b : Nat) : Int) := by
  have hx : a ||| b < 2 ^ 64 := Nat.or_lt_two_pow (by omega) (by omega)
  have h1 : (BitVec.ofInt 64 (a : Int)).toNat = a := by
    rw [BitVec.ofInt_natCast, BitVec.toNat_ofNat]; exact Nat.mod_eq_of_lt (by omega)
  have h2 : (BitVec.ofInt 64 (b : Int)).toNat = b := by
    rw [BitVec.ofInt_natCast, BitVec.toNat_ofNat]; exact Nat.mod_eq_of_lt (by omega)
  show IntKind.u64.wrap ((BitVec.ofInt 64 (a : Int) ||| BitVec.ofInt 64 (b : Int)).toNat : Int) = _
  rw [BitVec.toNat_or, h1, h2, IntKind.wrap_u64]
  omega
theorem bits_and_nat (a b : Nat) (ha : a < 18446744073709551616) (hb : b < 18446744073709551616) : bits .and .u64 (a : Int) (b : Int) = ((a &&& b : Nat) : Int) := by
  have hx : a &&& b < 2 ^ 64 := Nat.lt_of_le_of_lt Nat.and_le_left ha
  have h1 : (BitVec.ofInt 64 (a : Int)).toNat = a := by
    rw [BitVec.ofInt_natCast, BitVec.toNat_ofNat]; exact Nat.mod_eq_of_lt (by omega)
  have h2 : (BitVec.ofInt 64 (b : Int)).toNat = b := by
    rw [BitVec.ofInt_natCast, BitVec.toNat_ofNat]; exact Nat.mod_eq_of_lt (by omega)
  show IntKind.u64.wrap ((BitVec.ofInt 64 (a : Int) &&& BitVec.ofInt 64 (b : Int)).toNat : Int) = _
  rw [BitVec.toNat_and, h1, h2, IntKind.wrap_u64]
  omega

theorem pow_wrap (i : Nat) (h : i < 64) : IntKind.u64.wrap ((2 : Int) ^ i) = ((2 ^ i : Nat) : Int) := by
  have hp : (2 : Nat) ^ i < 2 ^ 64 := Nat.pow_lt_pow_right (by decide) h
  have e : ((2 : Int) ^ i) = ((2 ^ i : Nat) : Int) := by simp
  rw [e, IntKind.wrap_u64]
  clear e
  generalize (2 : Nat) ^ i = p at *
  omega

theorem bit_test (x i : Nat) (hx : x < 2 ^ 64) : (bits .and .u64 ((x : Int) / 2 ^ i) 1 == 1) = x.testBit i := by
  have e : ((x : Int) / 2 ^ i) = ((x / 2 ^ i : Nat) : Int) := by simp
  have h : x / 2 ^ i < 18446744073709551616 := Nat.lt_of_le_of_lt (Nat.div_le_self _ _) (by omega)
  have e2 := bits_and_nat (x / 2 ^ i) 1 h (by decide)
  rw [e]
  rw [show ((1 : Nat) : Int) = 1 from rfl] at e2
  rw [e2, Nat.testBit_eq_decide_div_mod_eq]
  rw [Nat.and_one_is_mod]
  rw [Bool.eq_iff_iff]
  simp
  omega

/-! ### The walks -/
set_option maxHeartbeats 400000 in
theorem with8 (x i : Nat) (hx : x < 2 ^ 64) (w : World) :
    Calls Try.prog 8 #[.int .u64 x, .int .i64 i] w fun e w' => e = .returned (.int .u64 (wth x i)) ∧ w = w' := by
  by_cases hi : i < 64
  · have e1 := pow_wrap i hi
    have e2 := bits_or_nat x (2 ^ i) (by omega) (by have := Nat.pow_lt_pow_right (a := 2) (by decide) hi; omega)
    have e3 : wth x i = x ||| 2 ^ i := by unfold wth; rw [if_pos hi]
    have E : Hid (bits .or .u64 (x : Int) (IntKind.u64.wrap ((2 : Int) ^ i)) = ((wth x i : Nat) : Int)) := by rw [e3, e1]; exact e2
    clear e1 e2 e3
    go_enter Try.func8, Try.ntmps8
    go_wp2
    go_ret
    exact ⟨congrArg (fun n => Ending.returned (Value.int .u64 n)) E.out, rfl⟩
  · have hmin : min i 64 = 64 := by omega
    have e1 : IntKind.u64.wrap 18446744073709551616 = ((0 : Nat) : Int) := by rw [IntKind.wrap_u64]; rfl
    have e2 := bits_or_nat x 0 (by omega) (by decide)
    have e3 : wth x i = x := by unfold wth; rw [if_neg hi]; simp
    have E : Hid (bits .or .u64 (x : Int) (IntKind.u64.wrap 18446744073709551616) = ((wth x i : Nat) : Int)) := by show _ = _; rw [e3, e1, e2]; simp
    clear e1 e2 e3
    go_enter Try.func8, Try.ntmps8
    go_wp2
    go_ret
    exact ⟨congrArg (fun n => Ending.returned (Value.int .u64 n)) E.out, rfl⟩

set_option maxHeartbeats 400000 in
theorem with5 (x i : Nat) (hx : x < 2 ^ 64) (w : World) :
    Calls Try.prog 5 #[.int .u64 x, .int .i64 i] w fun e w' => e = .returned (.int .u64 (wth x i)) ∧ w = w' := by
  have H := with8 x i hx w
  have hb := wth_lt hx i
  go_enter Try.func5, Try.ntmps5
  go_wp2_with fail
  refine H.mono ?_
  rintro e w' ⟨rfl, rfl⟩
  clear H
  go_wp2
  go_ret
  exact ⟨rfl, rfl⟩

set_option maxHeartbeats 400000 in
theorem has6 (x j : Nat) (hx : x < 2 ^ 64) (w : World) :
    Calls Try.prog 6 #[.int .u64 x, .int .i64 j] w fun e w' => e = .returned (.bool (hasB x j)) ∧ w = w' := by
  by_cases hj : j < 64
  · have e1 := bit_test x j hx
    have E : Hid ((bits .and .u64 ((x : Int) / 2 ^ j) 1 == 1) = hasB x j) := by show _ = _; rw [e1]; unfold hasB; simp [hj]
    clear e1
    have d0 : decide ((j : Int) < 0) = false := by simp
    have d1 : decide ((64 : Int) ≤ (j : Int)) = false := by simp; omega
    go_enter Try.func6, Try.ntmps6
    go_wp2
    go_ret
    exact ⟨congrArg (fun n => Ending.returned (Value.bool n)) E.out, rfl⟩
  · have E : Hid (hasB x j = false) := by show _ = _; unfold hasB; simp [hj]
    have d0 : decide ((j : Int) < 0) = false := by simp
    have d1 : decide ((64 : Int) ≤ (j : Int)) = true := by simp; omega
    go_enter Try.func6, Try.ntmps6
    go_wp2
    go_ret
    rw [E.out]
    exact ⟨rfl, rfl⟩

set_option maxHeartbeats 400000 in
theorem count7 (x : Nat) (hx : x < 2 ^ 64) (w : World) :
    Calls Try.prog 7 #[.int .u64 x] w fun e w' => e = .returned (.int .i64 (cnt x 64)) ∧ w = w' := by
  go_enter Try.func7, Try.ntmps7
  go_wp2
  go_loop [3, 4] (fun n k => ∃ j : Nat, j ≤ 64 ∧ k = .int .i64 j ∧ n = .int .i64 (cnt x j)) (fun _ k => 64 - (intOf k).toNat)
  case atStart => exact ⟨0, by omega, rfl, rfl⟩
  case round =>
    obtain ⟨j, hj, rfl, rfl⟩ := hrel
    have hc := cnt_le x j
    by_cases hlt : j < 64
    · have e1 := bit_test x j hx
      cases hb : x.testBit j
      · have hq : (bits .and .u64 ((x : Int) / 2 ^ j) 1 == 1) = false := e1.trans hb
        have HB : Hid (x.testBit j = false) := hb
        clear e1 hb
        go_wp2
        go_round
        case rel => exact ⟨j + 1, by omega, by go_num, by rw [show cnt x (j + 1) = cnt x j from by simp [cnt, HB.out]]⟩
        case measure => simp [intOf]; omega
      · have hq : (bits .and .u64 ((x : Int) / 2 ^ j) 1 == 1) = true := e1.trans hb
        have HB : Hid (x.testBit j = true) := hb
        clear e1 hb
        go_wp2
        go_round
        case rel => exact ⟨j + 1, by omega, by go_num, by rw [show cnt x (j + 1) = cnt x j + 1 from by simp [cnt, HB.out]]; go_num⟩
        case measure => simp [intOf]; omega
    · go_wp2
      go_ret
      have e : j = 64 := by omega
      subst e
      exact ⟨rfl, rfl⟩

end Go.Proofs.Qxb6609548a

/-
  package time's own functions at the times that the program makes: no monotonic reading, no place.
-/
import Derived.Test.Qxb6612239aRows
import Derived.WalkKit
import Derived.WalkSpells
import Derived.WalkLawsBesides
import Derived.ProofKit
import Derived.Laws.Bits64
import Derived.Below
import Derived.Deep.RegionHeld3
import Derived.Deep.DrawnRows
import Derived.Deep.RegionLaw
import Derived.Deep.CutBlock
set_option linter.unusedVariables false
namespace Go.Proofs.Qxb6612239a
open Go.RowKit

/-! ### Bits -/
theorem bits_and_nat (a b : Nat) (ha : a < 18446744073709551616) (hb : b < 18446744073709551616) : bits .and .u64 (a : Int) (b : Int) = ((a &&& b : Nat) : Int) := by
  have hx : a &&& b < 2 ^ 64 := Nat.and_lt_two_pow a (by omega)
  have h1 : (BitVec.ofInt 64 (a : Int)).toNat = a := by
    rw [BitVec.ofInt_natCast, BitVec.toNat_ofNat]; exact Nat.mod_eq_of_lt (by omega)
  have h2 : (BitVec.ofInt 64 (b : Int)).toNat = b := by
    rw [BitVec.ofInt_natCast, BitVec.toNat_ofNat]; exact Nat.mod_eq_of_lt (by omega)
  show IntKind.u64.wrap ((BitVec.ofInt 64 (a : Int) &&& BitVec.ofInt 64 (b : Int)).toNat : Int) = _
  rw [BitVec.toNat_and, h1, h2, IntKind.wrap_u64]
  omega
theorem bits_or_nat (a b : Nat) (ha : a < 18446744073709551616) (hb : b < 18446744073709551616) : bits .or .u64 (a : Int) (b : Int) = ((a ||| b : Nat) : Int) := by
  have hx : a ||| b < 2 ^ 64 := Nat.or_lt_two_pow (by omega) (by omega)
  have h1 : (BitVec.ofInt 64 (a : Int)).toNat = a := by
    rw [BitVec.ofInt_natCast, BitVec.toNat_ofNat]; exact Nat.mod_eq_of_lt (by omega)
  have h2 : (BitVec.ofInt 64 (b : Int)).toNat = b := by
    rw [BitVec.ofInt_natCast, BitVec.toNat_ofNat]; exact Nat.mod_eq_of_lt (by omega)
  show IntKind.u64.wrap ((BitVec.ofInt 64 (a : Int) ||| BitVec.ofInt 64 (b : Int)).toNat : Int) = _
  rw [BitVec.toNat_or, h1, h2, IntKind.wrap_u64]
  omega
theorem mask30 (n : Nat) (hn : n < 1000000000) : bits .and .u64 (n : Int) 1073741823 = (n : Int) := by
  have h := bits_and_nat n 1073741823 (by omega) (by omega)
  rw [show n &&& 1073741823 = n % 2 ^ 30 from Nat.and_two_pow_sub_one_eq_mod n 30, Nat.mod_eq_of_lt (by omega)] at h
  exact h
theorem noMono (n : Nat) (hn : n < 1000000000) : bits .and .u64 (n : Int) 9223372036854775808 = 0 := by
  have h := bits_and_nat n 9223372036854775808 (by omega) (by omega)
  have e : n &&& 9223372036854775808 = 0 := by
    apply Nat.eq_of_testBit_eq
    intro j
    rw [Nat.testBit_and, show (9223372036854775808 : Nat) = 2 ^ 63 from rfl, Nat.testBit_two_pow, Nat.zero_testBit]
    by_cases hj : 63 = j
    · subst hj
      rw [Nat.testBit_lt_two_pow (Nat.lt_of_lt_of_le hn (by decide))]
      rfl
    · simp [hj]
  rw [e] at h
  exact h
theorem noMono2 (n m : Nat) (hn : n < 1000000000) (hm : m < 1000000000) : bits .and .u64 (bits .and .u64 (n : Int) (m : Int)) 9223372036854775808 = 0 := by
  rw [bits_and_nat n m (by omega) (by omega)]
  exact noMono _ (Nat.lt_of_le_of_lt Nat.and_le_left hn)

/-- A time of no monotonic reading and no place. -/
def T (n : Nat) (s : Int) : Value := .agg #[.int .u64 n, .int .i64 s, .pointer none]

set_option maxRecDepth 100000 in
theorem nsec_calls (b n : Nat) (w : World) (hn : n < 1000000000) (hc : w.cell? ⟨b, 0, none⟩ = some (.int .u64 n)) :
    Calls Try.prog 23 #[.pointer (some ⟨b, 0, none⟩)] w fun e w' => e = .returned (.int .i32 n) ∧ w' = w := by
  have hm := mask30 n hn
  go_enter Try.func23, Try.ntmps23
  go_wp2
  go_ret
  exact ⟨rfl, rfl⟩

set_option maxRecDepth 100000 in
theorem sec_calls (b n : Nat) (s : Int) (w : World) (hn : n < 1000000000) (hc : w.cell? ⟨b, 0, none⟩ = some (.int .u64 n)) (hs : w.cell? ⟨b, 1, none⟩ = some (.int .i64 s)) :
    Calls Try.prog 27 #[.pointer (some ⟨b, 0, none⟩)] w fun e w' => e = .returned (.int .i64 s) ∧ w' = w := by
  have hm := noMono n hn
  go_enter Try.func27, Try.ntmps27
  go_wp2
  go_ret
  exact ⟨rfl, rfl⟩


set_option maxRecDepth 100000 in
theorem addSec_calls (b n : Nat) (d : Int) (w : World) (hn : n < 1000000000) (hc : w.cell? ⟨b, 0, none⟩ = some (.int .u64 n)) (hs : w.cell? ⟨b, 1, none⟩ = some (.int .i64 0)) (hf : w.frozen? ⟨b, 1, none⟩ = false)
    (hd : -9223372036854775808 ≤ d ∧ d < 9223372036854775808) :
    Calls Try.prog 24 #[.pointer (some ⟨b, 0, none⟩), .int .i64 d] w fun e w' => e = .returned (.tuple #[]) ∧ w' = w.setCell ⟨b, 1, none⟩ (.int .i64 d) := by
  have hm := noMono n hn
  have hw : IntKind.i64.wrap d = d := by rw [IntKind.wrap_i64]; omega
  go_enter Try.func24, Try.ntmps24
  go_wp2
  go_end0
  exact ⟨rfl, rfl⟩

set_option maxRecDepth 100000 in
theorem equal_calls (n m : Nat) (s u : Int) (w : World) (hn : n < 1000000000) (hm : m < 1000000000) (E : s = u ∧ n = m) :
    Calls Try.prog 28 #[T n s, T m u] w fun e w' => e = .returned (.bool true) ∧ Below w.heap.size w w' := by
  obtain ⟨rfl, rfl⟩ := E
  have hmm := noMono2 n n hn hm
  have h1 := noMono n hn
  have h3 := mask30 n hn
  have hB : Below w.heap.size w ((w.alloc (Obj.cells #[Value.int IntKind.u64 ↑n, Value.int IntKind.i64 s, Value.pointer none] 38)).alloc (Obj.cells #[Value.int IntKind.u64 ↑n, Value.int IntKind.i64 s, Value.pointer none] 38)) := ((Below.refl _ _).alloc (by simp) _).alloc (by simp) _
  unfold T
  go_enter Try.func28, Try.ntmps28
  go_wp2
  go_ret
  exact ⟨rfl, hB⟩

set_option maxRecDepth 100000 in
theorem before_calls (n m : Nat) (s u : Int) (w : World) (hn : n < 1000000000) (hm : m < 1000000000) :
    Calls Try.prog 29 #[T n s, T m u] w fun e w' => e = .returned (.bool (decide (s < u ∨ s = u ∧ n < m))) ∧ Below w.heap.size w w' := by
  have hmm := noMono2 n m hn hm
  have h1 := noMono n hn
  have h2 := noMono m hm
  have h3 := mask30 n hn
  have h4 := mask30 m hm
  have hB : Below w.heap.size w ((w.alloc (Obj.cells #[Value.int IntKind.u64 ↑n, Value.int IntKind.i64 s, Value.pointer none] 38)).alloc (Obj.cells #[Value.int IntKind.u64 ↑m, Value.int IntKind.i64 u, Value.pointer none] 38)) := ((Below.refl _ _).alloc (by simp) _).alloc (by simp) _
  unfold T
  by_cases hlt : s < u
  · go_enter Try.func29, Try.ntmps29
    go_wp2
    go_ret
    refine ⟨?_, hB⟩
    congr 2
    simp [hlt]
  · by_cases he : s = u
    · subst he
      go_enter Try.func29, Try.ntmps29
      go_wp2
      go_ret
      refine ⟨?_, hB⟩
      congr 2
    · go_enter Try.func29, Try.ntmps29
      go_wp2
      go_ret
      refine ⟨?_, hB⟩
      congr 2
      simp [hlt]

set_option maxRecDepth 100000 in
theorem after_calls (n m : Nat) (s u : Int) (w : World) (hn : n < 1000000000) (hm : m < 1000000000) :
    Calls Try.prog 33 #[T n s, T m u] w fun e w' => e = .returned (.bool (decide (u < s ∨ s = u ∧ m < n))) ∧ Below w.heap.size w w' := by
  have hmm := noMono2 n m hn hm
  have h1 := noMono n hn
  have h2 := noMono m hm
  have h3 := mask30 n hn
  have h4 := mask30 m hm
  have hB : Below w.heap.size w ((w.alloc (Obj.cells #[Value.int IntKind.u64 ↑n, Value.int IntKind.i64 s, Value.pointer none] 38)).alloc (Obj.cells #[Value.int IntKind.u64 ↑m, Value.int IntKind.i64 u, Value.pointer none] 38)) := ((Below.refl _ _).alloc (by simp) _).alloc (by simp) _
  unfold T
  by_cases hlt : u < s
  · go_enter Try.func33, Try.ntmps33
    go_wp2
    go_ret
    refine ⟨?_, hB⟩
    congr 2
    simp [hlt]
  · by_cases he : s = u
    · subst he
      go_enter Try.func33, Try.ntmps33
      go_wp2
      go_ret
      refine ⟨?_, hB⟩
      congr 2
    · go_enter Try.func33, Try.ntmps33
      go_wp2
      go_ret
      refine ⟨?_, hB⟩
      congr 2
      simp [hlt]

def T0 : Value := .agg #[.int .u64 0, .int .i64 0, .pointer none]

/-- The time that lies z nanoseconds behind the zero time. -/
def nz (z : Int) : Nat := (z % 1000000000).toNat
def sz (z : Int) : Int := z / 1000000000
def Tm (z : Int) : Value := T (nz z) (sz z)
theorem nz_lt (z : Int) : nz z < 1000000000 := by unfold nz; omega

theorem tdm_pos (d : Int) (h : 0 ≤ d) : d.tdiv 1000000000 = d / 1000000000 ∧ d.tmod 1000000000 = d % 1000000000 :=
  ⟨Int.tdiv_eq_ediv_of_nonneg h, Int.tmod_eq_emod_of_nonneg h⟩
theorem tdm_neg (d : Int) (h : d < 0) : d.tdiv 1000000000 = -((-d) / 1000000000) ∧ d.tmod 1000000000 = -((-d) % 1000000000) := by
  have h1 : (-d).tdiv 1000000000 = (-d) / 1000000000 := Int.tdiv_eq_ediv_of_nonneg (by omega)
  have h2 : (-d).tmod 1000000000 = (-d) % 1000000000 := Int.tmod_eq_emod_of_nonneg (by omega)
  rw [Int.neg_tdiv] at h1
  rw [Int.neg_tmod] at h2
  omega

theorem below2 (w : World) (o1 o2 : Obj) : Below w.heap.size w ((w.alloc o1).alloc o2) :=
  ((Below.refl _ _).alloc (by simp) _).alloc (by simp) _

set_option maxRecDepth 100000 in
theorem add_pos (s r d : Int) (w : World) (hd : -9223372036854775808 ≤ d ∧ d < 9223372036854775808) (hq : Int.tdiv d 1000000000 = s) (hr : Int.tmod d 1000000000 = r)
    (hs : -9223372038 < s ∧ s < 9223372038) (h0 : 0 ≤ r) (hn : r < 1000000000) :
    Calls Try.prog 16 #[T0, .int .i64 d] w fun e w' => e = .returned (.agg #[.int .u64 r, .int .i64 s, .pointer none]) ∧ Below w.heap.size w w' := by
  unfold T0
  have hnb : bits .andNot .u64 0 1073741823 = 0 := by decide
  have hor' : bits .or .u64 0 r = r := by
    have hor := bits_or_nat 0 r.toNat (by omega) (by omega)
    rw [Nat.zero_or, Int.toNat_of_nonneg h0] at hor
    exact hor
  have hm : bits .and .u64 r 9223372036854775808 = 0 := by
    have := noMono r.toNat (by omega)
    rwa [Int.toNat_of_nonneg h0] at this
  go_enter Try.func16, Try.ntmps16
  go_wp2_with fail
  refine (nsec_calls _ 0 _ (by omega) (by simp [go_sem])).mono ?_
  rintro e w' ⟨rfl, rfl⟩
  rw [show ((0 : Nat) : Int) = 0 from rfl]
  go_wp2_with fail
  refine (addSec_calls _ r.toNat s _ (by omega) (by simp [go_sem, Int.toNat_of_nonneg h0]) (by simp [go_sem]) (by simp [go_sem]) (by omega)).mono ?_
  rintro e w' ⟨rfl, rfl⟩
  go_wp2_with fail
  refine bodyPost_ret (v := .agg #[.int .u64 r, .int .i64 s, .pointer none]) (by simp [results, Try.results16, go_sem]) rfl ?_
  exact ⟨rfl, below2 _ _ _⟩

set_option maxRecDepth 100000 in
theorem add_neg (s r d : Int) (w : World) (hd : -9223372036854775808 ≤ d ∧ d < 9223372036854775808) (hq : Int.tdiv d 1000000000 = s + 1) (hr : Int.tmod d 1000000000 = r - 1000000000)
    (hs : -9223372038 < s ∧ s < 9223372038) (h0 : 0 ≤ r) (hn : r < 1000000000) :
    Calls Try.prog 16 #[T0, .int .i64 d] w fun e w' => e = .returned (.agg #[.int .u64 r, .int .i64 s, .pointer none]) ∧ Below w.heap.size w w' := by
  unfold T0
  have hnb : bits .andNot .u64 0 1073741823 = 0 := by decide
  have hor' : bits .or .u64 0 r = r := by
    have hor := bits_or_nat 0 r.toNat (by omega) (by omega)
    rw [Nat.zero_or, Int.toNat_of_nonneg h0] at hor
    exact hor
  have hm : bits .and .u64 r 9223372036854775808 = 0 := by
    have := noMono r.toNat (by omega)
    rwa [Int.toNat_of_nonneg h0] at this
  have hs1 : s + 1 - 1 = s := by omega
  have hr1 : r - 1000000000 + 1000000000 = r := by omega
  go_enter Try.func16, Try.ntmps16
  go_wp2_with fail
  refine (nsec_calls _ 0 _ (by omega) (by simp [go_sem])).mono ?_
  rintro e w' ⟨rfl, rfl⟩
  rw [show ((0 : Nat) : Int) = 0 from rfl]
  go_wp2_with fail
  refine (addSec_calls _ r.toNat s _ (by omega) (by simp [go_sem, Int.toNat_of_nonneg h0]) (by simp [go_sem]) (by simp [go_sem]) (by omega)).mono ?_
  rintro e w' ⟨rfl, rfl⟩
  go_wp2_with fail
  refine bodyPost_ret (v := .agg #[.int .u64 r, .int .i64 s, .pointer none]) (by simp [results, Try.results16, go_sem]) rfl ?_
  exact ⟨rfl, below2 _ _ _⟩

/-- The numbers that an int64 holds. -/
def I64 (z : Int) : Prop := -9223372036854775808 ≤ z ∧ z < 9223372036854775808

theorem Tm_eq (z : Int) : Tm z = .agg #[.int .u64 (z % 1000000000), .int .i64 (z / 1000000000), .pointer none] := by
  unfold Tm T nz sz
  rw [Int.toNat_of_nonneg (by omega)]

theorem add_calls (d : Int) (w : World) (hd : I64 d) :
    Calls Try.prog 16 #[T0, .int .i64 d] w fun e w' => e = .returned (Tm d) ∧ Below w.heap.size w w' := by
  rw [Tm_eq]
  unfold I64 at hd
  by_cases h : 0 ≤ d
  · obtain ⟨h1, h2⟩ := tdm_pos d h
    exact add_pos _ _ d w hd h1 h2 (by omega) (by omega) (by omega)
  · obtain ⟨h1, h2⟩ := tdm_neg d (by omega)
    by_cases hr : d % 1000000000 = 0
    · exact add_pos _ _ d w hd (by omega) (by omega) (by omega) (by omega) (by omega)
    · exact add_neg _ _ d w hd (by omega) (by omega) (by omega) (by omega) (by omega)

theorem lt_tm (a b : Int) : (sz a < sz b ∨ sz a = sz b ∧ nz a < nz b) ↔ a < b := by
  unfold sz nz
  omega

theorem before_tm (a b : Int) (w : World) : Calls Try.prog 29 #[Tm a, Tm b] w fun e w' => e = .returned (.bool (decide (a < b))) ∧ Below w.heap.size w w' := by
  refine (before_calls (nz a) (nz b) (sz a) (sz b) w (nz_lt _) (nz_lt _)).mono ?_
  rintro e w' ⟨rfl, hb⟩
  refine ⟨?_, hb⟩
  rw [decide_eq_decide.2 (lt_tm a b)]
theorem after_tm (a b : Int) (w : World) : Calls Try.prog 33 #[Tm a, Tm b] w fun e w' => e = .returned (.bool (decide (b < a))) ∧ Below w.heap.size w w' := by
  refine (after_calls (nz a) (nz b) (sz a) (sz b) w (nz_lt _) (nz_lt _)).mono ?_
  rintro e w' ⟨rfl, hb⟩
  refine ⟨?_, hb⟩
  rw [decide_eq_decide.2 (show (sz b < sz a ∨ sz a = sz b ∧ nz b < nz a) ↔ b < a by have := lt_tm b a; omega)]
theorem equal_tm (a : Int) (w : World) : Calls Try.prog 28 #[Tm a, Tm a] w fun e w' => e = .returned (.bool true) ∧ Below w.heap.size w w' :=
  equal_calls _ _ _ _ w (nz_lt _) (nz_lt _) ⟨rfl, rfl⟩

end Go.Proofs.Qxb6612239a

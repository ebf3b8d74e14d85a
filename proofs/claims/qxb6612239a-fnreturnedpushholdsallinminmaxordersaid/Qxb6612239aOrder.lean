/-
  The law's own look at the order: zzOnEvenLevel, zzInOrder; and its bound on the length.
-/
import Derived.Test.Qxb6612239aSort
set_option linter.unusedVariables false
namespace Go.Proofs.Qxb6612239a
open Go.RowKit

theorem bytes5 (a : Option Addr) (len cap : Nat) (w : World) (hm : len ≤ maxLen) :
    Calls Try.prog 5 #[.slice a len cap] w fun e w' => e = .returned (.bool (decide (len ≤ 1048576))) ∧ w' = w := by
  unfold maxLen at hm
  have h63 : (len : Int) ≤ 9223372036854775807 := by omega
  by_cases h : (len : Int) > 1048576
  · have hd : decide (len ≤ 1048576) = false := by simp; omega
    rw [hd]
    go_enter Try.func5, Try.ntmps5
    go_wp2
    go_ret
    exact ⟨rfl, rfl⟩
  · have hd : decide (len ≤ 1048576) = true := by simp; omega
    rw [hd]
    go_enter Try.func5, Try.ntmps5
    go_wp2
    go_ret
    exact ⟨rfl, rfl⟩

set_option maxRecDepth 100000 in
set_option maxHeartbeats 400000 in
theorem onEven_calls (i : Nat) (w : World) (hi : i ≤ 100000) :
    Calls Try.prog 18 #[.int .i64 i] w fun e w' => e = .returned (.bool (lev i)) ∧ w' = w := by
  obtain ⟨L, hL⟩ : ∃ L, lev i = L := ⟨_, rfl⟩
  have HL : Hid (lev i = L) := hL
  rw [hL]
  clear hL
  go_enter Try.func18, Try.ntmps18
  go_wp2_with fail
  go_loop [3, 4] (fun s3 s4 => ∃ (l k : Nat), s3 = .int .i64 l ∧ s4 = .int .i64 k ∧ 1 ≤ k ∧ l + k ≤ i + 1 ∧ Hid (L = if l % 2 = 0 then lev (k - 1) else !lev (k - 1))) (fun _ s4 => (intOf s4).toNat)
  case atStart => exact ⟨0, i + 1, rfl, by go_num, by omega, by omega, (show Hid _ from by show _ = _; rw [← HL.out]; simp)⟩
  case round =>
    obtain ⟨l, k, rfl, rfl, hk, hlk, HE⟩ := hrel
    by_cases h1 : 1 < k
    · have h1' : (1 : Int) < (k : Int) := by omega
      have hq : (k : Int).tdiv 2 = ((k / 2 : Nat) : Int) := by rw [Int.tdiv_eq_ediv_of_nonneg (by omega)]; omega
      obtain ⟨q, hqq⟩ : ∃ q, k / 2 = q := ⟨_, rfl⟩
      rw [hqq] at hq
      have HE' : Hid (L = if (l + 1) % 2 = 0 then lev (q - 1) else !lev (q - 1)) := by
        show _ = _
        rw [HE.out, lev_par (i := k - 1) (by omega), show (k - 1 - 1) / 2 = q - 1 by omega]
        have : l % 2 = 0 ∨ l % 2 = 1 := by omega
        rcases this with h | h
        · rw [if_pos h, if_neg (by omega)]
        · rw [if_neg (by omega), if_pos (by omega)]; simp
      have hq1 : 1 ≤ q ∧ q + 1 ≤ k := by omega
      clear HE hqq
      go_wp2
      go_round
      case rel => exact ⟨l + 1, q, by go_num, rfl, by omega, by omega, HE'⟩
      case measure => simp [intOf]; omega
    · have h1' : ¬ (1 : Int) < (k : Int) := by omega
      have hE : L = decide (l % 2 = 0) := by
        rw [HE.out, show k - 1 = 0 by omega, lev_zero]
        by_cases h : l % 2 = 0 <;> simp [h]
      have hl : (l : Int) ≤ 100000 := by omega
      have HE2 : Hid (L = decide (l % 2 = 0)) := hE
      clear HE hE
      go_wp2
      go_ret
      refine ⟨?_, rfl⟩
      rw [HE2.out]
      show Ending.returned (Value.bool ((l : Int) % 2 == 0)) = _
      congr 2
      rw [Bool.eq_iff_iff]
      simp
      omega

/-- zzInOrder, where the order is right. -/
theorem inOrder_calls {g : Nat} {w : World} {zs : List Int} (h : Ir w g zs) (hn : zs.length ≤ 100000) (a d : Nat) (ha : a < zs.length) (hd : d < zs.length) (ho : le (lev a) (at0 zs a) (at0 zs d)) :
    Calls Try.prog 10 #[.slice (some ⟨g, 0, none⟩) zs.length zs.length, .int .i64 a, .int .i64 d] w fun e w' => e = .returned (.bool true) ∧ Below w.heap.size w w' := by
  have ca := h.cell a ha
  have cd := h.cell d hd
  have HL := fun w => onEven_calls a w (by omega)
  clear h
  generalize at0 zs a = x at *
  generalize at0 zs d = y at *
  generalize lev a = e at *
  generalize zs.length = n at *
  have a1 : (a : Int) < (n : Int) := by omega
  have d1 : (d : Int) < (n : Int) := by omega
  cases e
  · have ho' : y ≤ x := by simpa [le] using ho
    clear ho
    go_enter Try.func10, Try.ntmps10
    go_wp2_with fail
    refine (HL _).mono ?_
    rintro e w' ⟨rfl, rfl⟩
    clear HL
    go_wp2_with fail
    go_quiet (fail)
    go_wp2
    go_ret
    exact ⟨rfl, below_drewN _ _⟩
  · have ho' : x ≤ y := by simpa [le] using ho
    clear ho
    go_enter Try.func10, Try.ntmps10
    go_wp2_with fail
    refine (HL _).mono ?_
    rintro e w' ⟨rfl, rfl⟩
    clear HL
    go_wp2_with fail
    go_quiet (fail)
    go_wp2
    go_ret
    exact ⟨rfl, below_drewN _ _⟩
end Go.Proofs.Qxb6612239a

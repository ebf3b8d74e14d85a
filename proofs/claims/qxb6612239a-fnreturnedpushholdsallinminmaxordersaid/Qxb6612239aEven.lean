/-
  evenLevel.
-/
import Derived.Test.Qxb6612239aLen
import Derived.Test.Qxb6612239aRow
set_option linter.unusedVariables false
namespace Go.Proofs.Qxb6612239a
open Go.RowKit

/-- evenLevel's reckoning is the level's. -/
theorem lev_bits (i : Nat) : i < 4611686018427387904 → decide (Lib.bitLen (i + 1) % 2 = 1) = lev i := by
  induction i using Nat.strongRecOn with
  | _ i ih =>
    intro hi
    by_cases h0 : i = 0
    · subst h0; rw [lev_zero]; decide
    · rw [lev_par h0, ← ih ((i - 1) / 2) (by omega) (by omega)]
      have e : (i + 1) / 2 = (i - 1) / 2 + 1 := by omega
      have k : Lib.bitLen (i + 1) = 1 + Lib.bitLen ((i - 1) / 2 + 1) := by
        rw [← e]
        unfold Lib.bitLen
        rw [Lib.bitLenAux_fuel 63 ((i + 1) / 2) (by omega) 64 (by omega)]
        show (if i + 1 = 0 then 0 else _) = _
        rw [if_neg (by omega)]
      rw [k]
      generalize Lib.bitLen ((i - 1) / 2 + 1) = b
      have : b % 2 = 0 ∨ b % 2 = 1 := by omega
      rcases this with h | h
      · have : (1 + b) % 2 = 1 := by omega
        simp [h, this]
      · have : (1 + b) % 2 = 0 := by omega
        simp [h, this]

set_option maxRecDepth 100000 in
theorem evenLevel_calls (i : Nat) (w : World) (hi : i < 4611686018427387904) :
    Calls Try.prog 31 #[.int .i64 i] w fun e w' => e = .returned (.bool (lev i)) ∧ w' = w := by
  have hl := lev_bits i hi
  have hL : Hid (∀ w, Calls Try.prog 34 #[.int .u64 ((i : Int) + 1)] w fun e w' => e = .returned (.int .i64 (Lib.bitLen (i + 1))) ∧ w' = w) := fun w => by
    have := bits_Len ((i : Int) + 1) w (by omega) (by omega)
    rwa [show ((i : Int) + 1).toNat = i + 1 by omega] at this
  have hb : Lib.bitLen (i + 1) ≤ 64 := Lib.bitLen_le (i + 1) 64 (Nat.le_refl _) (by omega)
  generalize Lib.bitLen (i + 1) = b at *
  have hi' : (i : Int) < 4611686018427387904 := by omega
  go_enter Try.func31, Try.ntmps31
  go_wp2_with fail
  refine (hL.out _).mono ?_
  rintro e w' ⟨rfl, rfl⟩
  go_wp2
  go_ret
  refine ⟨?_, rfl⟩
  rw [← hl]
  show Ending.returned (Value.bool ((b : Int) % 2 == 1)) = _
  congr 2
  rw [Bool.eq_iff_iff]
  simp
  omega
end Go.Proofs.Qxb6612239a

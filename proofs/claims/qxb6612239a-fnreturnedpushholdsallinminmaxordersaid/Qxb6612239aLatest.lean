/-
  latestIndex: where the latest time stands.
-/
import Derived.Test.Qxb6612239aRow
set_option linter.unusedVariables false
namespace Go.Proofs.Qxb6612239a
open Go.RowKit
theorem below_drewN (w : World) (k : Nat) : Below w.heap.size w (w.drewN k) := ⟨rfl, rfl, rfl, Nat.le_refl _, fun _ _ => rfl⟩

set_option maxHeartbeats 4000000 in
/-- latestIndex. -/
theorem latestIndex_calls {B g cap : Nat} {w : World} {zs : List Int} (h : Rw B w g cap zs) (h0 : 0 < zs.length) (hb : zs.length < 9223372036854775808) :
    Calls Try.prog 30 #[.slice (some ⟨g, 0, none⟩) zs.length cap] w fun x w' => x = .returned (.int .i64 (latest zs)) ∧ Below w.heap.size w w' := by
  have HA : Hid (∀ a b w, Calls Try.prog 33 #[Tm a, Tm b] w fun e w' => e = .returned (.bool (decide (b < a))) ∧ Below w.heap.size w w') := after_tm
  have hc := h.cells
  clear h
  unfold latest
  by_cases e1 : zs.length = 1
  · rw [if_pos e1, e1]
    go_enter Try.func30, Try.ntmps30
    go_wp2
    go_ret
    exact ⟨rfl, Below.refl _ _⟩
  · rw [if_neg e1]
    by_cases e2 : zs.length = 2
    · rw [if_pos e2, e2]
      go_enter Try.func30, Try.ntmps30
      go_wp2_with fail
      go_quiet (fail)
      go_wp2
      go_ret
      exact ⟨rfl, below_drewN _ _⟩
    · rw [if_neg e2]
      obtain ⟨c0, c1, c2⟩ := hc 1 (by omega)
      obtain ⟨d0, d1, d2⟩ := hc 2 (by omega)
      clear hc
      generalize at0 zs 1 = x at *
      generalize at0 zs 2 = y at *
      generalize zs.length = n at *
      have n1 : ((n : Int) == 1) = false := by simp; omega
      have n2 : ((n : Int) == 2) = false := by simp; omega
      have n3 : (2 : Int) < (n : Int) := by omega
      have n4 : (1 : Int) < (n : Int) := by omega
      by_cases hlt : x < y
      · have hd : decide (x < y) = true := by simpa using hlt
        rw [if_pos hlt]
        go_enter Try.func30, Try.ntmps30
        go_wp2_with fail
        go_region_with (go_at_call 33; refine (HA.out y x _).mono ?_; rintro e w5 ⟨rfl, hb5⟩)
        all_goals
          go_wp2
          go_ret
          exact ⟨rfl, (Below.refl _ _).drew.trans hb5⟩
      · have hd : decide (x < y) = false := by simpa using hlt
        rw [if_neg hlt]
        go_enter Try.func30, Try.ntmps30
        go_wp2_with fail
        go_region_with (go_at_call 33; refine (HA.out y x _).mono ?_; rintro e w5 ⟨rfl, hb5⟩)
        all_goals
          go_wp2
          go_ret
          exact ⟨rfl, (Below.refl _ _).drew.trans hb5⟩
end Go.Proofs.Qxb6612239a

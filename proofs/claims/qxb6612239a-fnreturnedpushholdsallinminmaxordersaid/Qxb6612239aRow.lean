/-
  The heap's row of times in memory.
-/
import Derived.Test.Qxb6612239aSub
import Derived.Test.Qxb6612239aHeap
import Derived.Deep.OwnRows
import Derived.Deep.AppendLies
import Derived.Deep.DeepMust
import Derived.Deep.QuietTactic
import Derived.BigQuiet
import Derived.BigRegion
set_option linter.unusedVariables false
namespace Go.Proofs.Qxb6612239a
open Go.RowKit

def cs3 (z : Int) : List Value := [.int .u64 (nz z), .int .i64 (sz z), .pointer none]
def tvs (zs : List Int) : List Value := zs.flatMap cs3

theorem tvs_snoc (zs : List Int) (z : Int) : tvs (zs ++ [z]) = tvs zs ++ cs3 z := by simp [tvs]
theorem tvs_length (zs : List Int) : (tvs zs).length = zs.length * 3 := by
  induction zs with
  | nil => rfl
  | cons z zs ih =>
    show (cs3 z ++ tvs zs).length = _
    rw [List.length_append, ih, List.length_cons]
    show 3 + _ = _
    omega
theorem tvs_get (zs : List Int) (i c : Nat) (hc : c < 3) : (tvs zs)[i * 3 + c]? = zs[i]?.bind fun z => (cs3 z)[c]? := by
  induction zs generalizing i with
  | nil => rfl
  | cons z zs ih =>
    show (cs3 z ++ tvs zs)[i * 3 + c]? = _
    have hl : (cs3 z).length = 3 := rfl
    cases i with
    | zero =>
      rw [List.getElem?_append_left (by omega)]
      simp
    | succ i =>
      rw [List.getElem?_append_right (by omega), hl, show (i + 1) * 3 + c - 3 = i * 3 + c by omega, ih]
      simp
theorem tvs_set (zs : List Int) (i : Nat) (z : Int) (hi : i < zs.length) :
    (((tvs zs).set (i * 3) (.int .u64 (nz z))).set (i * 3 + 1) (.int .i64 (sz z))).set (i * 3 + 2) (.pointer none) = tvs (zs.set i z) := by
  apply List.ext_getElem?
  intro j
  have hj : j = j / 3 * 3 + j % 3 := by omega
  have hl := tvs_length zs
  have hm : j % 3 < 3 := by omega
  generalize j / 3 = q at hj
  generalize j % 3 = c at hj hm
  subst hj
  rw [tvs_get _ _ _ hm]
  simp only [List.getElem?_set, List.length_set, hl]
  rw [tvs_get _ _ _ hm]
  by_cases e : i = q
  · subst e
    simp only [hi, if_true]
    have : c = 0 ∨ c = 1 ∨ c = 2 := by omega
    rcases this with rfl | rfl | rfl
    · simp [cs3]; omega
    · simp [cs3]; omega
    · simp [cs3]; omega
  · simp only [e, if_false]
    rw [if_neg (by omega), if_neg (by omega), if_neg (by omega)]

/-- Block g holds the times zs, room for cap. -/
def Rw (B : Nat) (w : World) (g cap : Nat) (zs : List Int) : Prop := w.ownsRow B 38 3 (.slice (some ⟨g, 0, none⟩) zs.length cap) zs.length (tvs zs)

theorem Rw.cells {B g cap : Nat} {w : World} {zs : List Int} (h : Rw B w g cap zs) (i : Nat) (hi : i < zs.length) :
    w.cell? ⟨g, i * 3, none⟩ = some (.int .u64 (nz (at0 zs i))) ∧ w.cell? ⟨g, i * 3 + 1, none⟩ = some (.int .i64 (sz (at0 zs i))) ∧ w.cell? ⟨g, i * 3 + 2, none⟩ = some (.pointer none) := by
  have hz : zs[i]? = some (at0 zs i) := by
    unfold at0
    rw [List.getD_eq_getElem?_getD, List.getElem?_eq_getElem hi]; rfl
  have k := fun c (hc : c < 3) => (World.ownsRow.cellAt h (i * 3 + c) (by omega)).trans (tvs_get zs i c hc)
  rw [hz] at k
  exact ⟨k 0 (by omega), k 1 (by omega), k 2 (by omega)⟩
theorem Rw.frozen {B g cap : Nat} {w : World} {zs : List Int} (h : Rw B w g cap zs) (j : Nat) : w.frozen? ⟨g, j, none⟩ = false := World.ownsRow.frozenAt h j
theorem Rw.lt {B g cap : Nat} {w : World} {zs : List Int} (h : Rw B w g cap zs) : B ≤ g ∧ g < w.heap.size := World.ownsRow.lt h g rfl
theorem Rw.put {B g cap : Nat} {w : World} {zs : List Int} (h : Rw B w g cap zs) (i : Nat) (hi : i < zs.length) (z : Int) :
    Rw B (((w.setCell ⟨g, i * 3, none⟩ (.int .u64 (nz z))).setCell ⟨g, i * 3 + 1, none⟩ (.int .i64 (sz z))).setCell ⟨g, i * 3 + 2, none⟩ (.pointer none)) g cap (zs.set i z) := by
  unfold Rw
  rw [← tvs_set zs i z hi, List.length_set]
  exact (World.ownsRow.stored (World.ownsRow.stored (World.ownsRow.stored h _ _).1 _ _).1 _ _).1
theorem Rw.below {B g cap : Nat} {w w' : World} {zs : List Int} (h : Rw B w g cap zs) (hb : Below w.heap.size w w') : Rw B w' g cap zs := by
  obtain ⟨h1, h2⟩ := h
  refine ⟨h1, ?_⟩
  rcases h2 with h2 | ⟨g', cap', cur, hv, hg, hh, r⟩
  · exact Or.inl h2
  · exact Or.inr ⟨g', cap', cur, hv, hg, by rw [hb.block _ (Array.getElem?_eq_some_iff.1 hh).1]; exact hh, r⟩
theorem Rw.drew {B g cap : Nat} {w : World} {zs : List Int} (h : Rw B w g cap zs) : Rw B w.drew g cap zs := h

/-- What h.outranks(i, j, even) says. -/
theorem outranks_calls {B g cap : Nat} {w : World} {zs : List Int} (h : Rw B w g cap zs) (i j : Nat) (e : Bool) (hi : i < zs.length) (hj : j < zs.length) (hb : zs.length < 9223372036854775808) :
    Calls Try.prog 32 #[.slice (some ⟨g, 0, none⟩) zs.length cap, .int .i64 i, .int .i64 j, .bool e] w fun x w' => x = .returned (.bool (rk zs i j e)) ∧ Below w.heap.size w w' := by
  obtain ⟨c0, c1, c2⟩ := h.cells i hi
  obtain ⟨d0, d1, d2⟩ := h.cells j hj
  have HB : Hid (∀ a b w, Calls Try.prog 29 #[Tm a, Tm b] w fun e w' => e = .returned (.bool (decide (a < b))) ∧ Below w.heap.size w w') := before_tm
  have HA : Hid (∀ a b w, Calls Try.prog 33 #[Tm a, Tm b] w fun e w' => e = .returned (.bool (decide (b < a))) ∧ Below w.heap.size w w') := after_tm
  clear h
  unfold rk
  generalize at0 zs i = x at *
  generalize at0 zs j = y at *
  generalize zs.length = n at *
  have i1 : (i : Int) < (n : Int) := by omega
  have j1 : (j : Int) < (n : Int) := by omega
  cases e
  · go_enter Try.func32, Try.ntmps32
    go_wp2_with fail
    go_region_with (go_at_call 33; refine (HA.out x y _).mono ?_; rintro e w5 ⟨rfl, hb5⟩)
    all_goals
      go_wp2
      go_ret
      exact ⟨rfl, (Below.refl _ _).drew.trans hb5⟩
  · go_enter Try.func32, Try.ntmps32
    go_wp2_with fail
    go_region_with (go_at_call 29; refine (HB.out x y _).mono ?_; rintro e w5 ⟨rfl, hb5⟩)
    all_goals
      go_wp2
      go_ret
      exact ⟨rfl, (Below.refl _ _).drew.trans hb5⟩

end Go.Proofs.Qxb6612239a

/-
  The law's own insertion sort, with no Go in sight and in Go.
-/
import Derived.Test.Qxb6612239aTrack
set_option linter.unusedVariables false
namespace Go.Proofs.Qxb6612239a
open Go.RowKit

/-! ### Plain -/
def SortedTo (zs : List Int) (i : Nat) : Prop := ∀ a b, a < b → b < i → at0 zs a ≤ at0 zs b

/-- The inner loop's state: v is on its way down, its hole at j. -/
structure Ins (zs : List Int) (i j : Nat) (v : Int) (cs : List Int) : Prop where
  len : cs.length = zs.length
  ji : j ≤ i
  il : i < zs.length
  perm : (cs.set j v).Perm zs
  sort : ∀ a b, a < b → b ≤ i → a ≠ j → b ≠ j → at0 cs a ≤ at0 cs b
  big : ∀ b, j < b → b ≤ i → v ≤ at0 cs b

theorem set_at0 (zs : List Int) (i : Nat) (hi : i < zs.length) : zs.set i (at0 zs i) = zs := by
  unfold at0
  rw [List.getD_eq_getElem?_getD, List.getElem?_eq_getElem hi, Option.getD_some]
  exact List.set_getElem_self hi

theorem Ins.start {zs : List Int} {i : Nat} (h : SortedTo zs i) (hi : i < zs.length) : Ins zs i i (at0 zs i) zs :=
  ⟨rfl, Nat.le_refl _, hi, by rw [set_at0 _ _ hi], fun a b hab hb _ hbi => h a b hab (by omega), fun b h1 h2 => by omega⟩

theorem Ins.step {zs cs : List Int} {i j : Nat} {v : Int} (h : Ins zs i j v cs) (hj : 0 < j) (hv : v < at0 cs (j - 1)) : Ins zs i (j - 1) v (cs.set j (at0 cs (j - 1))) := by
  have hjl : j < cs.length := by have := h.len; have := h.ji; have := h.il; omega
  refine ⟨by rw [List.length_set, h.len], by have := h.ji; omega, h.il, ?_, ?_, ?_⟩
  · have e : (cs.set j (at0 cs (j - 1))).set (j - 1) v = swp (cs.set j v) (j - 1) j := by
      unfold swp
      rw [at0_set _ _ _ _ hjl, at0_set _ _ _ _ hjl, if_pos rfl, if_neg (by omega), List.set_comm (i := j) (j := j - 1) v v (by omega), List.set_set, List.set_comm (i := j) (j := j - 1) _ _ (by omega)]
    rw [e]
    exact (swp_perm _ _ _ (by rw [List.length_set]; omega) (by rw [List.length_set]; omega)).trans h.perm
  · intro a b hab hb ha hbj
    rw [at0_set _ _ _ _ hjl, at0_set _ _ _ _ hjl]
    by_cases e1 : a = j
    · subst e1
      rw [if_pos rfl, if_neg (by omega)]
      exact h.sort (a - 1) b (by omega) hb (by omega) (by omega)
    · rw [if_neg e1]
      by_cases e2 : b = j
      · subst e2
        rw [if_pos rfl]
        exact h.sort a (b - 1) (by omega) (by omega) e1 (by omega)
      · rw [if_neg e2]
        exact h.sort a b hab hb e1 e2
  · intro b hb1 hb2
    rw [at0_set _ _ _ _ hjl]
    by_cases e2 : b = j
    · rw [if_pos e2]; omega
    · rw [if_neg e2]
      exact h.big b (by omega) hb2

theorem Ins.done {zs cs : List Int} {i j : Nat} {v : Int} (h : Ins zs i j v cs) (hj : j = 0 ∨ at0 cs (j - 1) ≤ v) : SortedTo (cs.set j v) (i + 1) := by
  have hjl : j < cs.length := by have := h.len; have := h.ji; have := h.il; omega
  have hji := h.ji
  intro a b hab hb
  rw [at0_set _ _ _ _ hjl, at0_set _ _ _ _ hjl]
  by_cases e1 : a = j
  · rw [if_pos e1, if_neg (by omega)]
    exact h.big b (by omega) (by omega)
  · rw [if_neg e1]
    by_cases e2 : b = j
    · rw [if_pos e2]
      rcases hj with hj | hj
      · omega
      · by_cases e3 : a = j - 1
        · rw [e3]; exact hj
        · have := h.sort a (j - 1) (by omega) (by omega) e1 (by omega)
          omega
    · rw [if_neg e2]
      exact h.sort a b hab (by omega) e1 e2

theorem sorted_pair {zs : List Int} (h : SortedTo zs zs.length) : zs.Pairwise (· ≤ ·) := by
  rw [List.pairwise_iff_getElem]
  intro i j hi hj hij
  have := h i j hij hj
  unfold at0 at this
  rw [List.getD_eq_getElem?_getD, List.getElem?_eq_getElem hi, List.getD_eq_getElem?_getD, List.getElem?_eq_getElem hj] at this
  exact this

theorem perm_sorted_eq : ∀ {xs ys : List Int}, xs.Perm ys → xs.Pairwise (· ≤ ·) → ys.Pairwise (· ≤ ·) → xs = ys
  | [], ys, h, _, _ => (List.perm_nil.1 h.symm).symm ▸ rfl
  | x :: xs, [], h, _, _ => absurd h.length_eq (by simp)
  | x :: xs, y :: ys, h, hx, hy => by
    have hxy : x = y := by
      have h1 : y ∈ x :: xs := h.mem_iff.2 (by simp)
      have h2 : x ∈ y :: ys := h.mem_iff.1 (by simp)
      have l1 : x ≤ y := by
        rcases List.mem_cons.1 h1 with e | k
        · omega
        · exact (List.pairwise_cons.1 hx).1 y k
      have l2 : y ≤ x := by
        rcases List.mem_cons.1 h2 with e | k
        · omega
        · exact (List.pairwise_cons.1 hy).1 x k
      omega
    subst hxy
    rw [perm_sorted_eq ((List.perm_cons x).1 h) (List.pairwise_cons.1 hx).2 (List.pairwise_cons.1 hy).2]

theorem sorted_eq {xs ys : List Int} (h : xs.Perm ys) (hx : SortedTo xs xs.length) (hy : SortedTo ys ys.length) : xs = ys := perm_sorted_eq h (sorted_pair hx) (sorted_pair hy)

/-! ### In Go -/
/-- Block g is a row of the numbers zs. -/
def Ir (w : World) (g : Nat) (zs : List Int) : Prop := w.rowIs g 2 zs.length (fun i => .int .i64 (at0 zs i))
theorem Ir.cell {w : World} {g : Nat} {zs : List Int} (h : Ir w g zs) (i : Nat) (hi : i < zs.length) : w.cell? ⟨g, i, none⟩ = some (.int .i64 (at0 zs i)) := World.rowIs.cell h hi
theorem Ir.frozen {w : World} {g : Nat} {zs : List Int} (h : Ir w g zs) (i : Nat) : w.frozen? ⟨g, i, none⟩ = false := World.rowIs.frozen h i
theorem Ir.set {w : World} {g : Nat} {zs : List Int} (h : Ir w g zs) (i : Nat) (hi : i < zs.length) (v : Int) : Ir (w.setCell ⟨g, i, none⟩ (.int .i64 v)) g (zs.set i v) := by
  unfold Ir
  rw [List.length_set]
  refine (World.rowIs.set h i (.int .i64 v)).congr ?_
  intro k hk
  rw [at0_set _ _ _ _ hi]
  by_cases e : k = i <;> simp [e]
theorem Ir.below {w w' : World} {g : Nat} {zs : List Int} (h : Ir w g zs) (hb : Below w.heap.size w w') : Ir w' g zs := World.rowIs.of_block h (hb.block _ (World.rowIs.lt h))
theorem Ir.drewN {w : World} {g : Nat} {zs : List Int} (h : Ir w g zs) (k : Nat) : Ir (w.drewN k) g zs := h
theorem Ir.grown {w w' : World} {g r : Nat} {zs : List Int} (h : Ir w g zs) (hb : w.grownBy w' (some r)) (hne : g ≠ r) : Ir w' g zs := World.rowIs.of_block h (hb.block _ (World.rowIs.lt h) (by simpa using hne))

set_option maxRecDepth 100000 in
set_option maxHeartbeats 800000 in
theorem sort_calls {g : Nat} {w : World} {zs : List Int} (h : Ir w g zs) (hn : zs.length ≤ 100000) :
    Calls Try.prog 11 #[.slice (some ⟨g, 0, none⟩) zs.length zs.length] w fun e w' => e = .returned (.tuple #[]) ∧ w.grownBy w' (some g) ∧ ∃ ys, Ir w' g ys ∧ ys.Perm zs ∧ SortedTo ys ys.length := by
  obtain ⟨n, hN⟩ : ∃ n, zs.length = n := ⟨_, rfl⟩
  have HN : Hid (zs.length = n) := hN
  rw [hN] at hn ⊢
  clear hN
  go_enter Try.func11, Try.ntmps11
  go_wp2_with fail
  go_loopw [2] (fun s2 wr => ∃ (i : Nat) (xs : List Int), s2 = .int .i64 i ∧ 1 ≤ i ∧ (i ≤ n ∨ i = 1) ∧ Hid (xs.length = n) ∧ Ir wr g xs ∧ w.grownBy wr (some g) ∧ Hid (xs.Perm zs) ∧ Hid (SortedTo xs i)) (fun s2 _ => n - (intOf s2).toNat)
  case atStart => exact ⟨1, zs, rfl, by omega, .inr rfl, HN, h, grownBy_below (Below.refl _ _), (show Hid _ from .refl _), (show Hid _ from fun a b h1 h2 => by omega)⟩
  case round =>
    clear h
    obtain ⟨i, xs, rfl, hi1, hin, HL, hI, hG, HP, HS⟩ := hrel
    by_cases hlt : i < n
    · have hlt' : (i : Int) < (n : Int) := by omega
      have ci := hI.cell i (by rw [HL.out]; exact hlt)
      have HIN : Hid (Ins xs i i (at0 xs i) xs) := Ins.start HS.out (by rw [HL.out]; exact hlt)
      clear HS
      generalize at0 xs i = v at *
      go_wp2_with fail
      go_loopw [4] (fun s4 wr' => ∃ (j : Nat) (cs : List Int), s4 = .int .i64 j ∧ j ≤ i ∧ Hid (cs.length = n) ∧ Ir wr' g cs ∧ w.grownBy wr' (some g) ∧ Hid (Ins xs i j v cs)) (fun s4 _ => (intOf s4).toNat)
      case atStart => exact ⟨i, xs, rfl, Nat.le_refl _, HL, hI, hG, HIN⟩
      case round =>
        clear hI hG HIN ci
        obtain ⟨j, cs, rfl, hji, HC, hI, hG, HIN⟩ := hrel
        have hjn : (j : Int) < (n : Int) := by omega
        have hjc : j < cs.length := by rw [HC.out]; omega
        have fz := hI.frozen
        have cj := hI.cell j hjc
        have HD : Hid (j = 0 ∨ at0 cs (j - 1) ≤ v → ((Ir (wr.setCell ⟨g, j, none⟩ (.int .i64 v)) g (cs.set j v) ∧ (cs.set j v).length = n ∧ (cs.set j v).Perm zs ∧ SortedTo (cs.set j v) (i + 1)))) := by
          intro hd
          exact ⟨hI.set j hjc v, by rw [List.length_set]; exact HC.out, HIN.out.perm.trans HP.out, HIN.out.done hd⟩
        by_cases hj0 : 0 < j
        · have hj0' : (0 : Int) < (j : Int) := by omega
          have e1 : ((j : Int) - 1).toNat = j - 1 := by omega
          have e2 : (0 : Int) ≤ (j : Int) - 1 := by omega
          have e3 : (j : Int) - 1 < (n : Int) := by omega
          have ck := hI.cell (j - 1) (by omega)
          have HST : Hid (v < at0 cs (j - 1) → Ins xs i (j - 1) v (cs.set j (at0 cs (j - 1))) ∧ Ir (wr.setCell ⟨g, j, none⟩ (.int .i64 (at0 cs (j - 1)))) g (cs.set j (at0 cs (j - 1))) ∧ (cs.set j (at0 cs (j - 1))).length = n) :=
            fun hv => ⟨HIN.out.step hj0 hv, hI.set j hjc _, by rw [List.length_set]; exact HC.out⟩
          clear HIN hjc HC hI
          generalize at0 cs (j - 1) = y at *
          generalize at0 cs j = y0 at *
          by_cases hv : v < y
          · obtain ⟨k1, k2, k3⟩ := HST.out hv
            have K1 : Hid _ := k1
            have K3 : Hid ((cs.set j y).length = n) := k3
            clear HST HD k1 k3
            go_wp2_with fail
            go_round
            case rel =>
              go_light
              exact ⟨j - 1, cs.set j y, by go_num, by omega, K3, k2, grownBy_set hG _, K1⟩
            case measure => simp [intOf]; omega
          · obtain ⟨k1, k2, k3, k4⟩ := HD.out (.inr (by omega))
            have K2 : Hid ((cs.set j v).length = n) := k2
            have K3 : Hid _ := k3
            have K4 : Hid _ := k4
            clear HST HD k2 k3 k4
            go_wp2_with fail
            go_round
            case rel =>
              go_light
              exact ⟨i + 1, cs.set j v, by go_num, by omega, by omega, K2, k1, grownBy_set hG _, K3, K4⟩
            case measure => simp [intOf]; omega
        · have hj0' : ¬ (0 : Int) < (j : Int) := by omega
          have hd : j = 0 := by omega
          obtain ⟨k1, k2, k3, k4⟩ := HD.out (.inl hd)
          have K2 : Hid ((cs.set j v).length = n) := k2
          have K3 : Hid _ := k3
          have K4 : Hid _ := k4
          clear HD k2 k3 k4 HIN hjc HC hI hd
          generalize at0 cs j = y0 at *
          go_wp2_with fail
          go_round
          case rel =>
            go_light
            exact ⟨i + 1, cs.set j v, by go_num, by omega, by omega, K2, k1, grownBy_set hG _, K3, K4⟩
          case measure => simp [intOf]; omega
    · have hlt' : ¬ (i : Int) < (n : Int) := by omega
      go_wp2
      go_end0
      have e : SortedTo xs xs.length := by
        intro a b hab hb
        rw [HL.out] at hb
        exact HS.out a b hab (by omega)
      exact ⟨rfl, hG, xs, hI, HP.out, e⟩
end Go.Proofs.Qxb6612239a

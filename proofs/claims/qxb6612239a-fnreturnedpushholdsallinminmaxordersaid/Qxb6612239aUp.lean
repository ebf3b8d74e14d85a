/-
  up: the new time climbs to where it belongs.
-/
import Derived.Test.Qxb6612239aEven
import Derived.Deep.CutRange
import Derived.Deep.LoopGhost
import Derived.Deep.Light
set_option linter.unusedVariables false
namespace Go.Proofs.Qxb6612239a
open Go.RowKit

theorem grownBy_trans {a b c : World} {row : Option Nat} (h : a.grownBy b row) (k : b.grownBy c row) : a.grownBy c row :=
  ⟨k.os.trans h.os, k.tape.trans h.tape, k.output.trans h.output, Nat.le_trans h.size k.size, fun i hi hr => (k.block i (Nat.lt_of_lt_of_le hi h.size) hr).trans (h.block i hi hr)⟩
theorem grownBy_below {a b : World} {row : Option Nat} (h : Below a.heap.size a b) : a.grownBy b row := ⟨h.os, h.tape, h.output, h.size, fun k hk _ => h.block k hk⟩
theorem grownBy_drew {a b : World} {row : Option Nat} (h : a.grownBy b row) : a.grownBy b.drew row := ⟨h.os, h.tape, h.output, h.size, h.block⟩
theorem grownBy_set {a b : World} {pb off : Nat} (h : a.grownBy b (some pb)) (v : Value) : a.grownBy (b.setCell ⟨pb, off, none⟩ v) (some pb) :=
  grownBy_trans h ⟨rfl, rfl, rfl, by simp [World.setCell], fun k _ hr => Below.heap_setCell _ _ _ _ (by intro e; exact hr (by rw [e]))⟩

theorem Rw.swap {B g cap : Nat} {w : World} {zs : List Int} (h : Rw B w g cap zs) (i p : Nat) (hi : i < zs.length) (hp : p < zs.length) :
    Rw B ((((((w.setCell ⟨g, i * 3, none⟩ (.int .u64 (nz (at0 zs p)))).setCell ⟨g, i * 3 + 1, none⟩ (.int .i64 (sz (at0 zs p)))).setCell ⟨g, i * 3 + 2, none⟩ (.pointer none)).setCell
      ⟨g, p * 3, none⟩ (.int .u64 (nz (at0 zs i)))).setCell ⟨g, p * 3 + 1, none⟩ (.int .i64 (sz (at0 zs i)))).setCell ⟨g, p * 3 + 2, none⟩ (.pointer none)).drew g cap (swp zs i p) :=
  ((h.put i hi _).put p (by simpa using hp) _).drew

theorem grownBy_swap {a b : World} {g i p : Nat} (h : a.grownBy b (some g)) (u1 u2 u3 u4 u5 u6 : Value) :
    a.grownBy ((((((b.setCell ⟨g, i * 3, none⟩ u1).setCell ⟨g, i * 3 + 1, none⟩ u2).setCell ⟨g, i * 3 + 2, none⟩ u3).setCell ⟨g, p * 3, none⟩ u4).setCell ⟨g, p * 3 + 1, none⟩ u5).setCell ⟨g, p * 3 + 2, none⟩ u6).drew (some g) :=
  grownBy_drew (grownBy_set (grownBy_set (grownBy_set (grownBy_set (grownBy_set (grownBy_set h _) _) _) _) _) _)

set_option maxHeartbeats 400000 in
set_option maxRecDepth 100000 in
theorem up_calls {B g cap : Nat} {w : World} {zs : List Int} (h : Rw B w g cap zs) (i : Nat) (hi : i < zs.length) (hb : zs.length < 1000000) :
    Calls Try.prog 21 #[.slice (some ⟨g, 0, none⟩) zs.length cap, .int .i64 i] w fun x w' => x = .returned (.tuple #[]) ∧ Rw B w' g cap (upZ zs i) ∧ w.grownBy w' (some g) := by
  by_cases h0 : i = 0
  · subst h0
    go_enter Try.func21, Try.ntmps21
    go_wp2
    refine bodyPost_ret (v := .tuple #[]) (by simp [results, Try.results21, go_sem]) rfl ⟨rfl, ?_, grownBy_below (Below.refl _ _)⟩
    simpa [upZ] using h
  · obtain ⟨p, hpE⟩ : ∃ p, (i - 1) / 2 = p := ⟨_, rfl⟩
    have hp : ((i : Int) - 1).tdiv 2 = (p : Int) := by
      rw [Int.tdiv_eq_ediv_of_nonneg (by omega)]; omega
    have hne : ((i : Int) == 0) = false := by simp; omega
    have hpi : p < i := by omega
    have HR := outranks_calls h i p (!lev i) hi (by omega) (by omega)
    have HU : Hid (upZ zs i = if rk zs i p (!lev i) then climb (swp zs i p) p (!lev i) else climb zs i (lev i)) := by
      show _ = _; rw [upZ, if_neg h0, hpE]
    have HE := fun w => evenLevel_calls i w (by omega)
    have HL : Hid ((!lev i) = lev p) := by show _ = _; rw [lev_par h0, hpE]; simp
    generalize lev i = e0 at *
    generalize hrk : rk zs i p (!e0) = rb at *
    clear hrk
    go_enter Try.func21, Try.ntmps21
    go_wp2_with fail
    refine (HE _).mono ?_
    rintro e w' ⟨rfl, rfl⟩
    clear HE
    go_wp2_with fail
    refine HR.mono ?_
    rintro e w1 ⟨rfl, hb1⟩
    have h1 := h.below hb1
    have hg1 : w'.grownBy w1 (some g) := grownBy_below hb1
    clear HR
    go_upto_if 19 with fail
    go_cut [1, 4] from 65 to 65 (fun s1 s4 wx => ∃ (j : Nat) (e1 : Bool) (ys : List Int), s1 = .int .i64 j ∧ s4 = .bool e1 ∧ j < zs.length ∧ ys.length = zs.length ∧ Rw B wx g cap ys ∧ w'.grownBy wx (some g) ∧ Hid (upZ zs i = climb ys j e1))
    case first =>
      have HS := h1.swap i p hi (by omega)
      obtain ⟨c0, c1, c2⟩ := h1.cells i hi
      obtain ⟨d0, d1, d2⟩ := h1.cells p (by omega)
      have f := h1.frozen
      have HS' : Hid _ := HS
      have H1 : Hid (Rw B w1 g cap zs) := h1
      clear HS h h1
      have hpz : p < zs.length := by omega
      have hlen := swp_length zs i p
      generalize at0 zs i = x at *
      generalize at0 zs p = y at *
      cases rb
      · have HU' : Hid (upZ zs i = climb zs i e0) := by show _ = _; rw [HU.out, if_neg (by decide)]
        clear HU
        go_wp2_with fail
        go_meet
        case rel => exact ⟨i, e0, zs, rfl, rfl, hi, rfl, H1.out, hg1, HU'⟩
      · have HU' : Hid (upZ zs i = climb (swp zs i p) p (!e0)) := by show _ = _; rw [HU.out, if_pos rfl]
        clear HU
        go_wp2_with fail
        go_region
        go_wp2_with fail
        go_meet
        case rel => exact ⟨p, !e0, swp zs i p, rfl, rfl, hpz, hlen, HS'.out, grownBy_swap hg1 _ _ _ _ _ _, HU'⟩
    case rest =>
    obtain ⟨j, e1, ys, rfl, rfl, hj, hys, hR, hG, HC⟩ := hcut
    clear h h1 hg1 hb1 HU HL
    have HY : Hid (ys.length = zs.length) := hys
    clear hys hne hp
    generalize hv : upZ zs i = vs at *
    have HV : Hid (upZ zs i = vs) := hv
    clear hv hpE h0 hpi hi
    generalize zs.length = n at *
    go_wp2_with fail
    go_loopw [1] (fun s1 wr => ∃ (j : Nat) (xs : List Int), s1 = .int .i64 j ∧ j < n ∧ Hid (xs.length = n) ∧ Rw B wr g cap xs ∧ w'.grownBy wr (some g) ∧ Hid (vs = climb xs j e1)) (fun s1 _ => (intOf s1).toNat)
    case atStart => exact ⟨j, ys, rfl, hj, HY, hR, hG, HC⟩
    case round =>
      clear hj hR hG HC HY j ys
      obtain ⟨j, xs, rfl, hj, HX, hR, hG, HC⟩ := hrel
      by_cases h2 : 2 < j
      · obtain ⟨r, hr⟩ : ∃ r, (j - 1) / 2 = r := ⟨_, rfl⟩
        obtain ⟨q, hq⟩ : ∃ q, (r - 1) / 2 = q := ⟨_, rfl⟩
        have q1 : ((j : Int) - 1).tdiv 2 = (r : Int) := by
          rw [Int.tdiv_eq_ediv_of_nonneg (by omega)]; omega
        have q2 : ((r : Int) - 1).tdiv 2 = (q : Int) := by
          rw [Int.tdiv_eq_ediv_of_nonneg (by omega)]; omega
        have hqj : q < j := by omega
        have HK : Hid (climb xs j e1 = if rk xs j q e1 then climb (swp xs j q) q e1 else xs) := by
          show _ = _; rw [climb, dif_pos h2, hr, hq]
        have hjx : j < xs.length := by rw [HX.out]; exact hj
        have hqx : q < xs.length := by omega
        have HR := outranks_calls hR j q e1 hjx hqx (by rw [HX.out]; omega)
        rw [HX.out] at HR
        have h2' : (2 : Int) < (j : Int) := by omega
        have hr1 : 1 ≤ r ∧ r < 1000000 := by omega
        generalize hrk : rk xs j q e1 = rb at *
        clear hrk
        clear hr hq
        go_wp2_with fail
        refine HR.mono ?_
        rintro e w1 ⟨rfl, hb1⟩
        have h1 := hR.below hb1
        have hg1 := grownBy_trans hG (grownBy_below (row := some g) hb1)
        clear HR hR hG hb1 q1 q2
        cases rb
        · have HU' : Hid (vs = xs) := by show _ = _; rw [HC.out, HK.out, if_neg (by decide)]
          clear HC HK
          go_wp2
          refine bodyPost_ret (v := .tuple #[]) (by simp [results, Try.results21, go_sem]) rfl ⟨rfl, ?_, hg1⟩
          rw [HV.out, HU'.out]
          exact h1
        · have HU' : Hid (vs = climb (swp xs j q) q e1) := by show _ = _; rw [HC.out, HK.out, if_pos rfl]
          clear HC HK
          obtain ⟨c0, c1, c2⟩ := h1.cells j hjx
          obtain ⟨d0, d1, d2⟩ := h1.cells q hqx
          have f := h1.frozen
          have HS : Hid _ := h1.swap j q hjx hqx
          clear h1
          have HX' : Hid ((swp xs j q).length = n) := by show _ = _; rw [swp_length]; exact HX.out
          clear hjx hqx HX
          generalize at0 xs j = x at *
          generalize at0 xs q = y at *
          go_wp2_with fail
          go_region
          go_wp2
          go_round
          case rel =>
            go_light
            exact ⟨q, swp xs j q, rfl, by omega, HX', HS.out, grownBy_swap hg1 _ _ _ _ _ _, HU'⟩
          case measure => simp [intOf]; omega
      · have HU' : Hid (vs = xs) := by show _ = _; rw [HC.out, climb, dif_neg h2]
        have h2' : ¬ (2 : Int) < (j : Int) := by omega
        clear HC
        go_wp2
        go_end0
        rw [HV.out, HU'.out]
        exact ⟨rfl, hR, hG⟩
end Go.Proofs.Qxb6612239a

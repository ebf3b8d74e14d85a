/-
  The min-max heap, with no Go in sight: pushing keeps what was held, and keeps the order of the levels.
-/
set_option linter.unusedVariables false
namespace Go.Proofs.Qxb6612239a

/-- Does i stand on an even level? -/
def lev (i : Nat) : Bool := if h : i = 0 then true else !lev ((i - 1) / 2)
termination_by i
decreasing_by omega

theorem lev_zero : lev 0 = true := by unfold lev; simp
theorem lev_par {i : Nat} (h : i ≠ 0) : lev i = !lev ((i - 1) / 2) := by
  rw [lev]; simp [h]
theorem lev_gpar {i : Nat} (h : 2 < i) : lev i = lev (((i - 1) / 2 - 1) / 2) := by
  rw [lev_par (by omega), lev_par (i := (i - 1) / 2) (by omega)]; simp

/-- a stands above d. -/
inductive Anc : Nat → Nat → Prop
  | par {d : Nat} : d ≠ 0 → Anc ((d - 1) / 2) d
  | up {a d : Nat} : d ≠ 0 → Anc a ((d - 1) / 2) → Anc a d

theorem Anc.lt {a d : Nat} (h : Anc a d) : a < d := by
  induction h with
  | par h => omega
  | up h _ ih => omega
theorem Anc.trans {a b d : Nat} (h : Anc a b) (k : Anc b d) : Anc a d := by
  induction k with
  | par k => exact .up k h
  | up k _ ih => exact .up k (ih h)
theorem Anc.cases {a d : Nat} (h : Anc a d) : d ≠ 0 ∧ (a = (d - 1) / 2 ∨ Anc a ((d - 1) / 2)) := by
  cases h with
  | par h => exact ⟨h, .inl rfl⟩
  | up h k => exact ⟨h, .inr k⟩

/-- x may stand above y on a level of this kind. -/
def le (e : Bool) (x y : Int) : Prop := if e then x ≤ y else y ≤ x
theorem le_refl (e : Bool) (x : Int) : le e x x := by cases e <;> simp [le]
theorem le_trans {e : Bool} {x y z : Int} (h : le e x y) (k : le e y z) : le e x z := by
  cases e <;> simp [le] at * <;> omega
theorem le_not {e : Bool} {x y : Int} (h : ¬ le e x y) : le e y x := by
  cases e <;> simp [le] at * <;> omega
theorem le_flip (e : Bool) (x y : Int) : le (!e) x y ↔ le e y x := by cases e <;> simp [le]

def at0 (zs : List Int) (i : Nat) : Int := zs.getD i 0
/-- Does the value at i belong above the value at j, on a level of this kind? -/
def rk (zs : List Int) (i j : Nat) (e : Bool) : Bool := if e then decide (at0 zs i < at0 zs j) else decide (at0 zs j < at0 zs i)
theorem rk_iff (zs : List Int) (i j : Nat) (e : Bool) : rk zs i j e = true ↔ ¬ le e (at0 zs j) (at0 zs i) := by
  cases e <;> simp [rk, le]
theorem rk_false (zs : List Int) (i j : Nat) (e : Bool) (h : rk zs i j e = false) : le e (at0 zs j) (at0 zs i) := by
  apply Classical.byContradiction
  intro k
  rw [← rk_iff] at k
  rw [h] at k
  exact absurd k (by decide)
theorem rk_true (zs : List Int) (i j : Nat) (e : Bool) (h : rk zs i j e = true) : le e (at0 zs i) (at0 zs j) := le_not ((rk_iff _ _ _ _).1 h)

def swp (zs : List Int) (i j : Nat) : List Int := (zs.set i (at0 zs j)).set j (at0 zs i)
theorem swp_length (zs : List Int) (i j : Nat) : (swp zs i j).length = zs.length := by simp [swp]
theorem at0_set (zs : List Int) (i k : Nat) (v : Int) (hi : i < zs.length) : at0 (zs.set i v) k = if k = i then v else at0 zs k := by
  unfold at0
  rw [List.getD_eq_getElem?_getD, List.getElem?_set, List.getD_eq_getElem?_getD]
  by_cases h : i = k
  · subst h; simp [hi]
  · have h' : ¬ k = i := fun e => h e.symm
    simp [h, h']
theorem at0_swp (zs : List Int) (i j k : Nat) (hi : i < zs.length) (hj : j < zs.length) : at0 (swp zs i j) k = if k = j then at0 zs i else if k = i then at0 zs j else at0 zs k := by
  unfold swp
  rw [at0_set _ _ _ _ (by simpa using hj), at0_set _ _ _ _ hi]
theorem swp_perm (zs : List Int) (i j : Nat) (hi : i < zs.length) (hj : j < zs.length) : (swp zs i j).Perm zs := by
  unfold swp at0
  simp only [List.getD_eq_getElem?_getD, List.getElem?_eq_getElem hi, List.getElem?_eq_getElem hj, Option.getD_some]
  exact List.set_set_perm hi hj

/-- The climb past the grandparents. -/
def climb (zs : List Int) (i : Nat) (e : Bool) : List Int :=
  if h : 2 < i then (if rk zs i (((i - 1) / 2 - 1) / 2) e then climb (swp zs i (((i - 1) / 2 - 1) / 2)) (((i - 1) / 2 - 1) / 2) e else zs) else zs
termination_by i
decreasing_by omega

def upZ (zs : List Int) (i : Nat) : List Int :=
  if i = 0 then zs else if rk zs i ((i - 1) / 2) (!lev i) then climb (swp zs i ((i - 1) / 2)) ((i - 1) / 2) (!lev i) else climb zs i (lev i)

def pushZ (zs : List Int) (z : Int) : List Int := upZ (zs ++ [z]) zs.length

/-- Every value stands rightly below what is above it. -/
def MM (zs : List Int) : Prop := ∀ a d, d < zs.length → Anc a d → le (lev a) (at0 zs a) (at0 zs d)
/-- The same, but for the value at i, below the levels of its own kind. -/
def MMx (zs : List Int) (i : Nat) : Prop := ∀ a d, d < zs.length → Anc a d → (d = i ∧ lev a = lev i) ∨ le (lev a) (at0 zs a) (at0 zs d)

theorem climb_mm (i : Nat) : ∀ (zs : List Int), i < zs.length → MMx zs i → MM (climb zs i (lev i)) := by
  induction i using Nat.strongRecOn with
  | _ i ih =>
    intro zs hi h
    rw [climb]
    split
    · rename_i h2
      have hg : ((i - 1) / 2 - 1) / 2 < i := by omega
      have lg := lev_gpar h2
      have lp := lev_par (i := i) (by omega)
      have ag : Anc (((i - 1) / 2 - 1) / 2) ((i - 1) / 2) := .par (by omega)
      have ai : Anc ((i - 1) / 2) i := .par (by omega)
      have agi := ag.trans ai
      have hpi : (i - 1) / 2 < i := by omega
      generalize hG : ((i - 1) / 2 - 1) / 2 = g at *
      split
      · rename_i hr
        rw [lg]
        refine ih g hg _ (by rw [swp_length]; omega) ?_
        have hxy := rk_true _ _ _ _ hr
        rw [lg] at hxy
        intro a d hd had
        rw [swp_length] at hd
        rw [at0_swp _ _ _ _ hi (by omega), at0_swp _ _ _ _ hi (by omega)]
        have hlt := had.lt
        by_cases dg : d = g
        · subst dg
          by_cases la : lev a = lev d
          · exact .inl ⟨rfl, la⟩
          · right
            have e1 : a ≠ d := by omega
            have e2 : a ≠ i := by omega
            simp only [e1, e2, if_true, if_false]
            have k := (h a d hd had).resolve_left (by rintro ⟨e, _⟩; omega)
            have la' : lev a = !lev d := by revert la; cases lev a <;> cases lev d <;> simp
            rw [la', le_flip] at k ⊢
            exact le_trans hxy k
        · right
          simp only [if_neg dg]
          by_cases ag' : a = g
          · subst ag'
            simp only [if_true]
            by_cases di : d = i
            · subst di
              simp only [if_true]
              exact hxy
            · simp only [if_neg di]
              have k := (h a d hd had).resolve_left (by rintro ⟨e, _⟩; exact di e)
              exact le_trans hxy k
          · simp only [if_neg ag']
            by_cases ai' : a = i
            · subst ai'
              have di : d ≠ a := by omega
              simp only [if_true, if_neg di]
              have k := (h g d hd (agi.trans had)).resolve_left (by rintro ⟨e, _⟩; exact di e)
              rw [lg]
              exact k
            · simp only [if_neg ai']
              by_cases di : d = i
              · subst di
                simp only [if_true]
                rcases had.cases.2 with e | k
                · have k := (h g ((d - 1) / 2) (by omega) ag).resolve_left (by rintro ⟨e, _⟩; omega)
                  rw [e]
                  have lp' : lev ((d - 1) / 2) = !lev g := by rw [← lg, lp]; simp
                  rw [lp', le_flip]
                  exact k
                · rcases k.cases.2 with e | k'
                  · exact absurd (e.trans hG) ag'
                  · rw [hG] at k'
                    exact (h a g (by omega) k').resolve_left (by rintro ⟨e, _⟩; omega)
              · simp only [if_neg di]
                exact (h a d hd had).resolve_left (by rintro ⟨e, _⟩; exact di e)
      · rename_i hr
        have hyx := rk_false _ _ _ _ (by simpa using hr)
        intro a d hd had
        rcases h a d hd had with ⟨rfl, la⟩ | k
        · rcases had.cases.2 with e | k
          · exfalso
            rw [e, lp] at la
            revert la; cases lev ((d - 1) / 2) <;> simp
          · rcases k.cases.2 with e | k'
            · rw [e, hG, ← lg]; exact hyx
            · rw [hG] at k'
              have k2 := (h a g (by omega) k').resolve_left (by rintro ⟨e, _⟩; omega)
              rw [la] at k2 ⊢
              exact le_trans k2 hyx
        · exact k
    · rename_i h2
      intro a d hd had
      rcases h a d hd had with ⟨rfl, la⟩ | k
      · exfalso
        obtain ⟨d0, e | k⟩ := had.cases
        · rw [e, lev_par d0] at la
          revert la; cases lev ((d - 1) / 2) <;> simp
        · have := k.cases.1
          omega
      · exact k

theorem climb_perm (i : Nat) : ∀ (zs : List Int) (e : Bool), i < zs.length → (climb zs i e).Perm zs := by
  induction i using Nat.strongRecOn with
  | _ i ih =>
    intro zs e hi
    rw [climb]
    split
    · split
      · exact (ih _ (by omega) _ e (by rw [swp_length]; omega)).trans (swp_perm _ _ _ hi (by omega))
      · exact .refl _
    · exact .refl _

theorem upZ_perm (zs : List Int) (i : Nat) (hi : i < zs.length) : (upZ zs i).Perm zs := by
  unfold upZ
  split
  · exact .refl _
  · split
    · exact (climb_perm _ _ _ (by rw [swp_length]; omega)).trans (swp_perm _ _ _ hi (by omega))
    · exact climb_perm _ _ _ hi

theorem pushZ_perm (zs : List Int) (z : Int) : (pushZ zs z).Perm (zs ++ [z]) := upZ_perm _ _ (by simp)
theorem pushZ_length (zs : List Int) (z : Int) : (pushZ zs z).length = zs.length + 1 := by simpa using (pushZ_perm zs z).length_eq

theorem at0_snoc (zs : List Int) (z : Int) (k : Nat) (hk : k < zs.length) : at0 (zs ++ [z]) k = at0 zs k := by
  unfold at0
  rw [List.getD_eq_getElem?_getD, List.getD_eq_getElem?_getD, List.getElem?_append_left hk]

theorem pushZ_mm (zs : List Int) (z : Int) (h : MM zs) : MM (pushZ zs z) := by
  have h' : ∀ a d, d < zs.length → Anc a d → le (lev a) (at0 (zs ++ [z]) a) (at0 (zs ++ [z]) d) := by
    intro a d hd had
    have := had.lt
    rw [at0_snoc _ _ _ hd, at0_snoc _ _ _ (by omega)]
    exact h a d hd had
  unfold pushZ
  have hl : (zs ++ [z]).length = zs.length + 1 := by simp
  generalize zs ++ [z] = ys at *
  generalize zs.length = i at *
  unfold upZ
  split
  · rename_i h0
    subst h0
    intro a d hd had
    have := had.lt
    omega
  · rename_i h0
    have lp := lev_par h0
    have ai : Anc ((i - 1) / 2) i := .par h0
    have hpi : (i - 1) / 2 < i := by omega
    split
    · rename_i hr
      have hxy := rk_true _ _ _ _ hr
      have lp' : (!lev i) = lev ((i - 1) / 2) := by rw [lp]; simp
      rw [lp'] at hxy ⊢
      generalize hP : (i - 1) / 2 = p at *
      refine climb_mm p _ (by rw [swp_length]; omega) ?_
      intro a d hd had
      rw [swp_length] at hd
      rw [at0_swp _ _ _ _ (by omega) (by omega), at0_swp _ _ _ _ (by omega) (by omega)]
      have hlt := had.lt
      by_cases dp : d = p
      · subst dp
        by_cases la : lev a = lev d
        · exact .inl ⟨rfl, la⟩
        · right
          have e1 : a ≠ d := by omega
          have e2 : a ≠ i := by omega
          simp only [e1, e2, if_true, if_false]
          have k := h' a d (by omega) had
          have la' : lev a = !lev d := by revert la; cases lev a <;> cases lev d <;> simp
          rw [la', le_flip] at k ⊢
          exact le_trans hxy k
      · right
        simp only [if_neg dp]
        have e2 : a ≠ i := by omega
        by_cases ap : a = p
        · subst ap
          simp only [if_true]
          by_cases di : d = i
          · subst di
            simp only [if_true]
            exact hxy
          · simp only [if_neg di]
            exact le_trans hxy (h' a d (by omega) had)
        · simp only [if_neg ap, if_neg e2]
          by_cases di : d = i
          · subst di
            simp only [if_true]
            rcases had.cases.2 with e | k
            · exact absurd (e.trans hP) ap
            · rw [hP] at k
              exact h' a p (by omega) k
          · simp only [if_neg di]
            exact h' a d (by omega) had
    · rename_i hr
      have hyx := rk_false _ _ _ _ (by simpa using hr)
      have lp' : (!lev i) = lev ((i - 1) / 2) := by rw [lp]; simp
      rw [lp'] at hyx
      refine climb_mm i _ (by omega) ?_
      intro a d hd had
      by_cases di : d = i
      · subst di
        by_cases la : lev a = lev d
        · exact .inl ⟨rfl, la⟩
        · right
          have la' : lev a = lev ((d - 1) / 2) := by rw [← lp']; revert la; cases lev a <;> cases lev d <;> simp
          rcases had.cases.2 with e | k
          · rw [e]; exact hyx
          · have k2 := h' a _ (by omega) k
            rw [la'] at k2 ⊢
            exact le_trans k2 hyx
      · exact .inr (h' a d (by omega) had)

theorem mm_nil : MM [] := by intro a d hd; simp at hd

/-! ### The least and the greatest -/
theorem anc_zero (d : Nat) (h : d ≠ 0) : Anc 0 d := by
  induction d using Nat.strongRecOn with
  | _ d ih =>
    by_cases e : (d - 1) / 2 = 0
    · have := Anc.par h
      rwa [e] at this
    · exact .up h (ih _ (by omega) e)
theorem anc_one_two (d : Nat) (h : 2 < d) : Anc 1 d ∨ Anc 2 d := by
  induction d using Nat.strongRecOn with
  | _ d ih =>
    by_cases e : 2 < (d - 1) / 2
    · rcases ih _ (by omega) e with k | k
      · exact .inl (.up (by omega) k)
      · exact .inr (.up (by omega) k)
    · have k : Anc ((d - 1) / 2) d := .par (by omega)
      have : (d - 1) / 2 = 1 ∨ (d - 1) / 2 = 2 := by omega
      rcases this with e | e <;> rw [e] at k
      · exact .inl k
      · exact .inr k

theorem mm_least (zs : List Int) (h : MM zs) (d : Nat) (hd : d < zs.length) : at0 zs 0 ≤ at0 zs d := by
  by_cases e : d = 0
  · subst e; omega
  · have := h 0 d hd (anc_zero d e)
    rw [lev_zero] at this
    simpa [le] using this

/-- latestIndex. -/
def latest (zs : List Int) : Nat := if zs.length = 1 then 0 else if zs.length = 2 then 1 else if at0 zs 1 < at0 zs 2 then 2 else 1
theorem lev_one : lev 1 = false := by rw [lev_par (by decide)]; simp [lev_zero]
theorem lev_two : lev 2 = false := by rw [lev_par (by decide)]; simp [lev_zero]
theorem latest_lt (zs : List Int) (h : 0 < zs.length) : latest zs < zs.length := by
  unfold latest; split
  · omega
  · split
    · omega
    · split <;> omega
theorem mm_greatest (zs : List Int) (h : MM zs) (d : Nat) (hd : d < zs.length) : at0 zs d ≤ at0 zs (latest zs) := by
  have h0 := mm_least zs h
  have h1 : ∀ d, d < zs.length → Anc 1 d → at0 zs d ≤ at0 zs 1 := by
    intro d hd k
    have := h 1 d hd k
    rw [lev_one] at this
    simpa [le] using this
  have h2 : ∀ d, d < zs.length → Anc 2 d → at0 zs d ≤ at0 zs 2 := by
    intro d hd k
    have := h 2 d hd k
    rw [lev_two] at this
    simpa [le] using this
  unfold latest
  split
  · have : d = 0 := by omega
    subst this; omega
  · split
    · have := h0 1 (by omega)
      have : d = 0 ∨ d = 1 := by omega
      rcases this with rfl | rfl <;> omega
    · have p0 := h0 1 (by omega)
      have : at0 zs d ≤ at0 zs 1 ∨ at0 zs d ≤ at0 zs 2 := by
        by_cases e : 2 < d
        · rcases anc_one_two d e with k | k
          · exact .inl (h1 d hd k)
          · exact .inr (h2 d hd k)
        · have : d = 0 ∨ d = 1 ∨ d = 2 := by omega
          rcases this with rfl | rfl | rfl <;> omega
      split <;> omega

end Go.Proofs.Qxb6612239a

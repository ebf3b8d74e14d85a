/-
  isAlias, slices.IndexFunc, slices.ContainsFunc, alias.
-/
import Derived.Test.Qxb6609453aFmtWith
namespace Go.Proofs.Qxb6609453aFmt
open Go.RowKit
attribute [local go_sem ↓] Go.wp_at_zero Go.wp_at_succ

/-- The table clauseWords: its variable, its map. -/
structure GM (w : World) (bm : Nat) (o : Obj) : Prop where
  c : w.cell? ⟨0, 0, none⟩ = some (.map (some bm))
  m : w.heap[bm]? = some o

/-- What the table answers to v, in every world that holds it. -/
def Look (bm : Nat) (o : Obj) (v : ByteArray) (b : Bool) : Prop := ∀ w : World, w.heap[bm]? = some o → (Instr.lookup 74 (.map (some bm)) (.string v) false).run Tryf.prog w = .ok (.bool b) w

theorem GM.lt {w : World} {bm : Nat} {o : Obj} (h : GM w bm o) : 0 < w.heap.size ∧ bm < w.heap.size :=
  ⟨World.block_lt_of_cell? w _ h.c, (Array.getElem?_eq_some_iff.1 h.m).1⟩
theorem GM.below {w w' : World} {bm : Nat} {o : Obj} (h : GM w bm o) (hb : Below w.heap.size w w') : GM w' bm o :=
  ⟨(hb.cell (p := ⟨0, 0, none⟩) h.lt.1).trans h.c, (hb.block bm h.lt.2).trans h.m⟩
theorem GM.grown {w w' : World} {bm pb : Nat} {o : Obj} (h : GM w bm o) (hg : w.grownBy w' (some pb)) (h0 : pb ≠ 0) (h1 : pb ≠ bm) : GM w' bm o :=
  ⟨(hg.cell_far ⟨0, 0, none⟩ h.lt.1 (by simpa using h0.symm)).trans h.c, (hg.block bm h.lt.2 (by simpa using h1.symm)).trans h.m⟩

set_option maxHeartbeats 400000 in
theorem isAlias_calls {bm : Nat} {o : Obj} {v : ByteArray} {b : Bool} (p e : Int) {w : World} (h : GM w bm o) (hl : Look bm o v b) :
    Calls Tryf.prog 28 #[.agg #[.int .i64 0, .string v, .int .i64 p, .int .i64 e]] w fun e w' => e = .returned (.bool !b) ∧ Below w.heap.size w w' := by
  have hr := hl (w.alloc (.cells #[.int .i64 0, .string v, .int .i64 p, .int .i64 e] 52)) (by rw [Below.heap_alloc _ _ _ h.lt.2]; exact h.m)
  have hc := h.c
  have h0 := h.lt.1
  clear h hl
  go_enter Tryf.func28, Tryf.ntmps28
  go_wp2
  go_ret
  exact ⟨rfl, (Below.refl _ _).alloc (Nat.le_refl _) _⟩

set_option maxHeartbeats 400000 in
/-- slices.IndexFunc at one word, the method value t.Is: it is met. -/
theorem index_calls {ab : Nat} (k p e : Int) (v s : ByteArray) {w : World} (hc : w.cell? ⟨ab, 0, none⟩ = some (.string s)) (hs : isTk k v s = true) :
    Calls Tryf.prog 32 #[.slice (some ⟨ab, 0, none⟩) 1 1, .func (.func 20) #[.agg #[.int .i64 k, .string v, .int .i64 p, .int .i64 e]] #[]] w fun e w' => e = .returned (.int .i64 0) ∧ Below w.heap.size w w' := by
  have HI := fun w => is_calls k p e v s w
  rw [hs] at HI
  have HH : Hid _ := HI
  clear HI hs
  go_enter Tryf.func32, Tryf.ntmps32
  go_wp2_with fail
  refine wp_loop_rounds 1 ?_
  rw [rounds_succ]
  go_wp2_with fail
  refine (HH.out _).mono ?_
  rintro e w1 ⟨rfl, hb⟩
  go_wp2
  go_ret
  exact ⟨rfl, hb⟩

set_option maxHeartbeats 400000 in
theorem contains_calls {ab : Nat} (k p e : Int) (v s : ByteArray) {w : World} (hc : w.cell? ⟨ab, 0, none⟩ = some (.string s)) (hs : isTk k v s = true) :
    Calls Tryf.prog 29 #[.slice (some ⟨ab, 0, none⟩) 1 1, .func (.func 20) #[.agg #[.int .i64 k, .string v, .int .i64 p, .int .i64 e]] #[]] w fun e w' => e = .returned (.bool true) ∧ Below w.heap.size w w' := by
  have HI := index_calls k p e v s hc hs
  clear hc hs
  go_enter Tryf.func29, Tryf.ntmps29
  go_wp2_with fail
  refine HI.mono ?_
  rintro e w1 ⟨rfl, hb⟩
  clear HI
  go_wp2
  go_ret
  exact ⟨rfl, hb⟩

set_option maxRecDepth 100000 in
set_option maxHeartbeats 1000000 in
/-- alias(..), at AS. -/
theorem alias_as {pb g i : Nat} {ts : List Tk} {w : World} (h : Wds w pb g ts i) (hi : i < ts.length) (os : Value) (ha : isTk ts[i].kind ts[i].val kAs = true) :
    Calls Tryf.prog 25 #[.pointer (some ⟨pb, 0, none⟩), os] w fun e w' => e = .returned (.bool true) ∧ w.grownBy w' (some pb) ∧ Wds w' pb g ts i := by
  have hbd := h.bd
  have c0 := h.c0
  have c1 := h.c1
  have c2 := h.c2
  have d0 : decide (ts.length ≤ i) = false := by simp; omega
  have HW : Hid (Wds w pb g ts i) := h
  have HA : Hid (isTk ts[i].kind ts[i].val kAs = true) := ha
  clear h ha
  go_enter Tryf.func25, Tryf.ntmps25
  go_wp2_with fail
  go_quiet (fail)
  go_wp2_with fail
  have hw1 := HW.out.drewN nq
  have hg1 : w.grownBy (w.drewN nq) (some pb) := grownBy_drewN (World.grownBy.refl w _) nq
  generalize w.drewN nq = w1 at *
  clear c0 c1 c2 d0 HW
  have c0 := hw1.c0
  have c1 := hw1.c1
  obtain ⟨t0, t1, t2, t3⟩ := hw1.tok i hi
  have i0 : (0 : Int) ≤ (i : Int) := Int.natCast_nonneg _
  have i1 : (i : Int) < (ts.length : Int) := by omega
  have n0 := World.new_ne w1 _ c0
  have n1 := World.new_ne w1 _ t0
  have HW1 : Hid (Wds w1 pb g ts i) := hw1
  clear hw1
  generalize ts[i].kind = kd at *
  generalize ts[i].val = vl at *
  generalize ts[i].pos = po at *
  generalize ts[i].fin = fi at *
  go_region_held3 (fun w' => w'.cell? ⟨pb, 0, none⟩ = some (.slice (some ⟨g, 0, none⟩) ts.length ts.length) ∧ w'.cell? ⟨pb, 1, none⟩ = some (.int .i64 i) ∧
      w'.cell? ⟨g, i * 4, none⟩ = some (.int .i64 kd) ∧ w'.cell? ⟨g, i * 4 + 1, none⟩ = some (.string vl) ∧ w'.cell? ⟨g, i * 4 + 2, none⟩ = some (.int .i64 po) ∧ w'.cell? ⟨g, i * 4 + 3, none⟩ = some (.int .i64 fi))
    (go_keep) (fail)
  go_wp2_with fail
  refine (is_calls kd po fi vl kAs _).mono ?_
  rintro e w2 ⟨rfl, hb⟩
  rw [HA.out]
  go_wp2
  go_ret
  exact ⟨rfl, grownBy_trans hg1 (grownBy_trans (grownBy_drew (World.grownBy_alloc w1 _ _)) (grownBy_below hb)), ((HW1.out.alloc _).drew).below hb⟩

set_option maxRecDepth 100000 in
set_option maxHeartbeats 1000000 in
/-- alias(..), at a clause's keyword. -/
theorem alias_clause {pb g i bm : Nat} {ts : List Tk} {o : Obj} {w : World} (h : Wds w pb g ts i) (hi : i < ts.length) (hk : ts[i].kind = 0) (ha : isTk 0 ts[i].val kAs = false) (hm : GM w bm o) (hl : Look bm o ts[i].val true) :
    Calls Tryf.prog 25 #[.pointer (some ⟨pb, 0, none⟩), .slice none 0 0] w fun e w' => e = .returned (.bool false) ∧ w.grownBy w' (some pb) ∧ Wds w' pb g ts i := by
  have hbd := h.bd
  have c0 := h.c0
  have c1 := h.c1
  have c2 := h.c2
  have d0 : decide (ts.length ≤ i) = false := by simp; omega
  have HW : Hid (Wds w pb g ts i) := h
  have HA : Hid (ts[i].kind = 0 ∧ isTk 0 ts[i].val kAs = false ∧ Look bm o ts[i].val true) := ⟨hk, ha, hl⟩
  have HM : Hid (GM w bm o) := hm
  clear h hk ha hm hl
  go_enter Tryf.func25, Tryf.ntmps25
  go_wp2_with fail
  go_quiet (fail)
  go_wp2_with fail
  have hw1 := HW.out.drewN nq
  have hg1 : w.grownBy (w.drewN nq) (some pb) := grownBy_drewN (World.grownBy.refl w _) nq
  have hm1 : GM (w.drewN nq) bm o := ⟨HM.out.c, HM.out.m⟩
  clear HM
  generalize w.drewN nq = w1 at *
  clear c0 c1 c2 d0 HW
  have c0 := hw1.c0
  have c1 := hw1.c1
  obtain ⟨t0, t1, t2, t3⟩ := hw1.tok i hi
  have i0 : (0 : Int) ≤ (i : Int) := Int.natCast_nonneg _
  have i1 : (i : Int) < (ts.length : Int) := by omega
  have n0 := World.new_ne w1 _ c0
  have n1 := World.new_ne w1 _ t0
  have HW1 : Hid (Wds w1 pb g ts i) := hw1
  clear hw1
  obtain ⟨hk, ha, hl⟩ := HA.out
  rw [hk] at t0
  clear HA hk
  have HA : Hid (isTk 0 ts[i].val kAs = false ∧ Look bm o ts[i].val true) := ⟨ha, hl⟩
  have HM : Hid (GM w1 bm o) := hm1
  clear ha hl hm1
  generalize ts[i].val = vl at *
  generalize ts[i].pos = po at *
  generalize ts[i].fin = fi at *
  go_region_held3 (fun w' => w'.cell? ⟨pb, 0, none⟩ = some (.slice (some ⟨g, 0, none⟩) ts.length ts.length) ∧ w'.cell? ⟨pb, 1, none⟩ = some (.int .i64 i) ∧
      w'.cell? ⟨g, i * 4, none⟩ = some (.int .i64 0) ∧ w'.cell? ⟨g, i * 4 + 1, none⟩ = some (.string vl) ∧ w'.cell? ⟨g, i * 4 + 2, none⟩ = some (.int .i64 po) ∧ w'.cell? ⟨g, i * 4 + 3, none⟩ = some (.int .i64 fi))
    (go_keep) (fail)
  go_wp2_with fail
  refine (is_calls 0 po fi vl kAs _).mono ?_
  rintro e w2 ⟨rfl, hb⟩
  rw [HA.out.1]
  have hb' : Below w1.heap.size w1 w2 := (((Below.refl _ w1).alloc (Nat.le_refl _) _).drew).trans (hb.mono (by simp))
  have hc5 : w2.cell? ⟨w1.heap.size, 0, none⟩ = some (.int .i64 0) := (hb.cell (p := ⟨w1.heap.size, 0, none⟩) (by simp)).trans (by simp [go_sem])
  have hc6 : w2.cell? ⟨w1.heap.size, 1, none⟩ = some (.string vl) := (hb.cell (p := ⟨w1.heap.size, 1, none⟩) (by simp)).trans (by simp [go_sem])
  have hc7 : w2.cell? ⟨w1.heap.size, 2, none⟩ = some (.int .i64 po) := (hb.cell (p := ⟨w1.heap.size, 2, none⟩) (by simp)).trans (by simp [go_sem])
  have hc8 : w2.cell? ⟨w1.heap.size, 3, none⟩ = some (.int .i64 fi) := (hb.cell (p := ⟨w1.heap.size, 3, none⟩) (by simp)).trans (by simp [go_sem])
  clear hb t0 t1 t2 t3 c0 c1
  go_wp2_with fail
  refine (isAlias_calls po fi (HM.out.below hb') HA.out.2).mono ?_
  rintro e w3 ⟨rfl, hb3⟩
  have hb4 := hb'.trans (hb3.mono hb'.size)
  clear hb3 hb' hc5 hc6 hc7 hc8
  go_wp2
  go_ret
  exact ⟨rfl, grownBy_trans hg1 (grownBy_below hb4), HW1.out.below hb4⟩

set_option maxRecDepth 100000 in
set_option maxHeartbeats 1000000 in
/-- alias(..), at one of the words given, where it is no clause's keyword. -/
theorem alias_other {pb g i bm ab : Nat} {ts : List Tk} {o : Obj} {w : World} (h : Wds w pb g ts i) (hi : i < ts.length) (hk : ts[i].kind = 0) (ha : isTk 0 ts[i].val kAs = false) (hm : GM w bm o) (hl : Look bm o ts[i].val false) (s : ByteArray) (hs : isTk 0 ts[i].val s = true) (hab : w.cell? ⟨ab, 0, none⟩ = some (.string s)) :
    Calls Tryf.prog 25 #[.pointer (some ⟨pb, 0, none⟩), .slice (some ⟨ab, 0, none⟩) 1 1] w fun e w' => e = .returned (.bool false) ∧ w.grownBy w' (some pb) ∧ Wds w' pb g ts i := by
  have hbd := h.bd
  have c0 := h.c0
  have c1 := h.c1
  have c2 := h.c2
  have d0 : decide (ts.length ≤ i) = false := by simp; omega
  have HW : Hid (Wds w pb g ts i) := h
  have HA : Hid (ts[i].kind = 0 ∧ isTk 0 ts[i].val kAs = false ∧ Look bm o ts[i].val false ∧ isTk 0 ts[i].val s = true) := ⟨hk, ha, hl, hs⟩
  have HM : Hid (GM w bm o) := hm
  have HB : Hid (w.cell? ⟨ab, 0, none⟩ = some (.string s)) := hab
  clear h hk ha hm hl hs hab
  go_enter Tryf.func25, Tryf.ntmps25
  go_wp2_with fail
  go_quiet (fail)
  go_wp2_with fail
  have hw1 := HW.out.drewN nq
  have hg1 : w.grownBy (w.drewN nq) (some pb) := grownBy_drewN (World.grownBy.refl w _) nq
  have hm1 : GM (w.drewN nq) bm o := ⟨HM.out.c, HM.out.m⟩
  have hab : (w.drewN nq).cell? ⟨ab, 0, none⟩ = some (.string s) := HB.out
  clear HM HB
  generalize w.drewN nq = w1 at *
  clear c0 c1 c2 d0 HW
  have c0 := hw1.c0
  have c1 := hw1.c1
  obtain ⟨t0, t1, t2, t3⟩ := hw1.tok i hi
  have i0 : (0 : Int) ≤ (i : Int) := Int.natCast_nonneg _
  have i1 : (i : Int) < (ts.length : Int) := by omega
  have n0 := World.new_ne w1 _ c0
  have n1 := World.new_ne w1 _ t0
  have HW1 : Hid (Wds w1 pb g ts i) := hw1
  clear hw1
  obtain ⟨hk, ha, hl, hs⟩ := HA.out
  rw [hk] at t0
  clear HA hk
  have HA : Hid (isTk 0 ts[i].val kAs = false ∧ Look bm o ts[i].val false) := ⟨ha, hl⟩
  have HS : Hid (isTk 0 ts[i].val s = true) := hs
  have HB : Hid (w1.cell? ⟨ab, 0, none⟩ = some (.string s)) := hab
  have hlab := World.block_lt_of_cell? w1 _ hab
  have HM : Hid (GM w1 bm o) := hm1
  clear ha hl hm1 hs hab
  generalize ts[i].val = vl at *
  generalize ts[i].pos = po at *
  generalize ts[i].fin = fi at *
  go_region_held3 (fun w' => w'.cell? ⟨pb, 0, none⟩ = some (.slice (some ⟨g, 0, none⟩) ts.length ts.length) ∧ w'.cell? ⟨pb, 1, none⟩ = some (.int .i64 i) ∧
      w'.cell? ⟨g, i * 4, none⟩ = some (.int .i64 0) ∧ w'.cell? ⟨g, i * 4 + 1, none⟩ = some (.string vl) ∧ w'.cell? ⟨g, i * 4 + 2, none⟩ = some (.int .i64 po) ∧ w'.cell? ⟨g, i * 4 + 3, none⟩ = some (.int .i64 fi))
    (go_keep) (fail)
  go_wp2_with fail
  refine (is_calls 0 po fi vl kAs _).mono ?_
  rintro e w2 ⟨rfl, hb⟩
  rw [HA.out.1]
  have hb' : Below w1.heap.size w1 w2 := (((Below.refl _ w1).alloc (Nat.le_refl _) _).drew).trans (hb.mono (by simp))
  have hc5 : w2.cell? ⟨w1.heap.size, 0, none⟩ = some (.int .i64 0) := (hb.cell (p := ⟨w1.heap.size, 0, none⟩) (by simp)).trans (by simp [go_sem])
  have hc6 : w2.cell? ⟨w1.heap.size, 1, none⟩ = some (.string vl) := (hb.cell (p := ⟨w1.heap.size, 1, none⟩) (by simp)).trans (by simp [go_sem])
  have hc7 : w2.cell? ⟨w1.heap.size, 2, none⟩ = some (.int .i64 po) := (hb.cell (p := ⟨w1.heap.size, 2, none⟩) (by simp)).trans (by simp [go_sem])
  have hc8 : w2.cell? ⟨w1.heap.size, 3, none⟩ = some (.int .i64 fi) := (hb.cell (p := ⟨w1.heap.size, 3, none⟩) (by simp)).trans (by simp [go_sem])
  clear hb t0 t1 t2 t3 c0 c1
  go_wp2_with fail
  refine (isAlias_calls po fi (HM.out.below hb') HA.out.2).mono ?_
  rintro e w3 ⟨rfl, hb3⟩
  have hb4 := hb'.trans (hb3.mono hb'.size)
  have hz : w1.heap.size < w2.heap.size := World.block_lt_of_cell? w2 _ hc5
  have k5 := (hb3.cell (p := ⟨w1.heap.size, 0, none⟩) hz).trans hc5
  have k6 := (hb3.cell (p := ⟨w1.heap.size, 1, none⟩) hz).trans hc6
  have k7 := (hb3.cell (p := ⟨w1.heap.size, 2, none⟩) hz).trans hc7
  have k8 := (hb3.cell (p := ⟨w1.heap.size, 3, none⟩) hz).trans hc8
  clear hb3 hb' hc5 hc6 hc7 hc8
  go_wp2_with fail
  refine (contains_calls 0 po fi vl s ((hb4.cell (p := ⟨ab, 0, none⟩) hlab).trans HB.out) HS.out).mono ?_
  rintro e w4 ⟨rfl, hb5⟩
  have hb6 := hb4.trans (hb5.mono hb4.size)
  clear hb4 hb5 k5 k6 k7 k8
  go_wp2
  go_ret
  exact ⟨rfl, grownBy_trans hg1 (grownBy_below hb6), HW1.out.below hb6⟩

end Go.Proofs.Qxb6609453aFmt

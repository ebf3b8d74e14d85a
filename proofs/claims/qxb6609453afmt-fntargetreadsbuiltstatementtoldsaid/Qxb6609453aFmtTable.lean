/-
  table(): a table's name, qualified or not.
-/
import Derived.Test.Qxb6609453aFmtWds
import Derived.BigRegion
namespace Go.Proofs.Qxb6609453aFmt
open Go.RowKit
attribute [local go_sem ↓] Go.wp_at_zero Go.wp_at_succ

/-- A block of four cells, none frozen. -/
theorem cells4 {w : World} {b : Nat} {x0 x1 x2 x3 : Value} {t : TypeId} (h : w.heap[b]? = some (.cells #[x0, x1, x2, x3] t)) :
    (w.cell? ⟨b, 0, none⟩ = some x0 ∧ w.cell? ⟨b, 1, none⟩ = some x1 ∧ w.cell? ⟨b, 2, none⟩ = some x2 ∧ w.cell? ⟨b, 3, none⟩ = some x3) ∧
    (w.frozen? ⟨b, 0, none⟩ = false ∧ w.frozen? ⟨b, 1, none⟩ = false ∧ w.frozen? ⟨b, 2, none⟩ = false ∧ w.frozen? ⟨b, 3, none⟩ = false) := by
  simp [World.cell?, World.frozen?, h]

theorem grown_block {w w' : World} {pb b : Nat} {o : Obj} (hg : w.grownBy w' (some pb)) (h : w.heap[b]? = some o) (hne : b ≠ pb) : w'.heap[b]? = some o :=
  (hg.block b (Array.getElem?_eq_some_iff.1 h).1 (by simpa using hne)).trans h

theorem field52_1 (k po fi : Int) (v : ByteArray) (w : World) : (Instr.field 52 (.agg #[.int .i64 k, .string v, .int .i64 po, .int .i64 fi]) 1).run Tryf.prog w = .ok (.string v) w := by kernel_rfl

def zTable : Obj := .cells #[.string ⟨#[]⟩, .string ⟨#[]⟩, .int .i64 0, .int .i64 0] 41
def oTable (v : ByteArray) : Obj := .cells #[.string ⟨#[]⟩, .string v, .int .i64 0, .int .i64 0] 41

set_option maxRecDepth 100000 in
set_option maxHeartbeats 400000 in
theorem table_plain {pb g i : Nat} {ts : List Tk} {w : World} (h : Wds w pb g ts i) (hi : i < ts.length) (hk : ts[i].kind = 0 ∨ ts[i].kind = 1) (hd : hitB ts (i + 1) [⟨#[46]⟩] = false) :
    Calls Tryf.prog 19 #[.pointer (some ⟨pb, 0, none⟩)] w fun e w' =>
      e = .returned (.agg #[.string ⟨#[]⟩, .string ts[i].val, .int .i64 ts[i].pos, .int .i64 ts[i].fin]) ∧ w.grownBy w' (some pb) ∧ Wds w' pb g ts (i + 1) := by
  have hbd := h.bd
  have c1 := h.c1
  have hwpb := h.lt
  have hwg := h.row.lt
  have HD : Hid (hitB ts (i + 1) [⟨#[46]⟩] = false) := hd
  clear hd
  have hfl := field52_1
  go_enter Tryf.func19, Tryf.ntmps19
  go_wp2_with fail
  refine (name_calls (h.alloc _) hi hk).mono ?_
  rintro e w2 ⟨rfl, hg2, hw2⟩
  obtain ⟨ea, eb, ec, ed⟩ := tkAt_cells ts i hi
  have R2 := grown_block hg2 (heap_alloc_new w _) (by omega)
  have hs2 : w.heap.size < w2.heap.size := by have := hg2.size; simp at this; omega
  have HG2 := grownBy_alloc_left hg2
  unfold Tk.agg
  generalize hvl : ts[i].val = vl at *
  have Evl : Hid (ts[i].val = vl) := hvl
  clear hvl
  clear hg2 c1
  go_wp2_with fail
  refine (accept1 (hw2.alloc _) ⟨#[46]⟩ (by simp)).mono ?_
  rw [HD.out]
  rintro e w3 ⟨rfl, hg3, hw3⟩
  have R3 := grown_block hg3 ((Below.heap_alloc _ _ _ hs2).trans R2) (by omega)
  have T3 := grown_block hg3 (heap_alloc_new w2 _) (by have := hw2.lt; omega)
  have hs3 : w2.heap.size < w3.heap.size := by have := hg3.size; simp at this; omega
  have HG3 := grownBy_trans HG2 (grownBy_alloc_left hg3)
  have hT : w2.heap.size ≠ w.heap.size := by omega
  have hTp : w2.heap.size ≠ pb := by have := hw2.lt; omega
  have hTg : w2.heap.size ≠ g := by have := hw2.row.lt; omega
  clear R2 hg3 HG2 hw2
  generalize w2.heap.size = T at *
  obtain ⟨⟨a0, a1, a2, a3⟩, b0, b1, b2, b3⟩ := cells4 R3
  obtain ⟨⟨a4, a5, a6, a7⟩, b4, b5, b6, b7⟩ := cells4 T3
  have c0 := hw3.c0
  have c1 : w3.cell? ⟨pb, 1, none⟩ = some (.int .i64 ((i : Int) + 1)) := hw3.c1
  have c2 := hw3.c2
  have t2 := hw3.row.cell (i := i * 4 + 2) (by omega)
  have t3 := hw3.row.cell (i := i * 4 + 3) (by omega)
  rw [ec] at t2
  rw [ed] at t3
  clear ea eb ec ed R3 T3
  have i0 : (0 : Int) ≤ (i : Int) := Int.natCast_nonneg _
  have i1 : (i : Int) < (ts.length : Int) := by omega
  generalize hpo : ts[i].pos = po at *
  have Epo : Hid (ts[i].pos = po) := hpo
  clear hpo
  generalize hfi : ts[i].fin = fi at *
  have Efi : Hid (ts[i].fin = fi) := hfi
  clear hfi
  have HW : Hid (Wds w3 pb g ts (i + 1)) := hw3
  have hR : w.heap.size ≠ pb := by omega
  have hRg : w.heap.size ≠ g := by omega
  clear hw3 h hk HD hfl
  have hwr : IntKind.i64.wrap (i : Int) = (i : Int) := by rw [IntKind.wrap_i64]; omega
  have hR0 : w.heap.size ≤ w.heap.size := Nat.le_refl _
  have hT0 : w.heap.size ≤ T := by omega
  go_wp2_with fail
  go_region_held3 (fun w' => w'.cell? ⟨pb, 0, none⟩ = some (.slice (some ⟨g, 0, none⟩) ts.length ts.length) ∧ w'.cell? ⟨pb, 1, none⟩ = some (.int .i64 ((i : Int) + 1)) ∧
      w'.cell? ⟨g, i * 4 + 2, none⟩ = some (.int .i64 po) ∧ w'.cell? ⟨g, i * 4 + 3, none⟩ = some (.int .i64 fi))
    (go_keep) (fail)
  go_wp2
  refine bodyPost_ret (v := .agg #[.string ⟨#[]⟩, .string vl, .int .i64 po, .int .i64 fi]) (by simp [results, Tryf.results19, go_sem, *]) rfl ?_
  rw [Evl.out, Epo.out, Efi.out]
  refine ⟨rfl, ?_, ?_⟩
  · exact grownBy_drew (grownBy_new (grownBy_new (grownBy_new (grownBy_new (grownBy_new (grownBy_new HG3 hT0 _) hT0 _) hR0 _) hR0 _) hR0 _) hR0 _)
  · exact ((((((HW.out.setOther hTp.symm hTg.symm _).setOther hTp.symm hTg.symm _).setOther hR.symm hRg.symm _).setOther hR.symm hRg.symm _).setOther hR.symm hRg.symm _).setOther hR.symm hRg.symm _).drew

set_option maxRecDepth 100000 in
set_option maxHeartbeats 400000 in
theorem table_dot {pb g i : Nat} {ts : List Tk} {w : World} (h : Wds w pb g ts i) (hi : i + 2 < ts.length) (hk : ts[i].kind = 0 ∨ ts[i].kind = 1) (hd : hitB ts (i + 1) [⟨#[46]⟩] = true) (hk2 : ts[i + 2].kind = 0 ∨ ts[i + 2].kind = 1) :
    Calls Tryf.prog 19 #[.pointer (some ⟨pb, 0, none⟩)] w fun e w' =>
      e = .returned (.agg #[.string ts[i].val, .string ts[i + 2].val, .int .i64 ts[i].pos, .int .i64 ts[i + 2].fin]) ∧ w.grownBy w' (some pb) ∧ Wds w' pb g ts (i + 3) := by
  have hbd := h.bd
  have c1 := h.c1
  have hwpb := h.lt
  have hwg := h.row.lt
  have HD : Hid (hitB ts (i + 1) [⟨#[46]⟩] = true) := hd
  have HK2 : Hid (ts[i + 2].kind = 0 ∨ ts[i + 2].kind = 1) := hk2
  clear hd hk2
  have hfl := field52_1
  go_enter Tryf.func19, Tryf.ntmps19
  go_wp2_with fail
  refine (name_calls (h.alloc _) (by omega) hk).mono ?_
  rintro e w2 ⟨rfl, hg2, hw2⟩
  have R2 := grown_block hg2 (heap_alloc_new w _) (by omega)
  have hs2 : w.heap.size < w2.heap.size := by have := hg2.size; simp at this; omega
  have HG2 := grownBy_alloc_left hg2
  unfold Tk.agg
  generalize hvl : ts[i].val = vl at *
  have Evl : Hid (ts[i].val = vl) := hvl
  clear hvl
  clear hg2 c1
  go_wp2_with fail
  refine (accept1 (hw2.alloc _) ⟨#[46]⟩ (by simp)).mono ?_
  rw [HD.out]
  rintro e w3 ⟨rfl, hg3, hw3'⟩
  have hw3 : Wds w3 pb g ts (i + 2) := hw3'
  have R3 := grown_block hg3 ((Below.heap_alloc _ _ _ hs2).trans R2) (by omega)
  have T3 := grown_block hg3 (heap_alloc_new w2 _) (by have := hw2.lt; omega)
  have hs3 : w2.heap.size < w3.heap.size := by have := hg3.size; simp at this; omega
  have HG3 := grownBy_trans HG2 (grownBy_alloc_left hg3)
  have hT : w2.heap.size ≠ w.heap.size := by omega
  have hTp : w2.heap.size ≠ pb := by have := hw2.lt; omega
  have hTg : w2.heap.size ≠ g := by have := hw2.row.lt; omega
  clear R2 hg3 HG2 hw2 hw3'
  generalize w2.heap.size = T at *
  obtain ⟨⟨a4, a5, a6, a7⟩, b4, b5, b6, b7⟩ := cells4 T3
  have hR : w.heap.size ≠ pb := by omega
  have hRg : w.heap.size ≠ g := by omega
  have HR3 : Hid (w3.heap[w.heap.size]? = some (.cells #[.string ⟨#[]⟩, .string ⟨#[]⟩, .int .i64 0, .int .i64 0] 41)) := R3
  have HT3 : Hid (w3.heap[T]? = some (.cells #[.string ⟨#[]⟩, .string vl, .int .i64 0, .int .i64 0] 41)) := T3
  clear h hk HD R3 T3
  have hR0 : w.heap.size ≤ w.heap.size := Nat.le_refl _
  have hT0 : w.heap.size ≤ T := by omega
  go_wp2_with fail
  go_region_with (go_at_call 24; refine (name_calls (hw3.drew) hi HK2.out).mono ?_; rintro e w4 ⟨rfl, hg4, hw4⟩; have T4 := grown_block hg4 HT3.out hTp; obtain ⟨⟨q4, q5, q6, q7⟩, r4, r5, r6, r7⟩ := cells4 T4; clear T4; unfold Tk.agg)
  all_goals
    have R4 := grown_block hg4 HR3.out hR
    obtain ⟨⟨a0, a1, a2, a3⟩, b0, b1, b2, b3⟩ := cells4 R4
    have HG4 : w.grownBy w4 (some pb) := grownBy_trans HG3 ⟨hg4.os, hg4.tape, hg4.output, hg4.size, hg4.block⟩
    obtain ⟨ea, eb, ec, ed⟩ := tkAt_cells ts i (by omega)
    obtain ⟨fa, fb, fc, fd⟩ := tkAt_cells ts (i + 2) hi
    have c0 := hw4.c0
    have c1 : w4.cell? ⟨pb, 1, none⟩ = some (.int .i64 ((i : Int) + 3)) := by rw [hw4.c1]; congr 2
    have c2 := hw4.c2
    have t2 := hw4.row.cell (i := i * 4 + 2) (by omega)
    have t3 := hw4.row.cell (i := (i + 2) * 4 + 3) (by omega)
    rw [ec] at t2
    rw [fd] at t3
    have HW4 : Hid (Wds w4 pb g ts (i + 3)) := hw4
    clear ea eb ec ed fa fb fc fd R4 a4 a5 a6 a7 b4 b5 b6 b7 hg4 HR3 HT3 HG3 hw3 hw4 hfl
    have i0 : (0 : Int) ≤ (i : Int) := Int.natCast_nonneg _
    have i1 : (i : Int) < (ts.length : Int) := by omega
    have i2 : (0 : Int) ≤ (i : Int) + 2 := by omega
    have i3 : (i : Int) + 2 < (ts.length : Int) := by omega
    have i4 : ((i : Int) + 2).toNat = i + 2 := by omega
    have hwr : IntKind.i64.wrap ((i : Int) + 3 - 1) = (i : Int) + 2 := by rw [IntKind.wrap_i64]; omega
    generalize hpo : ts[i].pos = po at *
    have Epo : Hid (ts[i].pos = po) := hpo
    clear hpo
    generalize hfi : ts[i + 2].fin = fi at *
    have Efi : Hid (ts[i + 2].fin = fi) := hfi
    clear hfi
    generalize hv2 : ts[i + 2].val = v2 at *
    have Ev2 : Hid (ts[i + 2].val = v2) := hv2
    clear hv2
    go_wp2_with fail
    go_region_held3 (fun w' => w'.cell? ⟨pb, 0, none⟩ = some (.slice (some ⟨g, 0, none⟩) ts.length ts.length) ∧ w'.cell? ⟨pb, 1, none⟩ = some (.int .i64 ((i : Int) + 3)) ∧
        w'.cell? ⟨g, i * 4 + 2, none⟩ = some (.int .i64 po) ∧ w'.cell? ⟨g, (i + 2) * 4 + 3, none⟩ = some (.int .i64 fi))
      (go_keep) (fail)
    go_wp2
    refine bodyPost_ret (v := .agg #[.string vl, .string v2, .int .i64 po, .int .i64 fi]) (by simp [results, Tryf.results19, go_sem, *]) rfl ?_
    rw [Evl.out, Epo.out, Efi.out, Ev2.out]
    refine ⟨rfl, ?_, ?_⟩
    · exact grownBy_drew (grownBy_new (grownBy_new (grownBy_new (grownBy_new (grownBy_new (grownBy_new (grownBy_new (grownBy_new HG4 hT0 _) hT0 _) hT0 _) hT0 _) hR0 _) hR0 _) hR0 _) hR0 _)
    · exact ((((((((HW4.out.setOther hTp.symm hTg.symm _).setOther hTp.symm hTg.symm _).setOther hTp.symm hTg.symm _).setOther hTp.symm hTg.symm _).setOther hR.symm hRg.symm _).setOther hR.symm hRg.symm _).setOther hR.symm hRg.symm _).setOther hR.symm hRg.symm _).drew
end Go.Proofs.Qxb6609453aFmt

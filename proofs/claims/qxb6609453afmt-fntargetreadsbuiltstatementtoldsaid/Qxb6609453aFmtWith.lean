/-
  The reader's next, orConflict, group, with.
-/
import Derived.Test.Qxb6609453aFmtAs
namespace Go.Proofs.Qxb6609453aFmt
open Go.RowKit
attribute [local go_sem ↓] Go.wp_at_zero Go.wp_at_succ

/-- The token at i, cell by cell. -/
theorem Wds.tok {w : World} {pb g i : Nat} {ts : List Tk} (h : Wds w pb g ts i) (j : Nat) (hj : j < ts.length) :
    w.cell? ⟨g, j * 4, none⟩ = some (.int .i64 ts[j].kind) ∧ w.cell? ⟨g, j * 4 + 1, none⟩ = some (.string ts[j].val) ∧ w.cell? ⟨g, j * 4 + 2, none⟩ = some (.int .i64 ts[j].pos) ∧ w.cell? ⟨g, j * 4 + 3, none⟩ = some (.int .i64 ts[j].fin) := by
  obtain ⟨ea, eb, ec, ed⟩ := tkAt_cells ts j hj
  have t0 := h.row.cell (i := j * 4) (by omega)
  have t1 := h.row.cell (i := j * 4 + 1) (by omega)
  have t2 := h.row.cell (i := j * 4 + 2) (by omega)
  have t3 := h.row.cell (i := j * 4 + 3) (by omega)
  rw [ea] at t0
  rw [eb] at t1
  rw [ec] at t2
  rw [ed] at t3
  exact ⟨t0, t1, t2, t3⟩

set_option maxRecDepth 100000 in
set_option maxHeartbeats 400000 in
/-- next(), at a keyword. -/
theorem next_calls {pb g i : Nat} {ts : List Tk} {w : World} (h : Wds w pb g ts i) (hi : i < ts.length) (hk : ts[i].kind = 0) :
    Calls Tryf.prog 22 #[.pointer (some ⟨pb, 0, none⟩)] w fun e w' =>
      e = .returned (.string ts[i].val) ∧ w.grownBy w' (some pb) ∧ Wds w' pb g ts (i + 1) := by
  have hbd := h.bd
  have c0 := h.c0
  have c1 := h.c1
  have c2 := h.c2
  have f1 := h.f1
  have d0 : decide (ts.length ≤ i) = false := by simp; omega
  have HW : Hid (Wds w pb g ts i) := h
  have HK : Hid (ts[i].kind = 0) := hk
  clear h hk
  go_enter Tryf.func22, Tryf.ntmps22
  go_wp2_with fail
  go_quiet (fail)
  go_wp2_with fail
  have hs := (HW.out.drewN nq).step hi
  have hg : w.grownBy ((w.drewN nq).setCell ⟨pb, 1, none⟩ (.int .i64 ((i : Int) + 1))) (some pb) := grownBy_set (grownBy_drewN (World.grownBy.refl w _) nq) _
  generalize (w.drewN nq).setCell ⟨pb, 1, none⟩ (.int .i64 ((i : Int) + 1)) = w1 at *
  clear c0 c1 c2 f1 d0 HW
  obtain ⟨t0, t1, t2, t3⟩ := hs.tok i hi
  rw [HK.out] at t0
  have c0 := hs.c0
  have c1 : w1.cell? ⟨pb, 1, none⟩ = some (.int .i64 ((i : Int) + 1)) := hs.c1
  have i0 : (0 : Int) ≤ (i : Int) := Int.natCast_nonneg _
  have i1 : (i : Int) < (ts.length : Int) := by omega
  have hwr : IntKind.i64.wrap (i : Int) = (i : Int) := by rw [IntKind.wrap_i64]; omega
  have HS : Hid (Wds w1 pb g ts (i + 1)) := hs
  have n0 := World.new_ne w1 _ c0
  have n1 := World.new_ne w1 _ t0
  clear hs HK
  generalize hv : ts[i].val = vl at *
  have HV : Hid (ts[i].val = vl) := hv
  clear hv
  generalize ts[i].pos = po at *
  generalize ts[i].fin = fi at *
  go_region_held3 (fun w' => w'.cell? ⟨pb, 0, none⟩ = some (.slice (some ⟨g, 0, none⟩) ts.length ts.length) ∧ w'.cell? ⟨pb, 1, none⟩ = some (.int .i64 ((i : Int) + 1)) ∧
      w'.cell? ⟨g, i * 4, none⟩ = some (.int .i64 0) ∧ w'.cell? ⟨g, i * 4 + 1, none⟩ = some (.string vl) ∧ w'.cell? ⟨g, i * 4 + 2, none⟩ = some (.int .i64 po) ∧ w'.cell? ⟨g, i * 4 + 3, none⟩ = some (.int .i64 fi))
    (go_keep) (fail)
  go_wp2
  go_ret
  rw [HV.out]
  exact ⟨rfl, grownBy_drew (grownBy_allocd hg _), (HS.out.alloc _).drew⟩


def kOr : ByteArray := ⟨#[111, 114]⟩
def kLpar : ByteArray := ⟨#[40]⟩
def kRpar : ByteArray := ⟨#[41]⟩
def kComma : ByteArray := ⟨#[44]⟩
def kWith : ByteArray := ⟨#[119, 105, 116, 104]⟩
def kRecursive : ByteArray := ⟨#[114, 101, 99, 117, 114, 115, 105, 118, 101]⟩
def kMaterialized : ByteArray := ⟨#[109, 97, 116, 101, 114, 105, 97, 108, 105, 122, 101, 100]⟩

set_option maxHeartbeats 400000 in
/-- orConflict(), where no OR stands. -/
theorem orConflict_calls {pb g i : Nat} {ts : List Tk} {w : World} (h : Wds w pb g ts i) (hh : hitB ts i [kOr] = false) :
    Calls Tryf.prog 23 #[.pointer (some ⟨pb, 0, none⟩)] w fun e w' => e = .returned (.tuple #[]) ∧ w.grownBy w' (some pb) ∧ Wds w' pb g ts i := by
  have HH : Hid (hitB ts i [kOr] = false) := hh
  clear hh
  go_enter Tryf.func23, Tryf.ntmps23
  go_wp2_with fail
  refine (accept1 h kOr (by simp)).mono ?_
  rw [HH.out]
  rintro e w1 ⟨rfl, hg1, hw1⟩
  clear h
  go_wp2
  go_end0
  exact ⟨rfl, hg1, hw1⟩

set_option maxHeartbeats 400000 in
/-- group(), where no list opens. -/
theorem group_no {pb g i : Nat} {ts : List Tk} {w : World} (h : Wds w pb g ts i) (hh : hitB ts i [kLpar] = false) :
    Calls Tryf.prog 27 #[.pointer (some ⟨pb, 0, none⟩)] w fun e w' => e = .returned (.bool false) ∧ w.grownBy w' (some pb) ∧ Wds w' pb g ts i := by
  have HH : Hid (hitB ts i [kLpar] = false) := hh
  clear hh
  go_enter Tryf.func27, Tryf.ntmps27
  go_wp2_with fail
  refine (accept1 h kLpar (by simp)).mono ?_
  rw [HH.out]
  rintro e w1 ⟨rfl, hg1, hw1⟩
  clear h
  go_wp2
  go_ret
  exact ⟨rfl, hg1, hw1⟩

set_option maxRecDepth 100000 in
set_option maxHeartbeats 400000 in
/-- group(), at a list with no list in it: m tokens, then its end. -/
theorem group_yes {pb g i m : Nat} {ts : List Tk} {w : World} (h : Wds w pb g ts i) (hh : hitB ts i [kLpar] = true) (hm : i + 1 + m < ts.length)
    (hin : ∀ r (hr : r < m), isTk (ts[i + 1 + r]'(by omega)).kind (ts[i + 1 + r]'(by omega)).val kLpar = false ∧ isTk (ts[i + 1 + r]'(by omega)).kind (ts[i + 1 + r]'(by omega)).val kRpar = false)
    (hend : isTk ts[i + 1 + m].kind ts[i + 1 + m].val kLpar = false ∧ isTk ts[i + 1 + m].kind ts[i + 1 + m].val kRpar = true) :
    Calls Tryf.prog 27 #[.pointer (some ⟨pb, 0, none⟩)] w fun e w' => e = .returned (.bool true) ∧ w.grownBy w' (some pb) ∧ Wds w' pb g ts (i + 1 + m + 1) := by
  have HH : Hid (hitB ts i [kLpar] = true) := hh
  have HI : Hid (∀ r (hr : r < m), isTk (ts[i + 1 + r]'(by omega)).kind (ts[i + 1 + r]'(by omega)).val kLpar = false ∧ isTk (ts[i + 1 + r]'(by omega)).kind (ts[i + 1 + r]'(by omega)).val kRpar = false) := hin
  have HE : Hid (isTk ts[i + 1 + m].kind ts[i + 1 + m].val kLpar = false ∧ isTk ts[i + 1 + m].kind ts[i + 1 + m].val kRpar = true) := hend
  have hbd := h.bd
  clear hh hin hend
  go_enter Tryf.func27, Tryf.ntmps27
  go_wp2_with fail
  refine (accept1 h kLpar (by simp)).mono ?_
  rw [HH.out]
  rintro e w1 ⟨rfl, hg1, hw1'⟩
  have hw1 : Wds w1 pb g ts (i + 1) := hw1'
  clear h hw1'
  go_wp2_with fail
  go_loopg [3] (m + 2) (fun k d wr => w.grownBy wr (some pb) ∧ ((∃ r, r ≤ m ∧ k = m + 2 - r ∧ d = .int .i64 1 ∧ Wds wr pb g ts (i + 1 + r)) ∨ (k = 0 ∧ d = .int .i64 0 ∧ Wds wr pb g ts (i + 1 + m + 1))))
  case atStart => exact ⟨hg1, .inl ⟨0, Nat.zero_le _, rfl, rfl, hw1⟩⟩
  case round =>
    obtain ⟨hg, ⟨r, hr, rfl, rfl, hw⟩ | ⟨rfl, rfl, hw⟩⟩ := hrel
    · have hj : i + 1 + r < ts.length := by omega
      obtain ⟨t0, t1, t2, t3⟩ := hw.tok (i + 1 + r) hj
      have HT : Hid (isTk ts[i + 1 + r].kind ts[i + 1 + r].val kLpar = false ∧ ((r < m ∧ isTk ts[i + 1 + r].kind ts[i + 1 + r].val kRpar = false) ∨ (r = m ∧ isTk ts[i + 1 + r].kind ts[i + 1 + r].val kRpar = true))) := by
        by_cases e : r = m
        · subst e
          exact ⟨HE.out.1, .inr ⟨rfl, HE.out.2⟩⟩
        · exact ⟨(HI.out r (by omega)).1, .inl ⟨by omega, (HI.out r (by omega)).2⟩⟩
      generalize ts[i + 1 + r].kind = kd at *
      generalize ts[i + 1 + r].val = vl at *
      generalize ts[i + 1 + r].pos = po at *
      generalize ts[i + 1 + r].fin = fi at *
      have c0 := hw.c0
      have c1 := hw.c1
      have hwpb := hw.lt
      have hwg := hw.row.lt
      have HW : Hid (Wds wr pb g ts (i + 1 + r)) := hw
      generalize hjj : i + 1 + r = j at *
      have HJ : Hid (i + 1 + r = j) := hjj
      have i0 : (0 : Int) ≤ (j : Int) := Int.natCast_nonneg _
      have i1 : (j : Int) < (ts.length : Int) := by omega
      have d0 : decide (ts.length ≤ j) = false := by simp; omega
      clear hjj hw hg1 hw1 HI HE HH
      go_wp2_with fail
      go_quiet (fail)
      go_wp2_with fail
      go_region_held3 (fun w' => w'.cell? ⟨pb, 0, none⟩ = some (.slice (some ⟨g, 0, none⟩) ts.length ts.length) ∧ w'.cell? ⟨pb, 1, none⟩ = some (.int .i64 (j : Int)) ∧
          w'.cell? ⟨g, j * 4, none⟩ = some (.int .i64 kd) ∧ w'.cell? ⟨g, j * 4 + 1, none⟩ = some (.string vl) ∧ w'.cell? ⟨g, j * 4 + 2, none⟩ = some (.int .i64 po) ∧ w'.cell? ⟨g, j * 4 + 3, none⟩ = some (.int .i64 fi))
        (first
          | (go_keep; done)
          | (go_split_ands
             refine ⟨?_, ?_, ?_, ?_, ?_, ?_⟩
             · (rw [hbi.cell (by exact hwpb)]; assumption)
             · (rw [hbi.cell (by exact hwpb)]; assumption)
             · (rw [hbi.cell (by exact hwg)]; assumption)
             · (rw [hbi.cell (by exact hwg)]; assumption)
             · (rw [hbi.cell (by exact hwg)]; assumption)
             · (rw [hbi.cell (by exact hwg)]; assumption)))
        (first | (go_at_call 20; refine (is_calls _ _ _ _ _ _).mono ?_; rintro e w2 ⟨rfl, hbi⟩))
      have hbi' : Below wr.heap.size wr w2 := ⟨hbi.os, hbi.tape, hbi.output, hbi.size, hbi.block⟩
      rw [show isTk kd vl { data := #[40] } = false from HT.out.1]
      have k0 := (hbi'.cell (p := ⟨pb, 0, none⟩) hwpb).trans c0
      have k1 := (hbi'.cell (p := ⟨pb, 1, none⟩) hwpb).trans c1
      have s0 := (hbi'.cell (p := ⟨g, j * 4, none⟩) hwg).trans t0
      have s1 := (hbi'.cell (p := ⟨g, j * 4 + 1, none⟩) hwg).trans t1
      have s2 := (hbi'.cell (p := ⟨g, j * 4 + 2, none⟩) hwg).trans t2
      have s3 := (hbi'.cell (p := ⟨g, j * 4 + 3, none⟩) hwg).trans t3
      have hwpb2 : pb < w2.heap.size := Nat.lt_of_lt_of_le hwpb hbi'.size
      have hwg2 : g < w2.heap.size := Nat.lt_of_lt_of_le hwg hbi'.size
      have hg2 := grownBy_trans hg (grownBy_below (row := some pb) hbi')
      have HW2 : Hid (Wds w2 pb g ts j) := HW.out.below hbi'
      clear c0 c1 t0 t1 t2 t3 hbi hbi' hwpb hwg hg HW
      go_wp2_with fail
      go_region_held3 (fun w' => w'.cell? ⟨pb, 0, none⟩ = some (.slice (some ⟨g, 0, none⟩) ts.length ts.length) ∧ w'.cell? ⟨pb, 1, none⟩ = some (.int .i64 (j : Int)) ∧
          w'.cell? ⟨g, j * 4, none⟩ = some (.int .i64 kd) ∧ w'.cell? ⟨g, j * 4 + 1, none⟩ = some (.string vl) ∧ w'.cell? ⟨g, j * 4 + 2, none⟩ = some (.int .i64 po) ∧ w'.cell? ⟨g, j * 4 + 3, none⟩ = some (.int .i64 fi))
        (first
          | (go_keep; done)
          | (go_split_ands
             refine ⟨?_, ?_, ?_, ?_, ?_, ?_⟩
             · (rw [hbj.cell (by exact hwpb2)]; assumption)
             · (rw [hbj.cell (by exact hwpb2)]; assumption)
             · (rw [hbj.cell (by exact hwg2)]; assumption)
             · (rw [hbj.cell (by exact hwg2)]; assumption)
             · (rw [hbj.cell (by exact hwg2)]; assumption)
             · (rw [hbj.cell (by exact hwg2)]; assumption)))
        (first | (go_at_call 20; refine (is_calls _ _ _ _ _ _).mono ?_; rintro e w3 ⟨rfl, hbj⟩))
      have hbj' : Below w2.heap.size w2 w3 := ⟨hbj.os, hbj.tape, hbj.output, hbj.size, hbj.block⟩
      have k3 := (hbj'.cell (p := ⟨pb, 1, none⟩) hwpb2).trans k1
      have hw3 : Wds w3 pb g ts j := HW2.out.below hbj'
      have f3 := hw3.f1
      have hg3 := grownBy_trans hg2 (grownBy_below (row := some pb) hbj')
      have HW3 : Hid (Wds w3 pb g ts j) := hw3
      clear k0 k1 s0 s1 s2 s3 hbj hbj' hw3 hg2 HW2
      obtain ⟨-, ⟨hrm, hR⟩ | ⟨hrm, hR⟩⟩ := HT.out
      · rw [show isTk kd vl { data := #[41] } = false from hR]
        clear hR
        go_wp2
        go_roundg (m + 2 - (r + 1))
        case measure => omega
        case rel => exact ⟨grownBy_set hg3 _, .inl ⟨r + 1, by omega, rfl, rfl, by have h9 := HW3.out.step (by omega); rw [show j + 1 = i + 1 + (r + 1) from by have := HJ.out; omega] at h9; exact h9⟩⟩
      · rw [show isTk kd vl { data := #[41] } = true from hR]
        clear hR
        go_wp2
        go_roundg 0
        case measure => omega
        case rel => exact ⟨grownBy_set hg3 _, .inr ⟨rfl, rfl, by have h9 := HW3.out.step (by omega); rw [show j + 1 = i + 1 + m + 1 from by have := HJ.out; omega] at h9; exact h9⟩⟩
    · clear hg1 hw1 HI HE HH
      go_wp2
      go_ret
      exact ⟨rfl, hg, hw⟩

set_option maxHeartbeats 400000 in
/-- with(), where no WITH stands. -/
theorem with_no {pb g i : Nat} {ts : List Tk} {w : World} (h : Wds w pb g ts i) (hh : hitB ts i [kWith] = false) :
    Calls Tryf.prog 21 #[.pointer (some ⟨pb, 0, none⟩)] w fun e w' => e = .returned (.tuple #[]) ∧ w.grownBy w' (some pb) ∧ Wds w' pb g ts i := by
  have HH : Hid (hitB ts i [kWith] = false) := hh
  clear hh
  go_enter Tryf.func21, Tryf.ntmps21
  go_wp2_with fail
  refine (accept1 h kWith (by simp)).mono ?_
  rw [HH.out]
  rintro e w1 ⟨rfl, hg1, hw1⟩
  clear h
  go_wp2
  exact bodyPost_ret (v := .tuple #[]) (by simp [results, Tryf.results21, go_sem]) rfl ⟨rfl, hg1, hw1⟩

set_option maxRecDepth 100000 in
set_option maxHeartbeats 1000000 in
/-- with(), at 'with c as ( .. )', m tokens in the list, no comma behind. -/
theorem with_yes {pb g i m : Nat} {ts : List Tk} {w : World} (h : Wds w pb g ts i) (h1 : hitB ts i [kWith] = true) (h2 : hitB ts (i + 1) [kRecursive] = false) (hi : i + 1 < ts.length) (hk : ts[i + 1].kind = 0 ∨ ts[i + 1].kind = 1)
    (h3 : hitB ts (i + 2) [kLpar] = false) (h4 : hitB ts (i + 2) [kAs] = true) (h5 : hitB ts (i + 3) [kNot] = false) (h6 : hitB ts (i + 3) [kMaterialized] = false) (h7 : hitB ts (i + 3) [kLpar] = true) (hm : i + 3 + 1 + m < ts.length)
    (hin : ∀ r (hr : r < m), isTk (ts[i + 3 + 1 + r]'(by omega)).kind (ts[i + 3 + 1 + r]'(by omega)).val kLpar = false ∧ isTk (ts[i + 3 + 1 + r]'(by omega)).kind (ts[i + 3 + 1 + r]'(by omega)).val kRpar = false)
    (hend : isTk ts[i + 3 + 1 + m].kind ts[i + 3 + 1 + m].val kLpar = false ∧ isTk ts[i + 3 + 1 + m].kind ts[i + 3 + 1 + m].val kRpar = true) (h8 : hitB ts (i + 3 + 1 + m + 1) [kComma] = false) :
    Calls Tryf.prog 21 #[.pointer (some ⟨pb, 0, none⟩)] w fun e w' => e = .returned (.tuple #[]) ∧ w.grownBy w' (some pb) ∧ Wds w' pb g ts (i + 3 + 1 + m + 1) := by
  have HH : Hid (hitB ts i [kWith] = true ∧ hitB ts (i + 1) [kRecursive] = false ∧ hitB ts (i + 2) [kLpar] = false ∧ hitB ts (i + 2) [kAs] = true ∧ hitB ts (i + 3) [kNot] = false ∧ hitB ts (i + 3) [kMaterialized] = false ∧ hitB ts (i + 3) [kLpar] = true ∧ hitB ts (i + 3 + 1 + m + 1) [kComma] = false) := ⟨h1, h2, h3, h4, h5, h6, h7, h8⟩
  have HG : Hid (∀ w, Wds w pb g ts (i + 3) → Calls Tryf.prog 27 #[.pointer (some ⟨pb, 0, none⟩)] w fun e w' => e = .returned (.bool true) ∧ w.grownBy w' (some pb) ∧ Wds w' pb g ts (i + 3 + 1 + m + 1)) := fun w hw => group_yes hw h7 hm hin hend
  clear h1 h2 h3 h4 h5 h6 h7 h8 hin hend
  obtain ⟨h1, h2, h3, h4, h5, h6, h7, h8⟩ := HH.out
  have H3 : Hid (hitB ts (i + 2) [kLpar] = false) := h3
  have H4 : Hid (hitB ts (i + 2) [kAs] = true) := h4
  clear h1 h2 h3 h4 h5 h6 h7 h8
  go_enter Tryf.func21, Tryf.ntmps21
  go_wp2_with fail
  refine (accept1 h kWith (by simp)).mono ?_
  rw [HH.out.1]
  rintro e w1 ⟨rfl, hg1, hw1'⟩
  have hw1 : Wds w1 pb g ts (i + 1) := hw1'
  clear h hw1'
  go_wp2_with fail
  refine (accept1 hw1 kRecursive (by simp)).mono ?_
  rw [HH.out.2.1]
  rintro e w2 ⟨rfl, hg2, hw2'⟩
  have hw2 : Wds w2 pb g ts (i + 1) := hw2'
  replace hg2 := grownBy_trans hg1 hg2
  clear hw1 hw2' hg1
  go_wp2_with fail
  go_loopg [] 1 (fun k wr => k = 1 ∧ w.grownBy wr (some pb) ∧ Wds wr pb g ts (i + 1))
  case atStart => exact ⟨rfl, hg2, hw2⟩
  case round =>
    obtain ⟨rfl, hg, hw⟩ := hrel
    clear hg2 hw2
    go_wp2_with fail
    refine (name_calls hw hi hk).mono ?_
    rintro e w3 ⟨rfl, hg3, hw3'⟩
    have hw3 : Wds w3 pb g ts (i + 2) := hw3'
    replace hg := grownBy_trans hg hg3
    clear hw hw3' hg3
    go_wp2_with fail
    refine (group_no hw3 H3.out).mono ?_
    rintro e w4 ⟨rfl, hg4, hw4⟩
    replace hg := grownBy_trans hg hg4
    clear hw3 hg4
    go_wp2_with fail
    refine (expect1 hw4 kAs (by simp) H4.out).mono ?_
    rintro e w5 ⟨rfl, hg5, hw5'⟩
    have hw5 : Wds w5 pb g ts (i + 3) := hw5'
    replace hg := grownBy_trans hg hg5
    clear hw4 hg5 hw5'
    go_wp2_with fail
    refine (accept1 hw5 kNot (by simp)).mono ?_
    rw [HH.out.2.2.2.2.1]
    rintro e w6 ⟨rfl, hg6, hw6'⟩
    have hw6 : Wds w6 pb g ts (i + 3) := hw6'
    replace hg := grownBy_trans hg hg6
    clear hw5 hg6 hw6'
    go_wp2_with fail
    refine (accept1 hw6 kMaterialized (by simp)).mono ?_
    rw [HH.out.2.2.2.2.2.1]
    rintro e w7 ⟨rfl, hg7, hw7'⟩
    have hw7 : Wds w7 pb g ts (i + 3) := hw7'
    replace hg := grownBy_trans hg hg7
    clear hw6 hg7 hw7'
    go_wp2_with fail
    refine (HG.out _ hw7).mono ?_
    rintro e w8 ⟨rfl, hg8, hw8⟩
    replace hg := grownBy_trans hg hg8
    clear hw7 hg8
    go_wp2_with fail
    refine (accept1 hw8 kComma (by simp)).mono ?_
    rw [HH.out.2.2.2.2.2.2.2]
    rintro e w9 ⟨rfl, hg9, hw9⟩
    replace hg := grownBy_trans hg hg9
    clear hw8 hg9
    go_wp2
    exact bodyPost_ret (v := .tuple #[]) (by simp [results, Tryf.results21, go_sem]) rfl ⟨rfl, hg, hw9⟩
end Go.Proofs.Qxb6609453aFmt

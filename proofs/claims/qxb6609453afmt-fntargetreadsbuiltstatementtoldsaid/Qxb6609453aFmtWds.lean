/-
  The reader 'words': Token.Is, accept, expect, name.
-/
import Derived.Test.Qxb6609453aFmtToks
import Derived.Deep.QuietTactic
import Derived.BigQuiet
namespace Go.Proofs.Qxb6609453aFmt
open Go.RowKit
attribute [local go_sem ↓] Go.wp_at_zero Go.wp_at_succ

/-- Token.Is. -/
def isTk (k : Int) (v s : ByteArray) : Bool := (k == 0 || k == 5) && v.toList == s.toList

set_option maxHeartbeats 400000 in
theorem is_calls (k p e : Int) (v s : ByteArray) (w : World) :
    Calls Tryf.prog 20 #[.agg #[.int .i64 k, .string v, .int .i64 p, .int .i64 e], .string s] w fun e w' => e = .returned (.bool (isTk k v s)) ∧ Below w.heap.size w w' := by
  unfold isTk
  go_enter Tryf.func20, Tryf.ntmps20
  go_wp2
  all_goals
    go_ret
    exact ⟨by simp [*], (Below.refl _ _).alloc (Nat.le_refl _) _⟩

/-- The reader at block pb: its tokens (their row lies in block g), its place, no error. -/
structure Wds (w : World) (pb g : Nat) (ts : List Tk) (i : Nat) : Prop where
  c0 : w.cell? ⟨pb, 0, none⟩ = some (.slice (some ⟨g, 0, none⟩) ts.length ts.length)
  c1 : w.cell? ⟨pb, 1, none⟩ = some (.int .i64 i)
  c2 : w.cell? ⟨pb, 2, none⟩ = some .nilIface
  f1 : w.frozen? ⟨pb, 1, none⟩ = false
  row : w.rowIs g 52 (ts.length * 4) (tkAt ts)
  ne : g ≠ pb
  le : i ≤ ts.length
  bd : ts.length ≤ 1000

theorem Wds.lt {w : World} {pb g i : Nat} {ts : List Tk} (h : Wds w pb g ts i) : pb < w.heap.size := World.block_lt_of_cell? w _ h.c0

/-- What else is made leaves the reader as it is. -/
theorem Wds.below {w w' : World} {pb g i : Nat} {ts : List Tk} (h : Wds w pb g ts i) (hb : Below w.heap.size w w') : Wds w' pb g ts i :=
  ⟨(hb.cell (p := ⟨pb, 0, none⟩) h.lt).trans h.c0, (hb.cell (p := ⟨pb, 1, none⟩) h.lt).trans h.c1, (hb.cell (p := ⟨pb, 2, none⟩) h.lt).trans h.c2, (hb.frozen (p := ⟨pb, 1, none⟩) h.lt).trans h.f1, h.row.of_block (hb.block g h.row.lt), h.ne, h.le, h.bd⟩

/-- A step on. -/
theorem Wds.step {w : World} {pb g i : Nat} {ts : List Tk} (h : Wds w pb g ts i) (hi : i < ts.length) : Wds (w.setCell ⟨pb, 1, none⟩ (.int .i64 ((i : Int) + 1))) pb g ts (i + 1) :=
  ⟨by simp [h.c0, go_sem], by simp [h.c1, go_sem], by simp [h.c2, go_sem], by simp [h.f1, go_sem], h.row.setOther h.ne _, h.ne, hi, h.bd⟩

/-- What a function of the reader does to the world: new blocks, and the reader's own. -/
theorem grownBy_trans {a b c : World} {row : Option Nat} (h : a.grownBy b row) (k : b.grownBy c row) : a.grownBy c row :=
  ⟨k.os.trans h.os, k.tape.trans h.tape, k.output.trans h.output, Nat.le_trans h.size k.size, fun i hi hr => (k.block i (Nat.lt_of_lt_of_le hi h.size) hr).trans (h.block i hi hr)⟩
theorem grownBy_below {a b : World} {row : Option Nat} (h : Below a.heap.size a b) : a.grownBy b row := ⟨h.os, h.tape, h.output, h.size, fun k hk _ => h.block k hk⟩
theorem grownBy_drew {a b : World} {row : Option Nat} (h : a.grownBy b row) : a.grownBy b.drew row := ⟨h.os, h.tape, h.output, h.size, h.block⟩
theorem grownBy_set {a b : World} {pb off : Nat} (h : a.grownBy b (some pb)) (v : Value) : a.grownBy (b.setCell ⟨pb, off, none⟩ v) (some pb) :=
  grownBy_trans h ⟨rfl, rfl, rfl, by simp [World.setCell], fun k _ hr => Below.heap_setCell _ _ _ _ (by intro e; exact hr (by rw [e]))⟩

theorem grownBy_new {a b : World} {row : Option Nat} (h : a.grownBy b row) {p : Addr} (hp : a.heap.size ≤ p.block) (v : Value) : a.grownBy (b.setCell p v) row :=
  ⟨h.os, h.tape, h.output, by simpa [World.setCell] using h.size, fun k hk hr => (Below.heap_setCell _ _ _ _ (by omega)).trans (h.block k hk hr)⟩
theorem grownBy_allocd {a b : World} {row : Option Nat} (h : a.grownBy b row) (o : Obj) : a.grownBy (b.alloc o) row := grownBy_trans h (World.grownBy_alloc b o row)
theorem grownBy_drewN {a b : World} {row : Option Nat} (h : a.grownBy b row) (n : Nat) : a.grownBy (b.drewN n) row := ⟨h.os, h.tape, h.output, h.size, h.block⟩
theorem Wds.setOther {w : World} {pb g i : Nat} {ts : List Tk} (h : Wds w pb g ts i) {a : Addr} (h1 : pb ≠ a.block) (h2 : g ≠ a.block) (v : Value) : Wds (w.setCell a v) pb g ts i :=
  have e : (w.setCell a v).heap[pb]? = w.heap[pb]? := Below.heap_setCell _ _ _ _ h1
  ⟨(World.cell?_of_block (w := w) e).trans h.c0, (World.cell?_of_block (w := w) e).trans h.c1, (World.cell?_of_block (w := w) e).trans h.c2, (World.frozen?_of_block (w := w) e).trans h.f1, h.row.setOther h2 _, h.ne, h.le, h.bd⟩
theorem Wds.drewN {w : World} {pb g i : Nat} {ts : List Tk} (h : Wds w pb g ts i) (n : Nat) : Wds (w.drewN n) pb g ts i := ⟨h.c0, h.c1, h.c2, h.f1, h.row, h.ne, h.le, h.bd⟩
theorem Wds.drew {w : World} {pb g i : Nat} {ts : List Tk} (h : Wds w pb g ts i) : Wds w.drew pb g ts i := ⟨h.c0, h.c1, h.c2, h.f1, h.row, h.ne, h.le, h.bd⟩
theorem Wds.alloc {w : World} {pb g i : Nat} {ts : List Tk} (h : Wds w pb g ts i) (o : Obj) : Wds (w.alloc o) pb g ts i :=
  h.below ((Below.refl _ _).alloc (Nat.le_refl _) o)

/-- Do the words given fit the token at i? -/
def hitB (ts : List Tk) (i : Nat) (A : List ByteArray) : Bool := if h : i < ts.length then A.any fun s => isTk ts[i].kind ts[i].val s else false
def onB (b : Bool) (i : Nat) : Nat := if b then i + 1 else i

theorem any_snoc {A : List ByteArray} {P : ByteArray → Bool} {j : Nat} {s : ByteArray} {b : Bool} (hlt : j < A.length) (hs : A[j] = s) (hn : (A.take j).any P = false) (hb : P s = b) : (A.take (j + 1)).any P = b := by
  rw [List.take_succ_eq_append_getElem hlt, List.any_append, hn, hs]
  simp [hb]
theorem any_hit {A : List ByteArray} {P : ByteArray → Bool} {j : Nat} {s : ByteArray} (hlt : j < A.length) (hs : A[j] = s) (hb : P s = true) : A.any P = true :=
  List.any_eq_true.2 ⟨s, hs ▸ List.getElem_mem hlt, hb⟩

set_option maxRecDepth 100000 in
set_option maxHeartbeats 1000000 in
theorem accept_in {pb g i ab : Nat} {ts : List Tk} {A : List ByteArray} {w : World} (h : Wds w pb g ts i) (hi : i < ts.length)
    (hA : ∀ j (hj : j < A.length), w.cell? ⟨ab, j, none⟩ = some (.string A[j])) (hab : ab < w.heap.size) (hl : A.length ≤ 100) :
    Calls Tryf.prog 16 #[.pointer (some ⟨pb, 0, none⟩), .slice (some ⟨ab, 0, none⟩) A.length A.length] w fun e w' =>
      e = .returned (.bool (A.any fun s => isTk ts[i].kind ts[i].val s)) ∧ w.grownBy w' (some pb) ∧ Wds w' pb g ts (onB (A.any fun s => isTk ts[i].kind ts[i].val s) i) := by
  have hbd := h.bd
  have c0 := h.c0
  have c1 := h.c1
  have c2 := h.c2
  have d0 : decide (ts.length ≤ i) = false := by simp; omega
  go_enter Tryf.func16, Tryf.ntmps16
  go_wp2_with fail
  go_quiet (fail)
  go_wp2_with fail
  have hb0 : Below w.heap.size w (w.drewN nq) := ⟨rfl, rfl, rfl, Nat.le_refl _, fun _ _ => rfl⟩
  generalize w.drewN nq = w1 at *
  have HA : Hid (∀ j (hj : j < A.length), w.cell? ⟨ab, j, none⟩ = some (.string A[j])) := hA
  have hpb := h.lt
  have hgb := h.row.lt
  have HW : Hid (Wds w pb g ts i) := h
  clear hA c0 c1 c2 d0 h
  go_loopw [26] (fun k wr => ∃ j : Nat, j ≤ A.length ∧ k = .int .i64 j ∧ Below w.heap.size w wr ∧ (A.take j).any (fun s => isTk ts[i].kind ts[i].val s) = false) (fun k _ => A.length - (intOf k).toNat)
  case atStart => exact ⟨0, Nat.zero_le _, rfl, hb0, rfl⟩
  case round =>
    obtain ⟨j, hj, rfl, hb, hno⟩ := hrel
    clear hb0 w1
    by_cases hlt : j < A.length
    · have hw := HW.out.below hb
      have hca : wr.cell? ⟨ab, j, none⟩ = some (.string A[j]) := (hb.cell (p := ⟨ab, j, none⟩) hab).trans (HA.out j hlt)
      obtain ⟨ea, eb, ec, ed⟩ := tkAt_cells ts i hi
      have c0 := hw.c0
      have c1 := hw.c1
      have t0 := hw.row.cell (i := i * 4) (by omega)
      have t1 := hw.row.cell (i := i * 4 + 1) (by omega)
      have t2 := hw.row.cell (i := i * 4 + 2) (by omega)
      have t3 := hw.row.cell (i := i * 4 + 3) (by omega)
      rw [ea] at t0
      rw [eb] at t1
      rw [ec] at t2
      rw [ed] at t3
      have i0 : (0 : Int) ≤ (i : Int) := Int.natCast_nonneg _
      have i1 : (i : Int) < (ts.length : Int) := by omega
      have hwpb := hw.lt
      have hwg := hw.row.lt
      have f1 := hw.f1
      have HW2 : Hid (Wds wr pb g ts i) := hw
      clear ea eb ec ed hw
      generalize hA1 : A[j] = s at *
      have HA1 : Hid (A[j] = s) := hA1
      clear hA1
      generalize hkd : ts[i].kind = kd at *
      generalize hvl : ts[i].val = vl at *
      have HKV : Hid (ts[i].kind = kd ∧ ts[i].val = vl) := ⟨hkd, hvl⟩
      clear hkd hvl
      generalize ts[i].pos = po at *
      generalize ts[i].fin = fi at *
      have HN : Hid ((A.take j).any (fun s => isTk kd vl s) = false) := hno
      clear hno
      go_wp2_with fail
      go_region_held3 (fun w' => w'.cell? ⟨pb, 0, none⟩ = some (.slice (some ⟨g, 0, none⟩) ts.length ts.length) ∧ w'.cell? ⟨pb, 1, none⟩ = some (.int .i64 i) ∧
          w'.cell? ⟨g, i * 4, none⟩ = some (.int .i64 kd) ∧ w'.cell? ⟨g, i * 4 + 1, none⟩ = some (.string vl) ∧ w'.cell? ⟨g, i * 4 + 2, none⟩ = some (.int .i64 po) ∧ w'.cell? ⟨g, i * 4 + 3, none⟩ = some (.int .i64 fi))
        (first
          | go_keep
          | (go_split_ands
             refine ⟨?_, ?_, ?_, ?_, ?_, ?_⟩
             · (rw [hbi.cell (by exact hwpb)]; assumption)
             · (rw [hbi.cell (by exact hwpb)]; assumption)
             · (rw [hbi.cell (by exact hwg)]; assumption)
             · (rw [hbi.cell (by exact hwg)]; assumption)
             · (rw [hbi.cell (by exact hwg)]; assumption)
             · (rw [hbi.cell (by exact hwg)]; assumption)))
        (first | (go_at_call 20; refine (is_calls _ _ _ _ _ _).mono ?_; rintro e w2 ⟨rfl, hbi⟩))
      have hbi' : Below wr.heap.size wr w2 := ⟨hbi.os, hbi.tape, hbi.output, hbi.size, hbi.block⟩
      clear hbi
      have d1 := (hbi'.cell (p := ⟨pb, 1, none⟩) hwpb).trans c1
      have d2 := (hbi'.frozen (p := ⟨pb, 1, none⟩) hwpb).trans f1
      have hb2 := hb.trans (hbi'.mono hb.size)
      clear c0 c1 t0 t1 t2 t3 hca f1
      cases hB : isTk kd vl s
      · have HB : Hid (isTk kd vl s = false) := hB
        clear hB
        go_wp2
        go_roundw
        case rel =>
          exact ⟨j + 1, by omega, by go_num, hb2, any_snoc hlt HA1.out HN.out HB.out⟩
        case measure => simp [intOf]; omega
      · have HB : Hid (isTk kd vl s = true) := hB
        clear hB
        go_wp2
        go_ret
        rw [HKV.out.1, HKV.out.2, any_hit (P := fun s => isTk kd vl s) hlt HA1.out HB.out]
        exact ⟨rfl, grownBy_set (grownBy_below hb2) _, (HW2.out.below hbi').step hi⟩
    · go_wp2
      go_ret
      have e : j = A.length := by omega
      subst e
      rw [List.take_length] at hno
      rw [hno]
      exact ⟨rfl, grownBy_below hb, HW.out.below hb⟩

set_option maxRecDepth 100000 in
set_option maxHeartbeats 1000000 in
theorem accept_out {pb g i ab m : Nat} {ts : List Tk} {w : World} (h : Wds w pb g ts i) (hi : ts.length ≤ i) :
    Calls Tryf.prog 16 #[.pointer (some ⟨pb, 0, none⟩), .slice (some ⟨ab, 0, none⟩) m m] w fun e w' =>
      e = .returned (.bool false) ∧ w.grownBy w' (some pb) ∧ Wds w' pb g ts i := by
  have hbd := h.bd
  have c0 := h.c0
  have c1 := h.c1
  have c2 := h.c2
  have d0 : decide (ts.length ≤ i) = true := by simp; omega
  have HW : Hid (Wds w pb g ts i) := h
  clear h
  go_enter Tryf.func16, Tryf.ntmps16
  go_wp2_with fail
  go_quiet (fail)
  go_wp2
  go_ret
  have hb0 : Below w.heap.size w (w.drewN nq) := ⟨rfl, rfl, rfl, Nat.le_refl _, fun _ _ => rfl⟩
  exact ⟨rfl, grownBy_below hb0, HW.out.below hb0⟩

theorem grownBy_alloc_left {w w' : World} {o : Obj} {row : Option Nat} (h : (w.alloc o).grownBy w' row) : w.grownBy w' row :=
  grownBy_trans (World.grownBy_alloc w o row) h

theorem accept_any {pb g i ab : Nat} {ts : List Tk} {A : List ByteArray} {w : World} (h : Wds w pb g ts i)
    (hA : ∀ j (hj : j < A.length), w.cell? ⟨ab, j, none⟩ = some (.string A[j])) (hab : ab < w.heap.size) (hl : A.length ≤ 100) :
    Calls Tryf.prog 16 #[.pointer (some ⟨pb, 0, none⟩), .slice (some ⟨ab, 0, none⟩) A.length A.length] w fun e w' =>
      e = .returned (.bool (hitB ts i A)) ∧ w.grownBy w' (some pb) ∧ Wds w' pb g ts (onB (hitB ts i A) i) := by
  unfold hitB
  by_cases hi : i < ts.length
  · rw [dif_pos hi]
    exact accept_in h hi hA hab hl
  · rw [dif_neg hi]
    show Calls Tryf.prog 16 _ w fun e w' => e = .returned (.bool false) ∧ w.grownBy w' (some pb) ∧ Wds w' pb g ts i
    exact accept_out h (Nat.le_of_not_lt hi)

/-- accept(s), the word laid by the call. -/
theorem accept1 {pb g i ab : Nat} {ts : List Tk} {w : World} (h : Wds w pb g ts i) (s : ByteArray) (hab : w.heap.size = ab) :
    Calls Tryf.prog 16 #[.pointer (some ⟨pb, 0, none⟩), .slice (some ⟨ab, 0, none⟩) 1 1] (w.alloc (.cells #[.string s] 9)) fun e w' =>
      e = .returned (.bool (hitB ts i [s])) ∧ w.grownBy w' (some pb) ∧ Wds w' pb g ts (onB (hitB ts i [s]) i) :=
  (accept_any (A := [s]) (ab := ab) (h.alloc _) (fun j hj => by
    match j, hj with
    | 0, _ => exact World.cell?_alloc_at _ _ _ _ hab.symm) (by simp; omega) (by simp)).mono fun _ _ hx => ⟨hx.1, grownBy_alloc_left hx.2.1, hx.2.2⟩

theorem accept2 {pb g i ab : Nat} {ts : List Tk} {w : World} (h : Wds w pb g ts i) (s r : ByteArray) (hab : w.heap.size = ab) :
    Calls Tryf.prog 16 #[.pointer (some ⟨pb, 0, none⟩), .slice (some ⟨ab, 0, none⟩) 2 2] (w.alloc (.cells #[.string s, .string r] 9)) fun e w' =>
      e = .returned (.bool (hitB ts i [s, r])) ∧ w.grownBy w' (some pb) ∧ Wds w' pb g ts (onB (hitB ts i [s, r]) i) :=
  (accept_any (A := [s, r]) (ab := ab) (h.alloc _) (fun j hj => by
    match j, hj with
    | 0, _ => exact World.cell?_alloc_at _ _ _ _ hab.symm
    | 1, _ => exact World.cell?_alloc_at _ _ _ _ hab.symm) (by simp; omega) (by simp)).mono fun _ _ hx => ⟨hx.1, grownBy_alloc_left hx.2.1, hx.2.2⟩

/-- expect(s), where it is met. -/
theorem expect1 {pb g i ab : Nat} {ts : List Tk} {w : World} (h : Wds w pb g ts i) (s : ByteArray) (hab : w.heap.size = ab) (hh : hitB ts i [s] = true) :
    Calls Tryf.prog 18 #[.pointer (some ⟨pb, 0, none⟩), .slice (some ⟨ab, 0, none⟩) 1 1] (w.alloc (.cells #[.string s] 9)) fun e w' =>
      e = .returned (.tuple #[]) ∧ w.grownBy w' (some pb) ∧ Wds w' pb g ts (i + 1) := by
  have H := accept1 h s hab
  rw [hh] at H
  clear hh hab
  go_enter Tryf.func18, Tryf.ntmps18
  go_wp2_with fail
  refine H.mono ?_
  rintro e w' ⟨rfl, hg, hw⟩
  go_wp2
  go_end0
  exact ⟨rfl, hg, hw⟩

theorem expect2 {pb g i ab : Nat} {ts : List Tk} {w : World} (h : Wds w pb g ts i) (s r : ByteArray) (hab : w.heap.size = ab) (hh : hitB ts i [s, r] = true) :
    Calls Tryf.prog 18 #[.pointer (some ⟨pb, 0, none⟩), .slice (some ⟨ab, 0, none⟩) 2 2] (w.alloc (.cells #[.string s, .string r] 9)) fun e w' =>
      e = .returned (.tuple #[]) ∧ w.grownBy w' (some pb) ∧ Wds w' pb g ts (i + 1) := by
  have H := accept2 h s r hab
  rw [hh] at H
  clear hh hab
  go_enter Tryf.func18, Tryf.ntmps18
  go_wp2_with fail
  refine H.mono ?_
  rintro e w' ⟨rfl, hg, hw⟩
  go_wp2
  go_end0
  exact ⟨rfl, hg, hw⟩

def Tk.agg (t : Tk) : Value := .agg #[.int .i64 t.kind, .string t.val, .int .i64 t.pos, .int .i64 t.fin]
def nameB (k : Int) : Bool := k == 0 || k == 1

set_option maxRecDepth 100000 in
set_option maxHeartbeats 1000000 in
/-- name(), where a name stands. -/
theorem name_calls {pb g i : Nat} {ts : List Tk} {w : World} (h : Wds w pb g ts i) (hi : i < ts.length) (hk : ts[i].kind = 0 ∨ ts[i].kind = 1) :
    Calls Tryf.prog 24 #[.pointer (some ⟨pb, 0, none⟩)] w fun e w' =>
      e = .returned ts[i].agg ∧ w.grownBy w' (some pb) ∧ Wds w' pb g ts (i + 1) := by
  have hbd := h.bd
  obtain ⟨ea, eb, ec, ed⟩ := tkAt_cells ts i hi
  have c0 := h.c0
  have c1 := h.c1
  have c2 := h.c2
  have f1 := h.f1
  have t0 := h.row.cell (i := i * 4) (by omega)
  have t1 := h.row.cell (i := i * 4 + 1) (by omega)
  have t2 := h.row.cell (i := i * 4 + 2) (by omega)
  have t3 := h.row.cell (i := i * 4 + 3) (by omega)
  rw [ea] at t0
  rw [eb] at t1
  rw [ec] at t2
  rw [ed] at t3
  have i0 : (0 : Int) ≤ (i : Int) := Int.natCast_nonneg _
  have i1 : (i : Int) < (ts.length : Int) := by omega
  have d0 : decide (i < ts.length) = true := by simp; omega
  have hwpb := h.lt
  have hwg := h.row.lt
  have HW : Hid (Wds w pb g ts i) := h
  clear ea eb ec ed h
  unfold Tk.agg
  generalize ts[i].kind = kd at *
  generalize ts[i].val = vl at *
  generalize ts[i].pos = po at *
  generalize ts[i].fin = fi at *
  have HK : Hid (kd = 0 ∨ kd = 1) := hk
  clear hk
  go_enter Tryf.func24, Tryf.ntmps24
  go_wp2_with fail
  go_quiet (fail)
  go_wp2_with fail
  have n0 := World.new_ne w _ c0
  have n1 := World.new_ne w _ t0
  go_region_held3 (fun w' => w'.cell? ⟨pb, 0, none⟩ = some (.slice (some ⟨g, 0, none⟩) ts.length ts.length) ∧ w'.cell? ⟨pb, 1, none⟩ = some (.int .i64 i) ∧
      w'.cell? ⟨g, i * 4, none⟩ = some (.int .i64 kd) ∧ w'.cell? ⟨g, i * 4 + 1, none⟩ = some (.string vl) ∧ w'.cell? ⟨g, i * 4 + 2, none⟩ = some (.int .i64 po) ∧ w'.cell? ⟨g, i * 4 + 3, none⟩ = some (.int .i64 fi))
    (go_keep) (fail)
  go_wp2_with fail
  · refine bodyPost_ret (v := .agg #[.int .i64 0, .string vl, .int .i64 po, .int .i64 fi]) (by simp [results, Tryf.results24, go_sem]) rfl ⟨rfl, ?_, ?_⟩
    · exact grownBy_allocd (grownBy_new (grownBy_new (grownBy_new (grownBy_new (grownBy_set (grownBy_drewN (World.grownBy_alloc w _ _) _) _) (Nat.le_refl _) _) (Nat.le_refl _) _) (Nat.le_refl _) _) (Nat.le_refl _) _) _
    · exact ((((((((HW.out.alloc _).drewN _).step hi).setOther (by simp; omega) (by simp; omega) _).setOther (by simp; omega) (by simp; omega) _).setOther (by simp; omega) (by simp; omega) _).setOther (by simp; omega) (by simp; omega) _).alloc _)
  · refine bodyPost_ret (v := .agg #[.int .i64 kd, .string vl, .int .i64 po, .int .i64 fi]) (by simp [results, Tryf.results24, go_sem]) rfl ⟨rfl, ?_, ?_⟩
    · exact grownBy_allocd (grownBy_new (grownBy_new (grownBy_new (grownBy_new (grownBy_set (grownBy_drewN (World.grownBy_alloc w _ _) _) _) (Nat.le_refl _) _) (Nat.le_refl _) _) (Nat.le_refl _) _) (Nat.le_refl _) _) _
    · exact ((((((((HW.out.alloc _).drewN _).step hi).setOther (by simp; omega) (by simp; omega) _).setOther (by simp; omega) (by simp; omega) _).setOther (by simp; omega) (by simp; omega) _).setOther (by simp; omega) (by simp; omega) _).alloc _)
  · exfalso
    rcases HK.out with h | h <;> simp_all
end Go.Proofs.Qxb6609453aFmt

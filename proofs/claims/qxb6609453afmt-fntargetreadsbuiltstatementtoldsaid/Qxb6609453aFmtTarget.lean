/-
  target(): the opening of an INSERT, REPLACE, UPDATE, DELETE, DROP or ALTER.
-/
import Derived.Test.Qxb6609453aFmtAlias
namespace Go.Proofs.Qxb6609453aFmt
open Go.RowKit
attribute [local go_sem ↓] Go.wp_at_zero Go.wp_at_succ

def WithTo (pb g : Nat) (ts : List Tk) (i : Nat) : Prop :=
  ∀ w, Wds w pb g ts 0 → Calls Tryf.prog 21 #[.pointer (some ⟨pb, 0, none⟩)] w fun e w' => e = .returned (.tuple #[]) ∧ w.grownBy w' (some pb) ∧ Wds w' pb g ts i
def NextTo (pb g : Nat) (ts : List Tk) (i : Nat) (v : ByteArray) : Prop :=
  ∀ w, Wds w pb g ts i → Calls Tryf.prog 22 #[.pointer (some ⟨pb, 0, none⟩)] w fun e w' => e = .returned (.string v) ∧ w.grownBy w' (some pb) ∧ Wds w' pb g ts (i + 1)

theorem cells5 {w : World} {b : Nat} {x0 x1 x2 x3 x4 : Value} {t : TypeId} (h : w.heap[b]? = some (.cells #[x0, x1, x2, x3, x4] t)) :
    (w.cell? ⟨b, 0, none⟩ = some x0 ∧ w.cell? ⟨b, 1, none⟩ = some x1 ∧ w.cell? ⟨b, 2, none⟩ = some x2 ∧ w.cell? ⟨b, 3, none⟩ = some x3 ∧ w.cell? ⟨b, 4, none⟩ = some x4) ∧
    (w.frozen? ⟨b, 0, none⟩ = false ∧ w.frozen? ⟨b, 1, none⟩ = false ∧ w.frozen? ⟨b, 2, none⟩ = false ∧ w.frozen? ⟨b, 3, none⟩ = false ∧ w.frozen? ⟨b, 4, none⟩ = false) := by
  simp [World.cell?, World.frozen?, h]

/-- What is known between two calls of target: the reader; the result's block A; t's block T, and what it holds. -/
structure Mt (w0 w : World) (pb g : Nat) (ts : List Tk) (A T i : Nat) (x0 x1 x2 x3 : Value) (al : Bool) : Prop where
  wds : Wds w pb g ts i
  grown : w0.grownBy w (some pb)
  size : w0.heap.size = A
  res : w.heap[A]? = some (.cells #[.string ⟨#[]⟩, .string ⟨#[]⟩, .int .i64 0, .int .i64 0, .bool false] 43)
  t : w.heap[T]? = some (.cells #[x0, x1, x2, x3, .bool al] 43)
  pA : pb < A
  gA : g < A
  aT : A < T

theorem Mt.on {w0 w w' : World} {pb g A T i i' : Nat} {ts : List Tk} {x0 x1 x2 x3 : Value} {al : Bool} (h : Mt w0 w pb g ts A T i x0 x1 x2 x3 al) (hg : w.grownBy w' (some pb)) (hw : Wds w' pb g ts i') : Mt w0 w' pb g ts A T i' x0 x1 x2 x3 al :=
  ⟨hw, grownBy_trans h.grown hg, h.size, grown_block hg h.res (by have := h.pA; omega), grown_block hg h.t (by have := h.pA; have := h.aT; omega), h.pA, h.gA, h.aT⟩

theorem Mt.fill {w0 w : World} {pb g A T i : Nat} {ts : List Tk} {x0 x1 x2 x3 : Value} {al : Bool} (h : Mt w0 w pb g ts A T i x0 x1 x2 x3 al) (S N P E : Value) :
    Mt w0 ((((w.setCell ⟨T, 0, none⟩ S).setCell ⟨T, 1, none⟩ N).setCell ⟨T, 2, none⟩ P).setCell ⟨T, 3, none⟩ E) pb g ts A T i S N P E al := by
  have hp := h.pA
  have hg := h.gA
  have hs := h.size
  have ht := h.aT
  refine ⟨?_, ?_, hs, ?_, ?_, hp, hg, ht⟩
  · exact (((h.wds.setOther (by simp; omega) (by simp; omega) _).setOther (by simp; omega) (by simp; omega) _).setOther (by simp; omega) (by simp; omega) _).setOther (by simp; omega) (by simp; omega) _
  · exact grownBy_new (grownBy_new (grownBy_new (grownBy_new h.grown (by simp; omega) _) (by simp; omega) _) (by simp; omega) _) (by simp; omega) _
  · exact (Below.heap_setCell _ _ _ _ (by simp; omega)).trans ((Below.heap_setCell _ _ _ _ (by simp; omega)).trans ((Below.heap_setCell _ _ _ _ (by simp; omega)).trans ((Below.heap_setCell _ _ _ _ (by simp; omega)).trans h.res)))
  · exact block_set (block_set (block_set (block_set h.t _) _) _) _

theorem Mt.setAl {w0 w : World} {pb g A T i : Nat} {ts : List Tk} {x0 x1 x2 x3 : Value} {al : Bool} (h : Mt w0 w pb g ts A T i x0 x1 x2 x3 al) (b : Bool) : Mt w0 (w.setCell ⟨T, 4, none⟩ (.bool b)) pb g ts A T i x0 x1 x2 x3 b := by
  have hp := h.pA
  have hg := h.gA
  have hs := h.size
  have ht := h.aT
  exact ⟨h.wds.setOther (by simp; omega) (by simp; omega) _, grownBy_new h.grown (by simp; omega) _, hs, (Below.heap_setCell _ _ _ _ (by simp; omega)).trans h.res, block_set h.t _, hp, hg, ht⟩

def kInto : ByteArray := ⟨#[105, 110, 116, 111]⟩
def kFrom : ByteArray := ⟨#[102, 114, 111, 109]⟩
def kView : ByteArray := ⟨#[118, 105, 101, 119]⟩
def kSet : ByteArray := ⟨#[115, 101, 116]⟩

set_option maxRecDepth 100000 in
set_option maxHeartbeats 1000000 in
/-- ALTER TABLE .. -/
theorem target_alter {pb g i k : Nat} {ts : List Tk} {S N : ByteArray} {P E : Int} {w : World} (h : Wds w pb g ts 0) (hwt : WithTo pb g ts i) (hnx : NextTo pb g ts i ⟨#[97, 108, 116, 101, 114]⟩) (he : hitB ts (i + 1) [kTable] = true) (hr : Reads pb g ts (i + 2) S N P E k) :
    Calls Tryf.prog 17 #[.pointer (some ⟨pb, 0, none⟩)] w fun e w' =>
      e = .returned (.tuple #[.agg #[.string S, .string N, .int .i64 P, .int .i64 E, .bool false], .bool true]) ∧ w.grownBy w' (some pb) ∧ Wds w' pb g ts k := by
  have HWT : Hid (WithTo pb g ts i) := hwt
  have HNX : Hid _ := hnx
  have HE : Hid (hitB ts (i + 1) [kTable] = true) := he
  have HR : Hid (Reads pb g ts (i + 2) S N P E k) := hr
  have hlt := h.lt
  have hgl := h.row.lt
  clear hwt hnx he hr
  go_enter Tryf.func17, Tryf.ntmps17
  go_wp2_with fail
  refine (HWT.out _ (h.alloc _)).mono ?_
  rintro e w1 ⟨rfl, hg1, hw1⟩
  have R1 := grown_block hg1 (heap_alloc_new w _) (by omega)
  have hs1 : w.heap.size < w1.heap.size := by have := hg1.size; simp at this; omega
  have M : Mt w (w1.alloc (.cells #[.string ⟨#[]⟩, .string ⟨#[]⟩, .int .i64 0, .int .i64 0, .bool false] 43)) pb g ts w.heap.size w1.heap.size i (.string ⟨#[]⟩) (.string ⟨#[]⟩) (.int .i64 0) (.int .i64 0) false :=
    ⟨hw1.alloc _, grownBy_allocd (grownBy_alloc_left hg1) _, rfl, (Below.heap_alloc _ _ _ hs1).trans R1, heap_alloc_new w1 _, hlt, hgl, hs1⟩
  clear h R1 hg1 hw1
  go_wp2_with fail
  refine (HNX.out _ M.wds).mono ?_
  rintro e w2 ⟨rfl, hg2, hw2⟩
  replace M := M.on hg2 hw2
  clear hg2 hw2 HWT HNX
  generalize w1.heap.size = T at *
  generalize hA : w.heap.size = A at *
  have HA : Hid (w.heap.size = A) := hA
  clear hA
  go_wp2_with fail
  refine (expect1 M.wds kTable (by simp) HE.out).mono ?_
  rintro e w3 ⟨rfl, hgx, hwx'⟩
  have hwx : Wds w3 pb g ts (i + 2) := hwx'
  replace M := M.on hgx hwx
  clear hgx hwx hwx'
  go_wp2_with fail
  refine (HR.out _ M.wds).mono ?_
  rintro e w4 ⟨rfl, hgx, hwx⟩
  replace M := M.on hgx hwx
  clear hgx hwx
  obtain ⟨⟨a0, a1, a2, a3, -⟩, b0, b1, b2, b3, -⟩ := cells5 M.t
  replace M := M.fill (.string S) (.string N) (.int .i64 P) (.int .i64 E)
  go_wp2_with fail
  clear a0 a1 a2 a3 b0 b1 b2 b3
  obtain ⟨⟨a0, a1, a2, a3, a4⟩, -⟩ := cells5 M.t
  obtain ⟨⟨a10, a11, a12, a13, a14⟩, b10, b11, b12, b13, b14⟩ := cells5 M.res
  have c2 := M.wds.c2
  have hpA := M.pA
  have hgA := M.gA
  have haT := M.aT
  have hp1 : pb ≠ A := by omega
  have hp3 : A ≠ pb := by omega
  have hp4 : A ≠ g := by omega
  have hp2 : T ≠ A := by omega
  have hp5 : A ≠ T := by omega
  have hle : w.heap.size ≤ A := Nat.le_of_eq HA.out
  have HM : Hid _ := M
  clear M
  generalize (((w4.setCell ⟨T, 0, none⟩ (.string S)).setCell ⟨T, 1, none⟩ (.string N)).setCell ⟨T, 2, none⟩ (.int .i64 P)).setCell ⟨T, 3, none⟩ (.int .i64 E) = wz at *
  go_region_held3 (fun w' => w'.cell? ⟨T, 0, none⟩ = some (.string S) ∧ w'.cell? ⟨T, 1, none⟩ = some (.string N) ∧ w'.cell? ⟨T, 2, none⟩ = some (.int .i64 P) ∧ w'.cell? ⟨T, 3, none⟩ = some (.int .i64 E) ∧
      w'.cell? ⟨T, 4, none⟩ = some (.bool false) ∧ w'.cell? ⟨pb, 2, none⟩ = some .nilIface)
    (go_keep) (fail)
  go_wp2
  refine bodyPost_ret (v := .tuple #[.agg #[.string S, .string N, .int .i64 P, .int .i64 E, .bool false], .bool true]) (by simp [results, Tryf.results17, go_sem, *]) rfl ⟨rfl, ?_, ?_⟩
  · exact grownBy_drew (grownBy_new (grownBy_new (grownBy_new (grownBy_new (grownBy_new HM.out.grown hle _) hle _) hle _) hle _) hle _)
  · exact (((((HM.out.wds.setOther hp1 hp4.symm _).setOther hp1 hp4.symm _).setOther hp1 hp4.symm _).setOther hp1 hp4.symm _).setOther hp1 hp4.symm _).drew

set_option maxRecDepth 100000 in
set_option maxHeartbeats 1000000 in
/-- DROP TABLE [IF EXISTS] .. -/
theorem target_drop {pb g i k : Nat} {ts : List Tk} {S N : ByteArray} {P E : Int} {j : Nat} {ib : Bool} {w : World} (h : Wds w pb g ts 0) (hwt : WithTo pb g ts i) (hnx : NextTo pb g ts i ⟨#[100, 114, 111, 112]⟩) (he : hitB ts (i + 1) [kTable, kView] = true) (hif : hitB ts (i + 2) [kIf] = ib) (h6 : ib = false → j = i + 2) (h7 : ib = true → hitB ts (i + 3) [kExists] = true ∧ j = i + 4) (hr : Reads pb g ts j S N P E k) :
    Calls Tryf.prog 17 #[.pointer (some ⟨pb, 0, none⟩)] w fun e w' =>
      e = .returned (.tuple #[.agg #[.string S, .string N, .int .i64 P, .int .i64 E, .bool false], .bool true]) ∧ w.grownBy w' (some pb) ∧ Wds w' pb g ts k := by
  have HWT : Hid (WithTo pb g ts i) := hwt
  have HNX : Hid _ := hnx
  have HE : Hid (hitB ts (i + 1) [kTable, kView] = true) := he
  have HI : Hid (hitB ts (i + 2) [kIf] = ib) := hif
  have H6 : Hid (ib = false → j = i + 2) := h6
  have H7 : Hid (ib = true → hitB ts (i + 3) [kExists] = true ∧ j = i + 4) := h7
  have HR : Hid (Reads pb g ts j S N P E k) := hr
  have hlt := h.lt
  have hgl := h.row.lt
  clear hwt hnx he hif h6 h7 hr
  go_enter Tryf.func17, Tryf.ntmps17
  go_wp2_with fail
  refine (HWT.out _ (h.alloc _)).mono ?_
  rintro e w1 ⟨rfl, hg1, hw1⟩
  have R1 := grown_block hg1 (heap_alloc_new w _) (by omega)
  have hs1 : w.heap.size < w1.heap.size := by have := hg1.size; simp at this; omega
  have M : Mt w (w1.alloc (.cells #[.string ⟨#[]⟩, .string ⟨#[]⟩, .int .i64 0, .int .i64 0, .bool false] 43)) pb g ts w.heap.size w1.heap.size i (.string ⟨#[]⟩) (.string ⟨#[]⟩) (.int .i64 0) (.int .i64 0) false :=
    ⟨hw1.alloc _, grownBy_allocd (grownBy_alloc_left hg1) _, rfl, (Below.heap_alloc _ _ _ hs1).trans R1, heap_alloc_new w1 _, hlt, hgl, hs1⟩
  clear h R1 hg1 hw1
  go_wp2_with fail
  refine (HNX.out _ M.wds).mono ?_
  rintro e w2 ⟨rfl, hg2, hw2⟩
  replace M := M.on hg2 hw2
  clear hg2 hw2 HWT HNX
  generalize w1.heap.size = T at *
  generalize hA : w.heap.size = A at *
  have HA : Hid (w.heap.size = A) := hA
  clear hA
  go_wp2_with fail
  refine (expect2 M.wds kTable kView (by simp) HE.out).mono ?_
  rintro e w3 ⟨rfl, hgx, hwx'⟩
  have hwx : Wds w3 pb g ts (i + 2) := hwx'
  replace M := M.on hgx hwx
  clear hgx hwx hwx'
  go_wp2_with fail
  refine (accept1 M.wds kIf (by simp)).mono ?_
  rw [HI.out]
  rintro e w4 ⟨rfl, hgx, hwx'⟩
  clear HI HE
  cases ib
  · have hwx : Wds w4 pb g ts (i + 2) := hwx'
    replace M := M.on hgx hwx
    clear hgx hwx hwx'
    have ej := H6.out rfl
    subst ej
    clear H6 H7
    go_wp2_with fail
    refine (HR.out _ M.wds).mono ?_
    rintro e w6 ⟨rfl, hgx, hwx⟩
    replace M := M.on hgx hwx
    clear hgx hwx
    obtain ⟨⟨a0, a1, a2, a3, -⟩, b0, b1, b2, b3, -⟩ := cells5 M.t
    replace M := M.fill (.string S) (.string N) (.int .i64 P) (.int .i64 E)
    go_wp2_with fail
    clear a0 a1 a2 a3 b0 b1 b2 b3
    obtain ⟨⟨a0, a1, a2, a3, a4⟩, -⟩ := cells5 M.t
    obtain ⟨⟨a10, a11, a12, a13, a14⟩, b10, b11, b12, b13, b14⟩ := cells5 M.res
    have c2 := M.wds.c2
    have hpA := M.pA
    have hgA := M.gA
    have haT := M.aT
    have hp1 : pb ≠ A := by omega
    have hp3 : A ≠ pb := by omega
    have hp4 : A ≠ g := by omega
    have hp2 : T ≠ A := by omega
    have hp5 : A ≠ T := by omega
    have hle : w.heap.size ≤ A := Nat.le_of_eq HA.out
    have HM : Hid _ := M
    clear M
    generalize (((w6.setCell ⟨T, 0, none⟩ (.string S)).setCell ⟨T, 1, none⟩ (.string N)).setCell ⟨T, 2, none⟩ (.int .i64 P)).setCell ⟨T, 3, none⟩ (.int .i64 E) = wz at *
    go_region_held3 (fun w' => w'.cell? ⟨T, 0, none⟩ = some (.string S) ∧ w'.cell? ⟨T, 1, none⟩ = some (.string N) ∧ w'.cell? ⟨T, 2, none⟩ = some (.int .i64 P) ∧ w'.cell? ⟨T, 3, none⟩ = some (.int .i64 E) ∧
        w'.cell? ⟨T, 4, none⟩ = some (.bool false) ∧ w'.cell? ⟨pb, 2, none⟩ = some .nilIface)
      (go_keep) (fail)
    go_wp2
    refine bodyPost_ret (v := .tuple #[.agg #[.string S, .string N, .int .i64 P, .int .i64 E, .bool false], .bool true]) (by simp [results, Tryf.results17, go_sem, *]) rfl ⟨rfl, ?_, ?_⟩
    · exact grownBy_drew (grownBy_new (grownBy_new (grownBy_new (grownBy_new (grownBy_new HM.out.grown hle _) hle _) hle _) hle _) hle _)
    · exact (((((HM.out.wds.setOther hp1 hp4.symm _).setOther hp1 hp4.symm _).setOther hp1 hp4.symm _).setOther hp1 hp4.symm _).setOther hp1 hp4.symm _).drew
  · have hwx : Wds w4 pb g ts (i + 3) := hwx'
    replace M := M.on hgx hwx
    clear hgx hwx hwx'
    obtain ⟨hex, ej⟩ := H7.out rfl
    subst ej
    have HX : Hid (hitB ts (i + 3) [kExists] = true) := hex
    clear hex H6 H7
    go_wp2_with fail
    refine (expect1 M.wds kExists (by simp) HX.out).mono ?_
    rintro e w5 ⟨rfl, hgx, hwx'⟩
    have hwx : Wds w5 pb g ts (i + 4) := hwx'
    replace M := M.on hgx hwx
    clear hgx hwx hwx'
    go_wp2_with fail
    refine (HR.out _ M.wds).mono ?_
    rintro e w6 ⟨rfl, hgx, hwx⟩
    replace M := M.on hgx hwx
    clear hgx hwx
    obtain ⟨⟨a0, a1, a2, a3, -⟩, b0, b1, b2, b3, -⟩ := cells5 M.t
    replace M := M.fill (.string S) (.string N) (.int .i64 P) (.int .i64 E)
    go_wp2_with fail
    clear a0 a1 a2 a3 b0 b1 b2 b3
    obtain ⟨⟨a0, a1, a2, a3, a4⟩, -⟩ := cells5 M.t
    obtain ⟨⟨a10, a11, a12, a13, a14⟩, b10, b11, b12, b13, b14⟩ := cells5 M.res
    have c2 := M.wds.c2
    have hpA := M.pA
    have hgA := M.gA
    have haT := M.aT
    have hp1 : pb ≠ A := by omega
    have hp3 : A ≠ pb := by omega
    have hp4 : A ≠ g := by omega
    have hp2 : T ≠ A := by omega
    have hp5 : A ≠ T := by omega
    have hle : w.heap.size ≤ A := Nat.le_of_eq HA.out
    have HM : Hid _ := M
    clear M
    generalize (((w6.setCell ⟨T, 0, none⟩ (.string S)).setCell ⟨T, 1, none⟩ (.string N)).setCell ⟨T, 2, none⟩ (.int .i64 P)).setCell ⟨T, 3, none⟩ (.int .i64 E) = wz at *
    go_region_held3 (fun w' => w'.cell? ⟨T, 0, none⟩ = some (.string S) ∧ w'.cell? ⟨T, 1, none⟩ = some (.string N) ∧ w'.cell? ⟨T, 2, none⟩ = some (.int .i64 P) ∧ w'.cell? ⟨T, 3, none⟩ = some (.int .i64 E) ∧
        w'.cell? ⟨T, 4, none⟩ = some (.bool false) ∧ w'.cell? ⟨pb, 2, none⟩ = some .nilIface)
      (go_keep) (fail)
    go_wp2
    refine bodyPost_ret (v := .tuple #[.agg #[.string S, .string N, .int .i64 P, .int .i64 E, .bool false], .bool true]) (by simp [results, Tryf.results17, go_sem, *]) rfl ⟨rfl, ?_, ?_⟩
    · exact grownBy_drew (grownBy_new (grownBy_new (grownBy_new (grownBy_new (grownBy_new HM.out.grown hle _) hle _) hle _) hle _) hle _)
    · exact (((((HM.out.wds.setOther hp1 hp4.symm _).setOther hp1 hp4.symm _).setOther hp1 hp4.symm _).setOther hp1 hp4.symm _).setOther hp1 hp4.symm _).drew

set_option maxRecDepth 100000 in
set_option maxHeartbeats 1000000 in
/-- DELETE FROM .. -/
theorem target_delete {pb g i k : Nat} {ts : List Tk} {S N : ByteArray} {P E : Int} {bm : Nat} {o : Obj} {al : Bool} {w : World} (h : Wds w pb g ts 0) (hwt : WithTo pb g ts i) (hnx : NextTo pb g ts i ⟨#[100, 101, 108, 101, 116, 101]⟩) (he : hitB ts (i + 1) [kFrom] = true) (hr : Reads pb g ts (i + 2) S N P E k) (hm : GM w bm o) (hp0 : pb ≠ 0) (hpm : pb ≠ bm)
    (hal : ∀ w, Wds w pb g ts k → GM w bm o → Calls Tryf.prog 25 #[.pointer (some ⟨pb, 0, none⟩), .slice none 0 0] w fun e w' => e = .returned (.bool al) ∧ w.grownBy w' (some pb) ∧ Wds w' pb g ts k) :
    Calls Tryf.prog 17 #[.pointer (some ⟨pb, 0, none⟩)] w fun e w' =>
      e = .returned (.tuple #[.agg #[.string S, .string N, .int .i64 P, .int .i64 E, .bool al], .bool true]) ∧ w.grownBy w' (some pb) ∧ Wds w' pb g ts k := by
  have HWT : Hid (WithTo pb g ts i) := hwt
  have HNX : Hid _ := hnx
  have HE : Hid (hitB ts (i + 1) [kFrom] = true) := he
  have HR : Hid (Reads pb g ts (i + 2) S N P E k) := hr
  have HM0 : Hid (GM w bm o ∧ pb ≠ 0 ∧ pb ≠ bm) := ⟨hm, hp0, hpm⟩
  have HAL : Hid (∀ w, Wds w pb g ts k → GM w bm o → Calls Tryf.prog 25 #[.pointer (some ⟨pb, 0, none⟩), .slice none 0 0] w fun e w' => e = .returned (.bool al) ∧ w.grownBy w' (some pb) ∧ Wds w' pb g ts k) := hal
  have hlt := h.lt
  have hgl := h.row.lt
  clear hwt hnx he hr hm hp0 hpm hal
  go_enter Tryf.func17, Tryf.ntmps17
  go_wp2_with fail
  refine (HWT.out _ (h.alloc _)).mono ?_
  rintro e w1 ⟨rfl, hg1, hw1⟩
  have R1 := grown_block hg1 (heap_alloc_new w _) (by omega)
  have hs1 : w.heap.size < w1.heap.size := by have := hg1.size; simp at this; omega
  have M : Mt w (w1.alloc (.cells #[.string ⟨#[]⟩, .string ⟨#[]⟩, .int .i64 0, .int .i64 0, .bool false] 43)) pb g ts w.heap.size w1.heap.size i (.string ⟨#[]⟩) (.string ⟨#[]⟩) (.int .i64 0) (.int .i64 0) false :=
    ⟨hw1.alloc _, grownBy_allocd (grownBy_alloc_left hg1) _, rfl, (Below.heap_alloc _ _ _ hs1).trans R1, heap_alloc_new w1 _, hlt, hgl, hs1⟩
  clear h R1 hg1 hw1
  go_wp2_with fail
  refine (HNX.out _ M.wds).mono ?_
  rintro e w2 ⟨rfl, hg2, hw2⟩
  replace M := M.on hg2 hw2
  clear hg2 hw2 HWT HNX
  generalize w1.heap.size = T at *
  generalize hA : w.heap.size = A at *
  have HA : Hid (w.heap.size = A) := hA
  clear hA
  go_wp2_with fail
  refine (expect1 M.wds kFrom (by simp) HE.out).mono ?_
  rintro e w3 ⟨rfl, hgx, hwx'⟩
  have hwx : Wds w3 pb g ts (i + 2) := hwx'
  replace M := M.on hgx hwx
  clear hgx hwx hwx'
  go_wp2_with fail
  refine (HR.out _ M.wds).mono ?_
  rintro e w4 ⟨rfl, hgx, hwx⟩
  replace M := M.on hgx hwx
  clear hgx hwx
  obtain ⟨⟨a0, a1, a2, a3, -⟩, b0, b1, b2, b3, -⟩ := cells5 M.t
  replace M := M.fill (.string S) (.string N) (.int .i64 P) (.int .i64 E)
  go_wp2_with fail
  clear a0 a1 a2 a3 b0 b1 b2 b3
  refine (HAL.out _ M.wds (HM0.out.1.grown M.grown HM0.out.2.1 HM0.out.2.2)).mono ?_
  rintro e w5 ⟨rfl, hgx, hwx⟩
  replace M := M.on hgx hwx
  clear hgx hwx
  obtain ⟨⟨-, -, -, -, a0⟩, -, -, -, -, b0⟩ := cells5 M.t
  replace M := M.setAl al
  go_wp2_with fail
  clear a0 b0
  obtain ⟨⟨a0, a1, a2, a3, a4⟩, -⟩ := cells5 M.t
  obtain ⟨⟨a10, a11, a12, a13, a14⟩, b10, b11, b12, b13, b14⟩ := cells5 M.res
  have c2 := M.wds.c2
  have hpA := M.pA
  have hgA := M.gA
  have haT := M.aT
  have hp1 : pb ≠ A := by omega
  have hp3 : A ≠ pb := by omega
  have hp4 : A ≠ g := by omega
  have hp2 : T ≠ A := by omega
  have hp5 : A ≠ T := by omega
  have hle : w.heap.size ≤ A := Nat.le_of_eq HA.out
  have HM : Hid _ := M
  clear M
  generalize w5.setCell ⟨T, 4, none⟩ (.bool al) = wz at *
  go_region_held3 (fun w' => w'.cell? ⟨T, 0, none⟩ = some (.string S) ∧ w'.cell? ⟨T, 1, none⟩ = some (.string N) ∧ w'.cell? ⟨T, 2, none⟩ = some (.int .i64 P) ∧ w'.cell? ⟨T, 3, none⟩ = some (.int .i64 E) ∧
      w'.cell? ⟨T, 4, none⟩ = some (.bool al) ∧ w'.cell? ⟨pb, 2, none⟩ = some .nilIface)
    (go_keep) (fail)
  go_wp2
  refine bodyPost_ret (v := .tuple #[.agg #[.string S, .string N, .int .i64 P, .int .i64 E, .bool al], .bool true]) (by simp [results, Tryf.results17, go_sem, *]) rfl ⟨rfl, ?_, ?_⟩
  · exact grownBy_drew (grownBy_new (grownBy_new (grownBy_new (grownBy_new (grownBy_new HM.out.grown hle _) hle _) hle _) hle _) hle _)
  · exact (((((HM.out.wds.setOther hp1 hp4.symm _).setOther hp1 hp4.symm _).setOther hp1 hp4.symm _).setOther hp1 hp4.symm _).setOther hp1 hp4.symm _).drew

set_option maxRecDepth 100000 in
set_option maxHeartbeats 1000000 in
/-- UPDATE .. -/
theorem target_update {pb g i k : Nat} {ts : List Tk} {S N : ByteArray} {P E : Int} {bm : Nat} {o : Obj} {al : Bool} {w : World} (h : Wds w pb g ts 0) (hwt : WithTo pb g ts i) (hnx : NextTo pb g ts i ⟨#[117, 112, 100, 97, 116, 101]⟩) (ho : hitB ts (i + 1) [kOr] = false) (hr : Reads pb g ts (i + 1) S N P E k) (hm : GM w bm o) (hp0 : pb ≠ 0) (hpm : pb ≠ bm)
    (hal : ∀ w ab, Wds w pb g ts k → GM w bm o → w.cell? ⟨ab, 0, none⟩ = some (.string kSet) → Calls Tryf.prog 25 #[.pointer (some ⟨pb, 0, none⟩), .slice (some ⟨ab, 0, none⟩) 1 1] w fun e w' => e = .returned (.bool al) ∧ w.grownBy w' (some pb) ∧ Wds w' pb g ts k) :
    Calls Tryf.prog 17 #[.pointer (some ⟨pb, 0, none⟩)] w fun e w' =>
      e = .returned (.tuple #[.agg #[.string S, .string N, .int .i64 P, .int .i64 E, .bool al], .bool true]) ∧ w.grownBy w' (some pb) ∧ Wds w' pb g ts k := by
  have HWT : Hid (WithTo pb g ts i) := hwt
  have HNX : Hid _ := hnx
  have HO : Hid (hitB ts (i + 1) [kOr] = false) := ho
  have HR : Hid (Reads pb g ts (i + 1) S N P E k) := hr
  have HM0 : Hid (GM w bm o ∧ pb ≠ 0 ∧ pb ≠ bm) := ⟨hm, hp0, hpm⟩
  have HAL : Hid (∀ w ab, Wds w pb g ts k → GM w bm o → w.cell? ⟨ab, 0, none⟩ = some (.string kSet) → Calls Tryf.prog 25 #[.pointer (some ⟨pb, 0, none⟩), .slice (some ⟨ab, 0, none⟩) 1 1] w fun e w' => e = .returned (.bool al) ∧ w.grownBy w' (some pb) ∧ Wds w' pb g ts k) := hal
  have hlt := h.lt
  have hgl := h.row.lt
  clear hwt hnx ho hr hm hp0 hpm hal
  go_enter Tryf.func17, Tryf.ntmps17
  go_wp2_with fail
  refine (HWT.out _ (h.alloc _)).mono ?_
  rintro e w1 ⟨rfl, hg1, hw1⟩
  have R1 := grown_block hg1 (heap_alloc_new w _) (by omega)
  have hs1 : w.heap.size < w1.heap.size := by have := hg1.size; simp at this; omega
  have M : Mt w (w1.alloc (.cells #[.string ⟨#[]⟩, .string ⟨#[]⟩, .int .i64 0, .int .i64 0, .bool false] 43)) pb g ts w.heap.size w1.heap.size i (.string ⟨#[]⟩) (.string ⟨#[]⟩) (.int .i64 0) (.int .i64 0) false :=
    ⟨hw1.alloc _, grownBy_allocd (grownBy_alloc_left hg1) _, rfl, (Below.heap_alloc _ _ _ hs1).trans R1, heap_alloc_new w1 _, hlt, hgl, hs1⟩
  clear h R1 hg1 hw1
  go_wp2_with fail
  refine (HNX.out _ M.wds).mono ?_
  rintro e w2 ⟨rfl, hg2, hw2⟩
  replace M := M.on hg2 hw2
  clear hg2 hw2 HWT HNX
  generalize w1.heap.size = T at *
  generalize hA : w.heap.size = A at *
  have HA : Hid (w.heap.size = A) := hA
  clear hA
  go_wp2_with fail
  refine (orConflict_calls M.wds HO.out).mono ?_
  rintro e w3 ⟨rfl, hgx, hwx'⟩
  have hwx : Wds w3 pb g ts (i + 1) := hwx'
  replace M := M.on hgx hwx
  clear hgx hwx hwx'
  go_wp2_with fail
  refine (HR.out _ M.wds).mono ?_
  rintro e w4 ⟨rfl, hgx, hwx⟩
  replace M := M.on hgx hwx
  clear hgx hwx
  obtain ⟨⟨a0, a1, a2, a3, -⟩, b0, b1, b2, b3, -⟩ := cells5 M.t
  replace M := M.fill (.string S) (.string N) (.int .i64 P) (.int .i64 E)
  go_wp2_with fail
  clear a0 a1 a2 a3 b0 b1 b2 b3
  refine (HAL.out _ _ (M.wds.alloc _) ((HM0.out.1.grown M.grown HM0.out.2.1 HM0.out.2.2).below ((Below.refl _ _).alloc (Nat.le_refl _) _)) (World.cell?_alloc_at #[.string kSet] _ _ _ (by simp))).mono ?_
  rintro e w5 ⟨rfl, hgx, hwx⟩
  replace M := M.on (grownBy_alloc_left hgx) hwx
  clear hgx hwx
  obtain ⟨⟨-, -, -, -, a0⟩, -, -, -, -, b0⟩ := cells5 M.t
  replace M := M.setAl al
  go_wp2_with fail
  clear a0 b0
  obtain ⟨⟨a0, a1, a2, a3, a4⟩, -⟩ := cells5 M.t
  obtain ⟨⟨a10, a11, a12, a13, a14⟩, b10, b11, b12, b13, b14⟩ := cells5 M.res
  have c2 := M.wds.c2
  have hpA := M.pA
  have hgA := M.gA
  have haT := M.aT
  have hp1 : pb ≠ A := by omega
  have hp3 : A ≠ pb := by omega
  have hp4 : A ≠ g := by omega
  have hp2 : T ≠ A := by omega
  have hp5 : A ≠ T := by omega
  have hle : w.heap.size ≤ A := Nat.le_of_eq HA.out
  have HM : Hid _ := M
  clear M
  generalize w5.setCell ⟨T, 4, none⟩ (.bool al) = wz at *
  go_region_held3 (fun w' => w'.cell? ⟨T, 0, none⟩ = some (.string S) ∧ w'.cell? ⟨T, 1, none⟩ = some (.string N) ∧ w'.cell? ⟨T, 2, none⟩ = some (.int .i64 P) ∧ w'.cell? ⟨T, 3, none⟩ = some (.int .i64 E) ∧
      w'.cell? ⟨T, 4, none⟩ = some (.bool al) ∧ w'.cell? ⟨pb, 2, none⟩ = some .nilIface)
    (go_keep) (fail)
  go_wp2
  refine bodyPost_ret (v := .tuple #[.agg #[.string S, .string N, .int .i64 P, .int .i64 E, .bool al], .bool true]) (by simp [results, Tryf.results17, go_sem, *]) rfl ⟨rfl, ?_, ?_⟩
  · exact grownBy_drew (grownBy_new (grownBy_new (grownBy_new (grownBy_new (grownBy_new HM.out.grown hle _) hle _) hle _) hle _) hle _)
  · exact (((((HM.out.wds.setOther hp1 hp4.symm _).setOther hp1 hp4.symm _).setOther hp1 hp4.symm _).setOther hp1 hp4.symm _).setOther hp1 hp4.symm _).drew

set_option maxRecDepth 100000 in
set_option maxHeartbeats 1000000 in
/-- INSERT INTO .. -/
theorem target_insert {pb g i k : Nat} {ts : List Tk} {S N : ByteArray} {P E : Int} {al : Bool} {w : World} (h : Wds w pb g ts 0) (hwt : WithTo pb g ts i) (hnx : NextTo pb g ts i ⟨#[105, 110, 115, 101, 114, 116]⟩) (ho : hitB ts (i + 1) [kOr] = false) (he : hitB ts (i + 1) [kInto] = true) (hr : Reads pb g ts (i + 2) S N P E k) (ha : hitB ts k [kAs] = al) (hn : al = true → ∃ hi : k + 1 < ts.length, ts[k + 1].kind = 0 ∨ ts[k + 1].kind = 1) :
    Calls Tryf.prog 17 #[.pointer (some ⟨pb, 0, none⟩)] w fun e w' =>
      e = .returned (.tuple #[.agg #[.string S, .string N, .int .i64 P, .int .i64 E, .bool al], .bool true]) ∧ w.grownBy w' (some pb) ∧ Wds w' pb g ts (bif al then k + 2 else k) := by
  have HWT : Hid (WithTo pb g ts i) := hwt
  have HNX : Hid _ := hnx
  have HO : Hid (hitB ts (i + 1) [kOr] = false) := ho
  have HE : Hid (hitB ts (i + 1) [kInto] = true) := he
  have HR : Hid (Reads pb g ts (i + 2) S N P E k) := hr
  have HA1 : Hid (hitB ts k [kAs] = al) := ha
  have HN : Hid (al = true → ∃ hi : k + 1 < ts.length, ts[k + 1].kind = 0 ∨ ts[k + 1].kind = 1) := hn
  have hlt := h.lt
  have hgl := h.row.lt
  clear hwt hnx ho he hr ha hn
  go_enter Tryf.func17, Tryf.ntmps17
  go_wp2_with fail
  refine (HWT.out _ (h.alloc _)).mono ?_
  rintro e w1 ⟨rfl, hg1, hw1⟩
  have R1 := grown_block hg1 (heap_alloc_new w _) (by omega)
  have hs1 : w.heap.size < w1.heap.size := by have := hg1.size; simp at this; omega
  have M : Mt w (w1.alloc (.cells #[.string ⟨#[]⟩, .string ⟨#[]⟩, .int .i64 0, .int .i64 0, .bool false] 43)) pb g ts w.heap.size w1.heap.size i (.string ⟨#[]⟩) (.string ⟨#[]⟩) (.int .i64 0) (.int .i64 0) false :=
    ⟨hw1.alloc _, grownBy_allocd (grownBy_alloc_left hg1) _, rfl, (Below.heap_alloc _ _ _ hs1).trans R1, heap_alloc_new w1 _, hlt, hgl, hs1⟩
  clear h R1 hg1 hw1
  go_wp2_with fail
  refine (HNX.out _ M.wds).mono ?_
  rintro e w2 ⟨rfl, hg2, hw2⟩
  replace M := M.on hg2 hw2
  clear hg2 hw2 HWT HNX
  generalize w1.heap.size = T at *
  generalize hA : w.heap.size = A at *
  have HA : Hid (w.heap.size = A) := hA
  clear hA
  go_wp2_with fail
  refine (orConflict_calls M.wds HO.out).mono ?_
  rintro e w25 ⟨rfl, hgx, hwx'⟩
  have hwx : Wds w25 pb g ts (i + 1) := hwx'
  replace M := M.on hgx hwx
  clear hgx hwx hwx'
  go_wp2_with fail
  refine (expect1 M.wds kInto (by simp) HE.out).mono ?_
  rintro e w3 ⟨rfl, hgx, hwx'⟩
  have hwx : Wds w3 pb g ts (i + 2) := hwx'
  replace M := M.on hgx hwx
  clear hgx hwx hwx'
  go_wp2_with fail
  refine (HR.out _ M.wds).mono ?_
  rintro e w4 ⟨rfl, hgx, hwx⟩
  replace M := M.on hgx hwx
  clear hgx hwx
  obtain ⟨⟨a0, a1, a2, a3, -⟩, b0, b1, b2, b3, -⟩ := cells5 M.t
  replace M := M.fill (.string S) (.string N) (.int .i64 P) (.int .i64 E)
  go_wp2_with fail
  clear a0 a1 a2 a3 b0 b1 b2 b3
  refine (accept1 M.wds kAs (by simp)).mono ?_
  rw [HA1.out]
  rintro e w5 ⟨rfl, hgx, hwx⟩
  replace M := M.on hgx hwx
  clear hgx hwx
  obtain ⟨⟨-, -, -, -, a0⟩, -, -, -, -, b0⟩ := cells5 M.t
  replace M := M.setAl al
  cases al
  · have M' : Mt w (w5.setCell ⟨T, 4, none⟩ (.bool false)) pb g ts A T k _ _ _ _ false := M
    clear M
    have M := M'
    clear M'
    go_wp2_with fail
    clear a0 b0
    obtain ⟨⟨a0, a1, a2, a3, a4⟩, -⟩ := cells5 M.t
    obtain ⟨⟨a10, a11, a12, a13, a14⟩, b10, b11, b12, b13, b14⟩ := cells5 M.res
    have c2 := M.wds.c2
    have hpA := M.pA
    have hgA := M.gA
    have haT := M.aT
    have hp1 : pb ≠ A := by omega
    have hp3 : A ≠ pb := by omega
    have hp4 : A ≠ g := by omega
    have hp2 : T ≠ A := by omega
    have hp5 : A ≠ T := by omega
    have hle : w.heap.size ≤ A := Nat.le_of_eq HA.out
    have HM : Hid _ := M
    clear M
    generalize w5.setCell ⟨T, 4, none⟩ (.bool false) = wz at *
    go_region_held3 (fun w' => w'.cell? ⟨T, 0, none⟩ = some (.string S) ∧ w'.cell? ⟨T, 1, none⟩ = some (.string N) ∧ w'.cell? ⟨T, 2, none⟩ = some (.int .i64 P) ∧ w'.cell? ⟨T, 3, none⟩ = some (.int .i64 E) ∧
        w'.cell? ⟨T, 4, none⟩ = some (.bool false) ∧ w'.cell? ⟨pb, 2, none⟩ = some .nilIface)
      (go_keep) (fail)
    go_wp2
    refine bodyPost_ret (v := .tuple #[.agg #[.string S, .string N, .int .i64 P, .int .i64 E, .bool false], .bool true]) (by simp [results, Tryf.results17, go_sem, *]) rfl ⟨rfl, ?_, ?_⟩
    · exact grownBy_drew (grownBy_new (grownBy_new (grownBy_new (grownBy_new (grownBy_new HM.out.grown hle _) hle _) hle _) hle _) hle _)
    · exact (((((HM.out.wds.setOther hp1 hp4.symm _).setOther hp1 hp4.symm _).setOther hp1 hp4.symm _).setOther hp1 hp4.symm _).setOther hp1 hp4.symm _).drew
  · have M' : Mt w (w5.setCell ⟨T, 4, none⟩ (.bool true)) pb g ts A T (k + 1) _ _ _ _ true := M
    clear M
    have M := M'
    clear M'
    obtain ⟨hi1, hk1⟩ := HN.out rfl
    go_wp2_with fail
    refine (name_calls M.wds hi1 hk1).mono ?_
    rintro e w6 ⟨rfl, hgx, hwx'⟩
    have hwx : Wds w6 pb g ts (k + 2) := hwx'
    replace M := M.on hgx hwx
    clear hgx hwx hwx'
    go_wp2_with fail
    clear a0 b0
    obtain ⟨⟨a0, a1, a2, a3, a4⟩, -⟩ := cells5 M.t
    obtain ⟨⟨a10, a11, a12, a13, a14⟩, b10, b11, b12, b13, b14⟩ := cells5 M.res
    have c2 := M.wds.c2
    have hpA := M.pA
    have hgA := M.gA
    have haT := M.aT
    have hp1 : pb ≠ A := by omega
    have hp3 : A ≠ pb := by omega
    have hp4 : A ≠ g := by omega
    have hp2 : T ≠ A := by omega
    have hp5 : A ≠ T := by omega
    have hle : w.heap.size ≤ A := Nat.le_of_eq HA.out
    have HM : Hid _ := M
    clear M
    go_region_held3 (fun w' => w'.cell? ⟨T, 0, none⟩ = some (.string S) ∧ w'.cell? ⟨T, 1, none⟩ = some (.string N) ∧ w'.cell? ⟨T, 2, none⟩ = some (.int .i64 P) ∧ w'.cell? ⟨T, 3, none⟩ = some (.int .i64 E) ∧
        w'.cell? ⟨T, 4, none⟩ = some (.bool true) ∧ w'.cell? ⟨pb, 2, none⟩ = some .nilIface)
      (go_keep) (fail)
    go_wp2
    refine bodyPost_ret (v := .tuple #[.agg #[.string S, .string N, .int .i64 P, .int .i64 E, .bool true], .bool true]) (by simp [results, Tryf.results17, go_sem, *]) rfl ⟨rfl, ?_, ?_⟩
    · exact grownBy_drew (grownBy_new (grownBy_new (grownBy_new (grownBy_new (grownBy_new HM.out.grown hle _) hle _) hle _) hle _) hle _)
    · exact (((((HM.out.wds.setOther hp1 hp4.symm _).setOther hp1 hp4.symm _).setOther hp1 hp4.symm _).setOther hp1 hp4.symm _).setOther hp1 hp4.symm _).drew

set_option maxRecDepth 100000 in
set_option maxHeartbeats 1000000 in
/-- REPLACE INTO .. -/
theorem target_replace {pb g i k : Nat} {ts : List Tk} {S N : ByteArray} {P E : Int} {al : Bool} {w : World} (h : Wds w pb g ts 0) (hwt : WithTo pb g ts i) (hnx : NextTo pb g ts i ⟨#[114, 101, 112, 108, 97, 99, 101]⟩) (he : hitB ts (i + 1) [kInto] = true) (hr : Reads pb g ts (i + 2) S N P E k) (ha : hitB ts k [kAs] = al) (hn : al = true → ∃ hi : k + 1 < ts.length, ts[k + 1].kind = 0 ∨ ts[k + 1].kind = 1) :
    Calls Tryf.prog 17 #[.pointer (some ⟨pb, 0, none⟩)] w fun e w' =>
      e = .returned (.tuple #[.agg #[.string S, .string N, .int .i64 P, .int .i64 E, .bool al], .bool true]) ∧ w.grownBy w' (some pb) ∧ Wds w' pb g ts (bif al then k + 2 else k) := by
  have HWT : Hid (WithTo pb g ts i) := hwt
  have HNX : Hid _ := hnx
  have HE : Hid (hitB ts (i + 1) [kInto] = true) := he
  have HR : Hid (Reads pb g ts (i + 2) S N P E k) := hr
  have HA1 : Hid (hitB ts k [kAs] = al) := ha
  have HN : Hid (al = true → ∃ hi : k + 1 < ts.length, ts[k + 1].kind = 0 ∨ ts[k + 1].kind = 1) := hn
  have hlt := h.lt
  have hgl := h.row.lt
  clear hwt hnx he hr ha hn
  go_enter Tryf.func17, Tryf.ntmps17
  go_wp2_with fail
  refine (HWT.out _ (h.alloc _)).mono ?_
  rintro e w1 ⟨rfl, hg1, hw1⟩
  have R1 := grown_block hg1 (heap_alloc_new w _) (by omega)
  have hs1 : w.heap.size < w1.heap.size := by have := hg1.size; simp at this; omega
  have M : Mt w (w1.alloc (.cells #[.string ⟨#[]⟩, .string ⟨#[]⟩, .int .i64 0, .int .i64 0, .bool false] 43)) pb g ts w.heap.size w1.heap.size i (.string ⟨#[]⟩) (.string ⟨#[]⟩) (.int .i64 0) (.int .i64 0) false :=
    ⟨hw1.alloc _, grownBy_allocd (grownBy_alloc_left hg1) _, rfl, (Below.heap_alloc _ _ _ hs1).trans R1, heap_alloc_new w1 _, hlt, hgl, hs1⟩
  clear h R1 hg1 hw1
  go_wp2_with fail
  refine (HNX.out _ M.wds).mono ?_
  rintro e w2 ⟨rfl, hg2, hw2⟩
  replace M := M.on hg2 hw2
  clear hg2 hw2 HWT HNX
  generalize w1.heap.size = T at *
  generalize hA : w.heap.size = A at *
  have HA : Hid (w.heap.size = A) := hA
  clear hA
  go_wp2_with fail
  refine (expect1 M.wds kInto (by simp) HE.out).mono ?_
  rintro e w3 ⟨rfl, hgx, hwx'⟩
  have hwx : Wds w3 pb g ts (i + 2) := hwx'
  replace M := M.on hgx hwx
  clear hgx hwx hwx'
  go_wp2_with fail
  refine (HR.out _ M.wds).mono ?_
  rintro e w4 ⟨rfl, hgx, hwx⟩
  replace M := M.on hgx hwx
  clear hgx hwx
  obtain ⟨⟨a0, a1, a2, a3, -⟩, b0, b1, b2, b3, -⟩ := cells5 M.t
  replace M := M.fill (.string S) (.string N) (.int .i64 P) (.int .i64 E)
  go_wp2_with fail
  clear a0 a1 a2 a3 b0 b1 b2 b3
  refine (accept1 M.wds kAs (by simp)).mono ?_
  rw [HA1.out]
  rintro e w5 ⟨rfl, hgx, hwx⟩
  replace M := M.on hgx hwx
  clear hgx hwx
  obtain ⟨⟨-, -, -, -, a0⟩, -, -, -, -, b0⟩ := cells5 M.t
  replace M := M.setAl al
  cases al
  · have M' : Mt w (w5.setCell ⟨T, 4, none⟩ (.bool false)) pb g ts A T k _ _ _ _ false := M
    clear M
    have M := M'
    clear M'
    go_wp2_with fail
    clear a0 b0
    obtain ⟨⟨a0, a1, a2, a3, a4⟩, -⟩ := cells5 M.t
    obtain ⟨⟨a10, a11, a12, a13, a14⟩, b10, b11, b12, b13, b14⟩ := cells5 M.res
    have c2 := M.wds.c2
    have hpA := M.pA
    have hgA := M.gA
    have haT := M.aT
    have hp1 : pb ≠ A := by omega
    have hp3 : A ≠ pb := by omega
    have hp4 : A ≠ g := by omega
    have hp2 : T ≠ A := by omega
    have hp5 : A ≠ T := by omega
    have hle : w.heap.size ≤ A := Nat.le_of_eq HA.out
    have HM : Hid _ := M
    clear M
    generalize w5.setCell ⟨T, 4, none⟩ (.bool false) = wz at *
    go_region_held3 (fun w' => w'.cell? ⟨T, 0, none⟩ = some (.string S) ∧ w'.cell? ⟨T, 1, none⟩ = some (.string N) ∧ w'.cell? ⟨T, 2, none⟩ = some (.int .i64 P) ∧ w'.cell? ⟨T, 3, none⟩ = some (.int .i64 E) ∧
        w'.cell? ⟨T, 4, none⟩ = some (.bool false) ∧ w'.cell? ⟨pb, 2, none⟩ = some .nilIface)
      (go_keep) (fail)
    go_wp2
    refine bodyPost_ret (v := .tuple #[.agg #[.string S, .string N, .int .i64 P, .int .i64 E, .bool false], .bool true]) (by simp [results, Tryf.results17, go_sem, *]) rfl ⟨rfl, ?_, ?_⟩
    · exact grownBy_drew (grownBy_new (grownBy_new (grownBy_new (grownBy_new (grownBy_new HM.out.grown hle _) hle _) hle _) hle _) hle _)
    · exact (((((HM.out.wds.setOther hp1 hp4.symm _).setOther hp1 hp4.symm _).setOther hp1 hp4.symm _).setOther hp1 hp4.symm _).setOther hp1 hp4.symm _).drew
  · have M' : Mt w (w5.setCell ⟨T, 4, none⟩ (.bool true)) pb g ts A T (k + 1) _ _ _ _ true := M
    clear M
    have M := M'
    clear M'
    obtain ⟨hi1, hk1⟩ := HN.out rfl
    go_wp2_with fail
    refine (name_calls M.wds hi1 hk1).mono ?_
    rintro e w6 ⟨rfl, hgx, hwx'⟩
    have hwx : Wds w6 pb g ts (k + 2) := hwx'
    replace M := M.on hgx hwx
    clear hgx hwx hwx'
    go_wp2_with fail
    clear a0 b0
    obtain ⟨⟨a0, a1, a2, a3, a4⟩, -⟩ := cells5 M.t
    obtain ⟨⟨a10, a11, a12, a13, a14⟩, b10, b11, b12, b13, b14⟩ := cells5 M.res
    have c2 := M.wds.c2
    have hpA := M.pA
    have hgA := M.gA
    have haT := M.aT
    have hp1 : pb ≠ A := by omega
    have hp3 : A ≠ pb := by omega
    have hp4 : A ≠ g := by omega
    have hp2 : T ≠ A := by omega
    have hp5 : A ≠ T := by omega
    have hle : w.heap.size ≤ A := Nat.le_of_eq HA.out
    have HM : Hid _ := M
    clear M
    go_region_held3 (fun w' => w'.cell? ⟨T, 0, none⟩ = some (.string S) ∧ w'.cell? ⟨T, 1, none⟩ = some (.string N) ∧ w'.cell? ⟨T, 2, none⟩ = some (.int .i64 P) ∧ w'.cell? ⟨T, 3, none⟩ = some (.int .i64 E) ∧
        w'.cell? ⟨T, 4, none⟩ = some (.bool true) ∧ w'.cell? ⟨pb, 2, none⟩ = some .nilIface)
      (go_keep) (fail)
    go_wp2
    refine bodyPost_ret (v := .tuple #[.agg #[.string S, .string N, .int .i64 P, .int .i64 E, .bool true], .bool true]) (by simp [results, Tryf.results17, go_sem, *]) rfl ⟨rfl, ?_, ?_⟩
    · exact grownBy_drew (grownBy_new (grownBy_new (grownBy_new (grownBy_new (grownBy_new HM.out.grown hle _) hle _) hle _) hle _) hle _)
    · exact (((((HM.out.wds.setOther hp1 hp4.symm _).setOther hp1 hp4.symm _).setOther hp1 hp4.symm _).setOther hp1 hp4.symm _).setOther hp1 hp4.symm _).drew

end Go.Proofs.Qxb6609453aFmt

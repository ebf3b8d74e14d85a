/-
  createTable(): the opening of a CREATE TABLE statement.
-/
import Derived.Test.Qxb6609453aFmtTable
namespace Go.Proofs.Qxb6609453aFmt
open Go.RowKit
attribute [local go_sem ↓] Go.wp_at_zero Go.wp_at_succ

/-- Whoever calls table() with the reader at j gets this table, and the reader at k. -/
def Reads (pb g : Nat) (ts : List Tk) (j : Nat) (S N : ByteArray) (P E : Int) (k : Nat) : Prop :=
  ∀ w, Wds w pb g ts j → Calls Tryf.prog 19 #[.pointer (some ⟨pb, 0, none⟩)] w fun e w' =>
    e = .returned (.agg #[.string S, .string N, .int .i64 P, .int .i64 E]) ∧ w.grownBy w' (some pb) ∧ Wds w' pb g ts k

/-- A block of six cells, none frozen. -/
theorem cells6 {w : World} {b : Nat} {x0 x1 x2 x3 x4 x5 : Value} {t : TypeId} (h : w.heap[b]? = some (.cells #[x0, x1, x2, x3, x4, x5] t)) :
    (w.cell? ⟨b, 0, none⟩ = some x0 ∧ w.cell? ⟨b, 1, none⟩ = some x1 ∧ w.cell? ⟨b, 2, none⟩ = some x2 ∧ w.cell? ⟨b, 3, none⟩ = some x3 ∧ w.cell? ⟨b, 4, none⟩ = some x4 ∧ w.cell? ⟨b, 5, none⟩ = some x5) ∧
    (w.frozen? ⟨b, 0, none⟩ = false ∧ w.frozen? ⟨b, 1, none⟩ = false ∧ w.frozen? ⟨b, 2, none⟩ = false ∧ w.frozen? ⟨b, 3, none⟩ = false ∧ w.frozen? ⟨b, 4, none⟩ = false ∧ w.frozen? ⟨b, 5, none⟩ = false) := by
  simp [World.cell?, World.frozen?, h]

theorem block_set {w : World} {b i : Nat} {c : Array Value} {t : TypeId} {fr : Nat × Nat} (h : w.heap[b]? = some (.cells c t fr)) (v : Value) : (w.setCell ⟨b, i, none⟩ v).heap[b]? = some (.cells (c.setIfInBounds i v) t fr) := by
  simp [World.setCell, Array.getElem?_modify, h]

/-- What is known between two calls of createTable: the reader; the result's block A; nt's block A + 1; nothing old has turned but the reader. -/
structure Mid (w0 w : World) (pb g : Nat) (ts : List Tk) (A i : Nat) (tB iB : Bool) : Prop where
  wds : Wds w pb g ts i
  grown : w0.grownBy w (some pb)
  size : w0.heap.size = A
  res : w.heap[A]? = some (.cells #[.string ⟨#[]⟩, .string ⟨#[]⟩, .int .i64 0, .int .i64 0, .bool false, .bool false] 57)
  nt : w.heap[A + 1]? = some (.cells #[.string ⟨#[]⟩, .string ⟨#[]⟩, .int .i64 0, .int .i64 0, .bool tB, .bool iB] 57)
  pA : pb < A
  gA : g < A

theorem Mid.lt {w0 w : World} {pb g A i : Nat} {ts : List Tk} {tB iB : Bool} (h : Mid w0 w pb g ts A i tB iB) : A + 1 < w.heap.size := (Array.getElem?_eq_some_iff.1 h.nt).1

theorem Mid.on {w0 w w' : World} {pb g A i i' : Nat} {ts : List Tk} {tB iB : Bool} (h : Mid w0 w pb g ts A i tB iB) (hg : w.grownBy w' (some pb)) (hw : Wds w' pb g ts i') : Mid w0 w' pb g ts A i' tB iB :=
  ⟨hw, grownBy_trans h.grown hg, h.size, grown_block hg h.res (by have := h.pA; omega), grown_block hg h.nt (by have := h.pA; omega), h.pA, h.gA⟩

theorem Mid.temp {w0 w : World} {pb g A i : Nat} {ts : List Tk} {tB iB : Bool} (h : Mid w0 w pb g ts A i tB iB) (b : Bool) : Mid w0 (w.setCell ⟨A + 1, 4, none⟩ (.bool b)) pb g ts A i b iB :=
  ⟨h.wds.setOther (by simp; have := h.pA; omega) (by simp; have := h.gA; omega) _, grownBy_new h.grown (by simp; have := h.size; omega) _, h.size, (Below.heap_setCell _ _ _ _ (by simp)).trans h.res, block_set h.nt _, h.pA, h.gA⟩

theorem Mid.ifs {w0 w : World} {pb g A i : Nat} {ts : List Tk} {tB iB : Bool} (h : Mid w0 w pb g ts A i tB iB) (b : Bool) : Mid w0 (w.setCell ⟨A + 1, 5, none⟩ (.bool b)) pb g ts A i tB b :=
  ⟨h.wds.setOther (by simp; have := h.pA; omega) (by simp; have := h.gA; omega) _, grownBy_new h.grown (by simp; have := h.size; omega) _, h.size, (Below.heap_setCell _ _ _ _ (by simp)).trans h.res, block_set h.nt _, h.pA, h.gA⟩

theorem Mid.fill {w0 w : World} {pb g A i : Nat} {ts : List Tk} {tB iB : Bool} (h : Mid w0 w pb g ts A i tB iB) (S N P E : Value) :
    Wds ((((w.setCell ⟨A + 1, 0, none⟩ S).setCell ⟨A + 1, 1, none⟩ N).setCell ⟨A + 1, 2, none⟩ P).setCell ⟨A + 1, 3, none⟩ E) pb g ts i ∧
    w0.grownBy ((((w.setCell ⟨A + 1, 0, none⟩ S).setCell ⟨A + 1, 1, none⟩ N).setCell ⟨A + 1, 2, none⟩ P).setCell ⟨A + 1, 3, none⟩ E) (some pb) ∧
    ((((w.setCell ⟨A + 1, 0, none⟩ S).setCell ⟨A + 1, 1, none⟩ N).setCell ⟨A + 1, 2, none⟩ P).setCell ⟨A + 1, 3, none⟩ E).heap[A]? = some (.cells #[.string ⟨#[]⟩, .string ⟨#[]⟩, .int .i64 0, .int .i64 0, .bool false, .bool false] 57) ∧
    ((((w.setCell ⟨A + 1, 0, none⟩ S).setCell ⟨A + 1, 1, none⟩ N).setCell ⟨A + 1, 2, none⟩ P).setCell ⟨A + 1, 3, none⟩ E).heap[A + 1]? = some (.cells #[S, N, P, E, .bool tB, .bool iB] 57) := by
  have hp := h.pA
  have hg := h.gA
  have hs := h.size
  refine ⟨?_, ?_, ?_, ?_⟩
  · exact (((h.wds.setOther (by simp; omega) (by simp; omega) _).setOther (by simp; omega) (by simp; omega) _).setOther (by simp; omega) (by simp; omega) _).setOther (by simp; omega) (by simp; omega) _
  · exact grownBy_new (grownBy_new (grownBy_new (grownBy_new h.grown (by simp; omega) _) (by simp; omega) _) (by simp; omega) _) (by simp; omega) _
  · exact (Below.heap_setCell _ _ _ _ (by simp)).trans ((Below.heap_setCell _ _ _ _ (by simp)).trans ((Below.heap_setCell _ _ _ _ (by simp)).trans ((Below.heap_setCell _ _ _ _ (by simp)).trans h.res)))
  · exact block_set (block_set (block_set (block_set h.nt _) _) _) _

def kCreate : ByteArray := ⟨#[99, 114, 101, 97, 116, 101]⟩
def kGlobal : ByteArray := ⟨#[103, 108, 111, 98, 97, 108]⟩
def kLocal : ByteArray := ⟨#[108, 111, 99, 97, 108]⟩
def kTemp : ByteArray := ⟨#[116, 101, 109, 112]⟩
def kTemporary : ByteArray := ⟨#[116, 101, 109, 112, 111, 114, 97, 114, 121]⟩
def kTable : ByteArray := ⟨#[116, 97, 98, 108, 101]⟩
def kIf : ByteArray := ⟨#[105, 102]⟩
def kNot : ByteArray := ⟨#[110, 111, 116]⟩
def kExists : ByteArray := ⟨#[101, 120, 105, 115, 116, 115]⟩

set_option maxRecDepth 100000 in
set_option maxHeartbeats 400000 in
theorem create_calls {pb g i0 i2 i3 j k : Nat} {ts : List Tk} {S N : ByteArray} {P E : Int} {gB tB iB : Bool} {w : World} (h : Wds w pb g ts i0)
    (h1 : hitB ts i0 [kCreate] = true) (h2 : hitB ts (i0 + 1) [kGlobal, kLocal] = gB) (e2 : onB gB (i0 + 1) = i2) (h3 : hitB ts i2 [kTemp, kTemporary] = tB) (e3 : onB tB i2 = i3)
    (h4 : hitB ts i3 [kTable] = true) (h5 : hitB ts (i3 + 1) [kIf] = iB) (h6 : iB = false → j = i3 + 1) (h7 : iB = true → hitB ts (i3 + 2) [kNot] = true ∧ hitB ts (i3 + 3) [kExists] = true ∧ j = i3 + 4)
    (hr : Reads pb g ts j S N P E k) :
    Calls Tryf.prog 15 #[.pointer (some ⟨pb, 0, none⟩)] w fun e w' =>
      e = .returned (.tuple #[.agg #[.string S, .string N, .int .i64 P, .int .i64 E, .bool tB, .bool iB], .bool true]) ∧ w.grownBy w' (some pb) ∧ Wds w' pb g ts k := by
  have M0 : Mid w ((w.alloc (.cells #[.string ⟨#[]⟩, .string ⟨#[]⟩, .int .i64 0, .int .i64 0, .bool false, .bool false] 57)).alloc (.cells #[.string ⟨#[]⟩, .string ⟨#[]⟩, .int .i64 0, .int .i64 0, .bool false, .bool false] 57)) pb g ts w.heap.size i0 false false :=
    ⟨(h.alloc _).alloc _, grownBy_allocd (World.grownBy_alloc w _ _) _, rfl, (Below.heap_alloc _ _ _ (by simp)).trans (heap_alloc_new w _), by have := heap_alloc_new (w.alloc (.cells #[.string ⟨#[]⟩, .string ⟨#[]⟩, .int .i64 0, .int .i64 0, .bool false, .bool false] 57)) (.cells #[.string ⟨#[]⟩, .string ⟨#[]⟩, .int .i64 0, .int .i64 0, .bool false, .bool false] 57); simpa using this, h.lt, h.row.lt⟩
  have H1 : Hid (hitB ts i0 [kCreate] = true) := h1
  have H2 : Hid (hitB ts (i0 + 1) [kGlobal, kLocal] = gB ∧ onB gB (i0 + 1) = i2) := ⟨h2, e2⟩
  have H3 : Hid (hitB ts i2 [kTemp, kTemporary] = tB ∧ onB tB i2 = i3) := ⟨h3, e3⟩
  have H4 : Hid (hitB ts i3 [kTable] = true) := h4
  have H5 : Hid (hitB ts (i3 + 1) [kIf] = iB) := h5
  have H6 : Hid (iB = false → j = i3 + 1) := h6
  have H7 : Hid (iB = true → hitB ts (i3 + 2) [kNot] = true ∧ hitB ts (i3 + 3) [kExists] = true ∧ j = i3 + 4) := h7
  have HR : Hid (Reads pb g ts j S N P E k) := hr
  clear h1 h2 e2 h3 e3 h4 h5 h6 h7 hr h
  go_enter Tryf.func15, Tryf.ntmps15
  go_wp2_with fail
  refine (accept1 M0.wds kCreate (by simp)).mono ?_
  rw [H1.out]
  rintro e w1 ⟨rfl, hg1, hw1⟩
  have M1 := M0.on hg1 hw1
  clear M0 hg1 hw1
  generalize w.heap.size = A at *
  go_wp2_with fail
  refine (accept2 M1.wds kGlobal kLocal (by simp)).mono ?_
  show ∀ e w', _ ∧ _ ∧ Wds w' pb g ts (onB (hitB ts (i0 + 1) [kGlobal, kLocal]) (i0 + 1)) → _
  rw [H2.out.1, H2.out.2]
  rintro e w2 ⟨rfl, hg2, hw2⟩
  have M2 := M1.on hg2 hw2
  clear M1 hg2 hw2
  go_wp2_with fail
  refine (accept2 M2.wds kTemp kTemporary (by simp)).mono ?_
  rw [H3.out.1, H3.out.2]
  rintro e w3 ⟨rfl, hg3, hw3⟩
  have M3 := M2.on hg3 hw3
  clear M2 hg3 hw3
  obtain ⟨⟨-, -, -, -, a4, -⟩, -, -, -, -, b4, -⟩ := cells6 M3.nt
  go_wp2_with fail
  have M4 := M3.temp tB
  refine (accept1 M4.wds kTable (by simp)).mono ?_
  rw [H4.out]
  rintro e w4 ⟨rfl, hg4, hw4⟩
  have M5 : Mid w w4 pb g ts A (i3 + 1) tB false := M4.on hg4 hw4
  clear M3 M4 hg4 hw4 a4 b4
  go_wp2_with fail
  refine (accept1 M5.wds kIf (by simp)).mono ?_
  rw [H5.out]
  rintro e w5 ⟨rfl, hg5, hw5⟩
  have M6 := M5.on hg5 hw5
  clear M5 hg5 hw5 H1 H2 H3 H4 H5
  cases iB
  · have ej := H6.out rfl
    subst ej
    have M7 : Mid w w5 pb g ts A (i3 + 1) tB false := M6
    clear M6 H7 H6
    go_wp2_with fail
    refine (HR.out _ M7.wds).mono ?_
    rintro e w6 ⟨rfl, hg6, hw6⟩
    have M8 := M7.on hg6 hw6
    clear M7 hg6 hw6
    obtain ⟨⟨a0, a1, a2, a3, a4, a5⟩, b0, b1, b2, b3, b4, b5⟩ := cells6 M8.nt
    have hpA := M8.pA
    have hgA := M8.gA
    have hsA := M8.size
    have hF := M8.fill (.string S) (.string N) (.int .i64 P) (.int .i64 E)
    have HF : Hid _ := hF
    have HA : Hid (w.heap.size = A) := hsA
    clear M8 hF hsA
    go_wp2_with fail
    clear a0 a1 a2 a3 a4 a5 b0 b1 b2 b3 b4 b5
    obtain ⟨hw7, hg7, hr7, hn7⟩ := HF.out
    clear HF
    generalize (((w6.setCell ⟨A + 1, 0, none⟩ (.string S)).setCell ⟨A + 1, 1, none⟩ (.string N)).setCell ⟨A + 1, 2, none⟩ (.int .i64 P)).setCell ⟨A + 1, 3, none⟩ (.int .i64 E) = w7 at *
    obtain ⟨⟨a0, a1, a2, a3, a4, a5⟩, -⟩ := cells6 hn7
    obtain ⟨⟨a10, a11, a12, a13, a14, a15⟩, b10, b11, b12, b13, b14, b15⟩ := cells6 hr7
    have c2 := hw7.c2
    have hp1 : pb ≠ A := by omega
    have hp3 : A ≠ pb := by omega
    have hp4 : A ≠ g := by omega
    have hp2 : A + 1 ≠ A := by omega
    clear hr7 hn7
    have HW7 : Hid (Wds w7 pb g ts k) := hw7
    have HG7 : Hid (w.grownBy w7 (some pb)) := hg7
    clear hw7 hg7
    go_region_held3 (fun w' => w'.cell? ⟨A + 1, 0, none⟩ = some (.string S) ∧ w'.cell? ⟨A + 1, 1, none⟩ = some (.string N) ∧ w'.cell? ⟨A + 1, 2, none⟩ = some (.int .i64 P) ∧ w'.cell? ⟨A + 1, 3, none⟩ = some (.int .i64 E) ∧
        w'.cell? ⟨A + 1, 4, none⟩ = some (.bool tB) ∧ w'.cell? ⟨A + 1, 5, none⟩ = some (.bool false) ∧ w'.cell? ⟨pb, 2, none⟩ = some .nilIface)
      (go_keep) (fail)
    go_wp2
    have hle : w.heap.size ≤ A := Nat.le_of_eq HA.out
    refine bodyPost_ret (v := .tuple #[.agg #[.string S, .string N, .int .i64 P, .int .i64 E, .bool tB, .bool false], .bool true]) (by simp [results, Tryf.results15, go_sem, *]) rfl ⟨rfl, ?_, ?_⟩
    · exact grownBy_drew (grownBy_new (grownBy_new (grownBy_new (grownBy_new (grownBy_new (grownBy_new HG7.out hle _) hle _) hle _) hle _) hle _) hle _)
    · exact ((((((HW7.out.setOther hp1 hp4.symm _).setOther hp1 hp4.symm _).setOther hp1 hp4.symm _).setOther hp1 hp4.symm _).setOther hp1 hp4.symm _).setOther hp1 hp4.symm _).drew
  · obtain ⟨hn, he, ej⟩ := H7.out rfl
    subst ej
    have HN : Hid (hitB ts (i3 + 2) [kNot] = true) := hn
    have HE : Hid (hitB ts (i3 + 3) [kExists] = true) := he
    have M61 : Mid w w5 pb g ts A (i3 + 2) tB false := M6
    clear M6 H7 H6 hn he
    go_wp2_with fail
    refine (expect1 M61.wds kNot (by simp) HN.out).mono ?_
    rintro e w51 ⟨rfl, hg6, hw6⟩
    have M62 : Mid w w51 pb g ts A (i3 + 3) tB false := M61.on hg6 hw6
    clear M61 hg6 hw6
    go_wp2_with fail
    refine (expect1 M62.wds kExists (by simp) HE.out).mono ?_
    rintro e w52 ⟨rfl, hg6, hw6⟩
    have M63 : Mid w w52 pb g ts A (i3 + 4) tB false := M62.on hg6 hw6
    clear M62 hg6 hw6
    obtain ⟨⟨-, -, -, -, -, a5⟩, -, -, -, -, -, b5⟩ := cells6 M63.nt
    have M7 := M63.ifs true
    clear M63
    go_wp2_with fail
    clear a5 b5
    refine (HR.out _ M7.wds).mono ?_
    rintro e w6 ⟨rfl, hg6, hw6⟩
    have M8 := M7.on hg6 hw6
    clear M7 hg6 hw6
    obtain ⟨⟨a0, a1, a2, a3, a4, a5⟩, b0, b1, b2, b3, b4, b5⟩ := cells6 M8.nt
    have hpA := M8.pA
    have hgA := M8.gA
    have hsA := M8.size
    have hF := M8.fill (.string S) (.string N) (.int .i64 P) (.int .i64 E)
    have HF : Hid _ := hF
    have HA : Hid (w.heap.size = A) := hsA
    clear M8 hF hsA
    go_wp2_with fail
    clear a0 a1 a2 a3 a4 a5 b0 b1 b2 b3 b4 b5
    obtain ⟨hw7, hg7, hr7, hn7⟩ := HF.out
    clear HF
    generalize (((w6.setCell ⟨A + 1, 0, none⟩ (.string S)).setCell ⟨A + 1, 1, none⟩ (.string N)).setCell ⟨A + 1, 2, none⟩ (.int .i64 P)).setCell ⟨A + 1, 3, none⟩ (.int .i64 E) = w7 at *
    obtain ⟨⟨a0, a1, a2, a3, a4, a5⟩, -⟩ := cells6 hn7
    obtain ⟨⟨a10, a11, a12, a13, a14, a15⟩, b10, b11, b12, b13, b14, b15⟩ := cells6 hr7
    have c2 := hw7.c2
    have hp1 : pb ≠ A := by omega
    have hp3 : A ≠ pb := by omega
    have hp4 : A ≠ g := by omega
    have hp2 : A + 1 ≠ A := by omega
    clear hr7 hn7
    have HW7 : Hid (Wds w7 pb g ts k) := hw7
    have HG7 : Hid (w.grownBy w7 (some pb)) := hg7
    clear hw7 hg7
    go_region_held3 (fun w' => w'.cell? ⟨A + 1, 0, none⟩ = some (.string S) ∧ w'.cell? ⟨A + 1, 1, none⟩ = some (.string N) ∧ w'.cell? ⟨A + 1, 2, none⟩ = some (.int .i64 P) ∧ w'.cell? ⟨A + 1, 3, none⟩ = some (.int .i64 E) ∧
        w'.cell? ⟨A + 1, 4, none⟩ = some (.bool tB) ∧ w'.cell? ⟨A + 1, 5, none⟩ = some (.bool true) ∧ w'.cell? ⟨pb, 2, none⟩ = some .nilIface)
      (go_keep) (fail)
    go_wp2
    have hle : w.heap.size ≤ A := Nat.le_of_eq HA.out
    refine bodyPost_ret (v := .tuple #[.agg #[.string S, .string N, .int .i64 P, .int .i64 E, .bool tB, .bool true], .bool true]) (by simp [results, Tryf.results15, go_sem, *]) rfl ⟨rfl, ?_, ?_⟩
    · exact grownBy_drew (grownBy_new (grownBy_new (grownBy_new (grownBy_new (grownBy_new (grownBy_new HG7.out hle _) hle _) hle _) hle _) hle _) hle _)
    · exact ((((((HW7.out.setOther hp1 hp4.symm _).setOther hp1 hp4.symm _).setOther hp1 hp4.symm _).setOther hp1 hp4.symm _).setOther hp1 hp4.symm _).setOther hp1 hp4.symm _).drew
end Go.Proofs.Qxb6609453aFmt

/-
  CreatesTableAs.
-/
import Derived.Test.Qxb6609453aFmtCreate
namespace Go.Proofs.Qxb6609453aFmt
open Go.RowKit
attribute [local go_sem ↓] Go.wp_at_zero Go.wp_at_succ

def kAs : ByteArray := ⟨#[97, 115]⟩

theorem cells3 {w : World} {b : Nat} {x0 x1 x2 : Value} {t : TypeId} (h : w.heap[b]? = some (.cells #[x0, x1, x2] t)) :
    (w.cell? ⟨b, 0, none⟩ = some x0 ∧ w.cell? ⟨b, 1, none⟩ = some x1 ∧ w.cell? ⟨b, 2, none⟩ = some x2) ∧
    (w.frozen? ⟨b, 0, none⟩ = false ∧ w.frozen? ⟨b, 1, none⟩ = false ∧ w.frozen? ⟨b, 2, none⟩ = false) := by
  simp [World.cell?, World.frozen?, h]
theorem cells2 {w : World} {b : Nat} {x0 x1 : Value} {t : TypeId} (h : w.heap[b]? = some (.cells #[x0, x1] t)) :
    w.cell? ⟨b, 0, none⟩ = some x0 ∧ w.cell? ⟨b, 1, none⟩ = some x1 := by
  simp [World.cell?, h]

/-- The reader as it is made. -/
theorem Wds.made {w : World} {pb g : Nat} {ts : List Tk} (h : w.rowIs g 52 (ts.length * 4) (tkAt ts)) (hpb : w.heap.size = pb) (hbd : ts.length ≤ 1000) :
    Wds (w.alloc (.cells #[.slice (some ⟨g, 0, none⟩) ts.length ts.length, .int .i64 0, .nilIface] 55)) pb g ts 0 := by
  subst hpb
  have hb := heap_alloc_new w (.cells #[.slice (some ⟨g, 0, none⟩) ts.length ts.length, .int .i64 0, .nilIface] 55)
  obtain ⟨⟨a, b, c⟩, _, e, _⟩ := cells3 hb
  exact ⟨a, b, c, e, h.alloc _, by have := h.lt; omega, Nat.zero_le _, hbd⟩

set_option maxRecDepth 100000 in
set_option maxHeartbeats 400000 in
theorem as_calls {g k : Nat} {ts : List Tk} {text S N : ByteArray} {P E : Int} {tB iB : Bool} {w : World} (hrow : w.rowIs g 52 (ts.length * 4) (tkAt ts)) (hbd : ts.length ≤ 1000)
    (hc : ∀ pb w, Wds w pb g ts 0 → Calls Tryf.prog 15 #[.pointer (some ⟨pb, 0, none⟩)] w fun e w' =>
      e = .returned (.tuple #[.agg #[.string S, .string N, .int .i64 P, .int .i64 E, .bool tB, .bool iB], .bool true]) ∧ w.grownBy w' (some pb) ∧ Wds w' pb g ts k)
    (ha : hitB ts k [kAs] = true) (h0 : 0 ≤ P) (h1 : P ≤ E) (h2 : E ≤ text.size) (_h3 : text.size ≤ 100000000) :
    Calls Tryf.prog 12 #[.agg #[.string text, .slice (some ⟨g, 0, none⟩) ts.length ts.length]] w fun e w' =>
      e = .returned (.tuple #[.agg #[.string (text.extract P.toNat E.toNat), .string N, .bool iB], .bool true]) ∧ Below w.heap.size w w' := by
  have HC : Hid (∀ pb w, Wds w pb g ts 0 → Calls Tryf.prog 15 #[.pointer (some ⟨pb, 0, none⟩)] w fun e w' =>
      e = .returned (.tuple #[.agg #[.string S, .string N, .int .i64 P, .int .i64 E, .bool tB, .bool iB], .bool true]) ∧ w.grownBy w' (some pb) ∧ Wds w' pb g ts k) := hc
  have HA : Hid (hitB ts k [kAs] = true) := ha
  have HR : Hid (w.rowIs g 52 (ts.length * 4) (tkAt ts)) := hrow
  have hg := hrow.lt
  clear hc ha hrow
  go_enter Tryf.func12, Tryf.ntmps12
  go_wp2_with fail
  have hW := Wds.made (w := (w.alloc (.cells #[.string text, .slice (some ⟨g, 0, none⟩) ts.length ts.length] 37)).alloc (.cells #[.string ⟨#[]⟩, .string ⟨#[]⟩, .bool false] 32)) (pb := w.heap.size + 1 + 1) ((HR.out.alloc _).alloc _) (by simp) hbd
  refine (HC.out _ _ hW).mono ?_
  rintro e w4 ⟨rfl, hg4, hw4⟩
  have A4 := grown_block (b := w.heap.size) hg4 ((Below.heap_alloc _ _ _ (by simp; omega)).trans ((Below.heap_alloc _ _ _ (by simp)).trans (heap_alloc_new w _))) (by omega)
  have B4 := grown_block (b := w.heap.size + 1) hg4 ((Below.heap_alloc _ _ _ (by simp)).trans (by have := heap_alloc_new (w.alloc (.cells #[.string text, .slice (some ⟨g, 0, none⟩) ts.length ts.length] 37)) (.cells #[.string ⟨#[]⟩, .string ⟨#[]⟩, .bool false] 32); simpa using this)) (by omega)
  have hs4 : w.heap.size + 3 ≤ w4.heap.size := by have := hg4.size; simp at this; omega
  have HG4 : w.grownBy w4 (some (w.heap.size + 1 + 1)) := grownBy_alloc_left (grownBy_alloc_left (grownBy_alloc_left hg4))
  clear hW hg4 HC HR
  go_wp2_with fail
  refine (accept1 (hw4.alloc _) kAs (by simp)).mono ?_
  rw [HA.out]
  rintro e w5 ⟨rfl, hg5, hw5⟩
  have A5 := grown_block hg5 ((Below.heap_alloc _ _ _ (by omega)).trans A4) (by omega)
  have B5 := grown_block hg5 ((Below.heap_alloc _ _ _ (by omega)).trans B4) (by omega)
  have C5 := grown_block hg5 (heap_alloc_new w4 _) (by omega)
  have HG5 : w.grownBy w5 (some (w.heap.size + 1 + 1)) := grownBy_trans HG4 (grownBy_alloc_left hg5)
  clear A4 B4 HG4 hg5 hw5 hw4 HA
  obtain ⟨a0, a1⟩ := cells2 A5
  obtain ⟨⟨b0, b1, b2⟩, f0, f1, f2⟩ := cells3 B5
  obtain ⟨⟨c0, c1, c2, c3, c4, c5⟩, -⟩ := cells6 C5
  have n0 : w4.heap.size ≠ w.heap.size + 1 := by omega
  have n1 : w.heap.size + 1 ≠ w4.heap.size := by omega
  have n2 : w.heap.size + 1 ≠ w.heap.size := by omega
  have n3 : w.heap.size ≠ w.heap.size + 1 := by omega
  clear A5 B5 C5
  generalize w4.heap.size = C at *
  have HG : Hid (w.grownBy w5 (some (w.heap.size + 1 + 1))) := HG5
  clear HG5
  obtain ⟨p, rfl⟩ := Int.eq_ofNat_of_zero_le h0
  obtain ⟨q, rfl⟩ := Int.eq_ofNat_of_zero_le (Int.le_trans h0 h1)
  have hpq : p ≤ q := by omega
  have hq : q ≤ text.size := by omega
  go_wp2_with fail
  go_region_held3 (fun w' => w'.cell? ⟨w.heap.size, 0, none⟩ = some (.string text) ∧ w'.cell? ⟨C, 1, none⟩ = some (.string N) ∧ w'.cell? ⟨C, 2, none⟩ = some (.int .i64 p) ∧ w'.cell? ⟨C, 3, none⟩ = some (.int .i64 q) ∧ w'.cell? ⟨C, 5, none⟩ = some (.bool iB))
    (go_keep) (fail)
  go_wp2
  refine bodyPost_ret (v := .tuple #[.agg #[.string (text.extract p q), .string N, .bool iB], .bool true]) (by simp [results, Tryf.results12, go_sem, *]) rfl ⟨rfl, ?_⟩
  have hB : Below w.heap.size w w5 := (Below.refl _ _).grown HG.out (Nat.le_refl _) (fun k hk => by simp at hk; omega)
  exact (((hB.setCell (by simp) _).setCell (by simp) _).setCell (by simp) _).drew
end Go.Proofs.Qxb6609453aFmt

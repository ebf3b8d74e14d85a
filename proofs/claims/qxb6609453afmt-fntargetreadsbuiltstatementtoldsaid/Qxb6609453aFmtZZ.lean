/-
  ZZtarget.
-/
import Derived.Test.Qxb6609453aFmtTarget
namespace Go.Proofs.Qxb6609453aFmt
open Go.RowKit
attribute [local go_sem ↓] Go.wp_at_zero Go.wp_at_succ

set_option maxRecDepth 100000 in
set_option maxHeartbeats 400000 in
theorem zz_calls {g k bm : Nat} {ts : List Tk} {o : Obj} {S N : ByteArray} {P E : Int} {al : Bool} {w : World} (hrow : w.rowIs g 52 (ts.length * 4) (tkAt ts)) (hbd : ts.length ≤ 1000) (hm : GM w bm o)
    (hc : ∀ pb w, Wds w pb g ts 0 → GM w bm o → pb ≠ 0 → pb ≠ bm → Calls Tryf.prog 17 #[.pointer (some ⟨pb, 0, none⟩)] w fun e w' =>
      e = .returned (.tuple #[.agg #[.string S, .string N, .int .i64 P, .int .i64 E, .bool al], .bool true]) ∧ w.grownBy w' (some pb) ∧ Wds w' pb g ts k) :
    Calls Tryf.prog 14 #[.slice (some ⟨g, 0, none⟩) ts.length ts.length] w fun e w' =>
      e = .returned (.tuple #[.agg #[.string S, .string N, .int .i64 P, .int .i64 E, .bool al], .bool true, .int .i64 k, .nilIface]) ∧ Below w.heap.size w w' := by
  have HC : Hid (∀ pb w, Wds w pb g ts 0 → GM w bm o → pb ≠ 0 → pb ≠ bm → Calls Tryf.prog 17 #[.pointer (some ⟨pb, 0, none⟩)] w fun e w' =>
      e = .returned (.tuple #[.agg #[.string S, .string N, .int .i64 P, .int .i64 E, .bool al], .bool true]) ∧ w.grownBy w' (some pb) ∧ Wds w' pb g ts k) := hc
  have HR : Hid (w.rowIs g 52 (ts.length * 4) (tkAt ts)) := hrow
  have HM : Hid (GM w bm o) := hm
  have hg := hrow.lt
  have hm0 := hm.lt
  clear hc hrow hm
  go_enter Tryf.func14, Tryf.ntmps14
  go_wp2_with fail
  have hW := Wds.made (w := w.alloc (.cells #[.string ⟨#[]⟩, .string ⟨#[]⟩, .int .i64 0, .int .i64 0, .bool false] 43)) (pb := w.heap.size + 1) (HR.out.alloc _) (by simp) hbd
  have hG : GM ((w.alloc (.cells #[.string ⟨#[]⟩, .string ⟨#[]⟩, .int .i64 0, .int .i64 0, .bool false] 43)).alloc (.cells #[.slice (some ⟨g, 0, none⟩) ts.length ts.length, .int .i64 0, .nilIface] 55)) bm o :=
    HM.out.below (((Below.refl _ _).alloc (Nat.le_refl _) _).alloc (by simp) _)
  refine (HC.out _ _ hW hG (by omega) (by omega)).mono ?_
  rintro e w4 ⟨rfl, hg4, hw4⟩
  have A4 := grown_block (b := w.heap.size) hg4 ((Below.heap_alloc _ _ _ (by simp)).trans (heap_alloc_new w _)) (by omega)
  have hs4 : w.heap.size + 2 ≤ w4.heap.size := by have := hg4.size; simp at this; omega
  have HG4 : w.grownBy w4 (some (w.heap.size + 1)) := grownBy_alloc_left (grownBy_alloc_left hg4)
  have c1 := hw4.c1
  have c2 := hw4.c2
  clear hW hG hg4 HC HR HM
  go_wp2_with fail
  have A5 := (Below.heap_alloc _ (.cells #[.string S, .string N, .int .i64 P, .int .i64 E, .bool al] 43) _ (by omega)).trans A4
  have C5 := heap_alloc_new w4 (.cells #[.string S, .string N, .int .i64 P, .int .i64 E, .bool al] 43)
  have hw5 := hw4.alloc (.cells #[.string S, .string N, .int .i64 P, .int .i64 E, .bool al] 43)
  have HG5 := grownBy_allocd HG4 (.cells #[.string S, .string N, .int .i64 P, .int .i64 E, .bool al] 43)
  clear A4 HG4 hw4 c1 c2
  generalize w4.alloc (.cells #[.string S, .string N, .int .i64 P, .int .i64 E, .bool al] 43) = w5 at *
  have c1 := hw5.c1
  have c2 := hw5.c2
  obtain ⟨⟨a0, a1, a2, a3, a4⟩, b0, b1, b2, b3, b4⟩ := cells5 A5
  obtain ⟨⟨a10, a11, a12, a13, a14⟩, -⟩ := cells5 C5
  generalize w4.heap.size = C at *
  generalize hA : w.heap.size = A at *
  have HA : Hid (w.heap.size = A) := hA
  have n0 : C ≠ A := by omega
  have n1 : A ≠ C := by omega
  have n2 : A + 1 ≠ A := by omega
  have n3 : A ≠ A + 1 := by omega
  have HG : Hid (w.grownBy w5 (some (A + 1))) := HG5
  clear A5 C5 hw5 HG5 hA
  go_region_held3 (fun w' => w'.cell? ⟨C, 0, none⟩ = some (.string S) ∧ w'.cell? ⟨C, 1, none⟩ = some (.string N) ∧ w'.cell? ⟨C, 2, none⟩ = some (.int .i64 P) ∧ w'.cell? ⟨C, 3, none⟩ = some (.int .i64 E) ∧ w'.cell? ⟨C, 4, none⟩ = some (.bool al) ∧
      w'.cell? ⟨A + 1, 1, none⟩ = some (.int .i64 k) ∧ w'.cell? ⟨A + 1, 2, none⟩ = some .nilIface)
    (go_keep) (fail)
  go_wp2
  refine bodyPost_ret (v := .tuple #[.agg #[.string S, .string N, .int .i64 P, .int .i64 E, .bool al], .bool true, .int .i64 k, .nilIface]) (by simp [results, Tryf.results14, go_sem, *]) rfl ⟨rfl, ?_⟩
  have hB : Below w.heap.size w w5 := (Below.refl _ _).grown HG.out (Nat.le_refl _) (fun k hk => by have := HA.out; simp at hk; omega)
  have hle : w.heap.size ≤ A := Nat.le_of_eq HA.out
  exact (((((hB.setCell hle _).setCell hle _).setCell hle _).setCell hle _).setCell hle _).drew
end Go.Proofs.Qxb6609453aFmt

/-
  (time.Time).Sub at the zero time.
-/
import Derived.Test.Qxb6612239aTime
set_option linter.unusedVariables false
namespace Go.Proofs.Qxb6612239a
open Go.RowKit

/-- A block of three cells, none frozen. -/
theorem cells3 {w : World} {b : Nat} {x0 x1 x2 : Value} {t : TypeId} (h : w.heap[b]? = some (.cells #[x0, x1, x2] t)) :
    w.cell? ⟨b, 0, none⟩ = some x0 ∧ w.cell? ⟨b, 1, none⟩ = some x1 ∧ w.cell? ⟨b, 2, none⟩ = some x2 := by
  simp [World.cell?, h]

set_option maxRecDepth 100000 in
theorem sub_calls (z : Int) (w : World) (hz : I64 z) :
    Calls Try.prog 17 #[Tm z, T0] w fun e w' => e = .returned (.int .i64 z) ∧ Below w.heap.size w w' := by
  have HZ : Hid (I64 z) := hz
  have HN := nz_lt z
  have hm : bits .and .u64 (bits .and .u64 (nz z : Int) 0) 9223372036854775808 = 0 := noMono2 (nz z) 0 HN (by decide)
  have hd : wrap64 (wrap64 (wrap64 (sz z) * 1000000000) + (nz z : Int)) = z := by
    unfold wrap64; unfold I64 at hz; unfold sz nz; omega
  have HA : Hid (∀ w, Calls Try.prog 16 #[T0, .int .i64 z] w fun e w' => e = .returned (Tm z) ∧ Below w.heap.size w w') := fun w => add_calls z w hz
  have HE : Hid (∀ w, Calls Try.prog 28 #[Tm z, Tm z] w fun e w' => e = .returned (.bool true) ∧ Below w.heap.size w w') := fun w => equal_tm z w
  clear hz
  unfold Tm T0 T at *
  generalize hn : nz z = n at *
  generalize hs : sz z = s at *
  have EN : Hid (nz z = n) := hn
  have ES : Hid (sz z = s) := hs
  clear hn hs
  go_enter Try.func17, Try.ntmps17
  go_wp2_with fail
  refine (sec_calls _ n s _ HN (by simp [go_sem]) (by simp [go_sem])).mono ?_
  rintro e w' ⟨rfl, rfl⟩
  go_wp2_with fail
  refine (sec_calls _ 0 0 _ (by decide) (by simp [go_sem]) (by simp [go_sem])).mono ?_
  rintro e w' ⟨rfl, rfl⟩
  go_wp2_with fail
  refine (nsec_calls _ n _ HN (by simp [go_sem])).mono ?_
  rintro e w' ⟨rfl, rfl⟩
  go_wp2_with fail
  refine (nsec_calls _ 0 _ (by decide) (by simp [go_sem])).mono ?_
  rintro e w' ⟨rfl, rfl⟩
  rw [show ((0 : Nat) : Int) = 0 from rfl]
  go_wp2_with fail
  have C0 : ((w.alloc (Obj.cells #[Value.int IntKind.u64 ↑n, Value.int IntKind.i64 s, Value.pointer none] 38)).alloc (Obj.cells #[Value.int IntKind.u64 0, Value.int IntKind.i64 0, Value.pointer none] 38)).heap[w.heap.size]? = some (Obj.cells #[Value.int IntKind.u64 ↑n, Value.int IntKind.i64 s, Value.pointer none] 38) := (Below.heap_alloc _ _ _ (by simp)).trans (heap_alloc_new w _)
  have C1 := heap_alloc_new (w.alloc (Obj.cells #[Value.int IntKind.u64 ↑n, Value.int IntKind.i64 s, Value.pointer none] 38)) (Obj.cells #[Value.int IntKind.u64 0, Value.int IntKind.i64 0, Value.pointer none] 38)
  have hB := below2 w (Obj.cells #[Value.int IntKind.u64 ↑n, Value.int IntKind.i64 s, Value.pointer none] 38) (Obj.cells #[Value.int IntKind.u64 0, Value.int IntKind.i64 0, Value.pointer none] 38)
  have hS : ((w.alloc (Obj.cells #[Value.int IntKind.u64 ↑n, Value.int IntKind.i64 s, Value.pointer none] 38)).alloc (Obj.cells #[Value.int IntKind.u64 0, Value.int IntKind.i64 0, Value.pointer none] 38)).heap.size = w.heap.size + 2 := by simp
  rw [show (w.alloc (Obj.cells #[Value.int IntKind.u64 ↑n, Value.int IntKind.i64 s, Value.pointer none] 38)).heap.size = w.heap.size + 1 by simp] at C1
  generalize (w.alloc (Obj.cells #[Value.int IntKind.u64 ↑n, Value.int IntKind.i64 s, Value.pointer none] 38)).alloc (Obj.cells #[Value.int IntKind.u64 0, Value.int IntKind.i64 0, Value.pointer none] 38) = w1 at *
  obtain ⟨c0, c1, c2⟩ := cells3 C0
  obtain ⟨d0, d1, d2⟩ := cells3 C1
  go_region_with (first
    | (go_at_call 16; refine (HA.out _).mono ?_; rintro e w5 ⟨rfl, hb5⟩; have C5 := (hb5.block w.heap.size (by simp [hS])).trans C0; obtain ⟨p0, p1, p2⟩ := cells3 C5; clear C5)
    | (go_at_call 28; refine (HE.out _).mono ?_; rintro e w6 ⟨rfl, hb6⟩))
  all_goals
    go_wp2
    go_ret
    have s5 : w1.heap.size ≤ w5.heap.size := hb5.size
    have hb5' : Below w1.heap.size w1 w5 := (Below.refl _ _).drew.trans hb5
    exact ⟨rfl, hB.trans ((hb5'.mono (by omega)).trans (hb6.mono (by omega)))⟩
end Go.Proofs.Qxb6612239a

/-
  The handles that the laws take the heap by.
-/
import Derived.Test.Qxb6612239aPush
set_option linter.unusedVariables false
namespace Go.Proofs.Qxb6612239a
open Go.RowKit

/-- ZZnewReturnedTokens. -/
theorem new_calls (w : World) : Calls Try.prog 6 #[] w fun e w' => e = .returned (.pointer (some ⟨w.heap.size, 0, none⟩)) ∧ Below w.heap.size w w' ∧ Hp w.heap.size w' w.heap.size [] := by
  go_enter Try.func6, Try.ntmps6
  go_wp2
  go_ret
  refine ⟨rfl, (Below.refl _ _).alloc (Nat.le_refl _) _, Nat.le_refl _, ?_, .slice none 0 0, ?_, World.ownsRow_nil _ _ _ _, ?_⟩
  · simp [go_sem]
  · simp [go_sem]
  · simp [Value.ownBlock]

/-- ZZreturnedPush. -/
theorem zzpush_calls {B pb : Nat} {zs : List Int} {w : World} (h : Hp B w pb zs) (z : Int) (hz : I64 z) (hn : zs.length ≤ 100000) :
    Calls Try.prog 7 #[.pointer (some ⟨pb, 0, none⟩), .int .i64 z] w fun e w' => e = .returned (.tuple #[]) ∧ Below B w w' ∧ Hp B w' pb (pushZ zs z) := by
  have hlt := h.lt
  have lo := h.lo
  go_enter Try.func7, Try.ntmps7
  go_wp2_with fail
  refine (add_calls z _ hz).mono ?_
  rintro e w1 ⟨rfl, hb1⟩
  have h1 := h.below hb1
  go_wp2_with fail
  refine (push_calls h1 z hn).mono ?_
  rintro e w2 ⟨rfl, hb2, h2⟩
  go_wp2
  go_end0
  exact ⟨rfl, (hb1.mono (by omega)).trans hb2, h2⟩

/-- ZZreturnedLen. -/
theorem len_calls {B pb : Nat} {zs : List Int} {w : World} (h : Hp B w pb zs) (hn : zs.length ≤ 100000) :
    Calls Try.prog 8 #[.pointer (some ⟨pb, 0, none⟩)] w fun e w' => e = .returned (.int .i64 zs.length) ∧ w' = w := by
  obtain ⟨v, hc, ho, hne⟩ := h.row
  rcases ho.2 with ⟨rfl, hz⟩ | ⟨g, cap, cur, rfl, _⟩
  · rw [hz]
    go_enter Try.func8, Try.ntmps8
    go_wp2
    go_ret
    exact ⟨rfl, rfl⟩
  · go_enter Try.func8, Try.ntmps8
    go_wp2
    go_ret
    exact ⟨rfl, rfl⟩

theorem Hp.open {B pb : Nat} {zs : List Int} {w : World} (h : Hp B w pb zs) (h0 : 0 < zs.length) : ∃ g cap, w.cell? ⟨pb, 0, none⟩ = some (.slice (some ⟨g, 0, none⟩) zs.length cap) ∧ Rw B w g cap zs := by
  obtain ⟨v, hc, ho, hne⟩ := h.row
  have ho' := ho
  rcases ho.2 with ⟨rfl, hz⟩ | ⟨g, cap, cur, rfl, _⟩
  · omega
  · exact ⟨g, cap, hc, ho'⟩

/-- ZZreturnedAt. -/
theorem at_calls {B pb : Nat} {zs : List Int} {w : World} (h : Hp B w pb zs) (i : Nat) (hi : i < zs.length) (hn : zs.length ≤ 100000) (hz : I64 (at0 zs i)) :
    Calls Try.prog 9 #[.pointer (some ⟨pb, 0, none⟩), .int .i64 i] w fun e w' => e = .returned (.int .i64 (at0 zs i)) ∧ Below w.heap.size w w' := by
  obtain ⟨g, cap, hc, hR⟩ := h.open (by omega)
  obtain ⟨c0, c1, c2⟩ := hR.cells i hi
  have HZ : Hid (I64 (at0 zs i)) := hz
  clear h hR hz
  generalize at0 zs i = x at *
  have i1 : (i : Int) < (zs.length : Int) := by omega
  generalize zs.length = n at *
  go_enter Try.func9, Try.ntmps9
  go_wp2_with fail
  refine (sub_calls x _ HZ.out).mono ?_
  rintro e w1 ⟨rfl, hb1⟩
  go_wp2
  go_ret
  exact ⟨rfl, hb1⟩

/-- earliest. -/
theorem earliest_calls {B g cap : Nat} {w : World} {zs : List Int} (h : Rw B w g cap zs) (h0 : 0 < zs.length) (hn : zs.length ≤ 100000) :
    Calls Try.prog 19 #[.slice (some ⟨g, 0, none⟩) zs.length cap] w fun e w' => e = .returned (Tm (at0 zs 0)) ∧ Below w.heap.size w w' := by
  obtain ⟨c0, c1, c2⟩ := h.cells 0 h0
  have hlt := h.lt.2
  clear h
  unfold Tm T
  generalize at0 zs 0 = x at *
  have i1 : (0 : Int) < (zs.length : Int) := by omega
  generalize zs.length = n at *
  go_enter Try.func19, Try.ntmps19
  go_wp2
  refine bodyPost_ret (v := .agg #[.int .u64 (nz x), .int .i64 (sz x), .pointer none]) (by simp [results, Try.results19, go_sem]) rfl ⟨rfl, ?_⟩
  exact (Below.refl _ _).alloc (Nat.le_refl _) _

/-- latest. -/
theorem latest_calls {B g cap : Nat} {w : World} {zs : List Int} (h : Rw B w g cap zs) (h0 : 0 < zs.length) (hn : zs.length ≤ 100000) :
    Calls Try.prog 20 #[.slice (some ⟨g, 0, none⟩) zs.length cap] w fun e w' => e = .returned (Tm (at0 zs (latest zs))) ∧ Below w.heap.size w w' := by
  have hlt := h.lt.2
  have hl := latest_lt zs h0
  have hA := h.below ((Below.refl w.heap.size w).alloc (Nat.le_refl _) (.cells #[.int .u64 0, .int .i64 0, .pointer none] 38))
  have HL := latestIndex_calls hA h0 (by omega)
  unfold Tm T
  go_enter Try.func20, Try.ntmps20
  go_wp2_with fail
  refine HL.mono ?_
  rintro e w1 ⟨rfl, hb1⟩
  have h1 := hA.below hb1
  obtain ⟨c0, c1, c2⟩ := h1.cells _ hl
  have N0 := (hb1.block w.heap.size (by simp)).trans (heap_alloc_new w _)
  obtain ⟨n0, n1, n2⟩ := cells3 N0
  have f : ∀ j, w1.frozen? ⟨w.heap.size, j, none⟩ = false := fun j => by simp [World.frozen?, N0]
  have hb : Below w.heap.size w w1 := ((Below.refl _ _).alloc (Nat.le_refl _) _).trans (hb1.mono (by simp))
  clear HL hA h h1 N0 hb1
  obtain ⟨x, hx⟩ : ∃ x, at0 zs (latest zs) = x := ⟨_, rfl⟩
  have HX : Hid (at0 zs (latest zs) = x) := hx
  rw [hx] at c0 c1
  clear hx
  generalize latest zs = k at c0 c1 c2 hl ⊢
  have i1 : (k : Int) < (zs.length : Int) := by omega
  generalize zs.length = n at *
  go_wp2
  refine bodyPost_ret (v := .agg #[.int .u64 (nz x), .int .i64 (sz x), .pointer none]) (by simp [results, Try.results20, go_sem, *]) rfl ⟨by rw [HX.out], ?_⟩
  exact ((hb.setCell (by simp) _).setCell (by simp) _).setCell (by simp) _

/-- ZZreturnedEarliest. -/
theorem zzearliest_calls {B pb : Nat} {zs : List Int} {w : World} (h : Hp B w pb zs) (h0 : 0 < zs.length) (hn : zs.length ≤ 100000) (hz : I64 (at0 zs 0)) :
    Calls Try.prog 13 #[.pointer (some ⟨pb, 0, none⟩)] w fun e w' => e = .returned (.int .i64 (at0 zs 0)) ∧ Below w.heap.size w w' := by
  obtain ⟨g, cap, hc, hR⟩ := h.open h0
  have HE := earliest_calls hR h0 hn
  go_enter Try.func13, Try.ntmps13
  go_wp2_with fail
  refine HE.mono ?_
  rintro e w1 ⟨rfl, hb1⟩
  clear HE
  go_wp2_with fail
  refine (sub_calls (at0 zs 0) _ hz).mono ?_
  rintro e w2 ⟨rfl, hb2⟩
  go_wp2
  go_ret
  have := hb1.size
  exact ⟨rfl, hb1.trans (hb2.mono this)⟩

/-- ZZreturnedLatest. -/
theorem zzlatest_calls {B pb : Nat} {zs : List Int} {w : World} (h : Hp B w pb zs) (h0 : 0 < zs.length) (hn : zs.length ≤ 100000) (hz : I64 (at0 zs (latest zs))) :
    Calls Try.prog 14 #[.pointer (some ⟨pb, 0, none⟩)] w fun e w' => e = .returned (.int .i64 (at0 zs (latest zs))) ∧ Below w.heap.size w w' := by
  obtain ⟨g, cap, hc, hR⟩ := h.open h0
  have HE := latest_calls hR h0 hn
  go_enter Try.func14, Try.ntmps14
  go_wp2_with fail
  refine HE.mono ?_
  rintro e w1 ⟨rfl, hb1⟩
  clear HE
  go_wp2_with fail
  refine (sub_calls (at0 zs (latest zs)) _ hz).mono ?_
  rintro e w2 ⟨rfl, hb2⟩
  go_wp2
  go_ret
  have := hb1.size
  exact ⟨rfl, hb1.trans (hb2.mono this)⟩
end Go.Proofs.Qxb6612239a

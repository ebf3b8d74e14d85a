/-
  push, and the law's own handles on the heap.
-/
import Derived.Test.Qxb6612239aUp
import Derived.Test.Qxb6612239aLatest
set_option linter.unusedVariables false
namespace Go.Proofs.Qxb6612239a
open Go.RowKit

/-- The heap behind the pointer pb holds zs; all of it from block B on. -/
structure Hp (B : Nat) (w : World) (pb : Nat) (zs : List Int) : Prop where
  lo : B ≤ pb
  fr : w.frozen? ⟨pb, 0, none⟩ = false
  row : ∃ v, w.cell? ⟨pb, 0, none⟩ = some v ∧ w.ownsRow B 38 3 v zs.length (tvs zs) ∧ v.ownBlock ≠ some pb

theorem info38 : (Try.prog.info? 38).map (fun i => (i.zero, i.size, i.bytes)) = some (some (.agg #[.int .u64 0, .int .i64 0, .pointer none]), 3, 24) := by kernel_rfl

theorem ownsRow_setCell_other {w : World} {base : Nat} {e : TypeId} {size : Nat} {v : Value} {n : Nat} {xs : List Value} (h : w.ownsRow base e size v n xs) {a : Addr} (ha : v.ownBlock ≠ some a.block) (u : Value) : (w.setCell a u).ownsRow base e size v n xs := by
  obtain ⟨h1, h2⟩ := h
  refine ⟨h1, ?_⟩
  rcases h2 with h2 | ⟨g, cap, cur, hv, hg, hh, r⟩
  · exact Or.inl h2
  · subst hv
    exact Or.inr ⟨g, cap, cur, rfl, hg, by rw [Below.heap_setCell _ _ _ _ (by intro e; apply ha; simp [Value.ownBlock, e])]; exact hh, r⟩

theorem ownsRow_below {w w' : World} {base : Nat} {e : TypeId} {size : Nat} {v : Value} {n : Nat} {xs : List Value} (h : w.ownsRow base e size v n xs) (hb : Below w.heap.size w w') : w'.ownsRow base e size v n xs := by
  obtain ⟨h1, h2⟩ := h
  refine ⟨h1, ?_⟩
  rcases h2 with h2 | ⟨g', cap', cur, hv, hg, hh, r⟩
  · exact Or.inl h2
  · exact Or.inr ⟨g', cap', cur, hv, hg, by rw [hb.block _ (Array.getElem?_eq_some_iff.1 hh).1]; exact hh, r⟩

theorem Hp.lt {B pb : Nat} {w : World} {zs : List Int} (h : Hp B w pb zs) : pb < w.heap.size := by
  obtain ⟨v, hc, _⟩ := h.row
  exact World.block_lt_of_cell? w _ hc
theorem Hp.below {B pb : Nat} {w w' : World} {zs : List Int} (h : Hp B w pb zs) (hb : Below w.heap.size w w') : Hp B w' pb zs := by
  have hlt := h.lt
  obtain ⟨v, hc, ho, hn⟩ := h.row
  exact ⟨h.lo, (hb.frozen (by exact hlt)).trans h.fr, v, (hb.cell (by exact hlt)).trans hc, ownsRow_below ho hb, hn⟩

theorem up_at {B g cap n : Nat} {w : World} {zs : List Int} {z : Int} (h : w.ownsRow B 38 3 (.slice (some ⟨g, 0, none⟩) (n + 1) cap) (n + 1) (tvs zs ++ cs3 z)) (hn : zs.length = n) (hb : n ≤ 100000) :
    Calls Try.prog 21 #[.slice (some ⟨g, 0, none⟩) (n + 1) cap, .int .i64 n] w fun x w' => x = .returned (.tuple #[]) ∧ Rw B w' g cap (pushZ zs z) ∧ w.grownBy w' (some g) := by
  have h' : Rw B w g cap (zs ++ [z]) := by
    unfold Rw
    rw [tvs_snoc, List.length_append, hn]
    exact h
  have k := up_calls h' n (by simp [hn]) (by simp [hn]; omega)
  rw [List.length_append, hn] at k
  unfold pushZ
  rw [hn]
  exact k

/-- What push leaves, out of what up left. -/
theorem push_close {B pb g cap : Nat} {w w3 w4 : World} {ys : List Int} (lo : B ≤ pb) (hb : Below B w w3) (hc : w3.cell? ⟨pb, 0, none⟩ = some (.slice (some ⟨g, 0, none⟩) ys.length cap))
    (hf : w3.frozen? ⟨pb, 0, none⟩ = false) (hg : g ≠ pb) (hBg : B ≤ g) (hBh : B ≤ w3.heap.size) (hR : Rw B w4 g cap ys) (hgr : w3.grownBy w4 (some g)) : Below B w w4 ∧ Hp B w4 pb ys := by
  have hlt := World.block_lt_of_cell? w3 _ hc
  have hne : some pb ≠ some g := by simpa using Ne.symm hg
  refine ⟨hb.grown hgr hBh (by rintro k e; injection e with e; omega), lo, (hgr.frozen_far ⟨pb, 0, none⟩ hlt hne).trans hf, _, (hgr.cell_far ⟨pb, 0, none⟩ hlt hne).trans hc, hR, ?_⟩
  simpa [Value.ownBlock] using hg

set_option maxRecDepth 100000 in
set_option maxHeartbeats 800000 in
theorem push_core (B pb : Nat) (zs : List Int) (z : Int) (v : Value) (w : World)
    (lo : B ≤ pb) (hf0 : w.frozen? ⟨pb, 0, none⟩ = false) (hc0 : w.cell? ⟨pb, 0, none⟩ = some v) (hown : w.ownsRow B 38 3 v zs.length (tvs zs)) (hne : v.ownBlock ≠ some pb) (hn : zs.length ≤ 100000) :
    Calls Try.prog 15 #[.pointer (some ⟨pb, 0, none⟩), Tm z] w fun e w' => e = .returned (.tuple #[]) ∧ Below B w w' ∧ Hp B w' pb (pushZ zs z) := by
  obtain ⟨i0, hi0, hz0, hz1, hz2⟩ := info_parts info38
  have lg := World.block_lt_of_cell? w _ hc0
  unfold Tm T
  go_enter Try.func15, Try.ntmps15
  go_wp2_with fail
  have C1 := heap_alloc_new w (Obj.cells #[Value.int IntKind.u64 ↑(nz z), Value.int IntKind.i64 (sz z), Value.pointer none] 38)
  have gc0 : (w.alloc (Obj.cells #[Value.int IntKind.u64 ↑(nz z), Value.int IntKind.i64 (sz z), Value.pointer none] 38)).cell? ⟨pb, 0, none⟩ = some v := by simp [lg, hc0, go_sem]
  have gf0 : (w.alloc (Obj.cells #[Value.int IntKind.u64 ↑(nz z), Value.int IntKind.i64 (sz z), Value.pointer none] 38)).frozen? ⟨pb, 0, none⟩ = false := by simp [lg, hf0, go_sem]
  have gown := hown.alloc (Obj.cells #[Value.int IntKind.u64 ↑(nz z), Value.int IntKind.i64 (sz z), Value.pointer none] 38)
  have gb : Below B w (w.alloc (Obj.cells #[Value.int IntKind.u64 ↑(nz z), Value.int IntKind.i64 (sz z), Value.pointer none] 38)) := (Below.refl _ _).alloc (by omega) _
  have lg1 : pb < (w.alloc (Obj.cells #[Value.int IntKind.u64 ↑(nz z), Value.int IntKind.i64 (sz z), Value.pointer none] 38)).heap.size := by simp; omega
  generalize w.alloc (Obj.cells #[Value.int IntKind.u64 ↑(nz z), Value.int IntKind.i64 (sz z), Value.pointer none] 38) = w1 at *
  obtain ⟨b0, b1, b2⟩ := cells3 C1
  clear hc0 hf0 hown C1
  generalize hn0 : zs.length = n at *
  have HN : Hid (zs.length = n) := hn0
  clear hn0
  go_cut [] from 21 to 21 (fun wx => ∃ gg cap, gg ≠ pb ∧ B ≤ gg ∧ wx.cell? ⟨pb, 0, none⟩ = some (.slice (some ⟨gg, 0, none⟩) (n + 1) cap) ∧ wx.frozen? ⟨pb, 0, none⟩ = false ∧
      wx.ownsRow B 38 3 (.slice (some ⟨gg, 0, none⟩) (n + 1) cap) (n + 1) (tvs zs ++ cs3 z) ∧ Below B w wx ∧ B ≤ wx.heap.size)
  case first =>
    go_region_law
      ((refine step_append_lies _ (by rfl) _ _ _ (by rfl) B 38 i0 _ 3 24 Try.underlying33 hi0 hz0 hz1 hz2 rfl (by omega) v n (tvs zs) (by rfl) ((gown.alloc _).drew)
          ⟨w1.heap.size, 0, none⟩ 1 1 (cs3 z) (by rfl) (by rfl) (World.news_of_block (cs := #[.int .u64 (nz z), .int .i64 (sz z), .pointer none]) (t := 38) (fr := (0, 0)) (heap_alloc_new w1 _)) (by simp [cs3, Value.oneCell'])
          (by omega) (by unfold maxLen; omega) (by omega) (by simp; omega) (w1.heap.size + 1) (by simp) ?_; intro gg cap w2 hown1 hgrow hat hlt
        have kc0 : w2.cell? ⟨pb, 0, none⟩ = some v := (hgrow.cell_far ⟨pb, 0, none⟩ (by simp; omega) (Ne.symm hne)).trans (by simp [lg1, gc0, go_sem])
        have kf0 : w2.frozen? ⟨pb, 0, none⟩ = false := (hgrow.frozen_far ⟨pb, 0, none⟩ (by simp; omega) (Ne.symm hne)).trans (by simp [lg1, gf0, go_sem])))
    all_goals
      have hgg : gg ≠ pb := by
        rintro rfl
        rcases hat with h | h
        · exact hne h
        · omega
      have kb : Below B w w2 := gb.trans (((Below.refl _ _).alloc (by omega) _).drew.grown hgrow (by simp; omega) (fun k hk => (gown.lt k hk).1))
      have hBg : B ≤ gg := (hown1.lt gg rfl).1
      have lg2 : pb < w2.heap.size := World.block_lt_of_cell? w2 _ kc0
      have mc0 : (w2.setCell ⟨pb, 0, none⟩ (Value.slice (some ⟨gg, 0, none⟩) (n + 1) cap)).cell? ⟨pb, 0, none⟩ = some (Value.slice (some ⟨gg, 0, none⟩) (n + 1) cap) := by simp [kc0, go_sem]
      have mf0 : (w2.setCell ⟨pb, 0, none⟩ (Value.slice (some ⟨gg, 0, none⟩) (n + 1) cap)).frozen? ⟨pb, 0, none⟩ = false := by simp [kf0, go_sem]
      have mown := ownsRow_setCell_other hown1 (a := ⟨pb, 0, none⟩) (by simpa [Value.ownBlock] using hgg) (Value.slice (some ⟨gg, 0, none⟩) (n + 1) cap)
      have mb : Below B w (w2.setCell ⟨pb, 0, none⟩ (Value.slice (some ⟨gg, 0, none⟩) (n + 1) cap)) := kb.setCell lo _
      have mlt : B ≤ (w2.setCell ⟨pb, 0, none⟩ (Value.slice (some ⟨gg, 0, none⟩) (n + 1) cap)).heap.size := by simp; omega
      generalize w2.setCell ⟨pb, 0, none⟩ (Value.slice (some ⟨gg, 0, none⟩) (n + 1) cap) = w3 at *
      go_wp2_with fail
      go_meet
      case rel => exact ⟨gg, cap, hgg, hBg, mc0, mf0, mown, mb, mlt⟩
  case rest =>
    obtain ⟨gg, cap, hgg, hBg, mc0, mf0, mown, mb, mlt⟩ := hcut
    clear gb gown gc0 gf0 b0 b1 b2 lg lg1 w1 hi0 hz0 hz1 hz2 i0 hne
    have hwr : IntKind.i64.wrap (n : Int) = (n : Int) := by rw [IntKind.wrap_i64]; omega
    go_wp2_with fail
    go_region_with (go_at_call 21; refine (up_at (zs := zs) (z := z) mown.drew HN.out hn).mono ?_; rintro e w4 ⟨rfl, hR, hgr⟩)
    all_goals
      go_wp2
      go_end0
      refine ⟨rfl, ?_⟩
      have hy : n + 1 = (pushZ zs z).length := by rw [pushZ_length, HN.out]
      rw [hy] at mc0
      exact push_close lo mb mc0 mf0 hgg hBg mlt hR ⟨hgr.os, hgr.tape, hgr.output, hgr.size, hgr.block⟩

theorem push_calls {B pb : Nat} {zs : List Int} {w : World} (h : Hp B w pb zs) (z : Int) (hn : zs.length ≤ 100000) :
    Calls Try.prog 15 #[.pointer (some ⟨pb, 0, none⟩), Tm z] w fun e w' => e = .returned (.tuple #[]) ∧ Below B w w' ∧ Hp B w' pb (pushZ zs z) := by
  obtain ⟨v, hc, ho, hne⟩ := h.row
  exact push_core B pb zs z v w h.lo h.fr hc ho hne hn
end Go.Proofs.Qxb6612239a

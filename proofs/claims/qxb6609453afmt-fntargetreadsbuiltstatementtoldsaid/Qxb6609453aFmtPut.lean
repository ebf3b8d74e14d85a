/-
  zzPut, zzWord, zzMark, zzSpell, zzNamed: the builder of the statement's text and tokens.
-/
import Derived.Test.Qxb6609453aFmtRows
import Derived.WalkKit
import Derived.WalkSpells
import Derived.WalkLawsBesides
import Derived.Deep.RegionHeld3
import Derived.Deep.AppendLies
import Derived.Deep.DrawnRows
import Derived.Deep.RegionLaw
import Derived.Deep.DeepMust
import Derived.KernelRfl
namespace Go.Proofs.Qxb6609453aFmt
open Go.RowKit
attribute [local go_sem ↓] Go.wp_at_zero Go.wp_at_succ

/-- A token, Go's Tok and Token alike. -/
structure Tk where
  kind : Int
  val : ByteArray
  pos : Int
  fin : Int
def Tk.cells (t : Tk) : List Value := [.int .i64 t.kind, .string t.val, .int .i64 t.pos, .int .i64 t.fin]
def tkCells (ts : List Tk) : List Value := ts.flatMap Tk.cells

theorem tkCells_snoc (ts : List Tk) (t : Tk) : tkCells (ts ++ [t]) = tkCells ts ++ t.cells := by simp [tkCells]

/-- zzText at block bb: its text, its tokens; all of it from block B on. -/
structure Blt (B : Nat) (w : World) (bb : Nat) (text : ByteArray) (ts : List Tk) : Prop where
  lo : B ≤ bb
  c0 : w.cell? ⟨bb, 0, none⟩ = some (.string text)
  f0 : w.frozen? ⟨bb, 0, none⟩ = false
  f1 : w.frozen? ⟨bb, 1, none⟩ = false
  row : ∃ v, w.cell? ⟨bb, 1, none⟩ = some v ∧ w.ownsRow B 49 4 v ts.length (tkCells ts) ∧ v.ownBlock ≠ some bb

theorem info49 : (Tryf.prog.info? 49).map (fun i => (i.zero, i.size, i.bytes)) = some (some (.agg #[.int .i64 0, .string ⟨#[]⟩, .int .i64 0, .int .i64 0]), 4, 40) := by kernel_rfl

theorem ownsRow_setCell_other {w : World} {base : Nat} {e : TypeId} {size : Nat} {v : Value} {n : Nat} {xs : List Value} (h : w.ownsRow base e size v n xs) {a : Addr} (ha : v.ownBlock ≠ some a.block) (u : Value) : (w.setCell a u).ownsRow base e size v n xs := by
  obtain ⟨h1, h2⟩ := h
  refine ⟨h1, ?_⟩
  rcases h2 with h2 | ⟨g, cap, cur, hv, hg, hh, r⟩
  · exact Or.inl h2
  · subst hv
    exact Or.inr ⟨g, cap, cur, rfl, hg, by rw [Below.heap_setCell _ _ _ _ (by intro e; apply ha; simp [Value.ownBlock, e])]; exact hh, r⟩

/-- What zzPut leaves, out of what the append left. -/
theorem put_close {B bb n gg cap : Nat} {w w2 : World} {xs : List Value} {v : Value} {t2 : ByteArray} (lo : B ≤ bb) (hb : Below B w w2)
    (kc0 : ∃ u, w2.cell? ⟨bb, 0, none⟩ = some u) (kc1 : w2.cell? ⟨bb, 1, none⟩ = some v) (kf0 : w2.frozen? ⟨bb, 0, none⟩ = false) (kf1 : w2.frozen? ⟨bb, 1, none⟩ = false)
    (hown : w2.ownsRow B 49 4 (.slice (some ⟨gg, 0, none⟩) n cap) n xs) (hg : gg ≠ bb) :
    Below B w ((w2.setCell ⟨bb, 1, none⟩ (.slice (some ⟨gg, 0, none⟩) n cap)).setCell ⟨bb, 0, none⟩ (.string t2)) ∧
    ((w2.setCell ⟨bb, 1, none⟩ (.slice (some ⟨gg, 0, none⟩) n cap)).setCell ⟨bb, 0, none⟩ (.string t2)).cell? ⟨bb, 0, none⟩ = some (.string t2) ∧
    ((w2.setCell ⟨bb, 1, none⟩ (.slice (some ⟨gg, 0, none⟩) n cap)).setCell ⟨bb, 0, none⟩ (.string t2)).frozen? ⟨bb, 0, none⟩ = false ∧
    ((w2.setCell ⟨bb, 1, none⟩ (.slice (some ⟨gg, 0, none⟩) n cap)).setCell ⟨bb, 0, none⟩ (.string t2)).frozen? ⟨bb, 1, none⟩ = false ∧
    ∃ v', ((w2.setCell ⟨bb, 1, none⟩ (.slice (some ⟨gg, 0, none⟩) n cap)).setCell ⟨bb, 0, none⟩ (.string t2)).cell? ⟨bb, 1, none⟩ = some v' ∧
      ((w2.setCell ⟨bb, 1, none⟩ (.slice (some ⟨gg, 0, none⟩) n cap)).setCell ⟨bb, 0, none⟩ (.string t2)).ownsRow B 49 4 v' n xs ∧ v'.ownBlock ≠ some bb := by
  obtain ⟨u, kc0⟩ := kc0
  have hne : (Value.slice (some ⟨gg, 0, none⟩) n cap).ownBlock ≠ some bb := by simp [Value.ownBlock, hg]
  refine ⟨(hb.setCell lo _).setCell lo _, by simp [kc0, go_sem], by simp [kf0, go_sem], by simp [kf1, go_sem], _, by simp [kc1, go_sem], ?_, hne⟩
  exact ownsRow_setCell_other (ownsRow_setCell_other hown (a := ⟨bb, 1, none⟩) hne _) (a := ⟨bb, 0, none⟩) hne _

set_option maxRecDepth 100000 in
set_option maxHeartbeats 3200000 in
theorem put_core (B bb n : Nat) (text value spelling : ByteArray) (kind : Int) (xs : List Value) (v : Value) (w : World)
    (lo : B ≤ bb) (hc0 : w.cell? ⟨bb, 0, none⟩ = some (.string text)) (hf0 : w.frozen? ⟨bb, 0, none⟩ = false) (hf1 : w.frozen? ⟨bb, 1, none⟩ = false)
    (hc1 : w.cell? ⟨bb, 1, none⟩ = some v) (hown : w.ownsRow B 49 4 v n xs) (hne : v.ownBlock ≠ some bb)
    (hn : n ≤ 100) (ht : text.size ≤ 100000000) (hs : spelling.size ≤ 100000000) :
    Calls Tryf.prog 10 #[.pointer (some ⟨bb, 0, none⟩), .int .i64 kind, .string value, .string spelling] w fun e w' =>
      e = .returned (.tuple #[]) ∧ Below B w w' ∧ w'.cell? ⟨bb, 0, none⟩ = some (.string (text ++ spelling ++ ⟨#[32]⟩)) ∧ w'.frozen? ⟨bb, 0, none⟩ = false ∧ w'.frozen? ⟨bb, 1, none⟩ = false ∧
      ∃ v', w'.cell? ⟨bb, 1, none⟩ = some v' ∧ w'.ownsRow B 49 4 v' (n + 1) (xs ++ [.int .i64 kind, .string value, .int .i64 text.size, .int .i64 (text ++ spelling).size]) ∧ v'.ownBlock ≠ some bb := by
  obtain ⟨i0, hi0, hz0, hz1, hz2⟩ := info_parts info49
  have lg := World.block_lt_of_cell? w _ hc0
  go_enter Tryf.func10, Tryf.ntmps10
  go_wp2_with fail
  have gc0 : (w.setCell ⟨bb, 0, none⟩ (.string (text ++ spelling))).cell? ⟨bb, 0, none⟩ = some (.string (text ++ spelling)) := by simp [hc0, go_sem]
  have gc1 : (w.setCell ⟨bb, 0, none⟩ (.string (text ++ spelling))).cell? ⟨bb, 1, none⟩ = some v := by simp [hc1, go_sem]
  have gf0 : (w.setCell ⟨bb, 0, none⟩ (.string (text ++ spelling))).frozen? ⟨bb, 0, none⟩ = false := by simp [hf0, go_sem]
  have gf1 : (w.setCell ⟨bb, 0, none⟩ (.string (text ++ spelling))).frozen? ⟨bb, 1, none⟩ = false := by simp [hf1, go_sem]
  have gown := ownsRow_setCell_other hown (a := ⟨bb, 0, none⟩) hne (.string (text ++ spelling))
  have gb : Below B w (w.setCell ⟨bb, 0, none⟩ (.string (text ++ spelling))) := (Below.refl _ _).setCell lo _
  have lg1 : bb < (w.setCell ⟨bb, 0, none⟩ (.string (text ++ spelling))).heap.size := by simpa using lg
  generalize w.setCell ⟨bb, 0, none⟩ (.string (text ++ spelling)) = w1 at *
  clear hc0 hc1 hf0 hf1 hown lg
  have hts : (text ++ spelling).size = text.size + spelling.size := by simp
  have Hts : Hid ((text ++ spelling).size = text.size + spelling.size) := hts
  have hb1 : (text ++ spelling).size ≤ 200000000 := by omega
  clear hts
  generalize ht1 : text ++ spelling = t1 at *
  have HT : Hid (text ++ spelling = t1) := ht1
  clear ht1
  go_region_law
    ((refine step_append_lies _ (by rfl) _ _ _ (by rfl) B 49 i0 _ 4 40 Tryf.underlying23 hi0 hz0 hz1 hz2 rfl (by omega) v n xs (by rfl) ((gown.alloc _).drew)
        ⟨w1.heap.size, 0, none⟩ 1 1 [.int .i64 kind, .string value, .int .i64 text.size, .int .i64 t1.size] (by rfl) (by rfl) (World.news_of_block (cs := #[.int .i64 kind, .string value, .int .i64 text.size, .int .i64 t1.size]) (t := 49) (fr := (0, 0)) (heap_alloc_new w1 _)) (by simp [Value.oneCell'])
        (by omega) (by unfold maxLen; omega) (by omega) (by simp; omega) (w1.heap.size + 1) (by simp) ?_; intro gg cap w2 hown1 hgrow hat hlt
      have kc0 : w2.cell? ⟨bb, 0, none⟩ = some (.string t1) := (hgrow.cell_far ⟨bb, 0, none⟩ (by simp; omega) (Ne.symm hne)).trans (by simp [lg1, gc0, go_sem])
      have kc1 : w2.cell? ⟨bb, 1, none⟩ = some v := (hgrow.cell_far ⟨bb, 1, none⟩ (by simp; omega) (Ne.symm hne)).trans (by simp [lg1, gc1, go_sem])
      have kf0 : w2.frozen? ⟨bb, 0, none⟩ = false := (hgrow.frozen_far ⟨bb, 0, none⟩ (by simp; omega) (Ne.symm hne)).trans (by simp [lg1, gf0, go_sem])
      have kf1 : w2.frozen? ⟨bb, 1, none⟩ = false := (hgrow.frozen_far ⟨bb, 1, none⟩ (by simp; omega) (Ne.symm hne)).trans (by simp [lg1, gf1, go_sem])))
  all_goals
    go_wp2
    go_end0
    rw [HT.out]
    refine ⟨rfl, put_close lo (gb.trans (((Below.refl _ _).alloc (by omega) _).drew.grown hgrow (by simp; omega) (fun k hk => (gown.lt k hk).1))) ⟨_, kc0⟩ kc1 kf0 kf1 hown1 ?_⟩
    rintro rfl
    rcases hat with h | h
    · exact hne h
    · omega

def sp : ByteArray := ⟨#[32]⟩
def Tk.mkAt (text : ByteArray) (kind : Int) (value spelling : ByteArray) : Tk := ⟨kind, value, text.size, (text ++ spelling).size⟩

theorem put_calls {B bb : Nat} {text : ByteArray} {ts : List Tk} (kind : Int) (value spelling : ByteArray) {w : World} (h : Blt B w bb text ts)
    (hn : ts.length ≤ 100) (ht : text.size ≤ 100000000) (hs : spelling.size ≤ 100000000) :
    Calls Tryf.prog 10 #[.pointer (some ⟨bb, 0, none⟩), .int .i64 kind, .string value, .string spelling] w fun e w' =>
      e = .returned (.tuple #[]) ∧ Below B w w' ∧ Blt B w' bb (text ++ spelling ++ sp) (ts ++ [Tk.mkAt text kind value spelling]) := by
  obtain ⟨v, hc1, hown, hne⟩ := h.row
  refine (put_core B bb ts.length text value spelling kind (tkCells ts) v w h.lo h.c0 h.f0 h.f1 hc1 hown hne hn ht hs).mono fun e w' hx => ?_
  obtain ⟨he, hb, k0, k1, k2, v', k3, k4, k5⟩ := hx
  refine ⟨he, hb, h.lo, k0, k1, k2, v', k3, ?_, k5⟩
  rw [tkCells_snoc, List.length_append]
  exact k4

set_option maxHeartbeats 400000 in
theorem word_calls {B bb : Nat} {text : ByteArray} {ts : List Tk} (value : ByteArray) {w : World} (h : Blt B w bb text ts)
    (hn : ts.length ≤ 100) (ht : text.size ≤ 100000000) (hs : value.size ≤ 100000000) :
    Calls Tryf.prog 6 #[.pointer (some ⟨bb, 0, none⟩), .string value] w fun e w' =>
      e = .returned (.tuple #[]) ∧ Below B w w' ∧ Blt B w' bb (text ++ value ++ sp) (ts ++ [Tk.mkAt text 0 value value]) := by
  go_enter Tryf.func6, Tryf.ntmps6
  go_wp2_with fail
  refine (put_calls 0 value value h hn ht hs).mono ?_
  rintro e w' ⟨rfl, hb, hB⟩
  go_wp2
  go_end0
  exact ⟨rfl, hb, hB⟩

set_option maxHeartbeats 400000 in
theorem mark_calls {B bb : Nat} {text : ByteArray} {ts : List Tk} (value : ByteArray) {w : World} (h : Blt B w bb text ts)
    (hn : ts.length ≤ 100) (ht : text.size ≤ 100000000) (hs : value.size ≤ 100000000) :
    Calls Tryf.prog 9 #[.pointer (some ⟨bb, 0, none⟩), .string value] w fun e w' =>
      e = .returned (.tuple #[]) ∧ Below B w w' ∧ Blt B w' bb (text ++ value ++ sp) (ts ++ [Tk.mkAt text 5 value value]) := by
  go_enter Tryf.func9, Tryf.ntmps9
  go_wp2_with fail
  refine (put_calls 5 value value h hn ht hs).mono ?_
  rintro e w' ⟨rfl, hb, hB⟩
  go_wp2
  go_end0
  exact ⟨rfl, hb, hB⟩

/-- zzSpell. -/
def spell (v : ByteArray) (quoted : Bool) : ByteArray := if quoted then (⟨#[34]⟩ : ByteArray) ++ v ++ (⟨#[34]⟩ : ByteArray) else v
def nkind (quoted : Bool) : Int := if quoted then 1 else 0

theorem spell_size (v : ByteArray) (q : Bool) : (spell v q).size ≤ v.size + 2 := by
  have h1 : (⟨#[34]⟩ : ByteArray).size = 1 := rfl
  unfold spell; split
  · rw [ByteArray.size_append, ByteArray.size_append, h1]; omega
  · omega

set_option maxHeartbeats 400000 in
theorem spell_calls (v : ByteArray) (q : Bool) (w : World) (hv : v.size ≤ 100000000) :
    Calls Tryf.prog 7 #[.string v, .bool q] w fun e w' => e = .returned (.string (spell v q)) ∧ w' = w := by
  cases q
  · go_enter Tryf.func7, Tryf.ntmps7
    go_wp2
    go_ret
    exact ⟨rfl, rfl⟩
  · go_enter Tryf.func7, Tryf.ntmps7
    go_wp2
    go_ret
    exact ⟨rfl, rfl⟩

set_option maxHeartbeats 400000 in
theorem named_calls {B bb : Nat} {text : ByteArray} {ts : List Tk} (value : ByteArray) (q : Bool) {w : World} (h : Blt B w bb text ts)
    (hn : ts.length ≤ 100) (ht : text.size ≤ 100000000) (hs : value.size ≤ 10000000) :
    Calls Tryf.prog 8 #[.pointer (some ⟨bb, 0, none⟩), .string value, .bool q] w fun e w' =>
      e = .returned (.tuple #[]) ∧ Below B w w' ∧ Blt B w' bb (text ++ spell value q ++ sp) (ts ++ [Tk.mkAt text (nkind q) value (spell value q)]) := by
  have hz := spell_size value q
  cases q
  · go_enter Tryf.func8, Tryf.ntmps8
    go_wp2_with fail
    refine (spell_calls value false _ (by omega)).mono ?_
    rintro e w' ⟨rfl, rfl⟩
    go_wp2_with fail
    refine (put_calls 0 value (spell value false) h hn ht (by omega)).mono ?_
    rintro e w' ⟨rfl, hb, hB⟩
    go_wp2
    go_end0
    exact ⟨rfl, hb, hB⟩
  · go_enter Tryf.func8, Tryf.ntmps8
    go_wp2_with fail
    refine (spell_calls value true _ (by omega)).mono ?_
    rintro e w' ⟨rfl, rfl⟩
    go_wp2_with fail
    refine (put_calls 1 value (spell value true) h hn ht (by omega)).mono ?_
    rintro e w' ⟨rfl, hb, hB⟩
    go_wp2
    go_end0
    exact ⟨rfl, hb, hB⟩

end Go.Proofs.Qxb6609453aFmt

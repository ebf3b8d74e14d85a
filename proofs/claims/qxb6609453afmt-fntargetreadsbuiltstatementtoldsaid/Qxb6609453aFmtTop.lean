/-
  FnCreatesTableAsReadsBuiltStatement: the walk.
-/
import Derived.Test.Qxb6609453aFmtPlain
import Derived.Deep.DeepCutAuto
import Derived.Deep.Light
namespace Go.Proofs.Qxb6609453aFmt
open Go.RowKit
attribute [local go_sem ↓] Go.wp_at_zero Go.wp_at_succ

/-- The builder with its bounds. -/
structure Bl (B : Nat) (w : World) (bb : Nat) (s : St) (m n : Nat) : Prop where
  blt : Blt B w bb s.text s.ts
  ht : s.text.size ≤ m
  hn : s.ts.length ≤ n

theorem Bl.wide {B bb m n m' n' : Nat} {w : World} {s : St} (h : Bl B w bb s m n) (hm : m ≤ m') (hn : n ≤ n') : Bl B w bb s m' n' := ⟨h.blt, Nat.le_trans h.ht hm, Nat.le_trans h.hn hn⟩

theorem put_size (s : St) (k : Int) (v sl : ByteArray) : (s.put k v sl).text.size = s.text.size + sl.size + 1 := by
  show (s.text ++ sl ++ sp).size = _
  rw [ByteArray.size_append, ByteArray.size_append]; rfl

theorem put_st {B bb m n : Nat} {w : World} {s : St} (h : Bl B w bb s m n) (k : Int) (v sl : ByteArray) (hv : sl.size ≤ 20) (hm : m ≤ 50000000) (hn : n ≤ 90) :
    Calls Tryf.prog 10 #[.pointer (some ⟨bb, 0, none⟩), .int .i64 k, .string v, .string sl] w fun e w' => e = .returned (.tuple #[]) ∧ Below B w w' ∧ Bl B w' bb (s.put k v sl) (m + 21) (n + 1) :=
  (put_calls k v sl h.blt (by have := h.hn; omega) (by have := h.ht; omega) (by omega)).mono fun _ _ hx => ⟨hx.1, hx.2.1, hx.2.2, by rw [put_size]; have := h.ht; omega, by rw [put_len]; have := h.hn; omega⟩

theorem word_st {B bb m n : Nat} {w : World} {s : St} (h : Bl B w bb s m n) (v : ByteArray) (hv : v.size ≤ 20) (hm : m ≤ 50000000) (hn : n ≤ 90) :
    Calls Tryf.prog 6 #[.pointer (some ⟨bb, 0, none⟩), .string v] w fun e w' => e = .returned (.tuple #[]) ∧ Below B w w' ∧ Bl B w' bb (s.word v) (m + 21) (n + 1) :=
  (word_calls v h.blt (by have := h.hn; omega) (by have := h.ht; omega) (by omega)).mono fun _ _ hx => ⟨hx.1, hx.2.1, hx.2.2, by unfold St.word; rw [put_size]; have := h.ht; omega, by unfold St.word; rw [put_len]; have := h.hn; omega⟩

theorem mark_st {B bb m n : Nat} {w : World} {s : St} (h : Bl B w bb s m n) (v : ByteArray) (hv : v.size ≤ 20) (hm : m ≤ 50000000) (hn : n ≤ 90) :
    Calls Tryf.prog 9 #[.pointer (some ⟨bb, 0, none⟩), .string v] w fun e w' => e = .returned (.tuple #[]) ∧ Below B w w' ∧ Bl B w' bb (s.mark v) (m + 21) (n + 1) :=
  (mark_calls v h.blt (by have := h.hn; omega) (by have := h.ht; omega) (by omega)).mono fun _ _ hx => ⟨hx.1, hx.2.1, hx.2.2, by unfold St.mark; rw [put_size]; have := h.ht; omega, by unfold St.mark; rw [put_len]; have := h.hn; omega⟩

theorem named_st {B bb m n : Nat} {w : World} {s : St} (h : Bl B w bb s m n) (v : ByteArray) (q : Bool) (hv : v.size ≤ 262144) (hm : m ≤ 50000000) (hn : n ≤ 90) :
    Calls Tryf.prog 8 #[.pointer (some ⟨bb, 0, none⟩), .string v, .bool q] w fun e w' => e = .returned (.tuple #[]) ∧ Below B w w' ∧ Bl B w' bb (s.named v q) (m + 262150) (n + 1) :=
  (named_calls v q h.blt (by have := h.hn; omega) (by have := h.ht; omega) (by omega)).mono fun _ _ hx => ⟨hx.1, hx.2.1, hx.2.2, by unfold St.named; rw [put_size]; have := h.ht; have := spell_size v q; omega, by unfold St.named; rw [put_len]; have := h.hn; omega⟩

set_option maxHeartbeats 400000 in
/-- The bound laid by program: it only computes. -/
theorem bytes5 (sc nm : ByteArray) (q gl tp ie : Bool) (w : World) (h1 : sc.size ≤ maxLen) (h2 : nm.size ≤ maxLen) :
    Calls Tryf.prog 5 #[.string sc, .string nm, .bool q, .bool gl, .bool tp, .bool ie] w fun e w' => (∃ b, e = .returned (.bool b)) ∧ w = w' := by
  unfold maxLen at h1 h2
  go_enter Tryf.func5, Tryf.ntmps5
  go_wp2
  all_goals
    go_ret
    exact ⟨⟨_, rfl⟩, rfl⟩

/-- The builder as it is made. -/
theorem Bl.made (w : World) : Bl w.heap.size (w.alloc (.cells #[.string ⟨#[]⟩, .slice none 0 0] 25)) w.heap.size St.zero 0 0 := by
  have hb := heap_alloc_new w (.cells #[.string ⟨#[]⟩, .slice none 0 0] 25)
  refine ⟨⟨Nat.le_refl _, (cells2 hb).1, ?_, ?_, .slice none 0 0, (cells2 hb).2, World.ownsRow_nil _ _ _ _, by simp [Value.ownBlock]⟩, Nat.le_refl _, Nat.le_refl _⟩
  · unfold World.frozen?
    rw [hb]
    rfl
  · unfold World.frozen?
    rw [hb]
    rfl

theorem bcell {W w1 : World} (hb : Below W.heap.size W w1) : (∀ b o, b < W.heap.size → w1.cell? ⟨b, o, none⟩ = W.cell? ⟨b, o, none⟩) ∧ (∀ b o, b < W.heap.size → w1.frozen? ⟨b, o, none⟩ = W.frozen? ⟨b, o, none⟩) :=
  ⟨fun b o h => hb.cell (p := ⟨b, o, none⟩) h, fun b o h => hb.frozen (p := ⟨b, o, none⟩) h⟩

theorem cell_set3 {w : World} {b B o : Nat} (h : B < b) (x y z : Value) : (((w.setCell ⟨b, 0, none⟩ x).setCell ⟨b, 1, none⟩ y).setCell ⟨b, 2, none⟩ z).cell? ⟨B, o, none⟩ = w.cell? ⟨B, o, none⟩ :=
  World.cell?_of_block ((Below.heap_setCell _ _ _ _ (by simp; omega)).trans ((Below.heap_setCell _ _ _ _ (by simp; omega)).trans (Below.heap_setCell _ _ _ _ (by simp; omega))))

theorem kIf_toList : kIf.toList = [105, 102] := by rw [ByteArray.toList_eq]; rfl

set_option maxRecDepth 100000 in
set_option maxHeartbeats 400000 in
theorem top_walk (sc nm : ByteArray) (q gl tp ie sB : Bool) (w : World) (h1 : sc.size ≤ 262144) (h2 : nm.size ≤ 262144)
    (hsB : sc.toList.isEmpty = !sB) (hne : (!q && !ie && (bif sB then sc else nm).toList == kIf.toList) = false) :
    Calls Tryf.prog 3 #[.string sc, .string nm, .bool q, .bool gl, .bool tp, .bool ie] w fun e w' => e = .returned (.bool true) ∧ Below w.heap.size w w' := by
  have HB := bytes5 sc nm q gl tp ie w (by unfold maxLen; omega) (by unfold maxLen; omega)
  go_enter Tryf.func3, Tryf.ntmps3
  go_wp2_with fail
  refine HB.mono ?_
  rintro e w' ⟨⟨b, rfl⟩, rfl⟩
  cases b
  · go_wp2
    go_ret
    exact ⟨rfl, Below.refl _ _⟩
  clear HB
  go_upto_if 34 with fail
  go_cut [13] (fun s13 wx => s13 = .string (bif sB then sc else nm) ∧ w = wx)
  case first =>
    cases sB
    · go_wp2_with fail
      go_meet
      case rel => exact ⟨rfl, rfl⟩
    · go_wp2_with fail
      go_meet
      case rel => exact ⟨rfl, rfl⟩
  case rest =>
  obtain ⟨rfl, rfl⟩ := hcut
  have HN : Hid ((!q && !ie && (bif sB then sc else nm).toList == kIf.toList) = false) := hne
  generalize hfst : (bif sB then sc else nm) = fst at *
  have HF : Hid ((bif sB then sc else nm) = fst) := hfst
  clear hne hfst
  go_upto_region 10 with fail
  go_cut [45] (fun s45 wx => s45 = .bool false ∧ w = wx)
  case first =>
    cases q <;> cases ie
    · have hf : (fst.toList == [105, 102]) = false := by have := HN.out; rw [kIf_toList] at this; simpa using this
      go_wp2_with fail
      go_meet
      case rel => exact ⟨rfl, rfl⟩
    all_goals go_wp2_with fail
    all_goals go_meet
    all_goals exact ⟨rfl, rfl⟩
  case rest =>
  obtain ⟨rfl, rfl⟩ := hcut
  have hB := Bl.made w
  have hb : Below w.heap.size w (w.alloc (.cells #[.string ⟨#[]⟩, .slice none 0 0] 25)) := (Below.refl _ _).alloc (Nat.le_refl _) _
  go_wp2_with fail
  generalize hbb : w.heap.size = B at *
  have HBB : Hid (w.heap.size = B) := hbb
  clear hbb
  -- create
  refine (word_st hB kCreate (by decide) (by omega) (by omega)).mono ?_
  rintro e w1 ⟨rfl, hb1, hB1⟩
  replace hB : Bl B w1 B c1 21 1 := hB1
  replace hb := hb.trans hb1
  clear hB1 hb1
  -- global
  go_upto_if 47 with fail
  go_cut [] (fun wx => Bl B wx B (c2 gl) 42 2 ∧ Below B w wx)
  case first =>
    cases gl
    · go_wp2_with fail
      go_meet
      case rel => exact ⟨hB.wide (by omega) (by omega), hb⟩
    · go_wp2_with fail
      refine (word_st hB kGlobal (by decide) (by omega) (by omega)).mono ?_
      rintro e w2 ⟨rfl, hb1, hB1⟩
      go_wp2_with fail
      go_meet
      case rel => exact ⟨hB1, hb.trans hb1⟩
  case rest =>
  clear hB hb
  obtain ⟨hB, hb⟩ := hcut
  -- temporary
  go_upto_if 49 with fail
  go_cut [] (fun wx => Bl B wx B (c3 gl tp) 63 3 ∧ Below B w wx)
  case first =>
    cases tp
    · go_wp2_with fail
      go_meet
      case rel => exact ⟨hB.wide (by omega) (by omega), hb⟩
    · go_wp2_with fail
      refine (word_st hB kTemporary (by decide) (by omega) (by omega)).mono ?_
      rintro e w2 ⟨rfl, hb1, hB1⟩
      go_wp2_with fail
      go_meet
      case rel => exact ⟨hB1, hb.trans hb1⟩
  case rest =>
  clear hB hb
  obtain ⟨hB, hb⟩ := hcut
  -- table
  go_wp2_with fail
  refine (word_st hB kTable (by decide) (by omega) (by omega)).mono ?_
  rintro e w2 ⟨rfl, hb1, hB1⟩
  replace hB : Bl B w2 B (c4 gl tp) 84 4 := hB1
  replace hb := hb.trans hb1
  clear hB1 hb1
  -- if not exists
  go_upto_if 52 with fail
  go_cut [] (fun wx => Bl B wx B (c5 gl tp ie) 147 7 ∧ Below B w wx)
  case first =>
    cases ie
    · go_wp2_with fail
      go_meet
      case rel => exact ⟨hB.wide (by omega) (by omega), hb⟩
    · go_wp2_with fail
      refine (word_st hB kIf (by decide) (by omega) (by omega)).mono ?_
      rintro e w3 ⟨rfl, hb1, hB1⟩
      go_wp2_with fail
      refine (word_st hB1 kNot (by decide) (by omega) (by omega)).mono ?_
      rintro e w4 ⟨rfl, hb2, hB2⟩
      go_wp2_with fail
      refine (word_st hB2 kExists (by decide) (by omega) (by omega)).mono ?_
      rintro e w5 ⟨rfl, hb3, hB3⟩
      go_wp2_with fail
      go_meet
      case rel => exact ⟨hB3, ((hb.trans hb1).trans hb2).trans hb3⟩
  case rest =>
  clear hB hb
  obtain ⟨hB, hb⟩ := hcut
  -- want
  go_wp2_with fail
  refine (spell_calls nm q _ (by omega)).mono ?_
  rintro e w6 ⟨rfl, rfl⟩
  go_upto_if 60 with fail
  go_cut [15] (fun s15 wx => s15 = .string (cWant sc nm q sB) ∧ Bl B wx B (c6 sc q gl tp ie sB) 262318 9 ∧ Below B w wx)
  case first =>
    cases sB
    · go_wp2_with fail
      go_meet
      case rel => exact ⟨rfl, hB.wide (by omega) (by omega), hb⟩
    · go_wp2_with fail
      refine (named_st hB sc q h1 (by omega) (by omega)).mono ?_
      rintro e w7 ⟨rfl, hb1, hB1⟩
      go_wp2_with fail
      refine (mark_st hB1 kDot (by decide) (by omega) (by omega)).mono ?_
      rintro e w8 ⟨rfl, hb2, hB2⟩
      go_wp2_with fail
      refine (spell_calls sc q _ (by omega)).mono ?_
      rintro e w9 ⟨rfl, rfl⟩
      have q1 := spell_size sc q
      have q2 := spell_size nm q
      go_wp2_with fail
      go_meet
      case rel => exact ⟨rfl, hB2.wide (by omega) (by omega), (hb.trans hb1).trans hb2⟩
  case rest =>
  clear hB hb
  obtain ⟨rfl, hB, hb⟩ := hcut
  generalize hW : cWant sc nm q sB = want at *
  have HW : Hid (cWant sc nm q sB = want) := hW
  clear hW
  -- the name
  go_wp2_with fail
  refine (named_st hB nm q h2 (by omega) (by omega)).mono ?_
  rintro e w10 ⟨rfl, hb1, hB1⟩
  replace hb := hb.trans hb1
  clear hB hb1
  go_wp2_with fail
  refine (word_st hB1 kAs (by decide) (by omega) (by omega)).mono ?_
  rintro e w11 ⟨rfl, hb1, hB2⟩
  replace hb := hb.trans hb1
  clear hB1 hb1
  go_wp2_with fail
  refine (word_st hB2 kSelect (by decide) (by omega) (by omega)).mono ?_
  rintro e w12 ⟨rfl, hb1, hB3⟩
  replace hb := hb.trans hb1
  clear hB2 hb1
  go_wp2_with fail
  refine (put_st hB3 3 kOne kOne (by decide) (by omega) (by omega)).mono ?_
  rintro e w13 ⟨rfl, hb1, hB4⟩
  replace hb := hb.trans hb1
  have hB : Bl B w13 B (c8 sc nm q gl tp ie sB) 524531 13 := hB4
  clear hB3 hb1 hB4
  obtain ⟨v, hc1, hown, hvn⟩ := hB.blt.row
  have hc0 := hB.blt.c0
  have hlen : 0 < (c8 sc nm q gl tp ie sB).ts.length := by unfold c8; rw [put_len]; omega
  obtain ⟨g, cap, rfl, hgB, hgs⟩ := hown.form hlen
  have hl : (c8 sc nm q gl tp ie sB).ts.length ≤ 1000 := by have := hB.hn; omega
  have ht : (c8 sc nm q gl tp ie sB).text.size ≤ 100000000 := by have := hB.ht; omega
  have HL := fun (g : Nat) (w : World) hrow => law_calls (g := g) (w := w) sc nm q gl tp ie sB (by rw [HF.out]; exact HN.out) hrow hl ht
  have hlt : B < w13.heap.size := World.block_lt_of_cell? _ _ hc0
  clear hB
  generalize (c8 sc nm q gl tp ie sB).text = text at *
  generalize (c8 sc nm q gl tp ie sB).ts = ts at *
  have HL' : Hid _ := HL
  clear HL
  go_upto_region 32 with fail
  have hown' := hown
  have Hown : Hid (w13.ownsRow B 49 4 (.slice (some ⟨g, 0, none⟩) ts.length cap) ts.length (tkCells ts)) := hown
  clear hown hown'
  have nB := World.new_ne w13 _ hc0
  go_region_held3 (fun w' => w'.cell? ⟨B, 0, none⟩ = some (.string text) ∧ w'.cell? ⟨B, 1, none⟩ = some (.slice (some ⟨g, 0, none⟩) ts.length cap))
    (first
      | (go_split_ands; refine ⟨?_, ?_⟩ <;> (rw [hbt.cell (by simp; omega)]; assumption))
      | (go_split_ands; refine ⟨?_, ?_⟩ <;> (rw [hbl.cell (by have := hbt.size; simp at this ⊢; omega)]; assumption))
      | (refine ⟨?_, ?_⟩ <;> (rw [World.cell?_alloc_past _ _ _ (by assumption)]; assumption))
      | (refine ⟨?_, ?_⟩ <;> (rw [cell_set3 (by assumption)]; assumption))
      | (go_light; go_keep; done))
    (first
      | (go_at_call 11; refine (toks_calls (B := B) ?_ hlen hl).mono ?_; (first | exact Hown.out | exact Hown.out.alloc _); rintro e w14 ⟨g', rfl, hge, hbt, hrow⟩; have nB4 : B < w14.heap.size := (by have := hbt.size; simp at this; omega); have hs14 : w13.heap.size < w14.heap.size := (by have h7 := hrow.lt; simp at hge; omega); obtain ⟨bc4, bf4⟩ := bcell hbt; simp only [World.size_drew] at bc4 bf4)
      | (go_at_call 12; refine (HL'.out _ _ ?_).mono ?_; (first | exact hrow | exact hrow.alloc _); rintro e w15 ⟨rfl, hbl⟩; have nB5 : B < w15.heap.size := (by have h5 := hbl.size; have h6 := hbt.size; simp at h5 h6; omega); have k50 : w15.cell? ⟨B, 0, none⟩ = some (.string text) := (by go_split_ands; rw [hbl.cell (by have := hbt.size; simp at this ⊢; omega)]; assumption); have k51 : w15.cell? ⟨B, 1, none⟩ = some (.slice (some ⟨g, 0, none⟩) ts.length cap) := (by go_split_ands; rw [hbl.cell (by have := hbt.size; simp at this ⊢; omega)]; assumption); obtain ⟨bc5, bf5⟩ := bcell hbl))
  all_goals
    have hq1 : ((cWant sc nm q sB).toList == want.toList) = true := by rw [HW.out]; simp
    go_wp2
    go_ret
    rw [HBB.out]
    refine ⟨rfl, ?_⟩
  · exact (((hb.drew).trans (hbt.mono (by simp; omega))).trans (hbl.mono (by omega))).alloc (by omega) _
  · exact (((((((hb.drew).trans (hbt.mono (by simp; omega))).alloc (by omega) _).trans (hbl.mono (by simp; omega))).setCell (by simp; omega) _).setCell (by simp; omega) _).setCell (by simp; omega) _)
  · exact (((((((hb.alloc (by omega) _).drew).trans (hbt.mono (by simp; omega))).trans (hbl.mono (by omega))).setCell (by simp; omega) _).setCell (by simp; omega) _).setCell (by simp; omega) _)

set_option maxHeartbeats 400000 in
theorem top_long (sc nm : ByteArray) (q gl tp ie : Bool) (w : World) (h1 : sc.size ≤ maxLen) (h2 : nm.size ≤ maxLen) (h : 262144 < sc.size ∨ 262144 < nm.size) :
    Calls Tryf.prog 3 #[.string sc, .string nm, .bool q, .bool gl, .bool tp, .bool ie] w fun e w' => e = .returned (.bool true) ∧ Below w.heap.size w w' := by
  have HB := bytes5 sc nm q gl tp ie w h1 h2
  unfold maxLen at h1 h2
  by_cases hs : 262144 < sc.size
  · clear h
    go_enter Tryf.func3, Tryf.ntmps3
    go_wp2_with fail
    refine HB.mono ?_
    rintro e w' ⟨⟨b, rfl⟩, rfl⟩
    clear HB
    cases b
    · go_wp2
      go_ret
      exact ⟨rfl, Below.refl _ _⟩
    · go_wp2
      go_ret
      exact ⟨rfl, Below.refl _ _⟩
  · have hn : 262144 < nm.size := by omega
    clear h
    go_enter Tryf.func3, Tryf.ntmps3
    go_wp2_with fail
    refine HB.mono ?_
    rintro e w' ⟨⟨b, rfl⟩, rfl⟩
    clear HB
    cases b
    · go_wp2
      go_ret
      exact ⟨rfl, Below.refl _ _⟩
    · go_wp2
      go_ret
      exact ⟨rfl, Below.refl _ _⟩

set_option maxHeartbeats 400000 in
theorem top_if (sc nm : ByteArray) (gl tp sB : Bool) (w : World) (h1 : sc.size ≤ 262144) (h2 : nm.size ≤ 262144) (hsB : sc.toList.isEmpty = !sB) (hf : ((bif sB then sc else nm).toList == [105, 102]) = true) :
    Calls Tryf.prog 3 #[.string sc, .string nm, .bool false, .bool gl, .bool tp, .bool false] w fun e w' => e = .returned (.bool true) ∧ Below w.heap.size w w' := by
  have HB := bytes5 sc nm false gl tp false w (by unfold maxLen; omega) (by unfold maxLen; omega)
  cases sB
  · have hf' : (nm.toList == [105, 102]) = true := hf
    clear hf
    go_enter Tryf.func3, Tryf.ntmps3
    go_wp2_with fail
    refine HB.mono ?_
    rintro e w' ⟨⟨b, rfl⟩, rfl⟩
    clear HB
    cases b
    · go_wp2
      go_ret
      exact ⟨rfl, Below.refl _ _⟩
    · go_wp2
      go_ret
      exact ⟨rfl, Below.refl _ _⟩
  · have hf' : (sc.toList == [105, 102]) = true := hf
    clear hf
    go_enter Tryf.func3, Tryf.ntmps3
    go_wp2_with fail
    refine HB.mono ?_
    rintro e w' ⟨⟨b, rfl⟩, rfl⟩
    clear HB
    cases b
    · go_wp2
      go_ret
      exact ⟨rfl, Below.refl _ _⟩
    · go_wp2
      go_ret
      exact ⟨rfl, Below.refl _ _⟩

/-- THE WALK, whatever the input. -/
theorem top_any (sc nm : ByteArray) (q gl tp ie : Bool) (w : World) (h1 : sc.size ≤ maxLen) (h2 : nm.size ≤ maxLen) :
    Calls Tryf.prog 3 #[.string sc, .string nm, .bool q, .bool gl, .bool tp, .bool ie] w fun e w' => e = .returned (.bool true) ∧ Below w.heap.size w w' := by
  by_cases h : 262144 < sc.size ∨ 262144 < nm.size
  · exact top_long sc nm q gl tp ie w h1 h2 h
  · have hsB : sc.toList.isEmpty = !(!sc.toList.isEmpty) := by simp
    cases hx : (!q && !ie && (bif (!sc.toList.isEmpty) then sc else nm).toList == kIf.toList)
    · exact top_walk sc nm q gl tp ie _ w (by omega) (by omega) hsB hx
    · rw [kIf_toList] at hx
      simp only [Bool.and_eq_true, Bool.not_eq_true'] at hx
      obtain ⟨⟨rfl, rfl⟩, hf⟩ := hx
      exact top_if sc nm gl tp _ w (by omega) (by omega) hsB hf

end Go.Proofs.Qxb6609453aFmt

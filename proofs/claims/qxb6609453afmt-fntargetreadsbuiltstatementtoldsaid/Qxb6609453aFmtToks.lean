/-
  zzToTokens: the tokens handed over one to one.
-/
import Derived.Test.Qxb6609453aFmtPut
import Derived.Deep.OwnRows
import Derived.Deep.LoopGhost
namespace Go.Proofs.Qxb6609453aFmt
open Go.RowKit
attribute [local go_sem ↓] Go.wp_at_zero Go.wp_at_succ

theorem info52 : (Tryf.prog.info? 52).map (fun i => (i.zero, i.size, i.bytes)) = some (some (.agg #[.int .i64 0, .string ⟨#[]⟩, .int .i64 0, .int .i64 0]), 4, 40) := by kernel_rfl

/-- Cell i of a row of tokens. -/
def tkAt (ts : List Tk) (i : Nat) : Value := (tkCells ts).getD i (.bool false)

theorem tkCells_length (ts : List Tk) : (tkCells ts).length = ts.length * 4 := by
  induction ts with
  | nil => rfl
  | cons t ts ih => 
    show (t.cells ++ tkCells ts).length = _
    rw [List.length_append, ih, List.length_cons]
    simp [Tk.cells]; omega

theorem tkAt_shift (t : Tk) (ts : List Tk) (i : Nat) : tkAt (t :: ts) (i + 4) = tkAt ts i := by
  show (t.cells ++ tkCells ts).getD (i + 4) _ = (tkCells ts).getD i _
  simp [Tk.cells]

theorem tkAt_cells : ∀ (ts : List Tk) (k : Nat) (h : k < ts.length),
    tkAt ts (k * 4) = .int .i64 ts[k].kind ∧ tkAt ts (k * 4 + 1) = .string ts[k].val ∧ tkAt ts (k * 4 + 2) = .int .i64 ts[k].pos ∧ tkAt ts (k * 4 + 3) = .int .i64 ts[k].fin
  | [], _, h => by simp at h
  | t :: ts, 0, _ => ⟨rfl, rfl, rfl, rfl⟩
  | t :: ts, k + 1, h => by
    have ih := tkAt_cells ts k (by simpa using h)
    refine ⟨?_, ?_, ?_, ?_⟩
    · rw [show (k + 1) * 4 = k * 4 + 4 by omega, tkAt_shift]; exact ih.1
    · rw [show (k + 1) * 4 + 1 = (k * 4 + 1) + 4 by omega, tkAt_shift]; exact ih.2.1
    · rw [show (k + 1) * 4 + 2 = (k * 4 + 2) + 4 by omega, tkAt_shift]; exact ih.2.2.1
    · rw [show (k + 1) * 4 + 3 = (k * 4 + 3) + 4 by omega, tkAt_shift]; exact ih.2.2.2

/-- What an owned row of tokens holds, cell by cell. -/
theorem owned_cells {w : World} {B g cap : Nat} {ts : List Tk} (h : w.ownsRow B 49 4 (.slice (some ⟨g, 0, none⟩) ts.length cap) ts.length (tkCells ts)) (i : Nat) (hi : i < ts.length * 4) :
    w.cell? ⟨g, i, none⟩ = some (tkAt ts i) := by
  rcases h.2 with ⟨h, _⟩ | ⟨g', cap', cur, hv, _, hg, _, _, _, hx⟩
  · simp at h
  · simp only [Value.slice.injEq, Option.some.injEq, Addr.mk.injEq] at hv
    obtain ⟨⟨rfl, _⟩, _, _⟩ := hv
    have hl := tkCells_length ts
    have e : (tkCells ts)[i]? = cur.toList[i]? := by
      rw [← hx, List.getElem?_take, if_pos hi]
    simp only [World.cell?, hg, Option.isSome_none]
    simp only [tkAt, List.getD_eq_getElem?_getD]
    rw [List.getElem?_eq_getElem (by omega)] at e ⊢
    simp
    rw [← Array.getElem?_toList, ← e]

/-- One token stored. -/
theorem row_step {wr : World} {H n j : Nat} {f F : Nat → Value} {a b c d : Value} (hf : wr.rowIs H 52 (n * 4) f) (hfF : ∀ i, i < j * 4 → f i = F i)
    (ea : F (j * 4) = a) (eb : F (j * 4 + 1) = b) (ec : F (j * 4 + 2) = c) (ed : F (j * 4 + 3) = d) :
    ∃ f', ((((wr.setCell ⟨H, j * 4, none⟩ a).setCell ⟨H, j * 4 + 1, none⟩ b).setCell ⟨H, j * 4 + 2, none⟩ c).setCell ⟨H, j * 4 + 3, none⟩ d).rowIs H 52 (n * 4) f' ∧ ∀ i, i < (j + 1) * 4 → f' i = F i := by
  refine ⟨_, (((hf.set (j * 4) a).set (j * 4 + 1) b).set (j * 4 + 2) c).set (j * 4 + 3) d, fun i hi => ?_⟩
  show (if i = j * 4 + 3 then d else if i = j * 4 + 2 then c else if i = j * 4 + 1 then b else if i = j * 4 then a else f i) = F i
  split
  · subst_vars; rfl
  · split
    · subst_vars; rfl
    · split
      · subst_vars; rfl
      · split
        · subst_vars; rfl
        · exact hfF i (by omega)

set_option maxRecDepth 100000 in
set_option maxHeartbeats 1000000 in
theorem toks_core (g n cap : Nat) (F : Nat → Value) (w : World) (hn0 : 0 < n) (hn : n ≤ 1000)
    (hc : ∀ i, i < n * 4 → w.cell? ⟨g, i, none⟩ = some (F i)) 
    (hK : ∀ k, k < n → ∃ a b c d, F (k * 4) = .int .i64 a ∧ F (k * 4 + 1) = .string b ∧ F (k * 4 + 2) = .int .i64 c ∧ F (k * 4 + 3) = .int .i64 d) :
    Calls Tryf.prog 11 #[.slice (some ⟨g, 0, none⟩) n cap] w fun e w' =>
      ∃ g', e = .returned (.slice (some ⟨g', 0, none⟩) n n) ∧ w.heap.size ≤ g' ∧ Below w.heap.size w w' ∧ w'.rowIs g' 52 (n * 4) F := by
  obtain ⟨i0, hi0, hz0, hz1, hz2⟩ := info_parts info52
  have hg : g < w.heap.size := World.block_lt_of_cell? w _ (hc 0 (by omega))
  have hq := fun (W : World) => Lib.run_eql_slice_nil (P := Tryf.prog) W 23 49 (some ⟨g, 0, none⟩) n cap 0 0 Tryf.underlying23
  have hmk := fun (w : World) => run_make (P := Tryf.prog) w 34 52 i0 _ Tryf.underlying34 hi0 hz0 .i64 .i64 n n (by omega) (Int.le_refl _) (by rw [hz2]; omega) (by omega)
  simp only [Int.toNat_natCast, hz1] at hmk
  generalize (Value.agg #[.int .i64 0, .string ⟨#[]⟩, .int .i64 0, .int .i64 0]).cells = zc at hmk
  have hrow : (w.alloc (Obj.cells (madeCells zc (n * 4)) 52)).rowIs w.heap.size 52 (n * 4) (fun i => (madeCells zc (n * 4)).getD i (.bool false)) := by
    have := World.rowIs_alloc w (madeCells zc (n * 4)) 52 (fun i => (madeCells zc (n * 4)).getD i (.bool false)) (fun i hi => by simp [hi])
    rwa [size_madeCells] at this
  have hb1 : Below w.heap.size w (w.alloc (Obj.cells (madeCells zc (n * 4)) 52)) := (Below.refl _ _).alloc (Nat.le_refl _) _
  go_enter Tryf.func11, Tryf.ntmps11
  go_wp2_with fail
  generalize w.alloc (Obj.cells (madeCells zc (n * 4)) 52) = w1 at *
  generalize hH : w.heap.size = H at *
  have HH : Hid (w.heap.size = H) := hH
  clear hH
  have HK : Hid (∀ k, k < n → ∃ a b c d, F (k * 4) = .int .i64 a ∧ F (k * 4 + 1) = .string b ∧ F (k * 4 + 2) = .int .i64 c ∧ F (k * 4 + 3) = .int .i64 d) := hK
  have HC : Hid (∀ i, i < n * 4 → w.cell? ⟨g, i, none⟩ = some (F i)) := hc
  clear hK hc hmk hq hi0 hz0
  go_loopw [4] (fun k wr => ∃ j : Nat, j ≤ n ∧ k = .int .i64 j ∧ Below H w wr ∧ ∃ f, wr.rowIs H 52 (n * 4) f ∧ ∀ i, i < j * 4 → f i = F i) (fun k _ => n - (intOf k).toNat)
  case atStart => exact ⟨0, Nat.zero_le _, rfl, hb1, _, hrow, fun i hi => by omega⟩
  case round =>
    obtain ⟨j, hj, rfl, hb, f, hf, hfF⟩ := hrel
    clear hb1 hrow w1
    by_cases hlt : j < n
    · obtain ⟨a, b, c, d, ea, eb, ec, ed⟩ := HK.out j hlt
      have ca : wr.cell? ⟨g, j * 4, none⟩ = some (.int .i64 a) := by rw [hb.cell (by exact hg), HC.out _ (by omega), ea]
      have cb : wr.cell? ⟨g, j * 4 + 1, none⟩ = some (.string b) := by rw [hb.cell (by exact hg), HC.out _ (by omega), eb]
      have cc : wr.cell? ⟨g, j * 4 + 2, none⟩ = some (.int .i64 c) := by rw [hb.cell (by exact hg), HC.out _ (by omega), ec]
      have cd : wr.cell? ⟨g, j * 4 + 3, none⟩ = some (.int .i64 d) := by rw [hb.cell (by exact hg), HC.out _ (by omega), ed]
      have x0 := hf.cell (i := j * 4) (by omega)
      have x1 := hf.cell (i := j * 4 + 1) (by omega)
      have x2 := hf.cell (i := j * 4 + 2) (by omega)
      have x3 := hf.cell (i := j * 4 + 3) (by omega)
      have y0 := hf.frozen (j * 4)
      have y1 := hf.frozen (j * 4 + 1)
      have y2 := hf.frozen (j * 4 + 2)
      have y3 := hf.frozen (j * 4 + 3)
      have hgH : g ≠ H := by omega
      have hHg : H ≠ g := by omega
      have j0 : (0 : Int) ≤ (j : Int) := Int.natCast_nonneg _
      have j1 : (j : Int) < (n : Int) := by omega
      have HE : Hid (F (j * 4) = .int .i64 a ∧ F (j * 4 + 1) = .string b ∧ F (j * 4 + 2) = .int .i64 c ∧ F (j * 4 + 3) = .int .i64 d) := ⟨ea, eb, ec, ed⟩
      clear ea eb ec ed
      go_wp2_with fail
      go_region_held3 (fun w' => w'.cell? ⟨g, j * 4, none⟩ = some (.int .i64 a) ∧ w'.cell? ⟨g, j * 4 + 1, none⟩ = some (.string b) ∧ w'.cell? ⟨g, j * 4 + 2, none⟩ = some (.int .i64 c) ∧ w'.cell? ⟨g, j * 4 + 3, none⟩ = some (.int .i64 d))
        (go_keep) (fail)
      go_wp2
      obtain ⟨ea, eb, ec, ed⟩ := HE.out
      obtain ⟨f', hf', hF'⟩ := row_step hf.drew hfF ea eb ec ed
      go_roundw
      case rel => exact ⟨j + 1, by omega, by go_num, ((((hb.drew).setCell (by simp) _).setCell (by simp) _).setCell (by simp) _).setCell (by simp) _, f', hf', hF'⟩
      case measure => simp [intOf]; omega
    · go_wp2
      go_ret
      have e : j = n := by omega
      subst e
      rw [HH.out]
      exact ⟨H, rfl, Nat.le_refl _, hb, hf.congr hfF⟩

/-- zzToTokens, of a row that the builder owns. -/
theorem toks_calls {B g cap : Nat} {ts : List Tk} {w : World} (h : w.ownsRow B 49 4 (.slice (some ⟨g, 0, none⟩) ts.length cap) ts.length (tkCells ts)) (h0 : 0 < ts.length) (hn : ts.length ≤ 1000) :
    Calls Tryf.prog 11 #[.slice (some ⟨g, 0, none⟩) ts.length cap] w fun e w' =>
      ∃ g', e = .returned (.slice (some ⟨g', 0, none⟩) ts.length ts.length) ∧ w.heap.size ≤ g' ∧ Below w.heap.size w w' ∧ w'.rowIs g' 52 (ts.length * 4) (tkAt ts) :=
  toks_core g ts.length cap (tkAt ts) w h0 hn (owned_cells h) fun k hk => ⟨_, _, _, _, tkAt_cells ts k hk⟩

end Go.Proofs.Qxb6609453aFmt

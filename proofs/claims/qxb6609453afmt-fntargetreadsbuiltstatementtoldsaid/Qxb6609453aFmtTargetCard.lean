/-
  THE TOLD AND TIED CARD OF FnTargetReadsBuiltStatement.
-/
import Derived.Test.Qxb6609453aFmtCards
import Derived.Test.Qxb6609453aFmtTie
import Derived.Test.Qxb6609453aFmtTAny
import Derived.ProofKit
import Derived.OpenShut
import Derived.ShutString
import Derived.LaidMore
import Derived.Deep.DeepWitnessRef
import Derived.SevenTiedAt
import Derived.SevenToldRow
import Derived.Stop.JoinedTold
namespace Go.Proofs.Qxb6609453aFmt.target
open Go.ChangeShapes Go.WideShapes Go.ChangeAt Go.WideMaps Go.WideElems Go.RowKit
open Go.ChangeMaps (open_string shut_string)
open Go.Extern.Stop Go.Stop Go.Extern

theorem own : ownKnob Tryf.prog.godebug = none := by kernel_rfl
theorem gWords : Tryf.prog.globalNamed "example.com/cellmesh/cellmesh/parser.clauseWords" = some 0 := by kernel_rfl
theorem tWords : (Tryf.prog.globals[0]?).map (·.type) = some 74 := by kernel_rfl
theorem law : KeyLaw Tryf.prog 9 := string_law Tryf.underlying9

/-- The door's own heap meets the condition: three closed facts. -/
theorem door_met (os : Os) (args : Array Value) : laidMetH Tryf.prog Rows.fnTargetReadsBuiltStatementRow.laid ((World.doorLaid Tryf.prog 400 os).forCall (fun _ _ => 0) ⟨#[], args, []⟩).memory :=
  laidMetH_of_parts3 (fuel := 8) (laidMet_of_run' 8 (by kernel_rfl) (by kernel_rfl)) (by kernel_rfl) (by kernel_rfl)

/-- WHAT THE CONDITION GIVES THE WALK: the table's variable, its map, the two look-ups. -/
theorem of_laid {W : World} (h : laidMetH Tryf.prog Rows.fnTargetReadsBuiltStatementRow.laid W) : ∃ bm o, GM W bm o ∧ Look bm o kSet false ∧ Look bm o kWhere true := by
  rw [MakeChecks.laidMetH_plain _ _ _ (by kernel_rfl)] at h
  obtain ⟨ps, ⟨g0, t0, cs0, f0, p0, q0, hg0, ht0, hv0, hd0, _, _⟩, _, _⟩ := h
  obtain rfl := Option.some.inj (gWords.symm.trans hg0)
  obtain rfl := Option.some.inj (tWords.symm.trans ht0)
  have zero : ∀ W : World, (zeroValue 4).run Tryf.prog W = .ok (.bool false) W := fun W => by kernel_rfl
  rcases open_map Tryf.underlying74 hd0 with ⟨_, hx⟩ | ⟨bm, es, clock, m, rfl, hcs, hb, _, F, hx⟩
  · simp [Rows.laid_example_com_cellmesh_cellmesh_parser_clauseWords] at hx
  simp only [Prod.mk.injEq] at hx
  have hcell : W.cell? ⟨0, 0, none⟩ = some (.map (some bm)) := by
    have := World.var?_cell hg0 hv0 0
    rw [Array.eq_one_of_toList hcs] at this
    simpa using this
  refine ⟨bm, .map es clock, ⟨hcell, hb⟩, fun w hw => ?_, fun w hw => ?_⟩
  · rcases fit_lookup (w := w) law Tryf.underlying74 (zero w) hw F (keyOf_string_mk (s := kSet) Tryf.underlying9 (by decide)) with ⟨hrun, _⟩ | ⟨v, y, hrun, hRv, hat, _⟩
    · exact hrun
    · obtain ⟨r, rfl, rfl⟩ := elemAt_bool Tryf.underlying4 hRv
      have := hat .nil
      rw [← hx.1] at this
      have e2 : (Rows.laid_example_com_cellmesh_cellmesh_parser_clauseWords (H := Unit)).atKey (.string kSet.data.toList) .nil = .nil := rfl
      rw [e2] at this
      cases this
  · rcases fit_lookup (w := w) law Tryf.underlying74 (zero w) hw F (keyOf_string_mk (s := kWhere) Tryf.underlying9 (by decide)) with ⟨_, hat⟩ | ⟨v, y, hrun, hRv, hat, _⟩
    · have := hat .nil
      rw [← hx.1] at this
      exact absurd this (by intro e; cases e)
    · obtain ⟨r, rfl, rfl⟩ := elemAt_bool Tryf.underlying4 hRv
      have := hat .nil
      rw [← hx.1] at this
      have e2 : (Rows.laid_example_com_cellmesh_cellmesh_parser_clauseWords (H := Unit)).atKey (.string kWhere.data.toList) .nil = .lit (.bool true) := rfl
      rw [e2] at this
      cases this
      exact hrun

theorem laidOut : laidOutB Tryf.prog = true := by kernel_rfl

theorem witness_row (os : Os) {H : Type} (enc : TypeId × Value → H) :
    (OpenSpec.ofChange Rows.fnTargetReadsBuiltStatementSpec).preRow enc Tryf.prog Tryf.f4 [] false Rows.fnTargetReadsBuiltStatementRow.laid
      ((World.doorLaid Tryf.prog 400 os).forCall (fun _ _ => 0) ⟨#[], #[.int .i64 0, .string ⟨#[]⟩, .string ⟨#[]⟩, .string ⟨#[]⟩, .bool false, .bool false, .bool false], []⟩).memory #[.int .i64 0, .string ⟨#[]⟩, .string ⟨#[]⟩, .string ⟨#[]⟩, .bool false, .bool false, .bool false] :=
  OpenSpec.preRow_of_B rfl 8 (by kernel_rfl) (by kernel_rfl) (door_met os _)

set_option maxRecDepth 100000 in
theorem lifted (os : Os) (started : os.Started) (H : Type) (enc : TypeId × Value → H) :
    ReturnsInTold none {} Tryf.checked os 4 .any Input.okWide ((OpenSpec.ofChange Rows.fnTargetReadsBuiltStatementSpec).preRow enc Tryf.prog Tryf.f4 [] false Rows.fnTargetReadsBuiltStatementRow.laid)
      (fun F => ((OpenSpec.ofChange Rows.fnTargetReadsBuiltStatementSpec).at F).post enc Tryf.prog Tryf.f4 false true false false) (aloneAtReturn Tryf.prog) nothingAlways := by
  refine returnsInTold_of_row (C := Tryf.checked) (s := OpenSpec.ofChange Rows.fnTargetReadsBuiltStatementSpec) (by kernel_rfl) own started (by kernel_rfl) Tryf.func4
    (OpenSpec.witness_stopped_atRef (enc := enc) (C := Tryf.checked) false (World.doorLaid Tryf.prog 400 os) #[.int .i64 0, .string ⟨#[]⟩, .string ⟨#[]⟩, .string ⟨#[]⟩, .bool false, .bool false, .bool false] rfl (by kernel_rfl) (by kernel_rfl) (by kernel_rfl) (witness_row os enc)) ?_
  intro F W base args ds gs before _ hF hval0 hW _ _ _ hL _
  have hval : ∀ (j : Nat) t v, Tryf.f4.params[j]? = some t → args[j]? = some v → Value.okWide Tryf.prog W .any base t v := hval0
  have hW' := hW
  obtain ⟨p, q, hA0, hV, rfl, hfz, hnd⟩ := hW
  have hA : DataW.TrodAll enc Tryf.prog W 0 (fun _ => true) true Tryf.f4.params.toList args.toList ds p := hA0
  rw [Tryf.params4] at hA hval
  obtain ⟨v0, vs0, d0, ds0, p0, q0, hargs, rfl, rfl, h0, r0⟩ := trodAll_cons hA
  obtain ⟨v1, vs1, d1, ds1, p1, q1, rfl, rfl, rfl, h1, r1⟩ := trodAll_cons r0
  obtain ⟨v2, vs2, d2, ds2, p2, q2, rfl, rfl, rfl, h2, r2⟩ := trodAll_cons r1
  obtain ⟨v3, vs3, d3, ds3, p3, q3, rfl, rfl, rfl, h3, r3⟩ := trodAll_cons r2
  obtain ⟨v4, vs4, d4, ds4, p4, q4, rfl, rfl, rfl, h4, r4⟩ := trodAll_cons r3
  obtain ⟨v5, vs5, d5, ds5, p5, q5, rfl, rfl, rfl, h5, r5⟩ := trodAll_cons r4
  obtain ⟨v6, vs6, d6, ds6, p6, q6, rfl, rfl, rfl, h6, r6⟩ := trodAll_cons r5
  obtain ⟨rfl, rfl, rfl⟩ := trodAll_nil r6
  obtain rfl : args = #[v0, v1, v2, v3, v4, v5, v6] := by cases args; simp_all
  have hV1 : DataW.TrodVars enc Tryf.prog W (fun _ => true) ["example.com/cellmesh/cellmesh/parser.clauseWords"] gs q := hV
  obtain ⟨g, t, cs, fuel, gd, gp, rfl, hg, ht, hv, hd, rfl⟩ := trodVars_one hV1
  obtain rfl := Option.some.inj (gWords.symm.trans hg)
  obtain rfl := Option.some.inj (tWords.symm.trans ht)
  obtain ⟨a0, rfl, rfl, rfl, w0⟩ := open_int Tryf.underlying3 (hval 0 3 v0 rfl rfl) h0
  obtain ⟨a1, rfl, rfl, rfl, w1⟩ := open_string Tryf.underlying9 (hval 1 9 v1 rfl rfl) h1
  obtain ⟨a2, rfl, rfl, rfl, w2⟩ := open_string Tryf.underlying9 (hval 2 9 v2 rfl rfl) h2
  obtain ⟨a3, rfl, rfl, rfl, w3⟩ := open_string Tryf.underlying9 (hval 3 9 v3 rfl rfl) h3
  obtain ⟨a4, rfl, rfl, rfl⟩ := open_bool Tryf.underlying4 (hval 4 4 v4 rfl rfl) h4
  obtain ⟨a5, rfl, rfl, rfl⟩ := open_bool Tryf.underlying4 (hval 5 4 v5 rfl rfl) h5
  obtain ⟨a6, rfl, rfl, rfl⟩ := open_bool Tryf.underlying4 (hval 6 4 v6 rfl rfl) h6
  obtain ⟨bm, o, hgm, hl1, hl2⟩ := of_laid hL
  clear hA0 hval0
  -- the variable is one cell: a map
  have hcs : cs = #[.map (some bm)] := by
    have hc := World.var?_cell hg hv 0
    rw [hgm.c] at hc
    rcases open_map Tryf.underlying74 hd with ⟨e, _⟩ | ⟨b', _, _, _, _, e, _⟩
    · rw [Array.eq_one_of_toList e] at hc
      simp at hc
    · rw [Array.eq_one_of_toList e] at hc ⊢
      simp at hc
      rw [hc]
  subst hcs
  have hlt : ∀ x ∈ gp, x.block < W.heap.size := fun x hx => by
    have := hW'.lt x (by simp [hx])
    simpa using this
  have hT : DataW.Trod enc Tryf.prog W 0 (fun _ => true) true 74 (.map (some bm)) gd gp := ⟨fuel, hd⟩
  refine (ttop_any a0 a1 a2 a3 a4 a5 a6 W w1 w2 w3 hgm hl1 hl2).mono fun e W' ⟨he, hb⟩ => ?_
  subst he
  obtain ⟨fuel', hd'⟩ := Below.trod laidOut (by kernel_rfl) (of_decide_eq_true (by kernel_rfl)) hT hb hlt
  refine ⟨_, rfl, _, _, _, [], [], MemPlace.row ⟨0, 0, none⟩ 1 ++ gp, hW', ?_, ?_, ?_, hb.frame _, fun h => by cases h⟩
  · exact trodAll_mk1 (shut_bool Tryf.underlying4 _)
  · exact trodAll_cons_mk (shut_int Tryf.underlying3 w0) (trodAll_cons_mk (shut_string Tryf.underlying9 w1) (trodAll_cons_mk (shut_string Tryf.underlying9 w2) (trodAll_cons_mk (shut_string Tryf.underlying9 w3) (trodAll_cons_mk (shut_bool Tryf.underlying4 _) (trodAll_cons_mk (shut_bool Tryf.underlying4 _) (trodAll_cons_mk (shut_bool Tryf.underlying4 _) trodAll_mk0))))))
  · exact trodVars_mk1 (cs := #[.map (some bm)]) hg ht (var?_below hb hg hgm.lt.1 hv) hd'

theorem stops : Tryf.pinned.checked.prog.stops = ["fmt.errorf"] := by kernel_rfl
theorem stopKnobs : Tryf.pinned.checked.prog.stopKnobs = [] := by kernel_rfl
theorem quiet (os : Os) : Stop.quiet Tryf.pinned.checked.prog os := by
  intro k hk
  rw [stopKnobs] at hk
  cases hk

theorem card : Rows.FnTargetReadsBuiltStatementToldSaid :=
  Claim7.holds_of_told_tied_any_at .later (c := Rows.fnTargetReadsBuiltStatementRow) 4 Tryf.f4 "fmt.errorf" [] [] _ _ _ [.mapped] true (by kernel_rfl) rfl rfl rfl laidOut (by kernel_rfl) rfl ⟨rfl, rfl, rfl, rfl, rfl, rfl, rfl⟩ rfl rfl (by kernel_rfl) (by kernel_rfl) Tryf.func4 (by kernel_rfl)
    (of_decide_eq_true (by kernel_rfl)) (by unfold Func.isWrapper; first | (rw [if_pos (by decide +kernel)]; kernel_rfl) | (rw [if_neg (by decide +kernel)]; exact ⟨rfl, rfl⟩)) stops.symm rfl stopKnobs.symm (by kernel_rfl)
    (by kernel_rfl) (by kernel_rfl) (by kernel_rfl) (by kernel_rfl) (by kernel_rfl) (by kernel_rfl) (by kernel_rfl) (by kernel_rfl) (by kernel_rfl) rfl (by kernel_rfl) rfl rfl
    rfl rfl
    rfl (by kernel_rfl) (by kernel_rfl) (by kernel_rfl) (by decide) (by kernel_rfl) fnTargetReadsBuiltStatement_row_tie
    (OpenClaim.moreEntering_of (by kernel_rfl) (by kernel_rfl) (by kernel_rfl) (by kernel_rfl) (by kernel_rfl) (by kernel_rfl) (by kernel_rfl) (by kernel_rfl) (by kernel_rfl) (by kernel_rfl))
    ⟨_, WideRow.started_initial, quiet _⟩
    (fun os started _ H enc _ => lifted os started H enc)

end Go.Proofs.Qxb6609453aFmt.target

/-
  The plain laws, verb by verb.
-/
import Derived.Test.Qxb6609453aFmtTPlain
namespace Go.Proofs.Qxb6609453aFmt
open Go.RowKit

/-- What target() reads out of these tokens, whatever the reader's place in memory. -/
def TgtTo (ts : List Tk) (S N : ByteArray) (P E : Int) (al : Bool) (k : Nat) : Prop :=
  ∀ (g bm : Nat) (o : Obj), Look bm o kSet false → Look bm o kWhere true → ∀ (pb : Nat) (w : World), Wds w pb g ts 0 → GM w bm o → pb ≠ 0 → pb ≠ bm → Calls Tryf.prog 17 #[.pointer (some ⟨pb, 0, none⟩)] w fun e w' =>
    e = .returned (.tuple #[.agg #[.string S, .string N, .int .i64 P, .int .i64 E, .bool al], .bool true]) ∧ w.grownBy w' (some pb) ∧ Wds w' pb g ts k

section
variable (wc : Bool)
def p0 : St := ((t1 wc).word kInsert).word kInto
def p1 : St := ((t1 wc).word kReplace).word kInto
def p2 : St := (t1 wc).word kUpdate
def p3 : St := ((t1 wc).word kDelete).word kFrom
def p4 (ie : Bool) : St := bif ie then ((((t1 wc).word kDrop).word kTable).word kIf).word kExists else ((t1 wc).word kDrop).word kTable
def p5 : St := ((t1 wc).word kAlter).word kTable
end
/-- The tails. -/
def z01 (s : St) : St := (((s.word kValues).mark kLpar).put 3 kOne kOne).mark kRpar
def z2 (s : St) : St := (((s.word kSet).word kX).mark kEq).put 3 kOne kOne
def z3 (s : St) : St := (((s.word kWhere).word kX).mark kEq).put 3 kOne kOne
def z5 (s : St) : St := (((s.word kAdd).word kColumn).word kC).word kInt

theorem onto_z01 (s : St) : Onto (s.word kValues) (z01 s) := (((Onto.refl _).mark _).put _ _ _).mark _
theorem onto_z2 (s : St) : Onto (s.word kSet) (z2 s) := (((Onto.refl _).word _).mark _).put _ _ _
theorem onto_z3 (s : St) : Onto (s.word kWhere) (z3 s) := (((Onto.refl _).word _).mark _).put _ _ _
theorem onto_z5 (s : St) : Onto (s.word kAdd) (z5 s) := (((Onto.refl _).word _).word _).word _

/-- What stands behind the name: AS, or the tail's first word. -/
theorem behind {s F : St} {al v : ByteArray} {q aB : Bool} (h : Onto ((alSt s al q aB).word v) F) : WordAt F.ts s.ts.length (bif aB then kAs else v) := by
  cases aB
  · exact wordAt_word h
  · exact wordAt_word ((((Onto.refl _).named _ _).word _ : Onto (s.word kAs) ((alSt s al q true).word v)).trans h)
theorem behind_alias {s F : St} {al v : ByteArray} {q : Bool} (h : Onto ((alSt s al q true).word v) F) : ∃ hi : s.ts.length + 1 < F.ts.length, F.ts[s.ts.length + 1].kind = 0 ∨ F.ts[s.ts.length + 1].kind = 1 := by
  have o : Onto ((s.word kAs).named al q) F := ((Onto.refl _).word _ : Onto ((s.word kAs).named al q) ((alSt s al q true).word v)).trans h
  have g := o.at (put_at (s.word kAs) (nkind q) al (spell al q))
  rw [word_len] at g
  obtain ⟨hi, e⟩ := List.getElem?_eq_some_iff.1 g
  exact ⟨hi, by rw [e]; exact nkind_name q⟩
theorem al_len (s : St) (al : ByteArray) (q aB : Bool) : (alSt s al q aB).ts.length = bif aB then s.ts.length + 2 else s.ts.length := by
  cases aB
  · rfl
  · show ((s.word kAs).named al q).ts.length = _
    rw [named_len, word_len]; rfl

section
variable (sc nm al : ByteArray) (q sB aB wc : Bool)

theorem law0 : ∃ P E : Nat, TgtTo (z01 (alSt (nameSt (p0 wc) sc nm q sB) al q aB)).ts (bif sB then sc else ⟨#[]⟩) nm P E aB (alSt (nameSt (p0 wc) sc nm q sB) al q aB).ts.length ∧
    P ≤ E ∧ E ≤ (z01 (alSt (nameSt (p0 wc) sc nm q sB) al q aB)).text.size ∧ (z01 (alSt (nameSt (p0 wc) sc nm q sB) al q aB)).text.extract P E = cWant sc nm q sB := by
  have oz := onto_z01 (alSt (nameSt (p0 wc) sc nm q sB) al q aB)
  have hbe := behind oz
  have on : Onto (nameSt (p0 wc) sc nm q sB) (z01 (alSt (nameSt (p0 wc) sc nm q sB) al q aB)) := ((onto_al _ _ _ _).word _).trans oz
  have op : Onto (p0 wc) _ := (onto_name (p0 wc) sc nm q sB).trans on
  have h1 : WordAt _ (t1 wc).ts.length kInsert := wordAt_word (((Onto.refl _).word _ : Onto ((t1 wc).word kInsert) (p0 wc)).trans op)
  have h2 : WordAt _ ((t1 wc).word kInsert).ts.length kInto := wordAt_word op
  have ot : Onto (t1 wc) _ := (((Onto.refl _).word _).word _ : Onto (t1 wc) (p0 wc)).trans op
  have lp : (p0 wc).ts.length = (t1 wc).ts.length + 2 := (word_len _ _).trans (by rw [word_len])
  obtain ⟨P, E, hr, hPE, hE, hx⟩ := read_name on (fun _ => (hbe.hit kDot).trans (by cases aB <;> rfl))
  rw [word_len] at h2
  rw [lp] at hr
  refine ⟨P, E, fun g bm o _ _ pb w hw _ _ _ => ?_, hPE, hE, hx⟩
  rw [al_len]
  exact target_insert hw (withTo ot h1 rfl rfl pb g) (h1.next pb g) ((h2.hit kOr).trans rfl) ((h2.hit kInto).trans (by decide)) (hr pb g) ((hbe.hit kAs).trans (by cases aB <;> rfl)) (fun ha => by subst ha; exact behind_alias oz)

theorem law1 : ∃ P E : Nat, TgtTo (z01 (alSt (nameSt (p1 wc) sc nm q sB) al q aB)).ts (bif sB then sc else ⟨#[]⟩) nm P E aB (alSt (nameSt (p1 wc) sc nm q sB) al q aB).ts.length ∧
    P ≤ E ∧ E ≤ (z01 (alSt (nameSt (p1 wc) sc nm q sB) al q aB)).text.size ∧ (z01 (alSt (nameSt (p1 wc) sc nm q sB) al q aB)).text.extract P E = cWant sc nm q sB := by
  have oz := onto_z01 (alSt (nameSt (p1 wc) sc nm q sB) al q aB)
  have hbe := behind oz
  have on : Onto (nameSt (p1 wc) sc nm q sB) (z01 (alSt (nameSt (p1 wc) sc nm q sB) al q aB)) := ((onto_al _ _ _ _).word _).trans oz
  have op : Onto (p1 wc) _ := (onto_name (p1 wc) sc nm q sB).trans on
  have h1 : WordAt _ (t1 wc).ts.length kReplace := wordAt_word (((Onto.refl _).word _ : Onto ((t1 wc).word kReplace) (p1 wc)).trans op)
  have h2 : WordAt _ ((t1 wc).word kReplace).ts.length kInto := wordAt_word op
  have ot : Onto (t1 wc) _ := (((Onto.refl _).word _).word _ : Onto (t1 wc) (p1 wc)).trans op
  have lp : (p1 wc).ts.length = (t1 wc).ts.length + 2 := (word_len _ _).trans (by rw [word_len])
  obtain ⟨P, E, hr, hPE, hE, hx⟩ := read_name on (fun _ => (hbe.hit kDot).trans (by cases aB <;> rfl))
  rw [word_len] at h2
  rw [lp] at hr
  refine ⟨P, E, fun g bm o _ _ pb w hw _ _ _ => ?_, hPE, hE, hx⟩
  rw [al_len]
  exact target_replace hw (withTo ot h1 rfl rfl pb g) (h1.next pb g) ((h2.hit kInto).trans (by decide)) (hr pb g) ((hbe.hit kAs).trans (by cases aB <;> rfl)) (fun ha => by subst ha; exact behind_alias oz)

theorem word_is {ts : List Tk} {i : Nat} {v : ByteArray} (h : WordAt ts i v) : ∃ hi : i < ts.length, ts[i].kind = 0 ∧ ts[i].val = v := by
  obtain ⟨t, h1, h2, h3⟩ := h
  obtain ⟨hi, rfl⟩ := List.getElem?_eq_some_iff.1 h1
  exact ⟨hi, h2, h3⟩

theorem law2 (hne : (!q && (bif sB then sc else nm).toList == kOr.toList) = false) : ∃ P E : Nat, TgtTo (z2 (alSt (nameSt (p2 wc) sc nm q sB) al q aB)).ts (bif sB then sc else ⟨#[]⟩) nm P E aB (nameSt (p2 wc) sc nm q sB).ts.length ∧
    P ≤ E ∧ E ≤ (z2 (alSt (nameSt (p2 wc) sc nm q sB) al q aB)).text.size ∧ (z2 (alSt (nameSt (p2 wc) sc nm q sB) al q aB)).text.extract P E = cWant sc nm q sB := by
  have oz := onto_z2 (alSt (nameSt (p2 wc) sc nm q sB) al q aB)
  have hbe := behind oz
  have on : Onto (nameSt (p2 wc) sc nm q sB) (z2 (alSt (nameSt (p2 wc) sc nm q sB) al q aB)) := ((onto_al _ _ _ _).word _).trans oz
  have op : Onto (p2 wc) _ := (onto_name (p2 wc) sc nm q sB).trans on
  have h1 : WordAt _ (t1 wc).ts.length kUpdate := wordAt_word op
  have ot : Onto (t1 wc) _ := ((Onto.refl _).word _ : Onto (t1 wc) (p2 wc)).trans op
  have lp : (p2 wc).ts.length = (t1 wc).ts.length + 1 := word_len _ _
  have hor := first_hit on kOr hne
  obtain ⟨P, E, hr, hPE, hE, hx⟩ := read_name on (fun _ => (hbe.hit kDot).trans (by cases aB <;> rfl))
  rw [lp] at hr hor
  obtain ⟨hi, hk, hv⟩ := word_is hbe
  refine ⟨P, E, fun g bm o hl1 hl2 pb w hw hm hp0 hpm => ?_, hPE, hE, hx⟩
  refine target_update hw (withTo ot h1 rfl rfl pb g) (h1.next pb g) hor (hr pb g) hm hp0 hpm (fun w ab hw hm hab => ?_)
  cases aB
  · exact alias_other hw hi hk (by rw [hv, isTk_eq]; rfl) hm (by rw [hv]; exact hl1) kSet (by rw [hv, isTk_eq]; rfl) hab
  · exact alias_as hw hi _ (by rw [hk, hv, isTk_eq]; rfl)

theorem law3 : ∃ P E : Nat, TgtTo (z3 (alSt (nameSt (p3 wc) sc nm q sB) al q aB)).ts (bif sB then sc else ⟨#[]⟩) nm P E aB (nameSt (p3 wc) sc nm q sB).ts.length ∧
    P ≤ E ∧ E ≤ (z3 (alSt (nameSt (p3 wc) sc nm q sB) al q aB)).text.size ∧ (z3 (alSt (nameSt (p3 wc) sc nm q sB) al q aB)).text.extract P E = cWant sc nm q sB := by
  have oz := onto_z3 (alSt (nameSt (p3 wc) sc nm q sB) al q aB)
  have hbe := behind oz
  have on : Onto (nameSt (p3 wc) sc nm q sB) (z3 (alSt (nameSt (p3 wc) sc nm q sB) al q aB)) := ((onto_al _ _ _ _).word _).trans oz
  have op : Onto (p3 wc) _ := (onto_name (p3 wc) sc nm q sB).trans on
  have h1 : WordAt _ (t1 wc).ts.length kDelete := wordAt_word (((Onto.refl _).word _ : Onto ((t1 wc).word kDelete) (p3 wc)).trans op)
  have h2 : WordAt _ ((t1 wc).word kDelete).ts.length kFrom := wordAt_word op
  have ot : Onto (t1 wc) _ := (((Onto.refl _).word _).word _ : Onto (t1 wc) (p3 wc)).trans op
  have lp : (p3 wc).ts.length = (t1 wc).ts.length + 2 := (word_len _ _).trans (by rw [word_len])
  obtain ⟨P, E, hr, hPE, hE, hx⟩ := read_name on (fun _ => (hbe.hit kDot).trans (by cases aB <;> rfl))
  rw [word_len] at h2
  rw [lp] at hr
  obtain ⟨hi, hk, hv⟩ := word_is hbe
  refine ⟨P, E, fun g bm o hl1 hl2 pb w hw hm hp0 hpm => ?_, hPE, hE, hx⟩
  refine target_delete hw (withTo ot h1 rfl rfl pb g) (h1.next pb g) ((h2.hit kFrom).trans (by decide)) (hr pb g) hm hp0 hpm (fun w hw hm => ?_)
  cases aB
  · exact alias_clause hw hi hk (by rw [hv, isTk_eq]; rfl) hm (by rw [hv]; exact hl2)
  · exact alias_as hw hi _ (by rw [hk, hv, isTk_eq]; rfl)

theorem hit_end (ts : List Tk) (v : ByteArray) : hitB ts ts.length [v] = false := by
  unfold hitB
  rw [dif_neg (Nat.lt_irrefl _)]

theorem law4 (ie : Bool) (hne : (!q && !ie && (bif sB then sc else nm).toList == kIf.toList) = false) : ∃ P E : Nat, TgtTo (nameSt (p4 wc ie) sc nm q sB).ts (bif sB then sc else ⟨#[]⟩) nm P E false (nameSt (p4 wc ie) sc nm q sB).ts.length ∧
    P ≤ E ∧ E ≤ (nameSt (p4 wc ie) sc nm q sB).text.size ∧ (nameSt (p4 wc ie) sc nm q sB).text.extract P E = cWant sc nm q sB := by
  have on := Onto.refl (nameSt (p4 wc ie) sc nm q sB)
  have op : Onto (p4 wc ie) _ := (onto_name (p4 wc ie) sc nm q sB).trans on
  have oq : Onto (((t1 wc).word kDrop).word kTable) (p4 wc ie) := by
    cases ie
    · exact Onto.refl _
    · exact ((Onto.refl _).word _).word _
  have oq' := oq.trans op
  have h1 : WordAt _ (t1 wc).ts.length kDrop := wordAt_word (((Onto.refl _).word _ : Onto ((t1 wc).word kDrop) (((t1 wc).word kDrop).word kTable)).trans oq')
  have h2 : WordAt _ ((t1 wc).word kDrop).ts.length kTable := wordAt_word oq'
  have ot : Onto (t1 wc) _ := (((Onto.refl _).word _).word _ : Onto (t1 wc) (((t1 wc).word kDrop).word kTable)).trans oq'
  obtain ⟨P, E, hr, hPE, hE, hx⟩ := read_name on (fun _ => hit_end _ _)
  rw [word_len] at h2
  refine ⟨P, E, fun g bm o _ _ pb w hw _ _ _ => ?_, hPE, hE, hx⟩
  cases ie
  · have lp : (p4 wc false).ts.length = (t1 wc).ts.length + 2 := (word_len _ _).trans (by rw [word_len])
    have hif := first_hit on kIf (by simpa using hne)
    rw [lp] at hr hif
    exact target_drop (ib := false) hw (withTo ot h1 rfl rfl pb g) (h1.next pb g) ((h2.hit2 kTable kView).trans (by decide)) hif (fun _ => rfl) (fun h => Bool.noConfusion h) (hr pb g)
  · have lp : (p4 wc true).ts.length = (t1 wc).ts.length + 4 := (word_len _ _).trans (by rw [word_len, word_len, word_len])
    have h3 : WordAt _ (((t1 wc).word kDrop).word kTable).ts.length kIf := wordAt_word (((Onto.refl _).word _ : Onto ((((t1 wc).word kDrop).word kTable).word kIf) (p4 wc true)).trans op)
    have h4 : WordAt _ ((((t1 wc).word kDrop).word kTable).word kIf).ts.length kExists := wordAt_word op
    rw [word_len, word_len] at h3
    rw [word_len, word_len, word_len] at h4
    rw [lp] at hr
    exact target_drop (ib := true) hw (withTo ot h1 rfl rfl pb g) (h1.next pb g) ((h2.hit2 kTable kView).trans (by decide)) ((h3.hit kIf).trans (by decide)) (fun h => Bool.noConfusion h) (fun _ => ⟨(h4.hit kExists).trans (by decide), rfl⟩) (hr pb g)

theorem law5 : ∃ P E : Nat, TgtTo (z5 (nameSt (p5 wc) sc nm q sB)).ts (bif sB then sc else ⟨#[]⟩) nm P E false (nameSt (p5 wc) sc nm q sB).ts.length ∧
    P ≤ E ∧ E ≤ (z5 (nameSt (p5 wc) sc nm q sB)).text.size ∧ (z5 (nameSt (p5 wc) sc nm q sB)).text.extract P E = cWant sc nm q sB := by
  have oz := onto_z5 (nameSt (p5 wc) sc nm q sB)
  have hbe : WordAt _ (nameSt (p5 wc) sc nm q sB).ts.length kAdd := wordAt_word oz
  have on : Onto (nameSt (p5 wc) sc nm q sB) (z5 (nameSt (p5 wc) sc nm q sB)) := ((Onto.refl _).word _).trans oz
  have op : Onto (p5 wc) _ := (onto_name (p5 wc) sc nm q sB).trans on
  have h1 : WordAt _ (t1 wc).ts.length kAlter := wordAt_word (((Onto.refl _).word _ : Onto ((t1 wc).word kAlter) (p5 wc)).trans op)
  have h2 : WordAt _ ((t1 wc).word kAlter).ts.length kTable := wordAt_word op
  have ot : Onto (t1 wc) _ := (((Onto.refl _).word _).word _ : Onto (t1 wc) (p5 wc)).trans op
  have lp : (p5 wc).ts.length = (t1 wc).ts.length + 2 := (word_len _ _).trans (by rw [word_len])
  obtain ⟨P, E, hr, hPE, hE, hx⟩ := read_name on (fun _ => (hbe.hit kDot).trans rfl)
  rw [word_len] at h2
  rw [lp] at hr
  refine ⟨P, E, fun g bm o _ _ pb w hw _ _ _ => ?_, hPE, hE, hx⟩
  exact target_alter hw (withTo ot h1 rfl rfl pb g) (h1.next pb g) ((h2.hit kTable).trans (by decide)) (hr pb g)
end

end Go.Proofs.Qxb6609453aFmt

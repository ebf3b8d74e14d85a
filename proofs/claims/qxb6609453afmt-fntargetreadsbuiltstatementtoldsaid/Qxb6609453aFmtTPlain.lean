/-
  The plain law of the second statement: what is built is read back.
-/
import Derived.Test.Qxb6609453aFmtZZ
import Derived.Test.Qxb6609453aFmtPlain
namespace Go.Proofs.Qxb6609453aFmt
open Go.RowKit

def kC : ByteArray := ⟨#[99]⟩
def kX : ByteArray := ⟨#[120]⟩
def kEq : ByteArray := ⟨#[61]⟩
def kInsert : ByteArray := ⟨#[105, 110, 115, 101, 114, 116]⟩
def kReplace : ByteArray := ⟨#[114, 101, 112, 108, 97, 99, 101]⟩
def kUpdate : ByteArray := ⟨#[117, 112, 100, 97, 116, 101]⟩
def kDelete : ByteArray := ⟨#[100, 101, 108, 101, 116, 101]⟩
def kDrop : ByteArray := ⟨#[100, 114, 111, 112]⟩
def kAlter : ByteArray := ⟨#[97, 108, 116, 101, 114]⟩
def kValues : ByteArray := ⟨#[118, 97, 108, 117, 101, 115]⟩
def kWhere : ByteArray := ⟨#[119, 104, 101, 114, 101]⟩
def kAdd : ByteArray := ⟨#[97, 100, 100]⟩
def kColumn : ByteArray := ⟨#[99, 111, 108, 117, 109, 110]⟩
def kInt : ByteArray := ⟨#[105, 110, 116]⟩

/-- The WITH clause. -/
def t1 (wc : Bool) : St := bif wc then ((((((St.zero.word kWith).word kC).word kAs).mark kLpar).word kSelect).put 3 kOne kOne).mark kRpar else St.zero
/-- The name, qualified or not. -/
def nameSt (s : St) (sc nm : ByteArray) (q sB : Bool) : St := (bif sB then (s.named sc q).mark kDot else s).named nm q
/-- The alias. -/
def alSt (s : St) (al : ByteArray) (q aB : Bool) : St := bif aB then (s.word kAs).named al q else s

theorem Onto.trans {a b c : St} (h : Onto a b) (k : Onto b c) : Onto a c := by
  obtain ⟨⟨r, hr⟩, ⟨q, hq⟩⟩ := h
  obtain ⟨⟨r', hr'⟩, ⟨q', hq'⟩⟩ := k
  exact ⟨⟨r ++ r', by rw [hr', hr]; simp⟩, ⟨q ++ q', by rw [hq', hq]; simp [ByteArray.append_assoc]⟩⟩

/-- A word that stands at i. -/
def WordAt (ts : List Tk) (i : Nat) (v : ByteArray) : Prop := ∃ t, ts[i]? = some t ∧ t.kind = 0 ∧ t.val = v
theorem WordAt.hit {ts : List Tk} {i : Nat} {v : ByteArray} (h : WordAt ts i v) (s : ByteArray) : hitB ts i [s] = (v.data.toList == s.data.toList) := by
  obtain ⟨t, h1, h2, h3⟩ := h
  rw [hitB_one _ _ _ _ h1, h2, h3, isTk_eq]; rfl
theorem WordAt.hit2 {ts : List Tk} {i : Nat} {v : ByteArray} (h : WordAt ts i v) (s r : ByteArray) : hitB ts i [s, r] = (v.data.toList == s.data.toList || v.data.toList == r.data.toList) := by
  obtain ⟨t, h1, h2, h3⟩ := h
  rw [hitB_two _ _ _ _ _ h1, h2, h3, isTk_eq, isTk_eq]; rfl
theorem WordAt.next {ts : List Tk} {i : Nat} {v : ByteArray} (h : WordAt ts i v) (pb g : Nat) : NextTo pb g ts i v := by
  obtain ⟨t, h1, h2, h3⟩ := h
  obtain ⟨hi, rfl⟩ := List.getElem?_eq_some_iff.1 h1
  intro w hw
  have := next_calls hw hi h2
  rw [h3] at this
  exact this
theorem wordAt_word {s F : St} {v : ByteArray} (h : Onto (s.word v) F) : WordAt F.ts s.ts.length v := ⟨_, h.at (put_at s 0 v v), rfl, rfl⟩
theorem word_len (s : St) (v : ByteArray) : (s.word v).ts.length = s.ts.length + 1 := put_len _ _ _ _
theorem mark_len (s : St) (v : ByteArray) : (s.mark v).ts.length = s.ts.length + 1 := put_len _ _ _ _
theorem named_len (s : St) (v : ByteArray) (q : Bool) : (s.named v q).ts.length = s.ts.length + 1 := put_len _ _ _ _
theorem Onto.word {s s' : St} (h : Onto s s') (v : ByteArray) : Onto s (s'.word v) := h.put _ _ _
theorem Onto.mark {s s' : St} (h : Onto s s') (v : ByteArray) : Onto s (s'.mark v) := h.put _ _ _
theorem Onto.named {s s' : St} (h : Onto s s') (v : ByteArray) (q : Bool) : Onto s (s'.named v q) := h.put _ _ _
theorem onto_name (s : St) (sc nm : ByteArray) (q sB : Bool) : Onto s (nameSt s sc nm q sB) := by
  cases sB
  · exact (Onto.refl _).named _ _
  · exact (((Onto.refl _).named _ _).mark _).named _ _
theorem onto_al (s : St) (al : ByteArray) (q aB : Bool) : Onto s (alSt s al q aB) := by
  cases aB
  · exact Onto.refl _
  · exact ((Onto.refl _).word _).named _ _

/-- with() gets past the clause that was built, or finds none. -/
theorem withTo {wc : Bool} {F : St} {v : ByteArray} (hO : Onto (t1 wc) F) (hv : WordAt F.ts (t1 wc).ts.length v) (n1 : (v.data.toList == kWith.data.toList) = false) (n2 : (v.data.toList == kComma.data.toList) = false) (pb g : Nat) :
    WithTo pb g F.ts (t1 wc).ts.length := by
  intro w hw
  cases wc
  · exact with_no hw ((hv.hit kWith).trans n1)
  · have g1 : F.ts[1]? = some _ := hO.at rfl
    have g4 : F.ts[4]? = some _ := hO.at rfl
    have g5 : F.ts[5]? = some _ := hO.at rfl
    have g6 : F.ts[6]? = some _ := hO.at rfl
    obtain ⟨l1, e1⟩ := List.getElem?_eq_some_iff.1 g1
    obtain ⟨l4, e4⟩ := List.getElem?_eq_some_iff.1 g4
    obtain ⟨l5, e5⟩ := List.getElem?_eq_some_iff.1 g5
    obtain ⟨l6, e6⟩ := List.getElem?_eq_some_iff.1 g6
    have H := with_yes (i := 0) (m := 2) hw ((hitB_one _ _ _ _ (hO.at rfl)).trans (by rw [isTk_eq]; rfl)) ((hitB_one _ _ _ _ (hO.at rfl)).trans (by rw [isTk_eq]; rfl)) l1 (.inl (by rw [e1]; rfl))
      ((hitB_one _ _ _ _ (hO.at rfl)).trans (by rw [isTk_eq]; rfl)) ((hitB_one _ _ _ _ (hO.at rfl)).trans (by rw [isTk_eq]; rfl)) ((hitB_one _ _ _ _ (hO.at rfl)).trans (by rw [isTk_eq]; rfl)) ((hitB_one _ _ _ _ (hO.at rfl)).trans (by rw [isTk_eq]; rfl)) ((hitB_one _ _ _ _ (hO.at rfl)).trans (by rw [isTk_eq]; rfl)) l6
      (fun r hr => by
        match r, hr with
        | 0, _ => exact ⟨by show isTk F.ts[4].kind F.ts[4].val kLpar = false; rw [e4, isTk_eq]; rfl, by show isTk F.ts[4].kind F.ts[4].val kRpar = false; rw [e4, isTk_eq]; rfl⟩
        | 1, _ => exact ⟨by show isTk F.ts[5].kind F.ts[5].val kLpar = false; rw [e5, isTk_eq]; rfl, by show isTk F.ts[5].kind F.ts[5].val kRpar = false; rw [e5, isTk_eq]; rfl⟩)
      ⟨by show isTk F.ts[6].kind F.ts[6].val kLpar = false; rw [e6, isTk_eq]; rfl, by show isTk F.ts[6].kind F.ts[6].val kRpar = true; rw [e6, isTk_eq]; rfl⟩
      ((hv.hit kComma).trans n2)
    exact H

/-- The name is read back. -/
theorem read_name {s F : St} {sc nm : ByteArray} {q sB : Bool} (hO : Onto (nameSt s sc nm q sB) F) (hd : sB = false → hitB F.ts (nameSt s sc nm q sB).ts.length [kDot] = false) :
    ∃ P E : Nat, (∀ pb g, Reads pb g F.ts s.ts.length (bif sB then sc else ⟨#[]⟩) nm P E (nameSt s sc nm q sB).ts.length) ∧ P ≤ E ∧ E ≤ F.text.size ∧ F.text.extract P E = cWant sc nm q sB := by
  cases sB
  · have t1 := put_at s (nkind q) nm (spell nm q)
    have l1 : (nameSt s sc nm q false).ts.length = s.ts.length + 1 := put_len _ _ _ _
    have g1 := hO.at t1
    have hd' := hd rfl
    rw [l1] at hd'
    obtain ⟨r, hr⟩ := hO.text
    refine ⟨_, _, fun _ _ => by rw [l1]; exact reads_plain g1 (nkind_name q) hd', ?_, ?_, ?_⟩
    · show s.text.size ≤ (s.text ++ spell nm q).size
      rw [ByteArray.size_append]; omega
    · show (s.text ++ spell nm q).size ≤ _
      rw [hr]
      show _ ≤ (s.text ++ spell nm q ++ sp ++ r).size
      simp only [ByteArray.size_append]; omega
    · rw [hr]
      show (s.text ++ spell nm q ++ sp ++ r).extract s.text.size (s.text ++ spell nm q).size = spell nm q
      rw [ByteArray.size_append, ByteArray.append_assoc (c := r), ext_mid]
  · have t1 := put_at s (nkind q) sc (spell sc q)
    have o1 : Onto (s.named sc q) F := (((Onto.refl _).mark _).named _ _ : Onto (s.named sc q) (nameSt s sc nm q true)).trans hO
    have t2 := put_at (s.named sc q) 5 kDot kDot
    have o2 : Onto ((s.named sc q).mark kDot) F := ((Onto.refl _).named _ _ : Onto ((s.named sc q).mark kDot) (nameSt s sc nm q true)).trans hO
    have t3 := put_at ((s.named sc q).mark kDot) (nkind q) nm (spell nm q)
    have l1 : (s.named sc q).ts.length = s.ts.length + 1 := put_len _ _ _ _
    have l2 : ((s.named sc q).mark kDot).ts.length = s.ts.length + 2 := (put_len _ _ _ _).trans (by rw [l1])
    have l3 : (nameSt s sc nm q true).ts.length = s.ts.length + 3 := (put_len _ _ _ _).trans (by show ((s.named sc q).mark kDot).ts.length + 1 = _; rw [l2])
    have g1 := o1.at t1
    have g2 := o2.at t2
    have g3 := hO.at t3
    rw [l1] at g2
    rw [l2] at g3
    obtain ⟨r, hr⟩ := hO.text
    have hx : (nameSt s sc nm q true).text = s.text ++ (spell sc q ++ ⟨#[32, 46, 32]⟩ ++ spell nm q) ++ sp := by
      show s.text ++ spell sc q ++ sp ++ kDot ++ sp ++ spell nm q ++ sp = _
      have e : (⟨#[32, 46, 32]⟩ : ByteArray) = sp ++ kDot ++ sp := by decide
      rw [e]
      simp only [ByteArray.append_assoc]
    have hE : (((s.named sc q).mark kDot).text ++ spell nm q).size = s.text.size + (spell sc q ++ ⟨#[32, 46, 32]⟩ ++ spell nm q).size := by
      show (s.text ++ spell sc q ++ sp ++ kDot ++ sp ++ spell nm q).size = _
      have e : (⟨#[32, 46, 32]⟩ : ByteArray).size = sp.size + kDot.size + sp.size := rfl
      simp only [ByteArray.size_append, e]; omega
    refine ⟨_, _, fun _ _ => by rw [l3]; exact reads_dot g1 (nkind_name q) ((hitB_one _ _ _ _ g2).trans (by rw [isTk_eq]; rfl)) g3 (nkind_name q), ?_, ?_, ?_⟩
    · show s.text.size ≤ (((s.named sc q).mark kDot).text ++ spell nm q).size
      rw [hE]; omega
    · show (((s.named sc q).mark kDot).text ++ spell nm q).size ≤ _
      rw [hE, hr, hx]
      simp only [ByteArray.size_append]; omega
    · show F.text.extract s.text.size (((s.named sc q).mark kDot).text ++ spell nm q).size = spell sc q ++ ⟨#[32, 46, 32]⟩ ++ spell nm q
      rw [hE, hr, hx, ByteArray.append_assoc (c := r), ext_mid]

/-- The first token of the name is no keyword v, unless the name reads so. -/
theorem first_hit {s F : St} {sc nm : ByteArray} {q sB : Bool} (hO : Onto (nameSt s sc nm q sB) F) (v : ByteArray) (h : (!q && (bif sB then sc else nm).toList == v.toList) = false) : hitB F.ts s.ts.length [v] = false := by
  have H : ∃ t, F.ts[s.ts.length]? = some t ∧ t.kind = nkind q ∧ t.val = bif sB then sc else nm := by
    cases sB
    · exact ⟨_, hO.at (put_at s (nkind q) nm (spell nm q)), rfl, rfl⟩
    · have o1 : Onto (s.named sc q) F := (((Onto.refl _).mark _).named _ _ : Onto (s.named sc q) (nameSt s sc nm q true)).trans hO
      exact ⟨_, o1.at (put_at s (nkind q) sc (spell sc q)), rfl, rfl⟩
  obtain ⟨t, e1, e2, e3⟩ := H
  rw [hitB_one _ _ _ _ e1, e2, e3]
  cases q
  · unfold isTk nkind
    simpa using h
  · rfl

end Go.Proofs.Qxb6609453aFmt

/-
  The plain law: no walk: what is built is read back.
-/
import Derived.Test.Qxb6609453aFmtAs
namespace Go.Proofs.Qxb6609453aFmt
open Go.RowKit

/-- The text and the tokens built so far. -/
structure St where
  text : ByteArray
  ts : List Tk
def St.put (s : St) (kind : Int) (value spelling : ByteArray) : St := ⟨s.text ++ spelling ++ sp, s.ts ++ [Tk.mkAt s.text kind value spelling]⟩
def St.word (s : St) (v : ByteArray) : St := s.put 0 v v
def St.mark (s : St) (v : ByteArray) : St := s.put 5 v v
def St.named (s : St) (v : ByteArray) (q : Bool) : St := s.put (nkind q) v (spell v q)
def St.zero : St := ⟨⟨#[]⟩, []⟩

def kDot : ByteArray := ⟨#[46]⟩
def kSelect : ByteArray := ⟨#[115, 101, 108, 101, 99, 116]⟩
def kOne : ByteArray := ⟨#[49]⟩

/-! ### Where a word stands -/
theorem isTk_eq (k : Int) (v s : ByteArray) : isTk k v s = ((k == 0 || k == 5) && v.data.toList == s.data.toList) := by
  unfold isTk; rw [ByteArray.toList_eq, ByteArray.toList_eq]
theorem isTk_self (k : Int) (v : ByteArray) (h : (k == 0 || k == 5) = true) : isTk k v v = true := by
  rw [isTk_eq, h]; simp
theorem hitB_one (ts : List Tk) (i : Nat) (t : Tk) (s : ByteArray) (h : ts[i]? = some t) : hitB ts i [s] = isTk t.kind t.val s := by
  obtain ⟨hi, e⟩ := List.getElem?_eq_some_iff.1 h
  unfold hitB
  rw [dif_pos hi, e]
  simp
theorem hitB_two (ts : List Tk) (i : Nat) (t : Tk) (s r : ByteArray) (h : ts[i]? = some t) : hitB ts i [s, r] = (isTk t.kind t.val s || isTk t.kind t.val r) := by
  obtain ⟨hi, e⟩ := List.getElem?_eq_some_iff.1 h
  unfold hitB
  rw [dif_pos hi, e]
  simp

theorem put_ts (s : St) (k : Int) (v sl : ByteArray) : (s.put k v sl).ts = s.ts ++ [Tk.mkAt s.text k v sl] := rfl
theorem put_at (s : St) (k : Int) (v sl : ByteArray) : (s.put k v sl).ts[s.ts.length]? = some (Tk.mkAt s.text k v sl) := by rw [put_ts]; simp
theorem put_len (s : St) (k : Int) (v sl : ByteArray) : (s.put k v sl).ts.length = s.ts.length + 1 := by rw [put_ts]; simp

/-- s grows into s': its tokens and its text stay. -/
structure Onto (s s' : St) : Prop where
  ts : ∃ r, s'.ts = s.ts ++ r
  text : ∃ r, s'.text = s.text ++ r
theorem Onto.refl (s : St) : Onto s s := ⟨⟨[], by simp⟩, ⟨ByteArray.empty, by simp⟩⟩
theorem Onto.put {s s' : St} (h : Onto s s') (k : Int) (v sl : ByteArray) : Onto s (s'.put k v sl) := by
  obtain ⟨⟨r, hr⟩, ⟨q, hq⟩⟩ := h
  refine ⟨⟨r ++ [Tk.mkAt s'.text k v sl], by rw [put_ts, hr]; simp⟩, ⟨q ++ sl ++ sp, ?_⟩⟩
  show s'.text ++ sl ++ sp = _
  rw [hq]
  simp [ByteArray.append_assoc]
theorem Onto.at {s s' : St} (h : Onto s s') {i : Nat} {t : Tk} (ht : s.ts[i]? = some t) : s'.ts[i]? = some t := by
  obtain ⟨⟨r, hr⟩, _⟩ := h
  have hi := (List.getElem?_eq_some_iff.1 ht).1
  rw [hr, List.getElem?_append_left hi]
  exact ht

theorem ext_mid (a b c : ByteArray) : (a ++ b ++ c).extract a.size (a.size + b.size) = b := by
  rw [ByteArray.extract_append, ByteArray.extract_append_eq_right rfl rfl, ByteArray.size_append, Nat.sub_self]
  simp

/-! ### The statement CREATE .. TABLE .. AS -/
section
variable (sc nm : ByteArray) (q gl tp ie sB : Bool)
def c1 : St := St.zero.word kCreate
def c2 : St := bif gl then c1.word kGlobal else c1
def c3 : St := bif tp then (c2 gl).word kTemporary else c2 gl
def c4 : St := (c3 gl tp).word kTable
def c5 : St := bif ie then (((c4 gl tp).word kIf).word kNot).word kExists else c4 gl tp
def c6 : St := bif sB then ((c5 gl tp ie).named sc q).mark kDot else c5 gl tp ie
def c7 : St := (c6 sc q gl tp ie sB).named nm q
def c8 : St := (((c7 sc nm q gl tp ie sB).word kAs).word kSelect).put 3 kOne kOne

/-- The place of the table's name: as many tokens as stand ahead of it. -/
def at3 : Nat := (c3 gl tp).ts.length
def at5 : Nat := (c5 gl tp ie).ts.length
end

theorem onto_c5_c8 (sc nm : ByteArray) (q gl tp ie sB : Bool) : Onto (c5 gl tp ie) (c8 sc nm q gl tp ie sB) := by
  cases sB
  · exact (((((Onto.refl _).put _ _ _).put _ _ _).put _ _ _).put _ _ _)
  · exact (((((((Onto.refl _).put _ _ _).put _ _ _).put _ _ _).put _ _ _).put _ _ _).put _ _ _)

/-- What stands ahead of the name. -/
theorem head_hits (sc nm : ByteArray) (q gl tp ie sB : Bool) :
    hitB (c8 sc nm q gl tp ie sB).ts 0 [kCreate] = true ∧ hitB (c8 sc nm q gl tp ie sB).ts 1 [kGlobal, kLocal] = gl ∧
    hitB (c8 sc nm q gl tp ie sB).ts (onB gl 1) [kTemp, kTemporary] = tp ∧ hitB (c8 sc nm q gl tp ie sB).ts (onB tp (onB gl 1)) [kTable] = true ∧
    (ie = true → hitB (c8 sc nm q gl tp ie sB).ts (onB tp (onB gl 1) + 1) [kIf] = true ∧ hitB (c8 sc nm q gl tp ie sB).ts (onB tp (onB gl 1) + 2) [kNot] = true ∧ hitB (c8 sc nm q gl tp ie sB).ts (onB tp (onB gl 1) + 3) [kExists] = true) ∧
    at5 gl tp ie = bif ie then onB tp (onB gl 1) + 4 else onB tp (onB gl 1) + 1 := by
  have ho := onto_c5_c8 sc nm q gl tp ie sB
  cases gl <;> cases tp <;> cases ie <;>
    refine ⟨(hitB_one _ _ _ _ (ho.at rfl)).trans ?_, (hitB_two _ _ _ _ _ (ho.at rfl)).trans ?_, (hitB_two _ _ _ _ _ (ho.at rfl)).trans ?_, (hitB_one _ _ _ _ (ho.at rfl)).trans ?_, ?_, rfl⟩
  all_goals first
    | (rw [isTk_eq, isTk_eq]; rfl)
    | (rw [isTk_eq]; rfl)
    | (intro h; exact Bool.noConfusion h)
    | (intro _; refine ⟨(hitB_one _ _ _ _ (ho.at rfl)).trans ?_, (hitB_one _ _ _ _ (ho.at rfl)).trans ?_, (hitB_one _ _ _ _ (ho.at rfl)).trans ?_⟩ <;> (rw [isTk_eq]; rfl))

theorem reads_plain {pb g j : Nat} {ts : List Tk} {t : Tk} (ht : ts[j]? = some t) (hk : t.kind = 0 ∨ t.kind = 1) (hd : hitB ts (j + 1) [kDot] = false) : Reads pb g ts j ⟨#[]⟩ t.val t.pos t.fin (j + 1) := by
  obtain ⟨hj, rfl⟩ := List.getElem?_eq_some_iff.1 ht
  exact fun w h => table_plain h hj hk hd

theorem reads_dot {pb g j : Nat} {ts : List Tk} {t u : Tk} (ht : ts[j]? = some t) (hk : t.kind = 0 ∨ t.kind = 1) (hd : hitB ts (j + 1) [kDot] = true) (hu : ts[j + 2]? = some u) (hk2 : u.kind = 0 ∨ u.kind = 1) : Reads pb g ts j t.val u.val t.pos u.fin (j + 3) := by
  obtain ⟨hj, rfl⟩ := List.getElem?_eq_some_iff.1 ht
  obtain ⟨hu2, rfl⟩ := List.getElem?_eq_some_iff.1 hu
  exact fun w h => table_dot h hu2 hk hd hk2

theorem nkind_name (q : Bool) : nkind q = 0 ∨ nkind q = 1 := by cases q <;> simp [nkind]

/-- What the table's name is to read as: schema and name, its place in the text, the reader's place behind it. -/
theorem name_read (sc nm : ByteArray) (q gl tp ie sB : Bool) :
    ∃ (S : ByteArray) (P E : Nat) (k : Nat), (∀ pb g, Reads pb g (c8 sc nm q gl tp ie sB).ts (at5 gl tp ie) S nm P E k) ∧ hitB (c8 sc nm q gl tp ie sB).ts k [kAs] = true ∧ P ≤ E ∧ E ≤ (c8 sc nm q gl tp ie sB).text.size ∧
      (c8 sc nm q gl tp ie sB).text.extract P E = bif sB then spell sc q ++ ⟨#[32, 46, 32]⟩ ++ spell nm q else spell nm q := by
  cases sB
  · have t1 := put_at (c5 gl tp ie) (nkind q) nm (spell nm q)
    have o1 : Onto (c7 sc nm q gl tp ie false) (c8 sc nm q gl tp ie false) := (((Onto.refl _).put _ _ _).put _ _ _).put _ _ _
    have t2 := put_at (c7 sc nm q gl tp ie false) 0 kAs kAs
    have o2 : Onto ((c7 sc nm q gl tp ie false).word kAs) (c8 sc nm q gl tp ie false) := ((Onto.refl _).put _ _ _).put _ _ _
    have l1 : (c7 sc nm q gl tp ie false).ts.length = at5 gl tp ie + 1 := put_len _ _ _ _
    have g1 := o1.at t1
    have g2 := o2.at t2
    rw [l1] at g2
    obtain ⟨r, hr⟩ := o1.text
    refine ⟨⟨#[]⟩, _, _, _, fun _ _ => reads_plain g1 (nkind_name q) ((hitB_one _ _ _ _ g2).trans (by rw [isTk_eq]; rfl)), (hitB_one _ _ _ _ g2).trans (by rw [isTk_eq]; rfl), ?_, ?_, ?_⟩
    · show (c5 gl tp ie).text.size ≤ ((c5 gl tp ie).text ++ spell nm q).size
      rw [ByteArray.size_append]; omega
    · show ((c5 gl tp ie).text ++ spell nm q).size ≤ _
      rw [hr]
      show _ ≤ ((c5 gl tp ie).text ++ spell nm q ++ sp ++ r).size
      simp only [ByteArray.size_append]; omega
    · rw [hr]
      show ((c5 gl tp ie).text ++ spell nm q ++ sp ++ r).extract (c5 gl tp ie).text.size ((c5 gl tp ie).text ++ spell nm q).size = spell nm q
      rw [ByteArray.size_append, ByteArray.append_assoc (c := r), ext_mid]
  · have t1 := put_at (c5 gl tp ie) (nkind q) sc (spell sc q)
    have o1 : Onto ((c5 gl tp ie).named sc q) (c8 sc nm q gl tp ie true) := (((((Onto.refl _).put _ _ _).put _ _ _).put _ _ _).put _ _ _).put _ _ _
    have t2 := put_at ((c5 gl tp ie).named sc q) 5 kDot kDot
    have o2 : Onto (((c5 gl tp ie).named sc q).mark kDot) (c8 sc nm q gl tp ie true) := ((((Onto.refl _).put _ _ _).put _ _ _).put _ _ _).put _ _ _
    have t3 := put_at (((c5 gl tp ie).named sc q).mark kDot) (nkind q) nm (spell nm q)
    have o3 : Onto (c7 sc nm q gl tp ie true) (c8 sc nm q gl tp ie true) := (((Onto.refl _).put _ _ _).put _ _ _).put _ _ _
    have t4 := put_at (c7 sc nm q gl tp ie true) 0 kAs kAs
    have o4 : Onto ((c7 sc nm q gl tp ie true).word kAs) (c8 sc nm q gl tp ie true) := ((Onto.refl _).put _ _ _).put _ _ _
    have l1 : ((c5 gl tp ie).named sc q).ts.length = at5 gl tp ie + 1 := put_len _ _ _ _
    have l2 : (((c5 gl tp ie).named sc q).mark kDot).ts.length = at5 gl tp ie + 2 := (put_len _ _ _ _).trans (by rw [l1])
    have l3 : (c7 sc nm q gl tp ie true).ts.length = at5 gl tp ie + 3 := (put_len _ _ _ _).trans (by show (((c5 gl tp ie).named sc q).mark kDot).ts.length + 1 = _; rw [l2])
    have g1 := o1.at t1
    have g2 := o2.at t2
    have g3 := o3.at t3
    have g4 := o4.at t4
    rw [l1] at g2
    rw [l2] at g3
    rw [l3] at g4
    obtain ⟨r, hr⟩ := o3.text
    have hx : (c7 sc nm q gl tp ie true).text = (c5 gl tp ie).text ++ (spell sc q ++ ⟨#[32, 46, 32]⟩ ++ spell nm q) ++ sp := by
      show (c5 gl tp ie).text ++ spell sc q ++ sp ++ kDot ++ sp ++ spell nm q ++ sp = _
      have e : (⟨#[32, 46, 32]⟩ : ByteArray) = sp ++ kDot ++ sp := by decide
      rw [e]
      simp only [ByteArray.append_assoc]
    have hE : ((((c5 gl tp ie).named sc q).mark kDot).text ++ spell nm q).size = (c5 gl tp ie).text.size + (spell sc q ++ ⟨#[32, 46, 32]⟩ ++ spell nm q).size := by
      show ((c5 gl tp ie).text ++ spell sc q ++ sp ++ kDot ++ sp ++ spell nm q).size = _
      have e : (⟨#[32, 46, 32]⟩ : ByteArray).size = sp.size + kDot.size + sp.size := rfl
      simp only [ByteArray.size_append, e]; omega
    refine ⟨_, _, _, _, fun _ _ => reads_dot g1 (nkind_name q) ((hitB_one _ _ _ _ g2).trans (by rw [isTk_eq]; rfl)) g3 (nkind_name q), (hitB_one _ _ _ _ g4).trans (by rw [isTk_eq]; rfl), ?_, ?_, ?_⟩
    · show (c5 gl tp ie).text.size ≤ ((((c5 gl tp ie).named sc q).mark kDot).text ++ spell nm q).size
      rw [hE]; omega
    · show ((((c5 gl tp ie).named sc q).mark kDot).text ++ spell nm q).size ≤ _
      rw [hE, hr, hx]
      simp only [ByteArray.size_append]; omega
    · show _ = spell sc q ++ ⟨#[32, 46, 32]⟩ ++ spell nm q
      show (c8 sc nm q gl tp ie true).text.extract (c5 gl tp ie).text.size ((((c5 gl tp ie).named sc q).mark kDot).text ++ spell nm q).size = _
      rw [hE, hr, hx, ByteArray.append_assoc (c := r), ext_mid]


/-- The first token of the name. -/
theorem first_tok (sc nm : ByteArray) (q gl tp ie sB : Bool) : ∃ t, (c8 sc nm q gl tp ie sB).ts[at5 gl tp ie]? = some t ∧ t.kind = nkind q ∧ t.val = bif sB then sc else nm := by
  cases sB
  · have t1 := put_at (c5 gl tp ie) (nkind q) nm (spell nm q)
    have o1 : Onto (c7 sc nm q gl tp ie false) (c8 sc nm q gl tp ie false) := (((Onto.refl _).put _ _ _).put _ _ _).put _ _ _
    exact ⟨_, o1.at t1, rfl, rfl⟩
  · have t1 := put_at (c5 gl tp ie) (nkind q) sc (spell sc q)
    have o1 : Onto ((c5 gl tp ie).named sc q) (c8 sc nm q gl tp ie true) := (((((Onto.refl _).put _ _ _).put _ _ _).put _ _ _).put _ _ _).put _ _ _
    exact ⟨_, o1.at t1, rfl, rfl⟩

def cWant (sc nm : ByteArray) (q sB : Bool) : ByteArray := bif sB then spell sc q ++ ⟨#[32, 46, 32]⟩ ++ spell nm q else spell nm q

/-- CreatesTableAs, of the statement that was built. -/
theorem law_calls (sc nm : ByteArray) (q gl tp ie sB : Bool) (hne : (!q && !ie && (bif sB then sc else nm).toList == kIf.toList) = false) {g : Nat} {w : World}
    (hrow : w.rowIs g 52 ((c8 sc nm q gl tp ie sB).ts.length * 4) (tkAt (c8 sc nm q gl tp ie sB).ts)) (hl : (c8 sc nm q gl tp ie sB).ts.length ≤ 1000) (ht : (c8 sc nm q gl tp ie sB).text.size ≤ 100000000) :
    Calls Tryf.prog 12 #[.agg #[.string (c8 sc nm q gl tp ie sB).text, .slice (some ⟨g, 0, none⟩) (c8 sc nm q gl tp ie sB).ts.length (c8 sc nm q gl tp ie sB).ts.length]] w fun e w' =>
      e = .returned (.tuple #[.agg #[.string (cWant sc nm q sB), .string nm, .bool ie], .bool true]) ∧ Below w.heap.size w w' := by
  obtain ⟨h1, h2, h3, h4, h5, h6⟩ := head_hits sc nm q gl tp ie sB
  have hif : hitB (c8 sc nm q gl tp ie sB).ts (onB tp (onB gl 1) + 1) [kIf] = ie := by
    cases ie
    · obtain ⟨t, e1, e2, e3⟩ := first_tok sc nm q gl tp false sB
      rw [h6] at e1
      refine (hitB_one _ _ _ _ e1).trans ?_
      rw [e2, e3]
      cases q
      · unfold isTk nkind
        simpa using hne
      · rfl
    · exact (h5 rfl).1
  obtain ⟨S, P, E, k, hr, ha, hPE, hE, hx⟩ := name_read sc nm q gl tp ie sB
  have hfin := as_calls (text := (c8 sc nm q gl tp ie sB).text) (w := w) hrow hl (fun pb w' hw => create_calls hw h1 h2 rfl h3 rfl h4 hif (fun h => by rw [h6, h]; rfl) (fun h => ⟨(h5 h).2.1, (h5 h).2.2, by rw [h6, h]; rfl⟩) (hr pb g)) ha (by omega) (by omega) (by omega) ht
  rw [Int.toNat_natCast, Int.toNat_natCast, hx] at hfin
  exact hfin

end Go.Proofs.Qxb6609453aFmt

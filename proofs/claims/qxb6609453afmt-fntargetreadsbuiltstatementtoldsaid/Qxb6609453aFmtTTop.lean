/-
  FnTargetReadsBuiltStatement: the walk.
-/
import Derived.Test.Qxb6609453aFmtTSt
import Derived.Deep.CutRange
import Derived.Deep.CutBlock
namespace Go.Proofs.Qxb6609453aFmt
open Go.RowKit
attribute [local go_sem ↓] Go.wp_at_zero Go.wp_at_succ

set_option maxHeartbeats 400000 in
/-- The bound laid by program: it only computes. -/
theorem bytes13 (n : Int) (sc nm al : ByteArray) (q wc ie : Bool) (w : World) (h1 : sc.size ≤ maxLen) (h2 : nm.size ≤ maxLen) (h3 : al.size ≤ maxLen) :
    Calls Tryf.prog 13 #[.int .i64 n, .string sc, .string nm, .string al, .bool q, .bool wc, .bool ie] w fun e w' => (∃ b, e = .returned (.bool b)) ∧ w = w' := by
  unfold maxLen at h1 h2 h3
  go_enter Tryf.func13, Tryf.ntmps13
  go_wp2
  all_goals
    go_ret
    exact ⟨⟨_, rfl⟩, rfl⟩

theorem kOr_toList : kOr.toList = [111, 114] := by rw [ByteArray.toList_eq]; rfl

set_option maxRecDepth 100000 in
set_option maxHeartbeats 1000000 in
theorem ttop_walk (n : Nat) (hn : n ≤ 5) (sc nm al : ByteArray) (q wi ie sB aB lB : Bool) (w : World) (h1 : sc.size ≤ 262144) (h2 : nm.size ≤ 262144) (h3 : al.size ≤ 262144)
    (hsB : sc.toList.isEmpty = !sB) (hlB : al.toList.isEmpty = !lB) (haB : (lB && decide (n ≤ 3)) = aB) {bm : Nat} {o : Obj} (hm : GM w bm o) (hl1 : Look bm o kSet false) (hl2 : Look bm o kWhere true)
    (hx2 : n = 2 → (!q && (bif sB then sc else nm).toList == kOr.toList) = false) (hx4 : n = 4 → (!q && !ie && (bif sB then sc else nm).toList == kIf.toList) = false) :
    Calls Tryf.prog 4 #[.int .i64 n, .string sc, .string nm, .string al, .bool q, .bool wi, .bool ie] w fun e w' => e = .returned (.bool true) ∧ Below w.heap.size w w' := by
  have HB := bytes13 n sc nm al q wi ie w (by unfold maxLen; omega) (by unfold maxLen; omega) (by unfold maxLen; omega)
  have v0 : decide ((n : Int) < 0) = false := by simp
  have v5 : decide ((5 : Int) < (n : Int)) = false := by simp; omega
  have hn' : (n : Int) ≤ 5 := by omega
  have hx2' : Hid (n = 2 → (!q && (bif sB then sc else nm).toList == kOr.toList) = false) := hx2
  have hx4' : Hid (n = 4 → (!q && !ie && (bif sB then sc else nm).toList == kIf.toList) = false) := hx4
  have Hal : Hid ((lB && decide (n ≤ 3)) = aB) := haB
  have HGM : Hid (GM w bm o ∧ Look bm o kSet false ∧ Look bm o kWhere true) := ⟨hm, hl1, hl2⟩
  have HLaw : Hid (∃ P E : Nat, TgtTo (zV n (aV n sc nm al q wi ie sB aB)).ts (bif sB then sc else ⟨#[]⟩) nm P E aB (kV n sc nm al q wi ie sB aB) ∧ P ≤ E ∧ E ≤ (zV n (aV n sc nm al q wi ie sB aB)).text.size ∧ (zV n (aV n sc nm al q wi ie sB aB)).text.extract P E = cWant sc nm q sB) :=
    lawV n hn sc nm al q wi ie sB aB (fun h => by rw [← haB, decide_eq_false (by omega), Bool.and_false]) hx2 hx4
  have HSc : Hid (((bif sB then sc else (⟨#[]⟩ : ByteArray)).toList == sc.toList) = true) := by
    cases sB
    · have e : sc.toList = [] := by simpa using hsB
      show ((⟨#[]⟩ : ByteArray).toList == sc.toList) = true
      rw [e, ByteArray.toList_eq]
      rfl
    · show (sc.toList == sc.toList) = true
      simp
  clear hx2 hx4 haB hm hl1 hl2
  go_enter Tryf.func4, Tryf.ntmps4
  go_wp2_with fail
  refine HB.mono ?_
  rintro e w' ⟨⟨b, rfl⟩, rfl⟩
  cases b
  · go_wp2
    go_ret
    exact ⟨rfl, Below.refl _ _⟩
  clear HB
  go_upto_if 50 with fail
  go_cut [15] from 243 to 243 (fun s15 wx => s15 = .string (bif sB then sc else nm) ∧ w = wx)
  case first =>
   as_aux_lemma =>
    cases sB
    · go_wp2_with fail
      go_meet
      case rel => exact ⟨rfl, rfl⟩
    · go_wp2_with fail
      go_meet
      case rel => exact ⟨rfl, rfl⟩
  case rest =>
  as_aux_lemma =>
  obtain ⟨rfl, rfl⟩ := hcut
  generalize hfst : (bif sB then sc else nm) = fst at *
  clear hfst
  have HF2 : Hid (n = 2 → (!q && fst.toList == kOr.toList) = false) := hx2'.out
  have HF4 : Hid (n = 4 → (!q && !ie && fst.toList == kIf.toList) = false) := hx4'.out
  go_upto_region 14 with fail
  go_cut [61] from 243 to 243 (fun s61 wx => s61 = .bool false ∧ w = wx)
  case first =>
   as_aux_lemma =>
    by_cases e2 : n = 2
    · have b2 : ((n : Int) == 2) = true := by simp; omega
      have hf := HF2.out e2
      rw [kOr_toList] at hf
      clear e2
      cases q
      · have hf' : (fst.toList == [111, 114]) = false := by simpa using hf
        clear hf
        go_wp2_with fail
        go_meet
        case rel => exact ⟨rfl, rfl⟩
      · clear hf
        go_wp2_with fail
        go_meet
        case rel => exact ⟨rfl, rfl⟩
    · have b2 : ((n : Int) == 2) = false := by simp; omega
      clear e2
      cases q
      · go_wp2_with fail
        go_meet
        case rel => exact ⟨rfl, rfl⟩
      · go_wp2_with fail
        go_meet
        case rel => exact ⟨rfl, rfl⟩
  case rest =>
  as_aux_lemma =>
  obtain ⟨rfl, rfl⟩ := hcut
  go_upto_region 16 with fail
  go_cut [75] from 243 to 243 (fun s75 wx => s75 = .bool false ∧ w = wx)
  case first =>
   as_aux_lemma =>
    by_cases e4 : n = 4
    · have b4 : ((n : Int) == 4) = true := by simp; omega
      have hf := HF4.out e4
      rw [kIf_toList] at hf
      clear e4
      cases q <;> cases ie
      · have hf' : (fst.toList == [105, 102]) = false := by simpa using hf
        clear hf
        go_wp2_with fail
        go_meet
        case rel => exact ⟨rfl, rfl⟩
      all_goals
        clear hf
        go_wp2_with fail
        go_meet
        exact ⟨rfl, rfl⟩
    · have b4 : ((n : Int) == 4) = false := by simp; omega
      clear e4
      cases q
      · go_wp2_with fail
        go_meet
        case rel => exact ⟨rfl, rfl⟩
      · go_wp2_with fail
        go_meet
        case rel => exact ⟨rfl, rfl⟩
  case rest =>
  as_aux_lemma =>
  obtain ⟨rfl, rfl⟩ := hcut
  have hB := Bl.made w
  have hb : Below w.heap.size w (w.alloc (.cells #[.string ⟨#[]⟩, .slice none 0 0] 25)) := (Below.refl _ _).alloc (Nat.le_refl _) _
  go_upto_if 76 with fail
  generalize hbb : w.heap.size = B at *
  have HBB : Hid (w.heap.size = B) := hbb
  clear hbb
  go_cut [] from 243 to 243 (fun wx => Bl B wx B (t1 wi) 147 7 ∧ Below B w wx)
  case first =>
   as_aux_lemma =>
    cases wi
    · go_wp2_with fail
      go_meet
      case rel => exact ⟨hB.wide (by omega) (by omega), hb⟩
    · go_wp2_with fail
      refine (word_st hB kWith (by decide) (by omega) (by omega)).mono ?_
      rintro e w1 ⟨rfl, hb1, hB1⟩
      go_wp2_with fail
      refine (word_st hB1 kC (by decide) (by omega) (by omega)).mono ?_
      rintro e w2 ⟨rfl, hb2, hB2⟩
      go_wp2_with fail
      refine (word_st hB2 kAs (by decide) (by omega) (by omega)).mono ?_
      rintro e w3 ⟨rfl, hb3, hB3⟩
      go_wp2_with fail
      refine (mark_st hB3 kLpar (by decide) (by omega) (by omega)).mono ?_
      rintro e w4 ⟨rfl, hb4, hB4⟩
      go_wp2_with fail
      refine (word_st hB4 kSelect (by decide) (by omega) (by omega)).mono ?_
      rintro e w5 ⟨rfl, hb5, hB5⟩
      go_wp2_with fail
      refine (put_st hB5 3 kOne kOne (by decide) (by omega) (by omega)).mono ?_
      rintro e w6 ⟨rfl, hb6, hB6⟩
      go_wp2_with fail
      refine (mark_st hB6 kRpar (by decide) (by omega) (by omega)).mono ?_
      rintro e w7 ⟨rfl, hb7, hB7⟩
      go_wp2_with fail
      go_meet
      case rel => exact ⟨hB7.wide (by omega) (by omega), ((((((hb.trans hb1).trans hb2).trans hb3).trans hb4).trans hb5).trans hb6).trans hb7⟩
  case rest =>
  as_aux_lemma =>
  clear hB hb
  obtain ⟨hB, hb⟩ := hcut
  go_upto_block 0 with fail
  go_cut [] from 243 to 243 (fun wx => Bl B wx B (pV n wi ie) 231 11 ∧ Below B w wx)
  case first =>
   as_aux_lemma =>
    have hcs : n = 0 ∨ n = 1 ∨ n = 2 ∨ n = 3 ∨ n = 4 ∨ n = 5 := by omega
    clear HF2 HF4 hx2' hx4' Hal v0 v5 hn' hn
    rcases hcs with rfl | rfl | rfl | rfl | rfl | rfl
    · go_wp2_with fail
      refine (word_st hB kInsert (by decide) (by omega) (by omega)).mono ?_
      rintro e x0 ⟨rfl, hb0, hB0⟩
      go_wp2_with fail
      refine (word_st hB0 kInto (by decide) (by omega) (by omega)).mono ?_
      rintro e x1 ⟨rfl, hb1, hB1⟩
      go_wp2_with fail
      go_meet
      case rel => exact ⟨hB1.wide (by omega) (by omega), ((hb.trans hb0).trans hb1)⟩
    · go_wp2_with fail
      refine (word_st hB kReplace (by decide) (by omega) (by omega)).mono ?_
      rintro e x0 ⟨rfl, hb0, hB0⟩
      go_wp2_with fail
      refine (word_st hB0 kInto (by decide) (by omega) (by omega)).mono ?_
      rintro e x1 ⟨rfl, hb1, hB1⟩
      go_wp2_with fail
      go_meet
      case rel => exact ⟨hB1.wide (by omega) (by omega), ((hb.trans hb0).trans hb1)⟩
    · go_wp2_with fail
      refine (word_st hB kUpdate (by decide) (by omega) (by omega)).mono ?_
      rintro e x0 ⟨rfl, hb0, hB0⟩
      go_wp2_with fail
      go_meet
      case rel => exact ⟨hB0.wide (by omega) (by omega), (hb.trans hb0)⟩
    · go_wp2_with fail
      refine (word_st hB kDelete (by decide) (by omega) (by omega)).mono ?_
      rintro e x0 ⟨rfl, hb0, hB0⟩
      go_wp2_with fail
      refine (word_st hB0 kFrom (by decide) (by omega) (by omega)).mono ?_
      rintro e x1 ⟨rfl, hb1, hB1⟩
      go_wp2_with fail
      go_meet
      case rel => exact ⟨hB1.wide (by omega) (by omega), ((hb.trans hb0).trans hb1)⟩
    · cases ie
      · go_wp2_with fail
        refine (word_st hB kDrop (by decide) (by omega) (by omega)).mono ?_
        rintro e x0 ⟨rfl, hb0, hB0⟩
        go_wp2_with fail
        refine (word_st hB0 kTable (by decide) (by omega) (by omega)).mono ?_
        rintro e x1 ⟨rfl, hb1, hB1⟩
        go_wp2_with fail
        go_meet
        case rel => exact ⟨hB1.wide (by omega) (by omega), ((hb.trans hb0).trans hb1)⟩
      · go_wp2_with fail
        refine (word_st hB kDrop (by decide) (by omega) (by omega)).mono ?_
        rintro e x0 ⟨rfl, hb0, hB0⟩
        go_wp2_with fail
        refine (word_st hB0 kTable (by decide) (by omega) (by omega)).mono ?_
        rintro e x1 ⟨rfl, hb1, hB1⟩
        go_wp2_with fail
        refine (word_st hB1 kIf (by decide) (by omega) (by omega)).mono ?_
        rintro e x2 ⟨rfl, hb2, hB2⟩
        go_wp2_with fail
        refine (word_st hB2 kExists (by decide) (by omega) (by omega)).mono ?_
        rintro e x3 ⟨rfl, hb3, hB3⟩
        go_wp2_with fail
        go_meet
        case rel => exact ⟨hB3.wide (by omega) (by omega), ((((hb.trans hb0).trans hb1).trans hb2).trans hb3)⟩
    · go_wp2_with fail
      refine (word_st hB kAlter (by decide) (by omega) (by omega)).mono ?_
      rintro e x0 ⟨rfl, hb0, hB0⟩
      go_wp2_with fail
      refine (word_st hB0 kTable (by decide) (by omega) (by omega)).mono ?_
      rintro e x1 ⟨rfl, hb1, hB1⟩
      go_wp2_with fail
      go_meet
      case rel => exact ⟨hB1.wide (by omega) (by omega), ((hb.trans hb0).trans hb1)⟩
  case rest =>
  as_aux_lemma =>
  clear hB hb
  obtain ⟨hB, hb⟩ := hcut
  -- want
  go_wp2_with fail
  refine (spell_calls nm q _ (by omega)).mono ?_
  rintro e w6 ⟨rfl, rfl⟩
  go_upto_if 113 with fail
  go_cut [17] from 243 to 243 (fun s17 wx => s17 = .string (cWant sc nm q sB) ∧ Bl B wx B (bif sB then ((pV n wi ie).named sc q).mark kDot else pV n wi ie) 262402 13 ∧ Below B w wx)
  case first =>
   as_aux_lemma =>
    cases sB
    · go_wp2_with fail
      go_meet
      case rel => exact ⟨rfl, hB.wide (by omega) (by omega), hb⟩
    · go_wp2_with fail
      refine (named_st hB sc q h1 (by omega) (by omega)).mono ?_
      rintro e w7 ⟨rfl, hb1, hB1⟩
      go_wp2_with fail
      refine (mark_st hB1 kDot (by decide) (by omega) (by omega)).mono ?_
      rintro e w8 ⟨rfl, hb2, hB2⟩
      go_wp2_with fail
      refine (spell_calls sc q _ (by omega)).mono ?_
      rintro e w9 ⟨rfl, rfl⟩
      have q1 := spell_size sc q
      have q2 := spell_size nm q
      go_wp2_with fail
      go_meet
      case rel => exact ⟨rfl, hB2.wide (by omega) (by omega), (hb.trans hb1).trans hb2⟩
  case rest =>
  as_aux_lemma =>
  clear hB hb
  obtain ⟨rfl, hB, hb⟩ := hcut
  generalize hW : cWant sc nm q sB = want at *
  have HW : Hid (cWant sc nm q sB = want) := hW
  clear hW
  -- the name
  go_wp2_with fail
  refine (named_st hB nm q h2 (by omega) (by omega)).mono ?_
  rintro e w10 ⟨rfl, hb1, hB1⟩
  replace hb := hb.trans hb1
  replace hB : Bl B w10 B (nameSt (pV n wi ie) sc nm q sB) 524552 14 := hB1
  clear hb1 hB1
  -- after
  obtain ⟨v, hc1, hown, hvn⟩ := hB.blt.row
  have hlen : 0 < (nameSt (pV n wi ie) sc nm q sB).ts.length := by unfold nameSt; rw [named_len]; omega
  obtain ⟨g0, cap0, rfl, -, -⟩ := hown.form hlen
  clear hown hvn
  have hL : (nameSt (pV n wi ie) sc nm q sB).ts.length ≤ 14 := hB.hn
  go_upto_region 54 with fail
  clear hc1
  go_cut [19] from 243 to 243 (fun s19 wx => s19 = .bool aB ∧ w10 = wx)
  case first =>
   as_aux_lemma =>
    have ha := Hal.out
    by_cases e3 : n ≤ 3
    · have b3 : decide ((n : Int) ≤ 3) = true := by simp; omega
      have e3' : (n : Int) ≤ 3 := by omega
      rw [decide_eq_true e3, Bool.and_true] at ha
      subst ha
      cases lB
      · go_wp2_with fail
        go_meet
        case rel => exact ⟨rfl, rfl⟩
      · go_wp2_with fail
        go_meet
        case rel => exact ⟨rfl, rfl⟩
    · have b3 : decide ((n : Int) ≤ 3) = false := by simp; omega
      rw [decide_eq_false e3, Bool.and_false] at ha
      subst ha
      cases lB
      · go_wp2_with fail
        go_meet
        case rel => exact ⟨rfl, rfl⟩
      · go_wp2_with fail
        go_meet
        case rel => exact ⟨rfl, rfl⟩
  case rest =>
  as_aux_lemma =>
  obtain ⟨rfl, rfl⟩ := hcut
  go_upto_if 136 with fail
  go_cut [18] from 243 to 243 (fun s18 wx => s18 = .int .i64 (kV n sc nm al q wi ie sB aB) ∧ Bl B wx B (aV n sc nm al q wi ie sB aB) 786723 16 ∧ Below B w wx)
  case first =>
   as_aux_lemma =>
    cases aB
    · go_wp2_with fail
      go_meet
      case rel => exact ⟨rfl, hB.wide (by omega) (by omega), hb⟩
    · go_wp2_with fail
      refine (word_st hB kAs (by decide) (by omega) (by omega)).mono ?_
      rintro e w11 ⟨rfl, hb1, hB1⟩
      go_wp2_with fail
      refine (named_st hB1 al q h3 (by omega) (by omega)).mono ?_
      rintro e w12 ⟨rfl, hb2, hB2'⟩
      have hB2 : Bl B w12 B (aV n sc nm al q wi ie sB true) 786723 16 := hB2'
      clear hB2'
      by_cases e1 : n ≤ 1
      · have b1 : (n : Int) ≤ 1 := by omega
        have ek : kV n sc nm al q wi ie sB true = (aV n sc nm al q wi ie sB true).ts.length := by unfold kV; rw [decide_eq_true e1]; rfl
        have Ek : Hid (kV n sc nm al q wi ie sB true = (aV n sc nm al q wi ie sB true).ts.length) := ek
        obtain ⟨v, hc1, hown, hvn⟩ := hB2.blt.row
        have hlen2 : 0 < (aV n sc nm al q wi ie sB true).ts.length := by show 0 < ((_ : St).named al q).ts.length; rw [named_len]; omega
        obtain ⟨g1, cap1, rfl, -, -⟩ := hown.form hlen2
        clear hown hvn ek
        go_wp2_with fail
        go_meet
        case rel => exact ⟨by rw [Ek.out], hB2, (hb.trans hb1).trans hb2⟩
      · have b1 : decide ((n : Int) ≤ 1) = false := by simp; omega
        have b1' : ¬ (n : Int) ≤ 1 := by omega
        have ek : kV n sc nm al q wi ie sB true = (nameSt (pV n wi ie) sc nm q sB).ts.length := by unfold kV; rw [decide_eq_false e1]; rfl
        have Ek : Hid (kV n sc nm al q wi ie sB true = (nameSt (pV n wi ie) sc nm q sB).ts.length) := ek
        clear ek
        go_wp2_with fail
        go_meet
        case rel => exact ⟨by rw [Ek.out], hB2, (hb.trans hb1).trans hb2⟩
  case rest =>
  as_aux_lemma =>
  clear hB hb
  obtain ⟨rfl, hB, hb⟩ := hcut
  generalize hkv : kV n sc nm al q wi ie sB aB = kk at *
  have HKV : Hid (kV n sc nm al q wi ie sB aB = kk) := hkv
  clear hkv
  go_upto_block 1 with fail
  go_cut [] from 243 to 243 (fun wx => Bl B wx B (zV n (aV n sc nm al q wi ie sB aB)) 786807 20 ∧ Below B w wx)
  case first =>
   as_aux_lemma =>
    have hcs : n = 0 ∨ n = 1 ∨ n = 2 ∨ n = 3 ∨ n = 4 ∨ n = 5 := by omega
    clear HF2 HF4 hx2' hx4' Hal v0 v5 hn' hn HKV
    rcases hcs with rfl | rfl | rfl | rfl | rfl | rfl
    · go_wp2_with fail
      refine (word_st hB kValues (by decide) (by omega) (by omega)).mono ?_
      rintro e x0 ⟨rfl, hb0, hB0⟩
      go_wp2_with fail
      refine (mark_st hB0 kLpar (by decide) (by omega) (by omega)).mono ?_
      rintro e x1 ⟨rfl, hb1, hB1⟩
      go_wp2_with fail
      refine (put_st hB1 3 kOne kOne (by decide) (by omega) (by omega)).mono ?_
      rintro e x2 ⟨rfl, hb2, hB2⟩
      go_wp2_with fail
      refine (mark_st hB2 kRpar (by decide) (by omega) (by omega)).mono ?_
      rintro e x3 ⟨rfl, hb3, hB3⟩
      go_wp2_with fail
      go_meet
      case rel => exact ⟨hB3.wide (by omega) (by omega), ((((hb.trans hb0).trans hb1).trans hb2).trans hb3)⟩
    · go_wp2_with fail
      refine (word_st hB kValues (by decide) (by omega) (by omega)).mono ?_
      rintro e x0 ⟨rfl, hb0, hB0⟩
      go_wp2_with fail
      refine (mark_st hB0 kLpar (by decide) (by omega) (by omega)).mono ?_
      rintro e x1 ⟨rfl, hb1, hB1⟩
      go_wp2_with fail
      refine (put_st hB1 3 kOne kOne (by decide) (by omega) (by omega)).mono ?_
      rintro e x2 ⟨rfl, hb2, hB2⟩
      go_wp2_with fail
      refine (mark_st hB2 kRpar (by decide) (by omega) (by omega)).mono ?_
      rintro e x3 ⟨rfl, hb3, hB3⟩
      go_wp2_with fail
      go_meet
      case rel => exact ⟨hB3.wide (by omega) (by omega), ((((hb.trans hb0).trans hb1).trans hb2).trans hb3)⟩
    · go_wp2_with fail
      refine (word_st hB kSet (by decide) (by omega) (by omega)).mono ?_
      rintro e x0 ⟨rfl, hb0, hB0⟩
      go_wp2_with fail
      refine (word_st hB0 kX (by decide) (by omega) (by omega)).mono ?_
      rintro e x1 ⟨rfl, hb1, hB1⟩
      go_wp2_with fail
      refine (mark_st hB1 kEq (by decide) (by omega) (by omega)).mono ?_
      rintro e x2 ⟨rfl, hb2, hB2⟩
      go_wp2_with fail
      refine (put_st hB2 3 kOne kOne (by decide) (by omega) (by omega)).mono ?_
      rintro e x3 ⟨rfl, hb3, hB3⟩
      go_wp2_with fail
      go_meet
      case rel => exact ⟨hB3.wide (by omega) (by omega), ((((hb.trans hb0).trans hb1).trans hb2).trans hb3)⟩
    · go_wp2_with fail
      refine (word_st hB kWhere (by decide) (by omega) (by omega)).mono ?_
      rintro e x0 ⟨rfl, hb0, hB0⟩
      go_wp2_with fail
      refine (word_st hB0 kX (by decide) (by omega) (by omega)).mono ?_
      rintro e x1 ⟨rfl, hb1, hB1⟩
      go_wp2_with fail
      refine (mark_st hB1 kEq (by decide) (by omega) (by omega)).mono ?_
      rintro e x2 ⟨rfl, hb2, hB2⟩
      go_wp2_with fail
      refine (put_st hB2 3 kOne kOne (by decide) (by omega) (by omega)).mono ?_
      rintro e x3 ⟨rfl, hb3, hB3⟩
      go_wp2_with fail
      go_meet
      case rel => exact ⟨hB3.wide (by omega) (by omega), ((((hb.trans hb0).trans hb1).trans hb2).trans hb3)⟩
    · go_wp2_with fail
      go_meet
      case rel => exact ⟨hB.wide (by omega) (by omega), hb⟩
    · go_wp2_with fail
      refine (word_st hB kAdd (by decide) (by omega) (by omega)).mono ?_
      rintro e x0 ⟨rfl, hb0, hB0⟩
      go_wp2_with fail
      refine (word_st hB0 kColumn (by decide) (by omega) (by omega)).mono ?_
      rintro e x1 ⟨rfl, hb1, hB1⟩
      go_wp2_with fail
      refine (word_st hB1 kC (by decide) (by omega) (by omega)).mono ?_
      rintro e x2 ⟨rfl, hb2, hB2⟩
      go_wp2_with fail
      refine (word_st hB2 kInt (by decide) (by omega) (by omega)).mono ?_
      rintro e x3 ⟨rfl, hb3, hB3⟩
      go_wp2_with fail
      go_meet
      case rel => exact ⟨hB3.wide (by omega) (by omega), ((((hb.trans hb0).trans hb1).trans hb2).trans hb3)⟩
  case rest =>
  as_aux_lemma =>
  clear hB hb
  obtain ⟨hB, hb⟩ := hcut
  obtain ⟨P, E, htg, hPE, hEs, hx⟩ := HLaw.out
  obtain ⟨v, hc1, hown, hvn⟩ := hB.blt.row
  have hc0 := hB.blt.c0
  replace hlen : 0 < (zV n (aV n sc nm al q wi ie sB aB)).ts.length := zV_pos _ _ (Nat.lt_of_lt_of_le hlen (onto_al _ _ _ _).len)
  obtain ⟨g, cap, rfl, -, -⟩ := hown.form hlen
  have hl : (zV n (aV n sc nm al q wi ie sB aB)).ts.length ≤ 1000 := by have := hB.hn; omega
  have ht : (zV n (aV n sc nm al q wi ie sB aB)).text.size ≤ 100000000 := by have := hB.ht; omega
  have hm : GM wc bm o := HGM.out.1.below (by rw [HBB.out]; exact hb)
  have hlt : B < wc.heap.size := World.block_lt_of_cell? _ _ hc0
  have HT : Hid _ := htg
  have HM : Hid (GM wc bm o) := hm
  have hS := HSc.out
  have HX : Hid ((zV n (aV n sc nm al q wi ie sB aB)).text.extract P E = want) := hx
  clear hB htg hm hvn hx HSc
  generalize (bif sB then sc else (⟨#[]⟩ : ByteArray)) = S at *
  generalize (zV n (aV n sc nm al q wi ie sB aB)).text = text at *
  generalize (zV n (aV n sc nm al q wi ie sB aB)).ts = ts at *
  have Hown : Hid (wc.ownsRow B 49 4 (.slice (some ⟨g, 0, none⟩) ts.length cap) ts.length (tkCells ts)) := hown
  clear hown
  go_wp2_with fail
  refine (toks_calls (B := B) Hown.out hlen hl).mono ?_
  rintro e w14 ⟨g', rfl, hge, hbt, hrow⟩
  have HR : Hid (w14.rowIs g' 52 (ts.length * 4) (tkAt ts)) := hrow
  have k0 := (hbt.cell (p := ⟨B, 0, none⟩) hlt).trans hc0
  have hs14 := hbt.size
  have hb14 := hb.trans (hbt.mono (Nat.le_of_lt hlt))
  have HM14 : Hid (GM w14 bm o) := HM.out.below hbt
  clear hrow hc0 hc1 hbt hge
  go_wp2_with fail
  refine (zz_calls HR.out hl HM14.out (HT.out g' bm o HGM.out.2.1 HGM.out.2.2)).mono ?_
  rintro e w15 ⟨rfl, hbl⟩
  have k5 := (hbl.cell (p := ⟨B, 0, none⟩) (by exact Nat.lt_of_lt_of_le hlt hs14)).trans k0
  have hb15 := hb14.trans (hbl.mono (Nat.le_of_lt (Nat.lt_of_lt_of_le hlt hs14)))
  have hs15 : B < w15.heap.size := Nat.lt_of_lt_of_le (Nat.lt_of_lt_of_le hlt hs14) hbl.size
  have n5 : w15.heap.size ≠ B := by omega
  have hq : ((text.extract P E).toList == want.toList) = true := by rw [HX.out]; simp
  have p0 : (0 : Int) ≤ (P : Int) := Int.natCast_nonneg _
  have p1 : (P : Int) ≤ (E : Int) := by omega
  have p2 : (E : Int) ≤ (text.size : Int) := by omega
  clear HLaw HT HM HGM HM14 k0 hbl hb14 hb Hown HR HF2 HF4 hx2' hx4' Hal
  go_wp2
  go_ret
  rw [HBB.out]
  exact ⟨rfl, hb15.alloc (by omega) _⟩

end Go.Proofs.Qxb6609453aFmt

/-
  The second statement's states, the verb a number.
-/
import Derived.Test.Qxb6609453aFmtTLaws
import Derived.Test.Qxb6609453aFmtTop
namespace Go.Proofs.Qxb6609453aFmt
open Go.RowKit

def pV (n : Nat) (wc ie : Bool) : St := match n with | 0 => p0 wc | 1 => p1 wc | 2 => p2 wc | 3 => p3 wc | 4 => p4 wc ie | _ => p5 wc
def zV (n : Nat) (s : St) : St := match n with | 0 => z01 s | 1 => z01 s | 2 => z2 s | 3 => z3 s | 4 => s | _ => z5 s
/-- The state ahead of the tail; the reader's place at the end. -/
def aV (n : Nat) (sc nm al : ByteArray) (q wc ie sB aB : Bool) : St := alSt (nameSt (pV n wc ie) sc nm q sB) al q aB
def kV (n : Nat) (sc nm al : ByteArray) (q wc ie sB aB : Bool) : Nat := bif (aB && decide (n ≤ 1)) then (aV n sc nm al q wc ie sB aB).ts.length else (nameSt (pV n wc ie) sc nm q sB).ts.length

theorem lawV (n : Nat) (hn : n ≤ 5) (sc nm al : ByteArray) (q wc ie sB aB : Bool) (ha : 3 < n → aB = false) (h2 : n = 2 → (!q && (bif sB then sc else nm).toList == kOr.toList) = false) (h4 : n = 4 → (!q && !ie && (bif sB then sc else nm).toList == kIf.toList) = false) :
    ∃ P E : Nat, TgtTo (zV n (aV n sc nm al q wc ie sB aB)).ts (bif sB then sc else ⟨#[]⟩) nm P E aB (kV n sc nm al q wc ie sB aB) ∧
      P ≤ E ∧ E ≤ (zV n (aV n sc nm al q wc ie sB aB)).text.size ∧ (zV n (aV n sc nm al q wc ie sB aB)).text.extract P E = cWant sc nm q sB := by
  match n, hn with
  | 0, _ =>
    obtain ⟨P, E, h, r⟩ := law0 sc nm al q sB aB wc
    refine ⟨P, E, ?_, r⟩
    have e : kV 0 sc nm al q wc ie sB aB = (alSt (nameSt (p0 wc) sc nm q sB) al q aB).ts.length := by cases aB <;> rfl
    rw [e]; exact h
  | 1, _ =>
    obtain ⟨P, E, h, r⟩ := law1 sc nm al q sB aB wc
    refine ⟨P, E, ?_, r⟩
    have e : kV 1 sc nm al q wc ie sB aB = (alSt (nameSt (p1 wc) sc nm q sB) al q aB).ts.length := by cases aB <;> rfl
    rw [e]; exact h
  | 2, _ =>
    obtain ⟨P, E, h, r⟩ := law2 sc nm al q sB aB wc (h2 rfl)
    refine ⟨P, E, ?_, r⟩
    have e : kV 2 sc nm al q wc ie sB aB = (nameSt (p2 wc) sc nm q sB).ts.length := by cases aB <;> rfl
    rw [e]; exact h
  | 3, _ =>
    obtain ⟨P, E, h, r⟩ := law3 sc nm al q sB aB wc
    refine ⟨P, E, ?_, r⟩
    have e : kV 3 sc nm al q wc ie sB aB = (nameSt (p3 wc) sc nm q sB).ts.length := by cases aB <;> rfl
    rw [e]; exact h
  | 4, _ =>
    obtain rfl := ha (by omega)
    exact law4 sc nm q sB wc ie (h4 rfl)
  | 5, _ =>
    obtain rfl := ha (by omega)
    exact law5 sc nm q sB wc

theorem Onto.len {a b : St} (h : Onto a b) : a.ts.length ≤ b.ts.length := by
  obtain ⟨⟨r, hr⟩, _⟩ := h
  rw [hr, List.length_append]; omega
theorem zV_pos (n : Nat) (s : St) (h : 0 < s.ts.length) : 0 < (zV n s).ts.length := by
  have o : Onto s (zV n s) := by
    unfold zV
    split
    · exact (((((Onto.refl _).word _).mark _).put _ _ _).mark _)
    · exact (((((Onto.refl _).word _).mark _).put _ _ _).mark _)
    · exact (((((Onto.refl _).word _).word _).mark _).put _ _ _)
    · exact (((((Onto.refl _).word _).word _).mark _).put _ _ _)
    · exact Onto.refl _
    · exact (((((Onto.refl _).word _).word _).word _).word _)
  exact Nat.lt_of_lt_of_le h o.len

end Go.Proofs.Qxb6609453aFmt

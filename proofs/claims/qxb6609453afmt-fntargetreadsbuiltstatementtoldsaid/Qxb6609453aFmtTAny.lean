/-
  FnTargetReadsBuiltStatement: the walk, whatever the input.
-/
import Derived.Test.Qxb6609453aFmtTTop
namespace Go.Proofs.Qxb6609453aFmt
open Go.RowKit
attribute [local go_sem ↓] Go.wp_at_zero Go.wp_at_succ

set_option maxRecDepth 100000 in
set_option maxHeartbeats 1000000 in
theorem ttop_long (n : Int) (sc nm al : ByteArray) (q wc ie : Bool) (w : World) (h1 : sc.size ≤ maxLen) (h2 : nm.size ≤ maxLen) (h3 : al.size ≤ maxLen) (h : 262144 < sc.size ∨ 262144 < nm.size ∨ 262144 < al.size) :
    Calls Tryf.prog 4 #[.int .i64 n, .string sc, .string nm, .string al, .bool q, .bool wc, .bool ie] w fun e w' => e = .returned (.bool true) ∧ Below w.heap.size w w' := by
  have HB := bytes13 n sc nm al q wc ie w h1 h2 h3
  unfold maxLen at h1 h2 h3
  by_cases hs : 262144 < sc.size
  · clear h
    go_enter Tryf.func4, Tryf.ntmps4
    go_wp2_with fail
    refine HB.mono ?_
    rintro e w' ⟨⟨b, rfl⟩, rfl⟩
    clear HB
    cases b
    · go_wp2
      go_ret
      exact ⟨rfl, Below.refl _ _⟩
    · go_wp2
      go_ret
      exact ⟨rfl, Below.refl _ _⟩
  · by_cases hn : 262144 < nm.size
    · clear h
      go_enter Tryf.func4, Tryf.ntmps4
      go_wp2_with fail
      refine HB.mono ?_
      rintro e w' ⟨⟨b, rfl⟩, rfl⟩
      clear HB
      cases b
      · go_wp2
        go_ret
        exact ⟨rfl, Below.refl _ _⟩
      · go_wp2
        go_ret
        exact ⟨rfl, Below.refl _ _⟩
    · have ha : 262144 < al.size := by omega
      clear h
      go_enter Tryf.func4, Tryf.ntmps4
      go_wp2_with fail
      refine HB.mono ?_
      rintro e w' ⟨⟨b, rfl⟩, rfl⟩
      clear HB
      cases b
      · go_wp2
        go_ret
        exact ⟨rfl, Below.refl _ _⟩
      · go_wp2
        go_ret
        exact ⟨rfl, Below.refl _ _⟩

set_option maxRecDepth 100000 in
set_option maxHeartbeats 1000000 in
theorem ttop_verb (n : Int) (sc nm al : ByteArray) (q wc ie : Bool) (w : World) (h1 : sc.size ≤ 262144) (h2 : nm.size ≤ 262144) (h3 : al.size ≤ 262144) (h : n < 0 ∨ 5 < n) :
    Calls Tryf.prog 4 #[.int .i64 n, .string sc, .string nm, .string al, .bool q, .bool wc, .bool ie] w fun e w' => e = .returned (.bool true) ∧ Below w.heap.size w w' := by
  have HB := bytes13 n sc nm al q wc ie w (by unfold maxLen; omega) (by unfold maxLen; omega) (by unfold maxLen; omega)
  by_cases hv : n < 0
  · clear h
    go_enter Tryf.func4, Tryf.ntmps4
    go_wp2_with fail
    refine HB.mono ?_
    rintro e w' ⟨⟨b, rfl⟩, rfl⟩
    clear HB
    cases b
    · go_wp2
      go_ret
      exact ⟨rfl, Below.refl _ _⟩
    · go_wp2
      go_ret
      exact ⟨rfl, Below.refl _ _⟩
  · have hv5 : 5 < n := by omega
    have d0 : decide (n < 0) = false := by simpa using hv
    clear h
    go_enter Tryf.func4, Tryf.ntmps4
    go_wp2_with fail
    refine HB.mono ?_
    rintro e w' ⟨⟨b, rfl⟩, rfl⟩
    clear HB
    cases b
    · go_wp2
      go_ret
      exact ⟨rfl, Below.refl _ _⟩
    · go_wp2
      go_ret
      exact ⟨rfl, Below.refl _ _⟩

set_option maxRecDepth 100000 in
set_option maxHeartbeats 1000000 in
theorem ttop_or (sc nm al : ByteArray) (wc ie sB : Bool) (w : World) (h1 : sc.size ≤ 262144) (h2 : nm.size ≤ 262144) (h3 : al.size ≤ 262144) (hsB : sc.toList.isEmpty = !sB) (hf : ((bif sB then sc else nm).toList == [111, 114]) = true) :
    Calls Tryf.prog 4 #[.int .i64 2, .string sc, .string nm, .string al, .bool false, .bool wc, .bool ie] w fun e w' => e = .returned (.bool true) ∧ Below w.heap.size w w' := by
  have HB := bytes13 2 sc nm al false wc ie w (by unfold maxLen; omega) (by unfold maxLen; omega) (by unfold maxLen; omega)
  cases sB
  · have hf' : (nm.toList == [111, 114]) = true := hf
    clear hf
    go_enter Tryf.func4, Tryf.ntmps4
    go_wp2_with fail
    refine HB.mono ?_
    rintro e w' ⟨⟨b, rfl⟩, rfl⟩
    clear HB
    cases b
    · go_wp2
      go_ret
      exact ⟨rfl, Below.refl _ _⟩
    · go_wp2
      go_ret
      exact ⟨rfl, Below.refl _ _⟩
  · have hf' : (sc.toList == [111, 114]) = true := hf
    clear hf
    go_enter Tryf.func4, Tryf.ntmps4
    go_wp2_with fail
    refine HB.mono ?_
    rintro e w' ⟨⟨b, rfl⟩, rfl⟩
    clear HB
    cases b
    · go_wp2
      go_ret
      exact ⟨rfl, Below.refl _ _⟩
    · go_wp2
      go_ret
      exact ⟨rfl, Below.refl _ _⟩

set_option maxRecDepth 100000 in
set_option maxHeartbeats 1000000 in
theorem ttop_if (sc nm al : ByteArray) (wc sB : Bool) (w : World) (h1 : sc.size ≤ 262144) (h2 : nm.size ≤ 262144) (h3 : al.size ≤ 262144) (hsB : sc.toList.isEmpty = !sB) (hf : ((bif sB then sc else nm).toList == [105, 102]) = true) :
    Calls Tryf.prog 4 #[.int .i64 4, .string sc, .string nm, .string al, .bool false, .bool wc, .bool false] w fun e w' => e = .returned (.bool true) ∧ Below w.heap.size w w' := by
  have HB := bytes13 4 sc nm al false wc false w (by unfold maxLen; omega) (by unfold maxLen; omega) (by unfold maxLen; omega)
  cases sB
  · have hf' : (nm.toList == [105, 102]) = true := hf
    clear hf
    go_enter Tryf.func4, Tryf.ntmps4
    go_wp2_with fail
    refine HB.mono ?_
    rintro e w' ⟨⟨b, rfl⟩, rfl⟩
    clear HB
    cases b
    · go_wp2
      go_ret
      exact ⟨rfl, Below.refl _ _⟩
    · go_wp2
      go_ret
      exact ⟨rfl, Below.refl _ _⟩
  · have hf' : (sc.toList == [105, 102]) = true := hf
    clear hf
    go_enter Tryf.func4, Tryf.ntmps4
    go_wp2_with fail
    refine HB.mono ?_
    rintro e w' ⟨⟨b, rfl⟩, rfl⟩
    clear HB
    cases b
    · go_wp2
      go_ret
      exact ⟨rfl, Below.refl _ _⟩
    · go_wp2
      go_ret
      exact ⟨rfl, Below.refl _ _⟩

/-- THE WALK, whatever the input. -/
theorem ttop_any (n : Int) (sc nm al : ByteArray) (q wc ie : Bool) (w : World) (h1 : sc.size ≤ maxLen) (h2 : nm.size ≤ maxLen) (h3 : al.size ≤ maxLen) {bm : Nat} {o : Obj} (hm : GM w bm o) (hl1 : Look bm o kSet false) (hl2 : Look bm o kWhere true) :
    Calls Tryf.prog 4 #[.int .i64 n, .string sc, .string nm, .string al, .bool q, .bool wc, .bool ie] w fun e w' => e = .returned (.bool true) ∧ Below w.heap.size w w' := by
  by_cases h : 262144 < sc.size ∨ 262144 < nm.size ∨ 262144 < al.size
  · exact ttop_long n sc nm al q wc ie w h1 h2 h3 h
  by_cases hv : n < 0 ∨ 5 < n
  · exact ttop_verb n sc nm al q wc ie w (by omega) (by omega) (by omega) hv
  have hsB : sc.toList.isEmpty = !(!sc.toList.isEmpty) := by simp
  have hlB : al.toList.isEmpty = !(!al.toList.isEmpty) := by simp
  obtain ⟨m, rfl⟩ := Int.eq_ofNat_of_zero_le (show 0 ≤ n by omega)
  cases hx2 : (!q && (bif (!sc.toList.isEmpty) then sc else nm).toList == kOr.toList)
  · cases hx4 : (!q && !ie && (bif (!sc.toList.isEmpty) then sc else nm).toList == kIf.toList)
    · exact ttop_walk m (by omega) sc nm al q wc ie _ _ _ w (by omega) (by omega) (by omega) hsB hlB rfl hm hl1 hl2 (fun _ => hx2) (fun _ => hx4)
    · by_cases e4 : m = 4
      · subst e4
        rw [kIf_toList] at hx4
        simp only [Bool.and_eq_true, Bool.not_eq_true'] at hx4
        obtain ⟨⟨rfl, rfl⟩, hf⟩ := hx4
        exact ttop_if sc nm al wc _ w (by omega) (by omega) (by omega) hsB hf
      · exact ttop_walk m (by omega) sc nm al q wc ie _ _ _ w (by omega) (by omega) (by omega) hsB hlB rfl hm hl1 hl2 (fun _ => hx2) (fun e => absurd e e4)
  · by_cases e2 : m = 2
    · subst e2
      rw [kOr_toList] at hx2
      simp only [Bool.and_eq_true, Bool.not_eq_true'] at hx2
      obtain ⟨rfl, hf⟩ := hx2
      exact ttop_or sc nm al wc ie _ w (by omega) (by omega) (by omega) hsB hf
    · cases hx4 : (!q && !ie && (bif (!sc.toList.isEmpty) then sc else nm).toList == kIf.toList)
      · exact ttop_walk m (by omega) sc nm al q wc ie _ _ _ w (by omega) (by omega) (by omega) hsB hlB rfl hm hl1 hl2 (fun e => absurd e e2) (fun _ => hx4)
      · by_cases e4 : m = 4
        · subst e4
          rw [kIf_toList] at hx4
          simp only [Bool.and_eq_true, Bool.not_eq_true'] at hx4
          obtain ⟨⟨rfl, rfl⟩, hf⟩ := hx4
          exact ttop_if sc nm al wc _ w (by omega) (by omega) (by omega) hsB hf
        · exact ttop_walk m (by omega) sc nm al q wc ie _ _ _ w (by omega) (by omega) (by omega) hsB hlB rfl hm hl1 hl2 (fun e => absurd e e2) (fun e => absurd e e4)

end Go.Proofs.Qxb6609453aFmt

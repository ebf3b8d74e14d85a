/-
  THE SHELL OF A PROOF OF 'Rows.FnIsDigitCountUpToSaid' ('example.com/cellmesh/cellmesh/zzlaws_parser_b1.FnIsDigitCountUpTo'), WRITTEN BY PROGRAM (proof-skeleton.mjs) off the guide's own print for that function. Not trusted: Lean checks it.
  THE WALK (STEP 1) IS FILLED IN BY HAND. ALL ELSE IS THE GUIDE's TEMPLATE (howto/template/XProofs.lean) at this function's number and types: leave it.
-/
import Derived.Test.Qxb6609453aRows
import Derived.WalkKit
import Derived.ProofKit
import Derived.OpenShut
import Derived.ShutString
namespace Go.Proofs.Qxb6609453a.fnIsDigitCountUpTo
open Go.ChangeShapes Go.WideShapes Go.ChangeAt Go.RowKit
open Go.ChangeMaps (open_string shut_string)
set_option linter.unusedVariables false      -- a walk need not use every 'w<i>' (that an integer argument fits its kind)

theorem own : ownKnob Try.prog.godebug = none := by kernel_rfl

/-! ### THE PLAIN LAW: no Go in sight: how many of the bytes 0 .. n-1 are digits -/
def cnt (n : Nat) : Int := if n < 48 then 0 else if n ≤ 58 then n - 48 else 10
theorem cnt_bd (n : Nat) : 0 ≤ cnt n ∧ cnt n ≤ 10 := by unfold cnt; omega

/-! ### STEP 1: THE WALK: the Go text returns true. 'Grown w w'': the world has at most new blocks (Derived/RowKit3.lean). Part the cases AHEAD of 'go_enter' where a test parts the walk; take each callee by a contract of your own. -/
theorem walk (a0 : Int) (w0 : (Lit.int .u8 a0).wf = true) (w : World) :
    Calls Try.prog 4 #[.int .u8 a0] w fun e w' => e = .returned (.bool true) ∧ Grown w w' := by
  obtain ⟨hlo, hhi⟩ := bounds_u8 w0
  go_enter Try.func4, Try.ntmps4
  go_wp2
  go_loop [3, 4] (fun c b => ∃ n : Nat, (n : Int) ≤ a0 + 1 ∧ b = .int .i64 n ∧ c = .int .i64 (cnt n)) (fun _ b => 256 - (intOf b).toNat)
  case atStart => exact ⟨0, by omega, rfl, rfl⟩
  case round =>
    obtain ⟨n, hn, rfl, rfl⟩ := hrel
    obtain ⟨hc0, hc1⟩ := cnt_bd n
    by_cases hlt : (n : Int) ≤ a0
    · by_cases h1 : 48 ≤ (n : Int)
      · by_cases h2 : (n : Int) ≤ 57
        · go_wp2
          go_round
          case rel => exact ⟨n + 1, by omega, by go_num, congrArg (Value.int .i64) (by unfold cnt; split <;> split <;> omega)⟩
          case measure => simp [intOf]; omega
        · go_wp2
          go_round
          case rel => exact ⟨n + 1, by omega, by go_num, congrArg (Value.int .i64) (by unfold cnt; split <;> split <;> omega)⟩
          case measure => simp [intOf]; omega
      · go_wp2
        go_round
        case rel => exact ⟨n + 1, by omega, by go_num, congrArg (Value.int .i64) (by unfold cnt; split <;> split <;> omega)⟩
        case measure => simp [intOf]; omega
    · by_cases h1 : a0 < 48
      · have hi : (cnt n == 0) = true := by unfold cnt; simp; omega
        go_wp2
        go_ret
        exact ⟨rfl, by repeat (first | exact Grown.refl _ | apply Grown.drew | apply Grown.alloc)⟩
      · by_cases h2 : a0 ≤ 57
        · have hi : (cnt n == a0 - 48 + 1) = true := by unfold cnt; simp; omega
          go_wp2
          go_ret
          exact ⟨rfl, by repeat (first | exact Grown.refl _ | apply Grown.drew | apply Grown.alloc)⟩
        · have hi : (cnt n == 10) = true := by unfold cnt; simp; omega
          go_wp2
          go_ret
          exact ⟨rfl, by repeat (first | exact Grown.refl _ | apply Grown.drew | apply Grown.alloc)⟩

/-! ### THE ROW's STEP: WRITTEN OUT: LEAVE IT -/
set_option maxRecDepth 100000 in
theorem lifted (os : Os) (started : os.Started) (H : Type) (enc : TypeId × Value → H) :
    ReturnsInHanded {} Try.checked os 4 .any (Rows.fnIsDigitCountUpToSpec.pre6 enc Try.prog Try.f4 Rows.fnIsDigitCountUpToRow.domain false) (Rows.fnIsDigitCountUpToSpec.post enc Try.prog Try.f4 false true false false) := by
  refine returnsInHanded_of_change (C := Try.checked) own started (by kernel_rfl) Try.func4
    (ChangeSpec.witness6 (enc := enc) (C := Try.checked) false ⟨#[], #[.int .u8 0], []⟩ 8 (by kernel_rfl) (by kernel_rfl) (by kernel_rfl) (by kernel_rfl)) ?_
  intro W base args ds gs before hval0 hW hcnd _
  have hval : ∀ (j : Nat) t v, Try.f4.params[j]? = some t → args[j]? = some v → Value.okWide Try.prog W .any base t v := hval0
  have hW' := hW
  obtain ⟨p, q, hA0, hV, rfl, hfz, hnd⟩ := hW
  have hA : DataW.TrodAll enc Try.prog W 0 (fun _ => true) true Try.f4.params.toList args.toList ds p := hA0
  rw [Try.params4] at hA hval
  obtain ⟨v0, vs0, d0, ds0, p0, q0, hargs, rfl, rfl, h0, r0⟩ := trodAll_cons hA
  obtain ⟨rfl, rfl, rfl⟩ := trodAll_nil r0
  obtain rfl : args = #[v0] := by cases args; simp_all
  obtain ⟨rfl, rfl⟩ := trodVars_none hV
  obtain ⟨a0, rfl, rfl, rfl, w0⟩ := open_int Try.underlying5 (hval 0 5 v0 rfl rfl) h0
  clear hA0 hval0
  simp only [List.append_nil] at hW'
  refine (walk a0 w0 W).mono fun e W' ⟨he, hg⟩ => ?_
  subst he
  exact ⟨_, rfl, post_of_same (pa := []) (pv := []) hW' (fun _ _ _ => (trodAll_cons_mk (shut_bool Try.underlying4 _) trodAll_mk0)) (fun sp _ => (trodAll_cons_mk (shut_int Try.underlying5 w0) trodAll_mk0)) (fun _ _ => rfl) rfl
    (hg.frame _) hg.2.1 (ok_one (by kernel_rfl) rfl (okWide_bool_mk Try.underlying4 _))⟩

theorem over : Rows.fnIsDigitCountUpToRow.holds Try.pinned (OpenSpec.ofChange Rows.fnIsDigitCountUpToSpec) :=
  OpenClaim.holds_of_wide 4 Try.f4 rfl rfl rfl rfl rfl rfl rfl ⟨rfl, rfl, rfl, rfl, rfl⟩ rfl rfl rfl rfl rfl (by kernel_rfl) Try.func4 (by kernel_rfl)
    (of_decide_eq_true (by kernel_rfl)) (by unfold Func.isWrapper; first | (rw [if_pos (by decide +kernel)]; kernel_rfl) | (rw [if_neg (by decide +kernel)]; exact ⟨rfl, rfl⟩))
    (fun os started H enc _ => lifted os started H enc)

/-- ████ THE STATEMENT ████ -/
theorem proved : Rows.FnIsDigitCountUpToSaid :=
  over
end Go.Proofs.Qxb6609453a.fnIsDigitCountUpTo

/-
  THE SHELL OF A PROOF OF 'Rows.FnDigitsEndExactSaid' ('example.com/cradle/cradle/zzlaws_internal_jinja_b1.FnDigitsEndExact'), WRITTEN BY PROGRAM (proof-skeleton.mjs) off the guide's own print for that function. Not trusted: Lean checks it.
  FILLED: the walk; and the closed facts ('closed': the head's three facts by Qxb6001693aModsHead: the kernel's memory). ALL ELSE IS THE GUIDE's TEMPLATE (howto/template/XProofs.lean) at this function's number and types: leave it.
-/
import Derived.Test.Qxb6001693aModsRows
import Derived.Test.Qxb6001693aModsHead
import Derived.Test.Qxb6001693aModsDigits
import Derived.WalkKit
import Derived.ProofKit
import Derived.OpenShut
import Derived.ShutString
namespace Go.Proofs.Qxb6001693aMods.fnDigitsEndExact
open Go.ChangeShapes Go.WideShapes Go.ChangeAt Go.RowKit
open Go.ChangeMaps (open_string shut_string)
set_option linter.unusedVariables false      -- a walk need not use every 'w<i>' (that an integer argument fits its kind)

theorem own : ownKnob Trym.prog.godebug = none := by kernel_rfl

/-! ### STEP 1: THE WALK: the Go text returns true. 'Grown w w'': the world has at most new blocks (Derived/RowKit3.lean). Part the cases AHEAD of 'go_enter' where a test parts the walk; take each callee by a contract of your own. -/
theorem walk (a0 : ByteArray) (a1 : Int) (w0 : a0.size ≤ maxLen) (w1 : (Lit.int .i64 a1).wf = true) (w : World) :
    Calls Trym.prog 8 #[.string a0, .int .i64 a1] w fun e w' => e = .returned (.bool true) ∧ Grown w w' := by
  unfold maxLen at w0
  have w1b : a1 ≤ 9223372036854775807 := (bounds_i64 w1).2
  by_cases hb : a0.size ≤ 1048576
  · by_cases h1 : a1 < 0
    · go_enter Trym.func8, Trym.ntmps8
      go_wp2_with (go_at_call 21; refine (Digits.bytes21 _ _ _ hb).mono ?_; rintro e w' ⟨rfl, rfl⟩)
      go_ret
      exact ⟨rfl, Grown.refl _⟩
    · obtain ⟨i, rfl⟩ : ∃ i : Nat, a1 = i := ⟨a1.toNat, by omega⟩
      go_enter Trym.func8, Trym.ntmps8
      go_wp2_with (go_at_call 21; refine (Digits.bytes21 _ _ _ hb).mono ?_; rintro e w' ⟨rfl, rfl⟩)
      refine (Digits.zzDigitsEnd a0 i _ hb (by omega)).mono ?_
      rintro e w' ⟨j, rfl, hj, rfl⟩
      have hbd := hj.bound
      have hle := hj.le
      by_cases h2 : a0.size < i
      · obtain rfl : j = i := by omega
        clear hbd
        go_wp2_with fail
        go_ret
        exact ⟨rfl, Grown.refl _⟩
      · have hjs : j ≤ a0.size := by omega
        clear hbd
        have hd1 : decide (j < i) = false := decide_eq_false (by omega)
        have hd2 : decide (a0.size < j) = false := decide_eq_false (by omega)
        go_wp2_with fail
        go_loop [6] (fun t => ∃ k : Nat, i ≤ k ∧ k ≤ j ∧ t = .int .i64 k) (fun t => j - (intOf t).toNat)
        case atStart => exact ⟨i, Nat.le_refl _, hle, rfl⟩
        case round =>
          obtain ⟨k, hik, hkj, rfl⟩ := hrel
          by_cases hlt : k < j
          · obtain ⟨hh, d1, d2⟩ := hj.all k hik hlt
            go_wp2_with (go_at_call 23; refine (Digits.isDigit_yes _ _ d1 d2).mono ?_; rintro e w' ⟨rfl, rfl⟩)
            go_round
            case rel => exact ⟨k + 1, by omega, by omega, by go_num⟩
            case measure => simp [intOf]; omega
          · by_cases hend : j < a0.size
            · have hno : ((a0[j]'hend).toNat : Int) < 48 ∨ 57 < ((a0[j]'hend).toNat : Int) := by
                have hst := hj.stop
                by_cases d1 : (48 : Int) ≤ ((a0[j]'hend).toNat : Int)
                · by_cases d2 : ((a0[j]'hend).toNat : Int) ≤ 57
                  · exact absurd ⟨hend, d1, d2⟩ hst
                  · exact .inr (by omega)
                · exact .inl (by omega)
              go_wp2_with (go_at_call 23; refine (Digits.isDigit_no _ _ hno).mono ?_; rintro e w' ⟨rfl, rfl⟩)
              go_ret
              exact ⟨rfl, Grown.refl _⟩
            · go_wp2_with fail
              go_ret
              exact ⟨rfl, Grown.refl _⟩
  · go_enter Trym.func8, Trym.ntmps8
    go_wp2
    go_ret
    exact ⟨rfl, Grown.refl _⟩

/-! ### THE ROW's STEP: WRITTEN OUT: LEAVE IT -/
set_option maxRecDepth 100000 in
theorem lifted (os : Os) (started : os.Started) (H : Type) (enc : TypeId × Value → H) :
    ReturnsInHanded {} Trym.checked os 8 .any (Rows.fnDigitsEndExactSpec.pre6 enc Trym.prog Trym.f8 Rows.fnDigitsEndExactRow.domain false) (Rows.fnDigitsEndExactSpec.post enc Trym.prog Trym.f8 false true false false) := by
  refine returnsInHanded_of_change (C := Trym.checked) own started (by kernel_rfl) Trym.func8
    (ChangeSpec.witness6 (enc := enc) (C := Trym.checked) false ⟨#[], #[.string ByteArray.empty, .int .i64 0], []⟩ 8 (by kernel_rfl) (by kernel_rfl) (by kernel_rfl) (by kernel_rfl)) ?_
  intro W base args ds gs before hval0 hW hcnd _
  have hval : ∀ (j : Nat) t v, Trym.f8.params[j]? = some t → args[j]? = some v → Value.okWide Trym.prog W .any base t v := hval0
  have hW' := hW
  obtain ⟨p, q, hA0, hV, rfl, hfz, hnd⟩ := hW
  have hA : DataW.TrodAll enc Trym.prog W 0 (fun _ => true) true Trym.f8.params.toList args.toList ds p := hA0
  rw [Trym.params8] at hA hval
  obtain ⟨v0, vs0, d0, ds0, p0, q0, hargs, rfl, rfl, h0, r0⟩ := trodAll_cons hA
  obtain ⟨v1, vs1, d1, ds1, p1, q1, rfl, rfl, rfl, h1, r1⟩ := trodAll_cons r0
  obtain ⟨rfl, rfl, rfl⟩ := trodAll_nil r1
  obtain rfl : args = #[v0, v1] := by cases args; simp_all
  obtain ⟨rfl, rfl⟩ := trodVars_none hV
  obtain ⟨a0, rfl, rfl, rfl, w0⟩ := open_string Trym.underlying9 (hval 0 9 v0 rfl rfl) h0
  obtain ⟨a1, rfl, rfl, rfl, w1⟩ := open_int Trym.underlying3 (hval 1 3 v1 rfl rfl) h1
  clear hA0 hval0
  simp only [List.append_nil] at hW'
  refine (walk a0 a1 w0 w1 W).mono fun e W' ⟨he, hg⟩ => ?_
  subst he
  exact ⟨_, rfl, post_of_same (pa := []) (pv := []) hW' (fun _ _ _ => (trodAll_cons_mk (shut_bool Trym.underlying4 _) trodAll_mk0)) (fun sp _ => (trodAll_cons_mk (shut_string Trym.underlying9 w0) (trodAll_cons_mk (shut_int Trym.underlying3 w1) trodAll_mk0))) (fun _ _ => rfl) rfl
    (hg.frame _) hg.2.1 (ok_one (by kernel_rfl) rfl (okWide_bool_mk Trym.underlying4 _))⟩

theorem closed : joinedFacts Trym.prog 8 Trym.f8 Rows.fnDigitsEndExactSpec Rows.fnDigitsEndExactRow = true := by
  rw [joinedFacts]
  repeat' with_reducible refine Head.both ?_ ?_
  all_goals with_reducible first | exact Head.mayEnter | refine Head.liftsIs (by kernel_rfl) | refine Head.makeIs (by kernel_rfl) | kernel_rfl

theorem over : Rows.fnDigitsEndExactRow.holds Trym.pinned (OpenSpec.ofChange Rows.fnDigitsEndExactSpec) :=
  OpenClaim.holds_of_wide 8 Trym.f8 rfl rfl rfl rfl rfl rfl rfl ⟨rfl, rfl, rfl, rfl, rfl⟩ rfl rfl rfl rfl rfl (by kernel_rfl) Trym.func8 closed
    (of_decide_eq_true (by kernel_rfl)) (by unfold Func.isWrapper; first | (rw [if_pos (by decide +kernel)]; kernel_rfl) | (rw [if_neg (by decide +kernel)]; exact ⟨rfl, rfl⟩))
    (fun os started H enc _ => lifted os started H enc)

/-- ████ THE STATEMENT ████ -/
theorem proved : Rows.FnDigitsEndExactSaid :=
  over
#print axioms proved
end Go.Proofs.Qxb6001693aMods.fnDigitsEndExact

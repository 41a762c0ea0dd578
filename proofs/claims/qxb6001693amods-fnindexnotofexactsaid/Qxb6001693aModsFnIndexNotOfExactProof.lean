/-
  THE SHELL OF A PROOF OF 'Rows.FnIndexNotOfExactSaid' ('example.com/cradle/cradle/zzlaws_internal_jinja_b1.FnIndexNotOfExact'), WRITTEN BY PROGRAM (proof-skeleton.mjs, third state) off the guide's own print for that function. Not trusted: Lean checks it.
  FILLED: the walk; and the closed facts ('closed': the head's three facts by Qxb6001693aModsHead: the kernel's memory). ALL ELSE IS THE GUIDE's OWN WAY (howto/template/XProofs.lean; Derived/Test/ChunkProofs.lean for 'Below') at this function's number and types: leave it.
-/
import Derived.Test.Qxb6001693aModsRows
import Derived.Test.Qxb6001693aModsHead
import Derived.Test.Qxb6001693aModsRune
import Derived.Test.Qxb6001693aModsClone
import Derived.WalkKit
import Derived.ProofKit
import Derived.OpenShut
import Derived.ShutString
import Derived.ChangeOld
import Derived.Below
namespace Go.Proofs.Qxb6001693aMods.fnIndexNotOfExact
open Go.ChangeShapes Go.WideShapes Go.ChangeAt Go.RowKit
open Go.ChangeMaps (open_string shut_string)
set_option linter.unusedVariables false

theorem own : ownKnob Trym.prog.godebug = none := by kernel_rfl
theorem laidOut : laidOutB Trym.prog = true := by kernel_rfl

open Rune (IsRow)

/-! ### STEP 1: THE WALK: the Go text returns true, AND WRITES NOTHING THAT WAS THERE: 'Below w.heap.size w w'' (Derived/Below.lean: '.refl', '.alloc', '.drew', '.setCell' at a new block, '.trans'). Open each 'IsRow' by 'rcases' AHEAD of 'go_enter'; part every test ahead of the walk. -/
theorem walk (a0 : Option Addr) (len0 cap0 : Nat) (z0 : List Int) (a1 : Int) (w : World) (w0 : IsRow .i32 w a0 len0 cap0 z0) (w1 : (Lit.int .i32 a1).wf = true) :
    Calls Trym.prog 6 #[.slice a0 len0 cap0, .int .i32 a1] w fun e w' => e = .returned (.bool true) ∧ Below w.heap.size w w' := by
  have hread := w0.reads
  have hnil := w0.nil
  clear w0
  obtain ⟨z, hz⟩ : ∃ z : Nat → Int, z = fun i => z0.getD i 0 := ⟨_, rfl⟩
  rw [← hz] at hread
  clear hz
  by_cases hb : len0 ≤ 1048576
  · by_cases hb2 : len0 ≤ 262144
    · go_enter Trym.func6, Trym.ntmps6
      go_wp2_with (first | (go_at_call 18; refine (Rune.bytes18 _ _ _ _ _ hb).mono ?_; rintro e w ⟨rfl, rfl⟩) | (go_at_call 14; refine (Rune.clone _ _ _ z _ hb hnil (by exact hread)).mono ?_))
      rintro e w1 ⟨a', c', rfl, hr, hc', _, hbel⟩
      clear hread hnil
      have HB : Hid (Below w.heap.size w w1) := hbel
      clear hbel
      go_wp2_with fail
      refine (Rune.zzIndexNotOf a' len0 c' z a1 _ hb hr).mono ?_
      rintro e w1 ⟨i, rfl, hli, rfl⟩
      rcases Nat.eq_zero_or_pos len0 with rfl | hpos
      · obtain rfl : i = -1 := by
          rcases hli with ⟨h, _⟩ | ⟨k, _, h, _⟩
          · exact h
          · omega
        clear hli hr
        go_wp2_with fail
        refine wp_loop_rounds 1 ?_
        rw [rounds_succ]
        go_wp2
        go_ret
        exact ⟨rfl, HB.out⟩
      · obtain ⟨b, off, ha, hc⟩ := hr.resolve_left (by omega)
        clear hr
        rw [ha]
        have HC : Hid (∀ i, i < len0 → w1.cell? ⟨b, off + i, none⟩ = some (.int .i32 (z i))) := hc
        clear hc ha
        rcases hli with ⟨rfl, hall⟩ | ⟨p, rfl, hp, hpr, hall⟩
        · have HA : Hid (∀ j, j < len0 → z j = a1) := hall
          clear hall
          go_wp2_with fail
          go_loop [7] (fun t => ∃ m : Nat, m ≤ len0 ∧ t = .int .i64 m) (fun t => len0 - (intOf t).toNat)
          case atStart => exact ⟨0, by omega, rfl⟩
          case round =>
            obtain ⟨m, hm, rfl⟩ := hrel
            by_cases hlt : m < len0
            · have hcm := HC.out m hlt
              have hne : (z m != a1) = false := by simpa using HA.out m hlt
              go_wp2_with fail
              go_round
              case rel => exact ⟨m + 1, by omega, by go_num⟩
              case measure => simp [intOf]; omega
            · go_wp2_with fail
              go_ret
              exact ⟨rfl, HB.out⟩
        · have HA : Hid (∀ j, j < p → z j = a1) := hall
          have hcp := HC.out p hp
          have hpe : (z p == a1) = false := by simpa using hpr
          have hd1 : decide (len0 ≤ p) = false := decide_eq_false (by omega)
          clear hall hpr
          go_wp2_with fail
          go_loop [7] (fun t => ∃ m : Nat, m ≤ p ∧ t = .int .i64 m) (fun t => p - (intOf t).toNat)
          case atStart => exact ⟨0, by omega, rfl⟩
          case round =>
            obtain ⟨m, hm, rfl⟩ := hrel
            by_cases hlt : m < p
            · have hml : m < len0 := by omega
              have hcm := HC.out m hml
              have hne : (z m != a1) = false := by simpa using HA.out m hlt
              go_wp2_with fail
              go_round
              case rel => exact ⟨m + 1, by omega, by go_num⟩
              case measure => simp [intOf]; omega
            · go_wp2_with fail
              go_ret
              exact ⟨rfl, HB.out⟩
    · go_enter Trym.func6, Trym.ntmps6
      go_wp2_with (go_at_call 18; refine (Rune.bytes18 _ _ _ _ _ hb).mono ?_; rintro e w ⟨rfl, rfl⟩)
      go_ret
      exact ⟨rfl, Below.refl _ _⟩
  · go_enter Trym.func6, Trym.ntmps6
    go_wp2
    go_ret
    exact ⟨rfl, Below.refl _ _⟩

/-! ### THE ROW's STEP: WRITTEN OUT: LEAVE IT -/
set_option maxRecDepth 100000 in
theorem lifted (os : Os) (started : os.Started) (H : Type) (enc : TypeId × Value → H) :
    ReturnsInHanded {} Trym.checked os 6 .any (Rows.fnIndexNotOfExactSpec.pre6 enc Trym.prog Trym.f6 Rows.fnIndexNotOfExactRow.domain false) (Rows.fnIndexNotOfExactSpec.post enc Trym.prog Trym.f6 false true false false) := by
  refine returnsInHanded_of_change (C := Trym.checked) own started (by kernel_rfl) Trym.func6
    (ChangeSpec.witness6 (enc := enc) (C := Trym.checked) false ⟨#[], #[.slice none 0 0, .int .i32 0], []⟩ 8 (by kernel_rfl) (by kernel_rfl) (by kernel_rfl) (by kernel_rfl)) ?_
  intro W base args ds gs before hval0 hW hcnd _
  have hval : ∀ (j : Nat) t v, Trym.f6.params[j]? = some t → args[j]? = some v → Value.okWide Trym.prog W .any base t v := hval0
  have hW' := hW
  obtain ⟨p, q, hA0, hV, rfl, hfz, hnd⟩ := hW
  have hA : DataW.TrodAll enc Trym.prog W 0 (fun _ => true) true Trym.f6.params.toList args.toList ds p := hA0
  rw [Trym.params6] at hA hval
  obtain ⟨v0, vs0, d0, ds0, p0, q0, hargs, rfl, rfl, h0, r0⟩ := trodAll_cons hA
  obtain ⟨v1, vs1, d1, ds1, p1, q1, rfl, rfl, rfl, h1, r1⟩ := trodAll_cons r0
  obtain ⟨rfl, rfl, rfl⟩ := trodAll_nil r1
  obtain rfl : args = #[v0, v1] := by cases args; simp_all
  obtain ⟨rfl, rfl⟩ := trodVars_none hV
  obtain ⟨a0, len0, cap0, rfl⟩ := okWide_slice Trym.underlying22 (hval 0 22 v0 rfl rfl)
  have k0 := h0
  have lt0 : ∀ x ∈ p0, x.block < W.heap.size := by obtain ⟨m, hm⟩ := k0; exact DataW.trod_lt m _ _ _ hm
  obtain ⟨z0, w0⟩ : ∃ zs, IsRow .i32 W a0 len0 cap0 zs := by
    obtain ⟨fuel, hf⟩ := h0
    rcases open_ints Trym.underlying22 Trym.underlying21 (by kernel_rfl) hf with ⟨hcs, _⟩ | ⟨x, l, c, zs, hcs, _, hl, hm, hz, _, hcell, hwz⟩
    · simp [Value.cells] at hcs
      obtain ⟨rfl, rfl, rfl⟩ := hcs
      exact ⟨[], .inl ⟨rfl, rfl, rfl, rfl⟩⟩
    · simp [Value.cells] at hcs
      obtain ⟨rfl, rfl, rfl⟩ := hcs
      exact ⟨zs, .inr ⟨_, rfl, hl, hm, by simpa using hz, hcell, hwz⟩⟩
  obtain ⟨a1, rfl, rfl, rfl, w1⟩ := open_int Trym.underlying21 (hval 1 21 v1 rfl rfl) h1
  clear hA0 hval0
  refine (walk a0 len0 cap0 z0 a1 W w0 w1).mono fun e W' ⟨he, bel⟩ => ?_
  subst he
  exact ⟨_, rfl, _, _, _, [], _, [], hW', trodAll_mk1 (shut_bool Trym.underlying4 _), (trodAll_cons_mk (Below.trod laidOut (by kernel_rfl) (of_decide_eq_true (by kernel_rfl)) k0 bel lt0) (trodAll_cons_mk (shut_int Trym.underlying21 w1) trodAll_mk0)), rfl, bel.frame _, fun h => by cases h⟩

theorem closed : joinedFacts Trym.prog 6 Trym.f6 Rows.fnIndexNotOfExactSpec Rows.fnIndexNotOfExactRow = true := by
  rw [joinedFacts]
  repeat' with_reducible refine Head.both ?_ ?_
  all_goals with_reducible first | exact Head.mayEnter | refine Head.liftsIs (by kernel_rfl) | refine Head.makeIs (by kernel_rfl) | kernel_rfl

theorem over : Rows.fnIndexNotOfExactRow.holds Trym.pinned (OpenSpec.ofChange Rows.fnIndexNotOfExactSpec) :=
  OpenClaim.holds_of_wide 6 Trym.f6 rfl rfl rfl rfl rfl rfl rfl ⟨rfl, rfl, rfl, rfl, rfl⟩ rfl rfl rfl rfl rfl (by kernel_rfl) Trym.func6 closed
    (of_decide_eq_true (by kernel_rfl)) (by unfold Func.isWrapper; first | (rw [if_pos (by decide +kernel)]; kernel_rfl) | (rw [if_neg (by decide +kernel)]; exact ⟨rfl, rfl⟩))
    (fun os started H enc _ => lifted os started H enc)

/-- ████ THE STATEMENT ████ -/
theorem proved : Rows.FnIndexNotOfExactSaid := over
#print axioms proved
end Go.Proofs.Qxb6001693aMods.fnIndexNotOfExact

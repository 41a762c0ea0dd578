/-
  THE SHELL OF A PROOF OF 'Rows.FnIndexNotOfPaddingSaid' ('example.com/cradle/cradle/zzlaws_internal_jinja_b1.FnIndexNotOfPadding'), WRITTEN BY PROGRAM (proof-skeleton.mjs, third state) off the guide's own print for that function. Not trusted: Lean checks it.
  FILLED: the walk; and the closed facts ('closed': the head's three facts by Qxb6001693aModsHead: the kernel's memory). ALL ELSE IS THE GUIDE's OWN WAY (howto/template/XProofs.lean; Derived/Test/ChunkProofs.lean for 'Below') at this function's number and types: leave it.
-/
import Derived.Test.Qxb6001693aModsRows
import Derived.Test.Qxb6001693aModsHead
import Derived.Test.Qxb6001693aModsRune
import Derived.Test.Qxb6001693aModsClone
import Derived.Test.Qxb6001693aModsGrow
import Derived.WalkKit
import Derived.ProofKit
import Derived.OpenShut
import Derived.ShutString
import Derived.ChangeOld
import Derived.Below
namespace Go.Proofs.Qxb6001693aMods.fnIndexNotOfPadding
open Go.ChangeShapes Go.WideShapes Go.ChangeAt Go.RowKit
open Go.ChangeMaps (open_string shut_string)
set_option linter.unusedVariables false

theorem own : ownKnob Trym.prog.godebug = none := by kernel_rfl
theorem laidOut : laidOutB Trym.prog = true := by kernel_rfl

open Rune (IsRow)

/-! ### STEP 1: THE WALK: the Go text returns true, AND WRITES NOTHING THAT WAS THERE: 'Below w.heap.size w w'' (Derived/Below.lean: '.refl', '.alloc', '.drew', '.setCell' at a new block, '.trans'). Open each 'IsRow' by 'rcases' AHEAD of 'go_enter'; part every test ahead of the walk. -/
theorem walk (a0 : Option Addr) (len0 cap0 : Nat) (z0 : List Int) (a1 : Int) (a2 : Int) (w : World) (w0 : IsRow .i32 w a0 len0 cap0 z0) (w1 : (Lit.int .i32 a1).wf = true) (w2 : (Lit.int .i64 a2).wf = true) :
    Calls Trym.prog 7 #[.slice a0 len0 cap0, .int .i32 a1, .int .i64 a2] w fun e w' => e = .returned (.bool true) ∧ Below w.heap.size w w' := by
  obtain ⟨i0, hi, hz0, hz1, hz2⟩ := info_parts Rune.info21
  have hread := w0.reads
  have hnil := w0.nil
  clear w0
  obtain ⟨z, hz⟩ : ∃ z : Nat → Int, z = fun i => z0.getD i 0 := ⟨_, rfl⟩
  rw [← hz] at hread
  clear hz
  by_cases hb : len0 ≤ 1048576
  · by_cases hb2 : len0 ≤ 262144
    · by_cases hk0 : a2 < 0
      · go_enter Trym.func7, Trym.ntmps7
        go_wp2_with (go_at_call 20; refine (Rune.bytes20 _ _ _ _ _ _ hb).mono ?_; rintro e w ⟨rfl, rfl⟩)
        go_ret
        exact ⟨rfl, Below.refl _ _⟩
      · obtain ⟨p, rfl⟩ : ∃ p : Nat, a2 = p := ⟨a2.toNat, by omega⟩
        by_cases hk : 65536 < p
        · have hk' : (65536 : Int) < (p : Int) := by omega
          go_enter Trym.func7, Trym.ntmps7
          go_wp2_with (go_at_call 20; refine (Rune.bytes20 _ _ _ _ _ _ hb).mono ?_; rintro e w ⟨rfl, rfl⟩)
          go_ret
          exact ⟨rfl, Below.refl _ _⟩
        · by_cases hsum : 262144 < len0 + p
          · go_enter Trym.func7, Trym.ntmps7
            go_wp2_with (go_at_call 20; refine (Rune.bytes20 _ _ _ _ _ _ hb).mono ?_; rintro e w ⟨rfl, rfl⟩)
            go_ret
            exact ⟨rfl, Below.refl _ _⟩
          · go_enter Trym.func7, Trym.ntmps7
            go_wp2_with (first | (go_at_call 20; refine (Rune.bytes20 _ _ _ _ _ _ hb).mono ?_; rintro e w ⟨rfl, rfl⟩) | (go_at_call 14; refine (Rune.clone _ _ _ z _ hb hnil (by exact hread)).mono ?_))
            rintro e w1 ⟨a', c', rfl, hr, hc', _, hbel⟩
            clear hread hnil
            have HB : Hid (Below w.heap.size w w1) := hbel
            clear hbel
            have HRd : Hid (Rune.Reads w1 a' len0 z) := hr
            clear hr
            go_wp2_with (at_make; refine wpList_make_full _ rfl _ _ 22 rfl w1.heap.size 21 i0 (.int .i32 0) 1 Trym.underlying22 hi hz0 hz1 .i64 .i64 _ _ (p + len0) rfl rfl (by omega) (by omega) (by rw [hz2]; omega) (by unfold maxLen; omega) (Nat.le_refl _) ?_; intro wm hownm hgrowm)
            have hbm : Below w1.heap.size w1 wm := (Below.refl _ _).grown hgrowm (Nat.le_refl _) (by simp)
            clear hgrowm
            go_loopw [8] (fun t wr => ∃ (k : Nat) (xs : List Value), k ≤ p ∧ t = .int .i64 k ∧ wr.ownsRow w1.heap.size 21 1 (.slice (some ⟨w1.heap.size, 0, none⟩) (p + len0) (p + len0)) (p + len0) xs ∧ Rune.Filled xs 0 k (fun _ => a1) ∧ Below w1.heap.size w1 wr)
              (fun t _ => p - (intOf t).toNat)
            case atStart => exact ⟨0, _, by omega, rfl, hownm, fun i hi => absurd hi (by omega), hbm⟩
            case round =>
              obtain ⟨k, xs, hkp, rfl, hown, hfill, hnx⟩ := hrel
              clear hownm hbm
              by_cases hlt : k < p
              · have hfz : wr.frozen? ⟨w1.heap.size, k, none⟩ = false := hown.frozenAt k
                obtain ⟨v, hv⟩ := Rune.own_cell hown k (by omega)
                have HO : Hid (wr.ownsRow w1.heap.size 21 1 (.slice (some ⟨w1.heap.size, 0, none⟩) (p + len0) (p + len0)) (p + len0) xs ∧ Rune.Filled xs 0 k (fun _ => a1) ∧ Below w1.heap.size w1 wr) := ⟨hown, hfill, hnx⟩
                clear hown hfill hnx
                go_wp2_with fail
                go_roundw
                case rel =>
                  obtain ⟨hown, hfill, hnx⟩ := HO.out
                  have hst := hown.stored k (.int .i32 a1)
                  have hfs := hfill.step (by have := hown.1; omega)
                  rw [Nat.zero_add] at hfs
                  exact ⟨k + 1, _, by omega, by go_num, hst.1, hfs, hnx.setCell (Nat.le_refl _) _⟩
                case measure => simp [intOf]; omega
              · obtain rfl : k = p := by omega
                have HO : Hid (wr.ownsRow w1.heap.size 21 1 (.slice (some ⟨w1.heap.size, 0, none⟩) (k + len0) (k + len0)) (k + len0) xs ∧ Rune.Filled xs 0 k (fun _ => a1) ∧ Below w1.heap.size w1 wr) := ⟨hown, hfill, hnx⟩
                clear hown hfill hnx
                go_wp2_with fail
                go_loopw [9] (fun t wr => ∃ (m : Nat) (xs : List Value), m ≤ len0 ∧ t = .int .i64 m ∧ wr.ownsRow w1.heap.size 21 1 (.slice (some ⟨w1.heap.size, 0, none⟩) (k + len0) (k + len0)) (k + len0) xs ∧ Rune.Filled xs 0 k (fun _ => a1) ∧ Rune.Filled xs k m z ∧ Below w1.heap.size w1 wr)
                  (fun t _ => len0 - (intOf t).toNat)
                case atStart => exact ⟨0, _, by omega, rfl, HO.out.1, HO.out.2.1, fun i hi => absurd hi (by omega), HO.out.2.2⟩
                case round =>
                  clear HO xs
                  obtain ⟨m, xs, hm, rfl, hown, hfill, hfill2, hnx⟩ := hrel
                  by_cases hlt2 : m < len0
                  · obtain ⟨b, off, ha, hc⟩ := HRd.out.resolve_left (by omega)
                    subst ha
                    have hblk : b < w1.heap.size := block_lt_of_cell (hc m hlt2)
                    have hcell : wr.cell? ⟨b, off + m, none⟩ = some (.int .i32 (z m)) := (hnx.cell hblk).trans (hc m hlt2)
                    have hfz : wr.frozen? ⟨w1.heap.size, k + m, none⟩ = false := hown.frozenAt (k + m)
                    obtain ⟨v, hv⟩ := Rune.own_cell hown (k + m) (by omega)
                    have HO : Hid (wr.ownsRow w1.heap.size 21 1 (.slice (some ⟨w1.heap.size, 0, none⟩) (k + len0) (k + len0)) (k + len0) xs ∧ Rune.Filled xs 0 k (fun _ => a1) ∧ Rune.Filled xs k m z ∧ Below w1.heap.size w1 wr) := ⟨hown, hfill, hfill2, hnx⟩
                    clear hown hfill hfill2 hnx hc
                    go_wp2_with fail
                    go_roundw
                    case rel =>
                      obtain ⟨hown, hfill, hfill2, hnx⟩ := HO.out
                      have hst := hown.stored (k + m) (.int .i32 (z m))
                      have hfs := hfill2.step (by have := hown.1; omega)
                      exact ⟨m + 1, _, by omega, by go_num, hst.1, hfill.other (.inr (by omega)), hfs, hnx.setCell (Nat.le_refl _) _⟩
                    case measure => simp [intOf]; omega
                  · obtain rfl : m = len0 := by omega
                    have hrt := Rune.filled_reads hown (hfill.padded hfill2)
                    have hrs := HRd.out.below hnx
                    have HB2 : Hid (Below w.heap.size w wr) := HB.out.trans (hnx.mono HB.out.size)
                    clear hown hfill hfill2 hnx
                    go_wp2_with fail
                    refine (Rune.zzIndexNotOf _ (k + m) _ (Rune.padded z k a1) a1 _ (by omega) (by exact hrt)).mono ?_
                    rintro e wy ⟨i, rfl, hli, hw2⟩
                    rw [hw2]
                    clear hw2 wy hrt
                    go_wp2_with fail
                    refine (Rune.zzIndexNotOf _ m _ z a1 _ (by omega) (by exact hrs)).mono ?_
                    rintro e wy ⟨j, rfl, hlj, hw2⟩
                    rw [hw2]
                    clear hw2 wy hrs
                    rcases hlj with ⟨rfl, hall⟩ | ⟨q, rfl, hq, hqr, hall⟩
                    · obtain rfl := hli.pad_none (.inl ⟨rfl, hall⟩)
                      clear hli hall
                      go_wp2_with fail
                      go_ret
                      exact ⟨rfl, HB2.out⟩
                    · obtain rfl := hli.pad_some (.inr ⟨q, rfl, hq, hqr, hall⟩)
                      clear hli hall hqr
                      go_wp2_with fail
                      go_ret
                      exact ⟨rfl, HB2.out⟩
    · go_enter Trym.func7, Trym.ntmps7
      go_wp2_with (go_at_call 20; refine (Rune.bytes20 _ _ _ _ _ _ hb).mono ?_; rintro e w ⟨rfl, rfl⟩)
      go_ret
      exact ⟨rfl, Below.refl _ _⟩
  · go_enter Trym.func7, Trym.ntmps7
    go_wp2
    go_ret
    exact ⟨rfl, Below.refl _ _⟩

/-! ### THE ROW's STEP: WRITTEN OUT: LEAVE IT -/
set_option maxRecDepth 100000 in
theorem lifted (os : Os) (started : os.Started) (H : Type) (enc : TypeId × Value → H) :
    ReturnsInHanded {} Trym.checked os 7 .any (Rows.fnIndexNotOfPaddingSpec.pre6 enc Trym.prog Trym.f7 Rows.fnIndexNotOfPaddingRow.domain false) (Rows.fnIndexNotOfPaddingSpec.post enc Trym.prog Trym.f7 false true false false) := by
  refine returnsInHanded_of_change (C := Trym.checked) own started (by kernel_rfl) Trym.func7
    (ChangeSpec.witness6 (enc := enc) (C := Trym.checked) false ⟨#[], #[.slice none 0 0, .int .i32 0, .int .i64 0], []⟩ 8 (by kernel_rfl) (by kernel_rfl) (by kernel_rfl) (by kernel_rfl)) ?_
  intro W base args ds gs before hval0 hW hcnd _
  have hval : ∀ (j : Nat) t v, Trym.f7.params[j]? = some t → args[j]? = some v → Value.okWide Trym.prog W .any base t v := hval0
  have hW' := hW
  obtain ⟨p, q, hA0, hV, rfl, hfz, hnd⟩ := hW
  have hA : DataW.TrodAll enc Trym.prog W 0 (fun _ => true) true Trym.f7.params.toList args.toList ds p := hA0
  rw [Trym.params7] at hA hval
  obtain ⟨v0, vs0, d0, ds0, p0, q0, hargs, rfl, rfl, h0, r0⟩ := trodAll_cons hA
  obtain ⟨v1, vs1, d1, ds1, p1, q1, rfl, rfl, rfl, h1, r1⟩ := trodAll_cons r0
  obtain ⟨v2, vs2, d2, ds2, p2, q2, rfl, rfl, rfl, h2, r2⟩ := trodAll_cons r1
  obtain ⟨rfl, rfl, rfl⟩ := trodAll_nil r2
  obtain rfl : args = #[v0, v1, v2] := by cases args; simp_all
  obtain ⟨rfl, rfl⟩ := trodVars_none hV
  obtain ⟨a0, len0, cap0, rfl⟩ := okWide_slice Trym.underlying22 (hval 0 22 v0 rfl rfl)
  have k0 := h0
  have lt0 : ∀ x ∈ p0, x.block < W.heap.size := by obtain ⟨m, hm⟩ := k0; exact DataW.trod_lt m _ _ _ hm
  obtain ⟨z0, w0⟩ : ∃ zs, IsRow .i32 W a0 len0 cap0 zs := by
    obtain ⟨fuel, hf⟩ := h0
    rcases open_ints Trym.underlying22 Trym.underlying21 (by kernel_rfl) hf with ⟨hcs, _⟩ | ⟨x, l, c, zs, hcs, _, hl, hm, hz, _, hcell, hwz⟩
    · simp [Value.cells] at hcs
      obtain ⟨rfl, rfl, rfl⟩ := hcs
      exact ⟨[], .inl ⟨rfl, rfl, rfl, rfl⟩⟩
    · simp [Value.cells] at hcs
      obtain ⟨rfl, rfl, rfl⟩ := hcs
      exact ⟨zs, .inr ⟨_, rfl, hl, hm, by simpa using hz, hcell, hwz⟩⟩
  obtain ⟨a1, rfl, rfl, rfl, w1⟩ := open_int Trym.underlying21 (hval 1 21 v1 rfl rfl) h1
  obtain ⟨a2, rfl, rfl, rfl, w2⟩ := open_int Trym.underlying3 (hval 2 3 v2 rfl rfl) h2
  clear hA0 hval0
  refine (walk a0 len0 cap0 z0 a1 a2 W w0 w1 w2).mono fun e W' ⟨he, bel⟩ => ?_
  subst he
  exact ⟨_, rfl, _, _, _, [], _, [], hW', trodAll_mk1 (shut_bool Trym.underlying4 _), (trodAll_cons_mk (Below.trod laidOut (by kernel_rfl) (of_decide_eq_true (by kernel_rfl)) k0 bel lt0) (trodAll_cons_mk (shut_int Trym.underlying21 w1) (trodAll_cons_mk (shut_int Trym.underlying3 w2) trodAll_mk0))), rfl, bel.frame _, fun h => by cases h⟩

theorem closed : joinedFacts Trym.prog 7 Trym.f7 Rows.fnIndexNotOfPaddingSpec Rows.fnIndexNotOfPaddingRow = true := by
  rw [joinedFacts]
  repeat' with_reducible refine Head.both ?_ ?_
  all_goals with_reducible first | exact Head.mayEnter | refine Head.liftsIs (by kernel_rfl) | refine Head.makeIs (by kernel_rfl) | kernel_rfl

theorem over : Rows.fnIndexNotOfPaddingRow.holds Trym.pinned (OpenSpec.ofChange Rows.fnIndexNotOfPaddingSpec) :=
  OpenClaim.holds_of_wide 7 Trym.f7 rfl rfl rfl rfl rfl rfl rfl ⟨rfl, rfl, rfl, rfl, rfl⟩ rfl rfl rfl rfl rfl (by kernel_rfl) Trym.func7 closed
    (of_decide_eq_true (by kernel_rfl)) (by unfold Func.isWrapper; first | (rw [if_pos (by decide +kernel)]; kernel_rfl) | (rw [if_neg (by decide +kernel)]; exact ⟨rfl, rfl⟩))
    (fun os started H enc _ => lifted os started H enc)

/-- ████ THE STATEMENT ████ -/
theorem proved : Rows.FnIndexNotOfPaddingSaid := over
#print axioms proved
end Go.Proofs.Qxb6001693aMods.fnIndexNotOfPadding

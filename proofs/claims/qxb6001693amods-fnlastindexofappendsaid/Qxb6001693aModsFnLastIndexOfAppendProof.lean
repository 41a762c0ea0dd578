/-
  THE SHELL OF A PROOF OF 'Rows.FnLastIndexOfAppendSaid' ('example.com/cradle/cradle/zzlaws_internal_jinja_b1.FnLastIndexOfAppend'), WRITTEN BY PROGRAM (proof-skeleton.mjs, third state) off the guide's own print for that function. Not trusted: Lean checks it.
  FILLED: the walk; and the closed facts ('closed': the head's three facts by Qxb6001693aModsHead: the kernel's memory). ALL ELSE IS THE GUIDE's OWN WAY (howto/template/XProofs.lean; Derived/Test/ChunkProofs.lean for 'Below') at this function's number and types: leave it.
-/
import Derived.Test.Qxb6001693aModsRows
import Derived.Test.Qxb6001693aModsHead
import Derived.Test.Qxb6001693aModsRune
import Derived.Test.Qxb6001693aModsClone
import Derived.Test.Qxb6001693aModsGrow
import Derived.WalkKit
import Derived.ProofKit
import Derived.OpenShut
import Derived.ShutString
import Derived.ChangeOld
import Derived.Below
namespace Go.Proofs.Qxb6001693aMods.fnLastIndexOfAppend
open Go.ChangeShapes Go.WideShapes Go.ChangeAt Go.RowKit
open Go.ChangeMaps (open_string shut_string)
set_option linter.unusedVariables false

theorem own : ownKnob Trym.prog.godebug = none := by kernel_rfl
theorem laidOut : laidOutB Trym.prog = true := by kernel_rfl

open Rune (IsRow)

/-! ### STEP 1: THE WALK: the Go text returns true, AND WRITES NOTHING THAT WAS THERE: 'Below w.heap.size w w'' (Derived/Below.lean: '.refl', '.alloc', '.drew', '.setCell' at a new block, '.trans'). Open each 'IsRow' by 'rcases' AHEAD of 'go_enter'; part every test ahead of the walk. -/
theorem walk (a0 : Option Addr) (len0 cap0 : Nat) (z0 : List Int) (a1 : Int) (a2 : Int) (w : World) (w0 : IsRow .i32 w a0 len0 cap0 z0) (w1 : (Lit.int .i32 a1).wf = true) (w2 : (Lit.int .i32 a2).wf = true) :
    Calls Trym.prog 4 #[.slice a0 len0 cap0, .int .i32 a1, .int .i32 a2] w fun e w' => e = .returned (.bool true) ∧ Below w.heap.size w w' := by
  obtain ⟨i0, hi, hz0, hz1, hz2⟩ := info_parts Rune.info21
  have hread := w0.reads
  have hnil := w0.nil
  clear w0
  obtain ⟨z, hz⟩ : ∃ z : Nat → Int, z = fun i => z0.getD i 0 := ⟨_, rfl⟩
  rw [← hz] at hread
  clear hz
  by_cases hb : len0 ≤ 1048576
  · by_cases hb2 : len0 ≤ 262144
    · go_enter Trym.func4, Trym.ntmps4
      go_wp2_with (first | (go_at_call 16; refine (Rune.bytes16 _ _ _ _ _ _ hb).mono ?_; rintro e w ⟨rfl, rfl⟩) | (go_at_call 14; refine (Rune.clone _ _ _ z _ hb hnil (by exact hread)).mono ?_))
      rintro e w1 ⟨a', c', rfl, hr, hc', _, hbel⟩
      clear hread hnil
      have HB : Hid (Below w.heap.size w w1) := hbel
      clear hbel
      go_wp2_with (at_make; refine wpList_make_full _ rfl _ _ 22 rfl w1.heap.size 21 i0 (.int .i32 0) 1 Trym.underlying22 hi hz0 hz1 .i64 .i64 _ _ (len0 + 1) rfl rfl (by omega) (by omega) (by rw [hz2]; omega) (by unfold maxLen; omega) (Nat.le_refl _) ?_; intro wm hownm hgrowm)
      have hbm : Below w1.heap.size w1 wm := (Below.refl _ _).grown hgrowm (Nat.le_refl _) (by simp)
      clear hgrowm
      rcases Nat.eq_zero_or_pos len0 with rfl | hpos
      · have hown := hownm
        have hnx := hbm
        clear hownm hbm
        obtain ⟨wr, hwr⟩ : ∃ wr, wr = wm := ⟨_, rfl⟩
        subst hwr
        refine wp_loop_rounds 1 ?_
        rw [rounds_succ]
        have hfill : Rune.Filled (madeCells (Value.int .i32 0).cells ((0 + 1) * 1)).toList 0 0 z := fun i hi => absurd hi (by omega)
        have hfs := Rune.Filled.snoc (x := a2) hfill (by have := hown.1; omega)
        have hst := (hown.stored 0 (.int .i32 a2)).1
        have hbel2 := hnx.setCell (p := ⟨w1.heap.size, 0, none⟩) (Nat.le_refl _) (.int .i32 a2)
        have hrt := Rune.filled_reads hst hfs
        have hrs := hr.below hbel2
        have HB2 : Hid (Below w.heap.size w (wr.setCell ⟨w1.heap.size, 0, none⟩ (.int .i32 a2))) := HB.out.trans (hbel2.mono HB.out.size)
        obtain ⟨v, hv⟩ := Rune.own_cell hown 0 (by omega)
        have hfz : wr.frozen? ⟨w1.heap.size, 0, none⟩ = false := hown.frozenAt 0
        have HR : Hid (Rune.Reads (wr.setCell ⟨w1.heap.size, 0, none⟩ (.int .i32 a2)) (some ⟨w1.heap.size, 0, none⟩) (0 + 1) (Rune.snoc z 0 a2) ∧ Rune.Reads (wr.setCell ⟨w1.heap.size, 0, none⟩ (.int .i32 a2)) a' 0 z) := ⟨hrt, hrs⟩
        clear hown hfill hnx hfs hst hbel2 hrt hrs
        go_wp2_with fail
        refine (Rune.zzLastIndexOf _ (0 + 1) _ (Rune.snoc z 0 a2) a1 _ (by omega) (by exact HR.out.1)).mono ?_
        rintro e w2 ⟨i, rfl, hli, hw2⟩
        rw [hw2]
        clear hw2 w2
        by_cases hx : a2 = a1
        · obtain rfl := hli.app_same hx
          have hxb : (a2 == a1) = true := by simpa using hx
          clear hx hli
          go_wp2_with fail
          go_ret
          exact ⟨rfl, HB2.out⟩
        · have hlo := hli.app_other hx
          have hxb : (a2 == a1) = false := by simpa using hx
          clear hx hli
          go_wp2_with fail
          refine (Rune.zzLastIndexOf _ 0 _ z a1 _ (by omega) (by exact HR.out.2)).mono ?_
          rintro e w2 ⟨j, rfl, hlj, hw2⟩
          rw [hw2]
          clear hw2 w2
          obtain rfl := hlo.uniq hlj
          clear hlo hlj
          go_wp2_with fail
          go_ret
          exact ⟨rfl, HB2.out⟩
      · obtain ⟨b, off, ha, hc⟩ := hr.resolve_left (by omega)
        rw [ha]
        rw [ha] at hr
        clear ha
        have hblk : b < w1.heap.size := block_lt_of_cell (hc 0 hpos)
        have HC : Hid (∀ i, i < len0 → w1.cell? ⟨b, off + i, none⟩ = some (.int .i32 (z i))) := hc
        have HRd : Hid (Rune.Reads w1 (some ⟨b, off, none⟩) len0 z) := hr
        clear hc hr
        go_loopw [8] (fun t wr => ∃ (k : Nat) (xs : List Value), k ≤ len0 ∧ t = .int .i64 k ∧ wr.ownsRow w1.heap.size 21 1 (.slice (some ⟨w1.heap.size, 0, none⟩) (len0 + 1) (len0 + 1)) (len0 + 1) xs ∧ Rune.Filled xs 0 k z ∧ Below w1.heap.size w1 wr)
          (fun t _ => len0 - (intOf t).toNat)
        case atStart => exact ⟨0, _, by omega, rfl, hownm, fun i hi => absurd hi (by omega), hbm⟩
        case round =>
          obtain ⟨k, xs, hk, rfl, hown, hfill, hnx⟩ := hrel
          clear hownm hbm
          by_cases hlt : k < len0
          · have hcell : wr.cell? ⟨b, off + k, none⟩ = some (.int .i32 (z k)) := (hnx.cell hblk).trans (HC.out k hlt)
            have hfz : wr.frozen? ⟨w1.heap.size, k, none⟩ = false := hown.frozenAt k
            obtain ⟨v, hv⟩ := Rune.own_cell hown k (by omega)
            have HO : Hid (wr.ownsRow w1.heap.size 21 1 (.slice (some ⟨w1.heap.size, 0, none⟩) (len0 + 1) (len0 + 1)) (len0 + 1) xs ∧ Rune.Filled xs 0 k z ∧ Below w1.heap.size w1 wr) := ⟨hown, hfill, hnx⟩
            clear hown hfill hnx
            go_wp2_with fail
            go_roundw
            case rel =>
              obtain ⟨hown, hfill, hnx⟩ := HO.out
              have hst := hown.stored k (.int .i32 (z k))
              have hfs := hfill.step (by have := hown.1; omega)
              rw [Nat.zero_add] at hfs
              exact ⟨k + 1, _, by omega, by go_num, hst.1, hfs, hnx.setCell (Nat.le_refl _) _⟩
            case measure => simp [intOf]; omega
          · obtain rfl : k = len0 := by omega
            have hr := HRd.out
            have hfs := Rune.Filled.snoc (x := a2) hfill (by have := hown.1; omega)
            have hst := (hown.stored k (.int .i32 a2)).1
            have hbel2 := hnx.setCell (p := ⟨w1.heap.size, k, none⟩) (Nat.le_refl _) (.int .i32 a2)
            have hrt := Rune.filled_reads hst hfs
            have hrs := hr.below hbel2
            have HB2 : Hid (Below w.heap.size w (wr.setCell ⟨w1.heap.size, k, none⟩ (.int .i32 a2))) := HB.out.trans (hbel2.mono HB.out.size)
            obtain ⟨v, hv⟩ := Rune.own_cell hown k (by omega)
            have hfz : wr.frozen? ⟨w1.heap.size, k, none⟩ = false := hown.frozenAt k
            have HR : Hid (Rune.Reads (wr.setCell ⟨w1.heap.size, k, none⟩ (.int .i32 a2)) (some ⟨w1.heap.size, 0, none⟩) (k + 1) (Rune.snoc z k a2) ∧ Rune.Reads (wr.setCell ⟨w1.heap.size, k, none⟩ (.int .i32 a2)) (some ⟨b, off, none⟩) k z) := ⟨hrt, hrs⟩
            clear hown hfill hnx hfs hst hbel2 hrt hrs
            go_wp2_with fail
            refine (Rune.zzLastIndexOf _ (k + 1) _ (Rune.snoc z k a2) a1 _ (by omega) (by exact HR.out.1)).mono ?_
            rintro e w2 ⟨i, rfl, hli, hw2⟩
            rw [hw2]
            clear hw2 w2
            by_cases hx : a2 = a1
            · obtain rfl := hli.app_same hx
              have hxb : (a2 == a1) = true := by simpa using hx
              clear hx hli
              go_wp2_with fail
              go_ret
              exact ⟨rfl, HB2.out⟩
            · have hlo := hli.app_other hx
              have hxb : (a2 == a1) = false := by simpa using hx
              clear hx hli
              go_wp2_with fail
              refine (Rune.zzLastIndexOf _ k _ z a1 _ (by omega) (by exact HR.out.2)).mono ?_
              rintro e w2 ⟨j, rfl, hlj, hw2⟩
              rw [hw2]
              clear hw2 w2
              obtain rfl := hlo.uniq hlj
              clear hlo hlj
              go_wp2_with fail
              go_ret
              exact ⟨rfl, HB2.out⟩
    · go_enter Trym.func4, Trym.ntmps4
      go_wp2_with (go_at_call 16; refine (Rune.bytes16 _ _ _ _ _ _ hb).mono ?_; rintro e w ⟨rfl, rfl⟩)
      go_ret
      exact ⟨rfl, Below.refl _ _⟩
  · go_enter Trym.func4, Trym.ntmps4
    go_wp2
    go_ret
    exact ⟨rfl, Below.refl _ _⟩

/-! ### THE ROW's STEP: WRITTEN OUT: LEAVE IT -/
set_option maxRecDepth 100000 in
theorem lifted (os : Os) (started : os.Started) (H : Type) (enc : TypeId × Value → H) :
    ReturnsInHanded {} Trym.checked os 4 .any (Rows.fnLastIndexOfAppendSpec.pre6 enc Trym.prog Trym.f4 Rows.fnLastIndexOfAppendRow.domain false) (Rows.fnLastIndexOfAppendSpec.post enc Trym.prog Trym.f4 false true false false) := by
  refine returnsInHanded_of_change (C := Trym.checked) own started (by kernel_rfl) Trym.func4
    (ChangeSpec.witness6 (enc := enc) (C := Trym.checked) false ⟨#[], #[.slice none 0 0, .int .i32 0, .int .i32 0], []⟩ 8 (by kernel_rfl) (by kernel_rfl) (by kernel_rfl) (by kernel_rfl)) ?_
  intro W base args ds gs before hval0 hW hcnd _
  have hval : ∀ (j : Nat) t v, Trym.f4.params[j]? = some t → args[j]? = some v → Value.okWide Trym.prog W .any base t v := hval0
  have hW' := hW
  obtain ⟨p, q, hA0, hV, rfl, hfz, hnd⟩ := hW
  have hA : DataW.TrodAll enc Trym.prog W 0 (fun _ => true) true Trym.f4.params.toList args.toList ds p := hA0
  rw [Trym.params4] at hA hval
  obtain ⟨v0, vs0, d0, ds0, p0, q0, hargs, rfl, rfl, h0, r0⟩ := trodAll_cons hA
  obtain ⟨v1, vs1, d1, ds1, p1, q1, rfl, rfl, rfl, h1, r1⟩ := trodAll_cons r0
  obtain ⟨v2, vs2, d2, ds2, p2, q2, rfl, rfl, rfl, h2, r2⟩ := trodAll_cons r1
  obtain ⟨rfl, rfl, rfl⟩ := trodAll_nil r2
  obtain rfl : args = #[v0, v1, v2] := by cases args; simp_all
  obtain ⟨rfl, rfl⟩ := trodVars_none hV
  obtain ⟨a0, len0, cap0, rfl⟩ := okWide_slice Trym.underlying22 (hval 0 22 v0 rfl rfl)
  have k0 := h0
  have lt0 : ∀ x ∈ p0, x.block < W.heap.size := by obtain ⟨m, hm⟩ := k0; exact DataW.trod_lt m _ _ _ hm
  obtain ⟨z0, w0⟩ : ∃ zs, IsRow .i32 W a0 len0 cap0 zs := by
    obtain ⟨fuel, hf⟩ := h0
    rcases open_ints Trym.underlying22 Trym.underlying21 (by kernel_rfl) hf with ⟨hcs, _⟩ | ⟨x, l, c, zs, hcs, _, hl, hm, hz, _, hcell, hwz⟩
    · simp [Value.cells] at hcs
      obtain ⟨rfl, rfl, rfl⟩ := hcs
      exact ⟨[], .inl ⟨rfl, rfl, rfl, rfl⟩⟩
    · simp [Value.cells] at hcs
      obtain ⟨rfl, rfl, rfl⟩ := hcs
      exact ⟨zs, .inr ⟨_, rfl, hl, hm, by simpa using hz, hcell, hwz⟩⟩
  obtain ⟨a1, rfl, rfl, rfl, w1⟩ := open_int Trym.underlying21 (hval 1 21 v1 rfl rfl) h1
  obtain ⟨a2, rfl, rfl, rfl, w2⟩ := open_int Trym.underlying21 (hval 2 21 v2 rfl rfl) h2
  clear hA0 hval0
  refine (walk a0 len0 cap0 z0 a1 a2 W w0 w1 w2).mono fun e W' ⟨he, bel⟩ => ?_
  subst he
  exact ⟨_, rfl, _, _, _, [], _, [], hW', trodAll_mk1 (shut_bool Trym.underlying4 _), (trodAll_cons_mk (Below.trod laidOut (by kernel_rfl) (of_decide_eq_true (by kernel_rfl)) k0 bel lt0) (trodAll_cons_mk (shut_int Trym.underlying21 w1) (trodAll_cons_mk (shut_int Trym.underlying21 w2) trodAll_mk0))), rfl, bel.frame _, fun h => by cases h⟩

theorem closed : joinedFacts Trym.prog 4 Trym.f4 Rows.fnLastIndexOfAppendSpec Rows.fnLastIndexOfAppendRow = true := by
  rw [joinedFacts]
  repeat' with_reducible refine Head.both ?_ ?_
  all_goals with_reducible first | exact Head.mayEnter | refine Head.liftsIs (by kernel_rfl) | refine Head.makeIs (by kernel_rfl) | kernel_rfl

theorem over : Rows.fnLastIndexOfAppendRow.holds Trym.pinned (OpenSpec.ofChange Rows.fnLastIndexOfAppendSpec) :=
  OpenClaim.holds_of_wide 4 Trym.f4 rfl rfl rfl rfl rfl rfl rfl ⟨rfl, rfl, rfl, rfl, rfl⟩ rfl rfl rfl rfl rfl (by kernel_rfl) Trym.func4 closed
    (of_decide_eq_true (by kernel_rfl)) (by unfold Func.isWrapper; first | (rw [if_pos (by decide +kernel)]; kernel_rfl) | (rw [if_neg (by decide +kernel)]; exact ⟨rfl, rfl⟩))
    (fun os started H enc _ => lifted os started H enc)

/-- ████ THE STATEMENT ████ -/
theorem proved : Rows.FnLastIndexOfAppendSaid := over
#print axioms proved
end Go.Proofs.Qxb6001693aMods.fnLastIndexOfAppend

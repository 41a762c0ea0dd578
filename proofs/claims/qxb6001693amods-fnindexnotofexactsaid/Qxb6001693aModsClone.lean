/-
  zzb1Clone (14): a nil slice stays nil; any other is copied into a new row of the call's own.
-/
import Derived.Test.Qxb6001693aModsRune
import Derived.Lib.SliceRun
namespace Go.Proofs.Qxb6001693aMods.Rune
open Go.RowKit

/-- What is owned and filled reads back. -/
theorem filled_cells {w : World} {base g n : Nat} {xs : List Value} {z : Nat → Int} (h : w.ownsRow base 21 1 (.slice (some ⟨g, 0, none⟩) n n) n xs) (hf : Filled xs 0 n z) :
    ∀ i, i < n → w.cell? ⟨g, 0 + i, none⟩ = some (.int .i32 (z i)) := by
  intro i hi
  have := hf i hi
  rw [Nat.zero_add] at this ⊢
  rw [h.cellAt i (by omega), this]

/-- A cell of an owned row is there. -/
theorem own_cell {w : World} {base g n : Nat} {xs : List Value} (h : w.ownsRow base 21 1 (.slice (some ⟨g, 0, none⟩) n n) n xs) (i : Nat) (hi : i < n) : ∃ v, w.cell? ⟨g, i, none⟩ = some v := by
  rw [h.cellAt i (by omega)]
  have := h.1
  exact ⟨xs[i], by simp⟩

theorem clone_none (w : World) :
    Calls Trym.prog 14 #[.slice none 0 0] w fun e w' => e = .returned (.slice none 0 0) ∧ w' = w := by
  have q22 : ∀ (w : World) (a : Option Addr) (n c n' c' : Nat), (binOp .eql 22 (.slice a n c) (.slice none n' c')).run Trym.prog w = .ok (.bool a.isNone) w := fun w a n c n' c' => Lib.run_eql_slice_nil w _ _ a n c n' c' Trym.underlying22
  go_enter Trym.func14, Trym.ntmps14
  go_wp2_with fail
  go_ret
  exact ⟨rfl, rfl⟩

theorem clone_empty (x : Addr) (c : Nat) (w : World) :
    Calls Trym.prog 14 #[.slice (some x) 0 c] w fun e w' => e = .returned (.slice (some ⟨w.heap.size, 0, none⟩) 0 0) ∧ w.heap.size < w'.heap.size ∧ Below w.heap.size w w' := by
  obtain ⟨i0, hi, hz0, hz1, hz2⟩ := info_parts info21
  have q22 : ∀ (w : World) (a : Option Addr) (n c n' c' : Nat), (binOp .eql 22 (.slice a n c) (.slice none n' c')).run Trym.prog w = .ok (.bool a.isNone) w := fun w a n c n' c' => Lib.run_eql_slice_nil w _ _ a n c n' c' Trym.underlying22
  go_enter Trym.func14, Trym.ntmps14
  go_wp2_with (at_make; refine wpList_make_full _ rfl _ _ 22 rfl w.heap.size 21 i0 (.int .i32 0) 1 Trym.underlying22 hi hz0 hz1 .i64 .i64 _ _ 0 rfl rfl rfl rfl (by rw [hz2]; omega) (by unfold maxLen; omega) (Nat.le_refl _) ?_; intro w1 hown1 hgrow1)
  refine wp_loop_rounds 1 ?_
  rw [rounds_succ]
  go_wp2
  go_ret
  exact ⟨rfl, (hown1.lt _ rfl).2, (Below.refl _ _).grown hgrow1 (Nat.le_refl _) (by simp)⟩

set_option maxHeartbeats 400000 in
theorem clone_full (b off : Nat) (n c : Nat) (z : Nat → Int) (w : World) (hn : n ≤ 1048576) (hpos : 0 < n) (hc : ∀ i, i < n → w.cell? ⟨b, off + i, none⟩ = some (.int .i32 (z i))) :
    Calls Trym.prog 14 #[.slice (some ⟨b, off, none⟩) n c] w fun e w' => e = .returned (.slice (some ⟨w.heap.size, 0, none⟩) n n) ∧
      (∀ i, i < n → w'.cell? ⟨w.heap.size, 0 + i, none⟩ = some (.int .i32 (z i))) ∧ w.heap.size < w'.heap.size ∧ Below w.heap.size w w' := by
  obtain ⟨i0, hi, hz0, hz1, hz2⟩ := info_parts info21
  have q22 : ∀ (w : World) (a : Option Addr) (n c n' c' : Nat), (binOp .eql 22 (.slice a n c) (.slice none n' c')).run Trym.prog w = .ok (.bool a.isNone) w := fun w a n c n' c' => Lib.run_eql_slice_nil w _ _ a n c n' c' Trym.underlying22
  have hblk : b < w.heap.size := block_lt_of_cell (hc 0 hpos)
  have HC : Hid (∀ i, i < n → w.cell? ⟨b, off + i, none⟩ = some (.int .i32 (z i))) := hc
  clear hc
  go_enter Trym.func14, Trym.ntmps14
  go_wp2_with (at_make; refine wpList_make_full _ rfl _ _ 22 rfl w.heap.size 21 i0 (.int .i32 0) 1 Trym.underlying22 hi hz0 hz1 .i64 .i64 _ _ n rfl rfl rfl rfl (by rw [hz2]; omega) (by unfold maxLen; omega) (Nat.le_refl _) ?_; intro w1 hown1 hgrow1)
  have hb1 : Below w.heap.size w w1 := (Below.refl _ _).grown hgrow1 (Nat.le_refl _) (by simp)
  go_loopw [4] (fun t wr => ∃ (k : Nat) (xs : List Value), k ≤ n ∧ t = .int .i64 k ∧ wr.ownsRow w.heap.size 21 1 (.slice (some ⟨w.heap.size, 0, none⟩) n n) n xs ∧ Filled xs 0 k z ∧ Below w.heap.size w wr)
    (fun t _ => n - (intOf t).toNat)
  case atStart => exact ⟨0, _, by omega, rfl, hown1, fun i hi => absurd hi (by omega), hb1⟩
  case round =>
    obtain ⟨k, xs, hk, rfl, hown, hfill, hnx⟩ := hrel
    by_cases hlt : k < n
    · have hcell : wr.cell? ⟨b, off + k, none⟩ = some (.int .i32 (z k)) := (hnx.cell hblk).trans (HC.out k hlt)
      have hfz : wr.frozen? ⟨w.heap.size, k, none⟩ = false := hown.frozenAt k
      obtain ⟨v, hv⟩ := own_cell hown k hlt
      have HO : Hid (wr.ownsRow w.heap.size 21 1 (.slice (some ⟨w.heap.size, 0, none⟩) n n) n xs ∧ Filled xs 0 k z ∧ Below w.heap.size w wr) := ⟨hown, hfill, hnx⟩
      clear hown hfill hnx hb1 hown1 hgrow1
      go_wp2
      go_roundw
      case rel =>
        obtain ⟨hown, hfill, hnx⟩ := HO.out
        have hst := hown.stored k (.int .i32 (z k))
        have hfs := hfill.step (by have := hown.1; omega)
        rw [Nat.zero_add] at hfs
        exact ⟨k + 1, _, by omega, by go_num, hst.1, hfs, hnx.setCell (Nat.le_refl _) _⟩
      case measure => simp [intOf]; omega
    · obtain rfl : k = n := by omega
      go_wp2
      go_ret
      exact ⟨rfl, filled_cells hown hfill, (hown.lt _ rfl).2, hnx⟩

/-- ALL OF IT IN ONE: what the laws ask. -/
theorem clone (a : Option Addr) (n c : Nat) (z : Nat → Int) (w : World) (hn : n ≤ 1048576) (hnil : a = none → n = 0 ∧ c = 0) (h : Reads w a n z) :
    Calls Trym.prog 14 #[.slice a n c] w fun e w' => ∃ a' c', e = .returned (.slice a' n c') ∧ Reads w' a' n z ∧ n ≤ c' ∧ (a' = none → c' = 0) ∧ Below w.heap.size w w' := by
  cases a with
  | none =>
    obtain ⟨rfl, rfl⟩ := hnil rfl
    refine (clone_none w).mono ?_
    rintro e w' ⟨rfl, rfl⟩
    exact ⟨none, 0, rfl, .inl rfl, Nat.le_refl _, fun _ => rfl, Below.refl _ _⟩
  | some x =>
    rcases Nat.eq_zero_or_pos n with rfl | hpos
    · refine (clone_empty x c w).mono ?_
      rintro e w' ⟨rfl, hs, hb⟩
      exact ⟨_, 0, rfl, .inl rfl, Nat.le_refl _, fun h => by simp at h, hb⟩
    · obtain ⟨b, off, hx, hc⟩ := h.resolve_left (by omega)
      simp only [Option.some.injEq] at hx
      subst hx
      refine (clone_full b off n c z w hn hpos hc).mono ?_
      rintro e w' ⟨rfl, hcs, hs, hb⟩
      exact ⟨_, n, rfl, .inr ⟨_, _, rfl, hcs⟩, Nat.le_refl _, fun h => by simp at h, hb⟩

theorem IsRow.nil {w : World} {a : Option Addr} {len cap : Nat} {zs : List Int} (h : IsRow .i32 w a len cap zs) : a = none → len = 0 ∧ cap = 0 := by
  rcases h with ⟨_, h1, h2, _⟩ | ⟨x, rfl, _⟩
  · exact fun _ => ⟨h1, h2⟩
  · intro h; simp at h

end Go.Proofs.Qxb6001693aMods.Rune

/-
  THE RUNES: what a slice of runes reads as; contracts of lastIndexOf (29), ZZLastIndexOf (15), indexNotOf (30), ZZIndexNotOf (19), zzb1Clone (14), the bounds (13, 16, 17, 18, 20); the plain laws.
-/
import Derived.Test.Qxb6001693aModsRows
import Derived.WalkKit
import Derived.WalkSpells
namespace Go.Proofs.Qxb6001693aMods.Rune
open Go.RowKit

/-- WHAT THE WALK IS TOLD OF A SLICE OF INTEGERS THAT CAME IN: it is nil; or it leads to a row of 'cap' cells, the numbers 'zs' (the first 'len' are its elements, the rest its spare room), each fitting its kind. -/
def IsRow (k : IntKind) (w : World) (a : Option Addr) (len cap : Nat) (zs : List Int) : Prop :=
  (a = none ∧ len = 0 ∧ cap = 0 ∧ zs = []) ∨
  ∃ x, a = some x ∧ len ≤ cap ∧ cap ≤ maxLen ∧ zs.length = cap ∧ (∀ i, i < zs.length → w.cell? (x.add i) = some (.int k (zs.getD i 0))) ∧ ∀ n ∈ zs, (Lit.int k n).wf = true

/-- The first n cells from a on hold the numbers z 0, z 1, .. -/
def Reads (w : World) (a : Option Addr) (n : Nat) (z : Nat → Int) : Prop :=
  n = 0 ∨ ∃ b off, a = some ⟨b, off, none⟩ ∧ ∀ i, i < n → w.cell? ⟨b, off + i, none⟩ = some (.int .i32 (z i))

theorem IsRow.reads {w : World} {a : Option Addr} {len cap : Nat} {zs : List Int} (h : IsRow .i32 w a len cap zs) : Reads w a len (fun i => zs.getD i 0) := by
  rcases h with ⟨_, h, _, _⟩ | ⟨⟨b, off, spot⟩, rfl, hl, _, hz, hc, _⟩
  · exact .inl h
  · by_cases h0 : len = 0
    · exact .inl h0
    · have hs : spot = none := by simpa [Addr.add] using World.cell?_spot (hc 0 (by omega))
      subst hs
      exact .inr ⟨b, off, rfl, fun i hi => by rw [← Addr.add_lit]; exact hc i (by omega)⟩

/-! ### THE PLAIN LAWS -/
/-- i is the place of the last r among z 0 .. z (n - 1), or -1. -/
def LIx (z : Nat → Int) (r : Int) (n : Nat) (i : Int) : Prop :=
  (i = -1 ∧ ∀ j, j < n → z j ≠ r) ∨ ∃ k : Nat, i = k ∧ k < n ∧ z k = r ∧ ∀ j, k < j → j < n → z j ≠ r

/-- i is the place of the first that is not r among z 0 .. z (n - 1), or -1. -/
def NIx (z : Nat → Int) (r : Int) (n : Nat) (i : Int) : Prop :=
  (i = -1 ∧ ∀ j, j < n → z j = r) ∨ ∃ k : Nat, i = k ∧ k < n ∧ z k ≠ r ∧ ∀ j, j < k → z j = r

theorem Reads.take {w : World} {a : Option Addr} {n k : Nat} {z : Nat → Int} (h : Reads w a n z) (hk : k ≤ n) : Reads w a k z := by
  rcases h with rfl | ⟨b, off, ha, hc⟩
  · exact .inl (by omega)
  · exact .inr ⟨b, off, ha, fun i hi => hc i (by omega)⟩

/-- The last r of the first k elements. -/
theorem LIx.pre {z : Nat → Int} {r : Int} {n k : Nat} {i j : Int} (hi : LIx z r k i) (hj : LIx z r n j) (hk : k ≤ n) : (j < k → i = j) ∧ -1 ≤ i ∧ i < k := by
  refine ⟨fun hjk => ?_, ?_, ?_⟩
  · rcases hi with ⟨rfl, ha⟩ | ⟨p, rfl, hp, hpr, ha⟩
    · rcases hj with ⟨rfl, _⟩ | ⟨q, rfl, hq, hqr, _⟩
      · rfl
      · exact absurd hqr (ha q (by omega))
    · rcases hj with ⟨rfl, hb⟩ | ⟨q, rfl, hq, hqr, hb⟩
      · exact absurd hpr (hb p (by omega))
      · by_cases e1 : p < q
        · exact absurd hqr (ha q e1 (by omega))
        · by_cases e2 : q < p
          · exact absurd hpr (hb p e2 (by omega))
          · omega
  · rcases hi with ⟨rfl, _⟩ | ⟨p, rfl, _⟩ <;> omega
  · rcases hi with ⟨rfl, _⟩ | ⟨p, rfl, hp, _⟩ <;> omega

/-- Two that say where the last r is say the same. -/
theorem LIx.uniq {z : Nat → Int} {r : Int} {n : Nat} {i j : Int} (hi : LIx z r n i) (hj : LIx z r n j) : i = j := by
  have h1 := hi.pre hj (Nat.le_refl _)
  have h2 := hj.pre hi (Nat.le_refl _)
  exact h1.1 h2.2.2

/-! ### THE WALKS -/
set_option maxHeartbeats 400000 in
theorem lastIndexOf (a : Option Addr) (n c : Nat) (z : Nat → Int) (r : Int) (w : World) (hn : n ≤ 1048576) (h : Reads w a n z) :
    Calls Trym.prog 29 #[.slice a n c, .int .i32 r] w fun e w' => ∃ i : Int, e = .returned (.int .i64 i) ∧ LIx z r n i ∧ w' = w := by
  rcases Nat.eq_zero_or_pos n with rfl | hpos
  · clear h
    go_enter Trym.func29, Trym.ntmps29
    go_wp2
    refine wp_loop_rounds 1 ?_
    rw [rounds_succ]
    go_wp2
    go_ret
    exact ⟨-1, rfl, .inl ⟨rfl, fun j hj => absurd hj (by omega)⟩, rfl⟩
  · obtain ⟨b, off, rfl, hc⟩ := h.resolve_left (by omega)
    have HC : Hid (∀ i, i < n → w.cell? ⟨b, off + i, none⟩ = some (.int .i32 (z i))) := hc
    clear hc h
    go_enter Trym.func29, Trym.ntmps29
    go_wp2
    go_loop [5] (fun t => (t = .int .i64 (-1) ∧ ∀ j, j < n → z j ≠ r) ∨ ∃ m : Nat, m < n ∧ t = .int .i64 m ∧ ∀ j, m < j → j < n → z j ≠ r) (fun t => (intOf t + 1).toNat)
    case atStart => exact .inr ⟨n - 1, by omega, by simp; omega, fun j h1 h2 => by omega⟩
    case round =>
      rcases hrel with ⟨rfl, hall⟩ | ⟨m, hm, rfl, hall⟩
      · have HA : Hid (∀ j, j < n → z j ≠ r) := hall
        clear hall
        go_wp2
        go_ret
        exact ⟨-1, rfl, .inl ⟨rfl, HA.out⟩, rfl⟩
      · have HA : Hid (∀ j, m < j → j < n → z j ≠ r) := hall
        clear hall
        have hcm := HC.out m hm
        by_cases e : z m = r
        · have hb : (z m == r) = true := by simpa using e
          have HE : Hid (z m = r) := e
          clear e
          go_wp2
          go_ret
          exact ⟨m, rfl, .inr ⟨m, rfl, hm, HE.out, HA.out⟩, rfl⟩
        · have hb : (z m == r) = false := by simpa using e
          have HE : Hid (z m ≠ r) := e
          clear e
          go_wp2
          go_round
          case rel =>
            by_cases h0 : m = 0
            · subst h0
              exact .inl ⟨by go_num, fun j hj => by
                by_cases h1 : j = 0
                · subst h1; exact HE.out
                · exact HA.out j (by omega) hj⟩
            · exact .inr ⟨m - 1, by omega, by simp; omega, fun j h1 h2 => by
                by_cases h3 : j = m
                · subst h3; exact HE.out
                · exact HA.out j (by omega) h2⟩
          case measure => simp [intOf]

theorem zzLastIndexOf (a : Option Addr) (n c : Nat) (z : Nat → Int) (r : Int) (w : World) (hn : n ≤ 1048576) (h : Reads w a n z) :
    Calls Trym.prog 15 #[.slice a n c, .int .i32 r] w fun e w' => ∃ i : Int, e = .returned (.int .i64 i) ∧ LIx z r n i ∧ w' = w := by
  go_enter Trym.func15, Trym.ntmps15
  go_wp2_with fail
  refine (lastIndexOf a n c z r _ hn h).mono ?_
  rintro e w' ⟨j, rfl, hde, rfl⟩
  clear h
  go_wp2_with fail
  go_ret
  exact ⟨j, rfl, hde, rfl⟩

set_option maxHeartbeats 400000 in
theorem indexNotOf (a : Option Addr) (n c : Nat) (z : Nat → Int) (r : Int) (w : World) (hn : n ≤ 1048576) (h : Reads w a n z) :
    Calls Trym.prog 30 #[.slice a n c, .int .i32 r] w fun e w' => ∃ i : Int, e = .returned (.int .i64 i) ∧ NIx z r n i ∧ w' = w := by
  rcases Nat.eq_zero_or_pos n with rfl | hpos
  · clear h
    go_enter Trym.func30, Trym.ntmps30
    go_wp2
    refine wp_loop_rounds 1 ?_
    rw [rounds_succ]
    go_wp2
    go_ret
    exact ⟨-1, rfl, .inl ⟨rfl, fun j hj => absurd hj (by omega)⟩, rfl⟩
  · obtain ⟨b, off, rfl, hc⟩ := h.resolve_left (by omega)
    have HC : Hid (∀ i, i < n → w.cell? ⟨b, off + i, none⟩ = some (.int .i32 (z i))) := hc
    clear hc h
    go_enter Trym.func30, Trym.ntmps30
    go_wp2
    go_loop [9] (fun t => ∃ m : Nat, m ≤ n ∧ t = .int .i64 m ∧ ∀ j, j < m → z j = r) (fun t => n - (intOf t).toNat)
    case atStart => exact ⟨0, by omega, rfl, fun j h1 => by omega⟩
    case round =>
      obtain ⟨m, hm, rfl, hall⟩ := hrel
      have HA : Hid (∀ j, j < m → z j = r) := hall
      clear hall
      by_cases hlt : m < n
      · have hcm := HC.out m hlt
        by_cases e : z m = r
        · have hb : (z m != r) = false := by simpa using e
          have HE : Hid (z m = r) := e
          clear e
          go_wp2
          go_round
          case rel =>
            exact ⟨m + 1, by omega, by go_num, fun j h1 => by
              by_cases h2 : j = m
              · subst h2; exact HE.out
              · exact HA.out j (by omega)⟩
          case measure => simp [intOf]; omega
        · have hb : (z m != r) = true := by simpa using e
          have HE : Hid (z m ≠ r) := e
          clear e
          go_wp2
          go_ret
          exact ⟨m, rfl, .inr ⟨m, rfl, hlt, HE.out, HA.out⟩, rfl⟩
      · go_wp2
        go_ret
        exact ⟨-1, rfl, .inl ⟨rfl, fun j hj => HA.out j (by omega)⟩, rfl⟩

theorem zzIndexNotOf (a : Option Addr) (n c : Nat) (z : Nat → Int) (r : Int) (w : World) (hn : n ≤ 1048576) (h : Reads w a n z) :
    Calls Trym.prog 19 #[.slice a n c, .int .i32 r] w fun e w' => ∃ i : Int, e = .returned (.int .i64 i) ∧ NIx z r n i ∧ w' = w := by
  go_enter Trym.func19, Trym.ntmps19
  go_wp2_with fail
  refine (indexNotOf a n c z r _ hn h).mono ?_
  rintro e w' ⟨j, rfl, hde, rfl⟩
  clear h
  go_wp2_with fail
  go_ret
  exact ⟨j, rfl, hde, rfl⟩

theorem bytes13 (a : Option Addr) (n c : Nat) (r : Int) (w : World) (hn : n ≤ 1048576) :
    Calls Trym.prog 13 #[.slice a n c, .int .i32 r] w fun e w' => e = .returned (.bool true) ∧ w' = w := by
  go_enter Trym.func13, Trym.ntmps13
  go_wp2
  go_ret
  exact ⟨rfl, rfl⟩
theorem bytes16 (a : Option Addr) (n c : Nat) (r x : Int) (w : World) (hn : n ≤ 1048576) :
    Calls Trym.prog 16 #[.slice a n c, .int .i32 r, .int .i32 x] w fun e w' => e = .returned (.bool true) ∧ w' = w := by
  go_enter Trym.func16, Trym.ntmps16
  go_wp2
  go_ret
  exact ⟨rfl, rfl⟩
theorem bytes17 (a : Option Addr) (n c : Nat) (r x : Int) (w : World) (hn : n ≤ 1048576) :
    Calls Trym.prog 17 #[.slice a n c, .int .i32 r, .int .i64 x] w fun e w' => e = .returned (.bool true) ∧ w' = w := by
  go_enter Trym.func17, Trym.ntmps17
  go_wp2
  go_ret
  exact ⟨rfl, rfl⟩
theorem bytes18 (a : Option Addr) (n c : Nat) (r : Int) (w : World) (hn : n ≤ 1048576) :
    Calls Trym.prog 18 #[.slice a n c, .int .i32 r] w fun e w' => e = .returned (.bool true) ∧ w' = w := by
  go_enter Trym.func18, Trym.ntmps18
  go_wp2
  go_ret
  exact ⟨rfl, rfl⟩
theorem bytes20 (a : Option Addr) (n c : Nat) (r x : Int) (w : World) (hn : n ≤ 1048576) :
    Calls Trym.prog 20 #[.slice a n c, .int .i32 r, .int .i64 x] w fun e w' => e = .returned (.bool true) ∧ w' = w := by
  go_enter Trym.func20, Trym.ntmps20
  go_wp2
  go_ret
  exact ⟨rfl, rfl⟩

/-! ### A ROW OF THE CALL's OWN: 'make', then stores -/
theorem info21 : (Trym.prog.info? 21).map (fun i => (i.zero, i.size, i.bytes)) = some (some (.int .i32 0), 1, 4) := by kernel_rfl

/-- The row xs (cells) holds z from place p on, k of them. -/
def Filled (xs : List Value) (p k : Nat) (z : Nat → Int) : Prop := ∀ i, i < k → xs[p + i]? = some (.int .i32 (z i))

theorem Filled.step {xs : List Value} {p k : Nat} {z : Nat → Int} (h : Filled xs p k z) (hl : p + k < xs.length) : Filled (xs.set (p + k) (.int .i32 (z k))) p (k + 1) z := by
  intro i hi
  rw [List.getElem?_set]
  by_cases e : p + k = p + i
  · rw [if_pos e, if_pos hl]
    obtain rfl : i = k := by omega
    rfl
  · rw [if_neg e]
    exact h i (by omega)

theorem Filled.other {xs : List Value} {p k q : Nat} {z : Nat → Int} {v : Value} (h : Filled xs p k z) (hq : q < p ∨ p + k ≤ q) : Filled (xs.set q v) p k z := by
  intro i hi
  rw [List.getElem?_set, if_neg (by omega)]
  exact h i hi

end Go.Proofs.Qxb6001693aMods.Rune

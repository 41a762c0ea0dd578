/-
  THE DIGITS: contracts of digitsEnd (31), ZZDigitsEnd (22), zzb1IsDigit (23), the two bounds (21, 24); and the plain law on runs of digits.
-/
import Derived.Test.Qxb6001693aModsRows
import Derived.WalkKit
namespace Go.Proofs.Qxb6001693aMods.Digits
open Go.RowKit

/-! ### THE PLAIN LAW -/
/-- Place k of s holds an ASCII digit. -/
def isDg (s : ByteArray) (k : Nat) : Prop := ∃ h : k < s.size, (48 : Int) ≤ ((s[k]'h).toNat : Int) ∧ ((s[k]'h).toNat : Int) ≤ 57

/-- j is the end of the run of digits at i. -/
structure DE (s : ByteArray) (i j : Nat) : Prop where
  le : i ≤ j
  all : ∀ m, i ≤ m → m < j → isDg s m
  stop : ¬ isDg s j

theorem DE.bound {s : ByteArray} {i j : Nat} (h : DE s i j) : j = i ∨ j ≤ s.size := by
  by_cases e : j = i
  · exact .inl e
  · obtain ⟨hh, _⟩ := h.all (j - 1) (by have := h.le; omega) (by have := h.le; omega)
    exact .inr (by omega)

theorem DE.same {s : ByteArray} {i j k l : Nat} (h : DE s i j) (g : DE s k l) (hik : i ≤ k) (hkj : k ≤ j) : l = j := by
  by_cases e : l < j
  · exact absurd (h.all l (by have := g.le; omega) e) g.stop
  · by_cases e2 : j < l
    · exact absurd (g.all j hkj e2) h.stop
    · omega

theorem isDg_mk {s : ByteArray} {k : Nat} (h : k < s.size) (a : (48 : Int) ≤ ((s[k]'h).toNat : Int)) (b : ((s[k]'h).toNat : Int) ≤ 57) : isDg s k := ⟨h, a, b⟩
theorem not_isDg_lo {s : ByteArray} {k : Nat} (h : k < s.size) (a : ¬ (48 : Int) ≤ ((s[k]'h).toNat : Int)) : ¬ isDg s k := fun ⟨_, x, _⟩ => a x
theorem not_isDg_hi {s : ByteArray} {k : Nat} (h : k < s.size) (a : ¬ ((s[k]'h).toNat : Int) ≤ 57) : ¬ isDg s k := fun ⟨_, _, x⟩ => a x
theorem not_isDg_out {s : ByteArray} {k : Nat} (h : ¬ k < s.size) : ¬ isDg s k := fun ⟨x, _⟩ => h x

/-! ### THE WALKS -/
theorem bytes24 (s : ByteArray) (i k : Int) (w : World) (hs : s.size ≤ 1048576) :
    Calls Trym.prog 24 #[.string s, .int .i64 i, .int .i64 k] w fun e w' => e = .returned (.bool true) ∧ w' = w := by
  go_enter Trym.func24, Trym.ntmps24
  go_wp2
  go_ret
  exact ⟨rfl, rfl⟩

theorem bytes21 (s : ByteArray) (i : Int) (w : World) (hs : s.size ≤ 1048576) :
    Calls Trym.prog 21 #[.string s, .int .i64 i] w fun e w' => e = .returned (.bool true) ∧ w' = w := by
  go_enter Trym.func21, Trym.ntmps21
  go_wp2
  go_ret
  exact ⟨rfl, rfl⟩

theorem digitsEnd (s : ByteArray) (i : Nat) (w : World) (hs : s.size ≤ 1048576) (hi : i ≤ 9223372036854775807) :
    Calls Trym.prog 31 #[.string s, .int .i64 i] w fun e w' => ∃ j : Nat, e = .returned (.int .i64 j) ∧ DE s i j ∧ w' = w := by
  go_enter Trym.func31, Trym.ntmps31
  go_wp2
  go_loop [5] (fun t => ∃ k : Nat, i ≤ k ∧ k ≤ 9223372036854775807 ∧ t = .int .i64 k ∧ ∀ m, i ≤ m → m < k → isDg s m) (fun t => s.size - (intOf t).toNat)
  case atStart => exact ⟨i, Nat.le_refl _, hi, rfl, fun m h1 h2 => by omega⟩
  case round =>
    obtain ⟨k, hik, hk, rfl, hall0⟩ := hrel
    have HA : Hid (∀ m, i ≤ m → m < k → isDg s m) := hall0
    clear hall0
    by_cases hlt : k < s.size
    · go_wp2
      · have h1 : (48 : Int) ≤ ((s[k]'hlt).toNat : Int) := by assumption
        have h2 : ((s[k]'hlt).toNat : Int) ≤ 57 := by assumption
        go_round
        case rel =>
          refine ⟨k + 1, by omega, by omega, by go_num, fun m h3 h4 => ?_⟩
          by_cases e : m = k
          · subst e; exact isDg_mk hlt h1 h2
          · exact HA.out m h3 (by omega)
        case measure => simp [intOf]; omega
      · have h2 : 57 < ((s[k]'hlt).toNat : Int) := by assumption
        go_ret
        exact ⟨k, rfl, ⟨hik, HA.out, not_isDg_hi hlt (by omega)⟩, rfl⟩
      · have h2 : ((s[k]'hlt).toNat : Int) < 48 := by assumption
        go_ret
        exact ⟨k, rfl, ⟨hik, HA.out, not_isDg_lo hlt (by omega)⟩, rfl⟩
    · go_wp2
      go_ret
      exact ⟨k, rfl, ⟨hik, HA.out, not_isDg_out hlt⟩, rfl⟩

theorem zzDigitsEnd (s : ByteArray) (i : Nat) (w : World) (hs : s.size ≤ 1048576) (hi : i ≤ 9223372036854775807) :
    Calls Trym.prog 22 #[.string s, .int .i64 i] w fun e w' => ∃ j : Nat, e = .returned (.int .i64 j) ∧ DE s i j ∧ w' = w := by
  go_enter Trym.func22, Trym.ntmps22
  go_wp2_with fail
  refine (digitsEnd s i _ hs hi).mono ?_
  rintro e w' ⟨j, rfl, hde, rfl⟩
  go_wp2_with fail
  go_ret
  exact ⟨j, rfl, hde, rfl⟩

theorem isDigit_yes (c : Int) (w : World) (h1 : 48 ≤ c) (h2 : c ≤ 57) :
    Calls Trym.prog 23 #[.int .u8 c] w fun e w' => e = .returned (.bool true) ∧ w' = w := by
  go_enter Trym.func23, Trym.ntmps23
  go_wp2
  go_ret
  exact ⟨rfl, rfl⟩

theorem isDigit_no (c : Int) (w : World) (h : c < 48 ∨ 57 < c) :
    Calls Trym.prog 23 #[.int .u8 c] w fun e w' => e = .returned (.bool false) ∧ w' = w := by
  rcases h with h | h
  · go_enter Trym.func23, Trym.ntmps23
    go_wp2
    go_ret
    exact ⟨rfl, rfl⟩
  · have h1 : 48 ≤ c := by omega
    have h2 : decide (c ≤ 57) = false := by simpa using h
    go_enter Trym.func23, Trym.ntmps23
    go_wp2
    go_ret
    exact ⟨rfl, rfl⟩

end Go.Proofs.Qxb6001693aMods.Digits

/-
  WHAT THE TWO LAWS THAT MAKE A SECOND ROW (Append, Padding) ASK BESIDES: plain laws; what is read in a later world.
-/
import Derived.Test.Qxb6001693aModsClone
namespace Go.Proofs.Qxb6001693aMods.Rune
open Go.RowKit

theorem Reads.below {w w' : World} {a : Option Addr} {n : Nat} {z : Nat → Int} (h : Reads w a n z) (hb : Below w.heap.size w w') : Reads w' a n z := by
  rcases h with rfl | ⟨b, off, ha, hc⟩
  · exact .inl rfl
  · exact .inr ⟨b, off, ha, fun i hi => (hb.cell (p := ⟨b, off + i, none⟩) (block_lt_of_cell (a := ⟨b, off + i, none⟩) (hc i hi))).trans (hc i hi)⟩

theorem filled_reads {w : World} {base g n : Nat} {xs : List Value} {z : Nat → Int} (h : w.ownsRow base 21 1 (.slice (some ⟨g, 0, none⟩) n n) n xs) (hf : Filled xs 0 n z) :
    Reads w (some ⟨g, 0, none⟩) n z := .inr ⟨g, 0, rfl, filled_cells h hf⟩

/-! ### APPEND -/
/-- z, then x at place n. -/
def snoc (z : Nat → Int) (n : Nat) (x : Int) : Nat → Int := fun i => if i < n then z i else x
theorem snoc_lt {z : Nat → Int} {n : Nat} {x : Int} {i : Nat} (h : i < n) : snoc z n x i = z i := if_pos h
theorem snoc_at {z : Nat → Int} {n : Nat} {x : Int} : snoc z n x n = x := if_neg (Nat.lt_irrefl n)

theorem Filled.snoc {xs : List Value} {n : Nat} {z : Nat → Int} {x : Int} (h : Filled xs 0 n z) (hl : n < xs.length) : Filled (xs.set n (.int .i32 x)) 0 (n + 1) (Rune.snoc z n x) := by
  intro i hi
  rw [Nat.zero_add, List.getElem?_set]
  by_cases e : n = i
  · subst e
    rw [if_pos rfl, if_pos hl, snoc_at]
  · rw [if_neg e, snoc_lt (by omega)]
    simpa using h i (by omega)

theorem LIx.app_same {z : Nat → Int} {n : Nat} {x r i : Int} (h : LIx (snoc z n x) r (n + 1) i) (hx : x = r) : i = n := by
  rcases h with ⟨_, ha⟩ | ⟨p, rfl, hp, hpr, ha⟩
  · exact absurd (snoc_at.trans hx) (ha n (by omega))
  · by_cases e : p < n
    · exact absurd (snoc_at.trans hx) (ha n e (by omega))
    · omega

theorem LIx.app_other {z : Nat → Int} {n : Nat} {x r i : Int} (h : LIx (snoc z n x) r (n + 1) i) (hx : x ≠ r) : LIx z r n i := by
  rcases h with ⟨rfl, ha⟩ | ⟨p, rfl, hp, hpr, ha⟩
  · exact .inl ⟨rfl, fun j hj => by have := ha j (by omega); rwa [snoc_lt hj] at this⟩
  · by_cases e : p < n
    · refine .inr ⟨p, rfl, e, by rwa [snoc_lt e] at hpr, fun j h1 h2 => ?_⟩
      have := ha j h1 (by omega)
      rwa [snoc_lt h2] at this
    · obtain rfl : p = n := by omega
      rw [snoc_at] at hpr
      exact absurd hpr hx

/-! ### PADDING -/
/-- p copies of r, then z. -/
def padded (z : Nat → Int) (p : Nat) (r : Int) : Nat → Int := fun i => if i < p then r else z (i - p)
theorem padded_lt {z : Nat → Int} {p : Nat} {r : Int} {i : Nat} (h : i < p) : padded z p r i = r := if_pos h
theorem padded_ge {z : Nat → Int} {p : Nat} {r : Int} (i : Nat) : padded z p r (p + i) = z i := by
  unfold padded
  rw [if_neg (by omega), Nat.add_sub_cancel_left]

theorem Filled.padded {xs : List Value} {n p : Nat} {z : Nat → Int} {r : Int} (h1 : Filled xs 0 p (fun _ => r)) (h2 : Filled xs p n z) : Filled xs 0 (p + n) (Rune.padded z p r) := by
  intro i hi
  by_cases e : i < p
  · rw [padded_lt e]
    exact h1 i e
  · obtain ⟨j, rfl⟩ : ∃ j, i = p + j := ⟨i - p, by omega⟩
    rw [padded_ge, Nat.zero_add]
    exact h2 j (by omega)

theorem NIx.pad_none {z : Nat → Int} {n p : Nat} {r i : Int} (h : NIx (padded z p r) r (p + n) i) (g : NIx z r n (-1)) : i = -1 := by
  have g' : ∀ j, j < n → z j = r := by
    rcases g with ⟨_, g⟩ | ⟨k, hk, _⟩
    · exact g
    · omega
  rcases h with ⟨rfl, _⟩ | ⟨q, rfl, hq, hqr, _⟩
  · rfl
  · exfalso
    by_cases e : q < p
    · exact hqr (padded_lt e)
    · obtain ⟨j, rfl⟩ : ∃ j, q = p + j := ⟨q - p, by omega⟩
      rw [padded_ge] at hqr
      exact hqr (g' j (by omega))

theorem NIx.pad_some {z : Nat → Int} {n p k : Nat} {r i : Int} (h : NIx (padded z p r) r (p + n) i) (g : NIx z r n k) : i = (p : Int) + k := by
  rcases g with ⟨hk, _⟩ | ⟨k', hk, hkn, hkr, hall⟩
  · omega
  · obtain rfl : k' = k := by omega
    rcases h with ⟨_, ha⟩ | ⟨q, rfl, hq, hqr, ha⟩
    · have := ha (p + k') (by omega)
      rw [padded_ge] at this
      exact absurd this hkr
    · by_cases e : q < p
      · exact absurd (padded_lt e) hqr
      · obtain ⟨j, rfl⟩ : ∃ j, q = p + j := ⟨q - p, by omega⟩
        rw [padded_ge] at hqr
        by_cases e1 : j < k'
        · exact absurd (hall j e1) hqr
        · by_cases e2 : k' < j
          · have := ha (p + k') (by omega)
            rw [padded_ge] at this
            exact absurd this hkr
          · omega

end Go.Proofs.Qxb6001693aMods.Rune

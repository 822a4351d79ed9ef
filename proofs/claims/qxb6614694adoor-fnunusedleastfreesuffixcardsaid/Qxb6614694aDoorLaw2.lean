/-
  THE PLAIN LAW of FnUnusedLeastFreeSuffix.
-/
import Derived.Test.Qxb6614694aDoorLaw1
namespace Go.Proofs.Qxb6614694aDoor
open Go.RowKit
set_option linter.unusedVariables false

/-- What is so of the first answer. -/
theorem least_base {base : ByteArray} {L : List ByteArray} {k : Nat} (h : Least base L k) : hasB L base = !((k : Int) == 0) := by
  by_cases hk : k = 0
  · subst hk
    have : hasB L base = false := (hasB_no _ _).2 h.2.1
    simp [this]
  · have : hasB L base = true := (hasB_iff _ _).2 (h.2.2 0 (by omega))
    rw [this]
    have : ((k : Int) == 0) = false := by simp; exact hk
    rw [this]; rfl

theorem least_free {base : ByteArray} {L : List ByteArray} {k : Nat} (h : Least base L k) : hasB L (nm base k) = false := (hasB_no _ _).2 h.2.1
theorem least_taken {base : ByteArray} {L : List ByteArray} {k j : Nat} (h : Least base L k) (hj : j < k) : hasB L (nm base j) = true := (hasB_iff _ _).2 (h.2.2 j hj)

theorem least_lt {base : ByteArray} {L : List ByteArray} {k1 k2 : Nat} (h1 : Least base L k1) (h2 : Least base (L ++ [nm base k1]) k2) : k1 < k2 := by
  rcases Nat.lt_trichotomy k2 k1 with h | h | h
  · exact absurd (List.mem_append_left _ (h1.2.2 k2 h)) h2.2.1
  · subst h
    exact absurd (List.mem_append_right _ (List.mem_singleton.2 rfl)) h2.2.1
  · exact h

theorem least_between {base : ByteArray} {L : List ByteArray} {k1 k2 j : Nat} (h2 : Least base (L ++ [nm base k1]) k2) (hj : k1 < j) (hj2 : j < k2) : hasB L (nm base j) = true := by
  refine (hasB_iff _ _).2 ?_
  rcases List.mem_append.1 (h2.2.2 j hj2) with h | h
  · exact h
  · have := nm_inj base j k1 (List.mem_singleton.1 h)
    omega
end Go.Proofs.Qxb6614694aDoor

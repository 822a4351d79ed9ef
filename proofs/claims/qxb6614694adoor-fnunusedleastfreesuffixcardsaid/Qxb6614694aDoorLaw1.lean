/-
  THE PLAIN LAW of FnUnusedOtherNameChangesNothing.
-/
import Derived.Test.Qxb6614694aDoorLeafs
import Derived.Lib.ItoaLen
namespace Go.Proofs.Qxb6614694aDoor
open Go.RowKit
set_option linter.unusedVariables false

theorem lists_eq {x s : ByteArray} (h : x = s) : (x.toList == s.toList) = true := by subst h; simp
theorem lists_ne {x s : ByteArray} (h : x ≠ s) : (x.toList == s.toList) = false := by
  cases e : (x.toList == s.toList) with
  | false => rfl
  | true => exact absurd (eq_of_lists e) h

theorem nm_size (base : ByteArray) (k : Nat) : (nm base k).size = base.size + (if k = 0 then 0 else (Lib.decDigits k).length) := by
  have h := congrArg List.length (nm_data base k)
  simp only [List.length_append, Array.length_toList] at h
  simp only [ByteArray.size]
  rw [h]
  split <;> simp

theorem nm_prefix (base : ByteArray) (k : Nat) : (nm base k).extract 0 base.size = base := by
  have h := Lib.extract_data (nm base k) 0 base.size
  have e : ((nm base k).extract 0 base.size).data.toList = base.data.toList := by
    have hsz : base.size = base.data.toList.length := rfl
    rw [h, nm_data, List.drop_zero, Nat.sub_zero, hsz, List.take_left]
  cases hx : (nm base k).extract 0 base.size with
  | mk d =>
    rw [hx] at e
    cases base with
    | mk b => exact congrArg ByteArray.mk (Array.toList_inj.1 e)

theorem dec_pos (k : Nat) : 0 < (Lib.decDigits k).length := List.length_pos_iff.2 (dec_ne k)

/-- What the two answers are to one another. -/
structure Two (base extra R1 R2 : ByteArray) (L : List ByteArray) : Prop where
  free1 : hasB L R1 = false
  one : (hasB L base = true ∧ base.size < R1.size ∧ R1.extract 0 base.size = base ∧ R1.size ≤ 1048676) ∨ (hasB L base = false ∧ R1 = base)
  two : (extra = R1 ∧ (R2.toList == R1.toList) = false ∧ hasB (L ++ [extra]) R2 = false) ∨ ((extra.toList == R1.toList) = false ∧ R2 = R1)

theorem two_of {base extra R1 R2 : ByteArray} {L : List ByteArray} {k1 k2 : Nat} (hs : base.size ≤ 1048576) (hl : L.length ≤ 4096) (h1 : Least base L k1) (h2 : Least base (L ++ [extra]) k2) (e1 : R1 = nm base k1) (e2 : R2 = nm base k2) : Two base extra R1 R2 L := by
  subst e1 e2
  refine ⟨(hasB_no _ _).2 h1.2.1, ?_, ?_⟩
  · by_cases hb : base ∈ L
    · left
      have hk : k1 ≠ 0 := by
        intro e
        subst e
        exact h1.2.1 hb
      have hd := dec_pos k1
      have hd2 : (Lib.decDigits k1).length ≤ 100 := by
        have hle : k1 ≤ 4096 := Nat.le_trans h1.1 hl
        have := Lib.itoa_length_le (k1 : Int) (by omega) (by omega)
        rw [itoa_nat] at this
        omega
      refine ⟨(hasB_iff _ _).2 hb, ?_, nm_prefix base k1, ?_⟩
      · rw [nm_size, if_neg hk]; omega
      · rw [nm_size, if_neg hk]; omega
    · right
      refine ⟨(hasB_no _ _).2 hb, ?_⟩
      by_cases hk : k1 = 0
      · rw [hk]; rfl
      · exact absurd (h1.2.2 0 (by omega)) hb
  · by_cases he : extra = nm base k1
    · left
      refine ⟨he, lists_ne ?_, (hasB_no _ _).2 h2.2.1⟩
      intro e
      refine h2.2.1 ?_
      rw [e, ← he]
      simp
    · right
      refine ⟨lists_ne he, ?_⟩
      have h3 : Least base (L ++ [extra]) k1 := by
        refine ⟨by have := h1.1; simp; omega, ?_, fun j hj => List.mem_append_left _ (h1.2.2 j hj)⟩
        intro hm
        rcases List.mem_append.1 hm with hm | hm
        · exact h1.2.1 hm
        · exact he (List.mem_singleton.1 hm).symm
      rw [h2.unique h3]
end Go.Proofs.Qxb6614694aDoor

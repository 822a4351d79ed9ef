/-
  PLAIN: the names base, base1, base2 ..: all apart; the least that is free.
-/
import Derived.Lib.ItoaNum
import Derived.Lib.SlicesS
namespace Go.Proofs.Qxb6614694aDoor
open Go.Lib
set_option linter.unusedVariables false

/-- The number that digits spell. -/
def val (l : List UInt8) : Nat := l.foldl (fun a d => a * 10 + (d.toNat - 48)) 0

theorem val_snoc (l : List UInt8) (d : UInt8) : val (l ++ [d]) = val l * 10 + (d.toNat - 48) := by simp [val, List.foldl_append]

theorem dig_toNat (n : Nat) (h : n < 10) : (UInt8.ofNat (48 + n)).toNat = 48 + n := by
  rw [UInt8.toNat_ofNat']; omega

theorem val_dec (u : Nat) : val (decDigits u) = u := by
  induction u using Nat.strongRecOn with
  | _ u ih =>
    by_cases h : u < 10
    · rw [decDigits, dif_pos h]
      simp only [val, List.foldl_cons, List.foldl_nil]
      rw [dig_toNat u h]; omega
    · rw [decDigits, dif_neg h, val_snoc, ih (u / 10) (by omega), dig_toNat _ (by omega)]
      omega

theorem dec_ne (u : Nat) : decDigits u ≠ [] := by
  intro h
  have := decDigits_length u
  rw [h] at this
  have := nDigits_pos u
  simp at *
  omega

/-- The k-th name: base itself, then base with the decimal of k behind it. -/
def nm (base : ByteArray) (k : Nat) : ByteArray := if k = 0 then base else base ++ ⟨(itoa (k : Int)).toArray⟩

theorem itoa_nat (k : Nat) : itoa (k : Int) = decDigits k := by unfold itoa; rw [if_neg (by omega)]; simp

theorem nm_data (base : ByteArray) (k : Nat) : (nm base k).data.toList = base.data.toList ++ (if k = 0 then [] else decDigits k) := by
  unfold nm
  split
  · simp
  · rw [itoa_nat]; simp

theorem nm_inj (base : ByteArray) (j k : Nat) (h : nm base j = nm base k) : j = k := by
  have h1 := congrArg (fun b : ByteArray => b.data.toList) h
  simp only [nm_data] at h1
  have h2 := List.append_cancel_left h1
  by_cases hj : j = 0
  · by_cases hk : k = 0
    · omega
    · rw [if_pos hj, if_neg hk] at h2
      exact absurd h2.symm (dec_ne k)
  · by_cases hk : k = 0
    · rw [if_neg hj, if_pos hk] at h2
      exact absurd h2 (dec_ne j)
    · rw [if_neg hj, if_neg hk] at h2
      have := congrArg val h2
      rwa [val_dec, val_dec] at this

theorem pigeon {α : Type} [DecidableEq α] : ∀ (n : Nat) (f : Nat → α) (T : List α), (∀ i j, i < n → j < n → f i = f j → i = j) → (∀ i, i < n → f i ∈ T) → n ≤ T.length
  | 0, _, _, _, _ => Nat.zero_le _
  | n + 1, f, T, hi, hm => by
    have h := pigeon n f (T.erase (f n)) (fun i j a b e => hi i j (by omega) (by omega) e) (fun i hin => by
      have hne : f i ≠ f n := fun e => by have := hi i n (by omega) (by omega) e; omega
      exact (List.mem_erase_of_ne hne).2 (hm i (by omega)))
    rw [List.length_erase_of_mem (hm n (by omega))] at h
    have := List.length_pos_of_mem (hm n (by omega))
    omega

/-- So many names are taken at most as the list is long. -/
theorem names_bound (base : ByteArray) (T : List ByteArray) (n : Nat) (h : ∀ j, j < n → nm base j ∈ T) : n ≤ T.length :=
  pigeon n (nm base) T (fun i j _ _ e => nm_inj base i j e) h

/-- nm base k is the least free name. -/
def Least (base : ByteArray) (T : List ByteArray) (k : Nat) : Prop := k ≤ T.length ∧ nm base k ∉ T ∧ ∀ j, j < k → nm base j ∈ T

theorem Least.unique {base : ByteArray} {T : List ByteArray} {j k : Nat} (hj : Least base T j) (hk : Least base T k) : j = k := by
  rcases Nat.lt_trichotomy j k with h | h | h
  · exact absurd (hk.2.2 j h) hj.2.1
  · exact h
  · exact absurd (hj.2.2 k h) hk.2.1

theorem nm_zero (base : ByteArray) : nm base 0 = base := rfl
theorem nm_succ (base : ByteArray) (k : Nat) (h : k ≠ 0) : nm base k = base ++ ⟨(itoa (k : Int)).toArray⟩ := if_neg h
end Go.Proofs.Qxb6614694aDoor

/-
  PLAIN: decimal numerals: their value, their digits, their head.
-/
import Derived.Lib.ItoaNum
import Derived.Lib.ItoaMem
import Derived.Lib.ItoaLen
namespace Go.Proofs.Qxb6614732aDoor
open Go.Lib
set_option linter.unusedVariables false

/-- The number that digits spell. -/
def val (l : List UInt8) : Nat := l.foldl (fun a d => a * 10 + (d.toNat - 48)) 0

theorem val_snoc (l : List UInt8) (d : UInt8) : val (l ++ [d]) = val l * 10 + (d.toNat - 48) := by simp [val, List.foldl_append]

theorem foldl_ge (b : List UInt8) : ∀ a : Nat, a ≤ b.foldl (fun a d => a * 10 + (d.toNat - 48)) a := by
  induction b with
  | nil => intro a; exact Nat.le_refl _
  | cons d b ih => intro a; exact Nat.le_trans (show a ≤ a * 10 + (d.toNat - 48) by omega) (ih _)

theorem val_prefix (a b : List UInt8) : val a ≤ val (a ++ b) := by
  unfold val
  rw [List.foldl_append]
  exact foldl_ge b _

theorem dig_toNat (n : Nat) (h : n < 10) : (UInt8.ofNat (48 + n)).toNat = 48 + n := by
  rw [UInt8.toNat_ofNat']; omega

theorem val_dec (u : Nat) : val (decDigits u) = u := by
  induction u using Nat.strongRecOn with
  | _ u ih =>
    by_cases h : u < 10
    · rw [decDigits, dif_pos h]
      simp only [val, List.foldl_cons, List.foldl_nil]
      rw [dig_toNat u h]; omega
    · rw [decDigits, dif_neg h, val_snoc, ih (u / 10) (by omega), dig_toNat _ (by omega)]
      omega

theorem dec_pos (u : Nat) : 0 < (decDigits u).length := by
  rw [decDigits_length]; exact nDigits_pos u

theorem dec_digits (u : Nat) : ∀ d ∈ decDigits u, 48 ≤ d.toNat ∧ d.toNat ≤ 57 := by
  induction u using Nat.strongRecOn with
  | _ u ih =>
    intro d hd
    by_cases h : u < 10
    · rw [decDigits, dif_pos h] at hd
      have e := List.mem_singleton.1 hd
      rw [e, dig_toNat u h]; omega
    · rw [decDigits, dif_neg h] at hd
      rcases List.mem_append.1 hd with hd | hd
      · exact ih (u / 10) (by omega) d hd
      · have e := List.mem_singleton.1 hd
        rw [e, dig_toNat _ (by omega)]; omega

theorem dec_head (u : Nat) (hu : 0 < u) : ∀ d, (decDigits u)[0]? = some d → d.toNat ≠ 48 := by
  induction u using Nat.strongRecOn with
  | _ u ih =>
    intro d hd
    by_cases h : u < 10
    · rw [decDigits, dif_pos h] at hd
      simp only [List.getElem?_cons_zero, Option.some.injEq] at hd
      rw [← hd, dig_toNat u h]; omega
    · rw [decDigits, dif_neg h, List.getElem?_append_left (dec_pos _)] at hd
      exact ih (u / 10) (by omega) (by omega) d hd

theorem dec_len20 (u : Nat) (hu : u < 18446744073709551616) : (decDigits u).length ≤ 20 := by
  rw [decDigits_length]
  by_cases h : u = 0
  · subst h; rw [nDigits_small (by omega)]; omega
  · have := numDigits_eq u (by omega) hu
    split at this <;> omega

theorem take_snoc (E : List UInt8) (k : Nat) (h : k < E.length) : E.take (k + 1) = E.take k ++ [E.getD k 0] := by
  rw [List.take_succ_eq_append_getElem h]; simp [List.getD, h]

/-- A digit more: what the value is, and that it is no greater than the whole. -/
theorem val_step (u k : Nat) (h : k < (decDigits u).length) : val ((decDigits u).take k) * 10 + (((decDigits u).getD k 0).toNat - 48) = val ((decDigits u).take (k + 1)) ∧ val ((decDigits u).take (k + 1)) ≤ u ∧ 48 ≤ ((decDigits u).getD k 0).toNat ∧ ((decDigits u).getD k 0).toNat ≤ 57 := by
  refine ⟨by rw [take_snoc _ _ h, val_snoc], ?_, dec_digits u _ ?_⟩
  · have := val_prefix ((decDigits u).take (k + 1)) ((decDigits u).drop (k + 1))
    rwa [List.take_append_drop, val_dec] at this
  · simp [List.getD, h]
end Go.Proofs.Qxb6614732aDoor

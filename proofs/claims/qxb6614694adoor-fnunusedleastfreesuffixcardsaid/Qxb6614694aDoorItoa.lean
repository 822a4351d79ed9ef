/-
  zzGb1Index (8) and zzGb1Itoa (10).
-/
import Derived.Test.Qxb6614694aDoorLaw1
namespace Go.Proofs.Qxb6614694aDoor
open Go.RowKit
set_option linter.unusedVariables false

set_option maxHeartbeats 400000 in
theorem index_zero (base : ByteArray) (w : World) :
    Calls Tryd.prog 8 #[.string base, .string base] w fun e w' => e = .returned (.tuple #[.int .i64 0, .bool true]) ∧ w' = w := by
  go_enter Tryd.func8, Tryd.ntmps8
  go_wp2
  go_ret2
  exact ⟨rfl, rfl⟩

set_option maxHeartbeats 400000 in
theorem index_walk (base R S : ByteArray) (w : World) (hb : base.size ≤ 2000000) (hR : R.size ≤ 3000000) (h1 : (R.toList == base.toList) = false) (h2 : base.size < R.size) (h3 : R.extract 0 base.size = base) (h4 : R.extract base.size R.size = S)
    (h5 : S.size ≤ 6) (h6 : 0 < S.size) (h7 : ∀ i (h : i < S.size), 48 ≤ (S[i]'h).toNat ∧ (S[i]'h).toNat ≤ 57) (h8 : (S[0]'h6).toNat ≠ 48) :
    Calls Tryd.prog 8 #[.string base, .string R] w fun e w' => e = .returned (.tuple #[.int .i64 (val S.data.toList), .bool true]) ∧ w' = w := by
  have H7 := hide h7
  clear h7
  have h9 : (((S[0]'h6).toNat : Int) == 48) = false := by simp; omega
  go_enter Tryd.func8, Tryd.ntmps8
  go_wp2
  go_loop [7, 8] (fun a i => ∃ (k v : Nat), k ≤ S.size ∧ i = .int .i64 k ∧ a = .int .i64 v ∧ Hid (v = val (S.data.toList.take k)) ∧ Hid (v < 10 ^ k)) (fun _ i => S.size - (intOf i).toNat)
  case atStart => exact ⟨0, 0, Nat.zero_le _, rfl, rfl, rfl, by show 0 < 10 ^ 0; decide⟩
  case round =>
    obtain ⟨k, v, hk, rfl, rfl, HV, HP⟩ := hrel
    by_cases hlt : k < S.size
    · obtain ⟨hc1, hc2⟩ := H7.out k hlt
      obtain ⟨c, hc⟩ : ∃ c : Nat, (S[k]'hlt).toNat = c := ⟨_, rfl⟩
      rw [hc] at hc1 hc2
      have hv : v ≤ 100000 := by
        have h := HP.out
        have := Nat.pow_le_pow_right (show 0 < 10 by decide) (show k ≤ 5 by omega)
        omega
      have HV2 := hide (show v * 10 + (c - 48) = val (S.data.toList.take (k + 1)) by
        have e : S.data.toList.take (k + 1) = S.data.toList.take k ++ [S[k]'hlt] := by
          rw [List.take_succ_eq_append_getElem (by rw [Array.length_toList]; exact hlt)]; rfl
        rw [e, val_snoc, ← HV.out, hc])
      have HP2 := hide (show v * 10 + (c - 48) < 10 ^ (k + 1) by
        have h := HP.out
        rw [Nat.pow_succ]
        omega)
      go_wp2
      go_round
      case rel => exact ⟨k + 1, v * 10 + (c - 48), by omega, by go_num, by go_num, HV2.out, HP2.out⟩
      case measure => simp [intOf]; omega
    · go_wp2
      go_ret2
      have e : k = S.size := by omega
      have e2 : S.data.toList.take k = S.data.toList := List.take_of_length_le (by rw [e, Array.length_toList]; exact Nat.le_refl _)
      refine ⟨?_, rfl⟩
      rw [← e2, ← HV.out]
      rfl

theorem dec_digits (u : Nat) : ∀ d ∈ Lib.decDigits u, 48 ≤ d.toNat ∧ d.toNat ≤ 57 := by
  induction u using Nat.strongRecOn with
  | _ u ih =>
    intro d hd
    by_cases h : u < 10
    · rw [Lib.decDigits, dif_pos h] at hd
      have e := List.mem_singleton.1 hd
      rw [e, dig_toNat u h]; omega
    · rw [Lib.decDigits, dif_neg h] at hd
      rcases List.mem_append.1 hd with hd | hd
      · exact ih (u / 10) (by omega) d hd
      · have e := List.mem_singleton.1 hd
        rw [e, dig_toNat _ (by omega)]; omega

theorem dec_head (u : Nat) (hu : 0 < u) : ∀ d, (Lib.decDigits u)[0]? = some d → d.toNat ≠ 48 := by
  induction u using Nat.strongRecOn with
  | _ u ih =>
    intro d hd
    by_cases h : u < 10
    · rw [Lib.decDigits, dif_pos h] at hd
      simp only [List.getElem?_cons_zero, Option.some.injEq] at hd
      rw [← hd, dig_toNat u h]; omega
    · rw [Lib.decDigits, dif_neg h, List.getElem?_append_left (dec_pos _)] at hd
      exact ih (u / 10) (by omega) (by omega) d hd

theorem dec_len (k : Nat) (hk : k ≤ 99999) : (Lib.decDigits k).length ≤ 6 := by
  rw [Lib.decDigits_length]
  have h1 : ∀ u, u < 10 → Lib.nDigits u = 1 := fun u h => Lib.nDigits_small h
  by_cases a : k < 10
  · rw [h1 k a]; omega
  rw [Lib.nDigits_big a]
  by_cases b : k / 10 < 10
  · rw [h1 _ b]; omega
  rw [Lib.nDigits_big b]
  by_cases c : k / 10 / 10 < 10
  · rw [h1 _ c]; omega
  rw [Lib.nDigits_big c]
  by_cases d : k / 10 / 10 / 10 < 10
  · rw [h1 _ d]; omega
  rw [Lib.nDigits_big d, h1 _ (by omega)]
  omega

theorem index_nm (base : ByteArray) (k : Nat) (w : World) (hb : base.size ≤ 2000000) (hk : k ≤ 99999) :
    Calls Tryd.prog 8 #[.string base, .string (nm base k)] w fun e w' => e = .returned (.tuple #[.int .i64 k, .bool true]) ∧ w' = w := by
  by_cases h0 : k = 0
  · subst h0
    exact index_zero base w
  · obtain ⟨S, hS⟩ : ∃ S, (nm base k).extract base.size (nm base k).size = S := ⟨_, rfl⟩
    have hd : S.data.toList = Lib.decDigits k := by
      rw [← hS, Lib.extract_data, nm_data, if_neg h0]
      have hsz : base.size = base.data.toList.length := rfl
      rw [hsz, List.drop_left]
      refine List.take_of_length_le ?_
      have := nm_size base k
      rw [if_neg h0] at this
      omega
    have hsz : S.size = (Lib.decDigits k).length := by rw [← hd, Array.length_toList]; rfl
    have hsn := nm_size base k
    rw [if_neg h0] at hsn
    have hp := dec_pos k
    have hl := dec_len k hk
    have hget : ∀ i (h : i < S.size), (Lib.decDigits k)[i]? = some (S[i]'h) := by
      intro i h
      rw [← hd, List.getElem?_eq_getElem (by rw [Array.length_toList]; exact h)]
      rfl
    have hne : nm base k ≠ base := by
      intro e
      have := congrArg ByteArray.size e
      omega
    have hw := index_walk base (nm base k) S w hb (by omega) (lists_ne hne) (by omega) (nm_prefix base k) hS (by omega) (by omega)
      (fun i h => dec_digits k _ (List.mem_of_getElem? (hget i h))) (dec_head k (by omega) _ (hget 0 (by omega)))
    rw [hd, val_dec] at hw
    exact hw
end Go.Proofs.Qxb6614694aDoor

/-
  isCanonicalDecimalOf (10).
-/
import Derived.Test.Qxb6614732aDoorLeafs
import Derived.Test.Qxb6614732aDoorPlain
namespace Go.Proofs.Qxb6614732aDoor
open Go.RowKit
set_option linter.unusedVariables false

set_option maxHeartbeats 1000000 in
theorem canon_pos (b off c n u : Nat) (w : World) (hu : u ≤ 9223372036854775807) (hn : n = (Lib.decDigits u).length) (hc : n ≤ c) (hc2 : c ≤ maxLen)
    (hcell : ∀ k, k < n → w.cell? ⟨b, off + k, none⟩ = some (.int .u8 (((Lib.decDigits u).getD k 0).toNat : Int))) :
    Calls Tryd.prog 10 #[.slice (some ⟨b, off, none⟩) n c, .int .i64 u] w fun e w' => e = .returned (.bool true) ∧ w' = w := by
  have hp := dec_pos u
  rw [← hn] at hp
  have h20 := dec_len20 u (by omega)
  rw [← hn] at h20
  have HV := hide (val_step u)
  rw [← hn] at HV
  have HA := hide (val_dec u)
  obtain ⟨E, hE⟩ : ∃ E, E = Lib.decDigits u := ⟨_, rfl⟩
  have hfirst : (u = 0 → n = 1) ∧ (u ≠ 0 → (E.getD 0 0).toNat ≠ 48) := by
    refine ⟨fun h => ?_, fun h => ?_⟩
    · rw [hn, h, Lib.decDigits_length, Lib.nDigits_small (by omega)]
    · rw [hE]
      refine dec_head u (by omega) _ ?_
      simp [List.getD, (show 0 < (Lib.decDigits u).length by omega)]
  rw [← hE] at hcell HV HA hn
  have hc0 := hcell 0 hp
  obtain ⟨f, hf⟩ : ∃ f, f = (E.getD 0 0).toNat := ⟨_, rfl⟩
  rw [← hf] at hc0 hfirst
  have HC := hide hcell
  have hff := hide hf
  have HN := hide hn
  clear hE hcell hf hn
  unfold maxLen at hc2
  have hcn : ¬ c = 0 := by omega
  obtain ⟨hf0, hf1⟩ := hfirst
  simp only [Nat.add_zero] at hc0
  have hdec : (((f : Int) == 48) = true ∧ n ≤ 1) ∨ ((f : Int) == 48) = false := by
    by_cases hu0 : u = 0
    · left
      have hn1 := hf0 hu0
      have he := (HV.out 0 hp).1
      refine ⟨?_, by omega⟩
      have h1 := (HV.out 0 hp).2
      have h2 : f = (E.getD 0 0).toNat := hff.out
      rw [← h2] at he h1
      simp
      omega
    · right
      have := hf1 hu0
      simp
      omega
  clear hf0 hf1
  have hn0 : ((n : Int) == 0) = false := by simp; omega
  have hn20 : (n : Int) ≤ 20 := by omega
  have hun : decide ((u : Int) < 0) = false := decide_eq_false (by omega)
  have hub : (u : Int) ≤ 9223372036854775807 := by omega
  rcases hdec with ⟨hfb, hn1⟩ | hfb
  all_goals
    go_enter Tryd.func10, Tryd.ntmps10
    go_wp2
    go_loop [9, 10] (fun x j => ∃ (k X : Nat), k ≤ n ∧ j = .int .i64 k ∧ x = .int .u64 X ∧ Hid (X = val (E.take k)) ∧ X ≤ u) (fun _ j => n - (intOf j).toNat)
    case atStart => exact ⟨0, 0, Nat.zero_le _, rfl, rfl, rfl, Nat.zero_le _⟩
    case round =>
      obtain ⟨k, X, hk, rfl, rfl, HX, hXu⟩ := hrel
      by_cases hlt : k < n
      · obtain ⟨s1, s2, s3, s4⟩ := HV.out k hlt
        have hck := HC.out k hlt
        obtain ⟨e, he⟩ : ∃ e, e = (E.getD k 0).toNat := ⟨_, rfl⟩
        rw [← he] at hck s1 s3 s4
        rw [← HX.out] at s1
        have HS := hide s1
        have hb : X * 10 + (e - 48) ≤ u := by rw [s1]; exact s2
        clear s1 s2 he
        have hov : ¬ ((18446744073709551615 - ((e : Int) - 48)) / 10 < (X : Int)) := by omega
        go_wp2
        go_round
        case rel => exact ⟨k + 1, X * 10 + (e - 48), by omega, by go_num, by go_num, HS.out, hb⟩
        case measure => simp [intOf]; omega
      · have hXe : X = u := by
          have h := HX.out
          rw [List.take_of_length_le (by rw [← HN.out]; omega), HA.out] at h
          exact h
        subst hXe
        go_wp2
        go_ret
        exact ⟨by simp, rfl⟩
set_option maxHeartbeats 1000000 in
theorem canon_neg (b off c n u : Nat) (w : World) (hu1 : 1 ≤ u) (hu : u ≤ 9223372036854775808) (hn : n = (Lib.decDigits u).length) (hc : n + 1 ≤ c) (hc2 : c ≤ maxLen)
    (hsign : w.cell? ⟨b, off, none⟩ = some (.int .u8 45)) (hcell : ∀ k, k < n → w.cell? ⟨b, off + 1 + k, none⟩ = some (.int .u8 (((Lib.decDigits u).getD k 0).toNat : Int))) :
    Calls Tryd.prog 10 #[.slice (some ⟨b, off, none⟩) (n + 1) c, .int .i64 (-(u : Int))] w fun e w' => e = .returned (.bool true) ∧ w' = w := by
  have hp := dec_pos u
  rw [← hn] at hp
  have h20 := dec_len20 u (by omega)
  rw [← hn] at h20
  have HV := hide (val_step u)
  rw [← hn] at HV
  have HA := hide (val_dec u)
  obtain ⟨E, hE⟩ : ∃ E, E = Lib.decDigits u := ⟨_, rfl⟩
  have hfirst : (u = 0 → n = 1) ∧ (u ≠ 0 → (E.getD 0 0).toNat ≠ 48) := by
    refine ⟨fun h => ?_, fun h => ?_⟩
    · rw [hn, h, Lib.decDigits_length, Lib.nDigits_small (by omega)]
    · rw [hE]
      refine dec_head u (by omega) _ ?_
      simp [List.getD, (show 0 < (Lib.decDigits u).length by omega)]
  rw [← hE] at hcell HV HA hn
  have hc0 := hcell 0 hp
  obtain ⟨f, hf⟩ : ∃ f, f = (E.getD 0 0).toNat := ⟨_, rfl⟩
  rw [← hf] at hc0 hfirst
  have HC := hide hcell
  have hff := hide hf
  have HN := hide hn
  clear hE hcell hf hn
  unfold maxLen at hc2
  have hcn : ¬ c = 1 := by omega
  obtain ⟨hf0, hf1⟩ := hfirst
  simp only [Nat.add_zero] at hc0
  have hdec : (((f : Int) == 48) = true ∧ n ≤ 1) ∨ ((f : Int) == 48) = false := by
    by_cases hu0 : u = 0
    · left
      have hn1 := hf0 hu0
      have he := (HV.out 0 hp).1
      refine ⟨?_, by omega⟩
      have h1 := (HV.out 0 hp).2
      have h2 : f = (E.getD 0 0).toNat := hff.out
      rw [← h2] at he h1
      simp
      omega
    · right
      have := hf1 hu0
      simp
      omega
  clear hf0 hf1
  have hn0 : ((n : Int) == 0) = false := by simp; omega
  have hn20 : (n : Int) ≤ 20 := by omega
  have hun : -(u : Int) < 0 := by omega
  have hnp : ((n : Int) + 1 == 0) = false := by simp; omega
  have hub : (u : Int) ≤ 9223372036854775808 := by omega
  rcases hdec with ⟨hfb, hn1⟩ | hfb
  all_goals
    go_enter Tryd.func10, Tryd.ntmps10
    go_wp2
    go_loop [9, 10] (fun x j => ∃ (k X : Nat), k ≤ n ∧ j = .int .i64 k ∧ x = .int .u64 X ∧ Hid (X = val (E.take k)) ∧ X ≤ u) (fun _ j => n - (intOf j).toNat)
    case atStart => exact ⟨0, 0, Nat.zero_le _, rfl, rfl, rfl, Nat.zero_le _⟩
    case round =>
      obtain ⟨k, X, hk, rfl, rfl, HX, hXu⟩ := hrel
      by_cases hlt : k < n
      · obtain ⟨s1, s2, s3, s4⟩ := HV.out k hlt
        have hck := HC.out k hlt
        obtain ⟨e, he⟩ : ∃ e, e = (E.getD k 0).toNat := ⟨_, rfl⟩
        rw [← he] at hck s1 s3 s4
        rw [← HX.out] at s1
        have HS := hide s1
        have hb : X * 10 + (e - 48) ≤ u := by rw [s1]; exact s2
        clear s1 s2 he
        have hov : ¬ ((18446744073709551615 - ((e : Int) - 48)) / 10 < (X : Int)) := by omega
        go_wp2
        exact ⟨⟨u4, .int .u64 ((X : Int) * 10 + ((e : Int) - 48)), .int .i64 ((k : Int) + 1), ⟨k + 1, by omega, by go_num, X * 10 + (e - 48), by go_num, HS, hb⟩, rfl, rfl, rfl⟩, by simp [intOf]; omega⟩
      · have hXe : X = u := by
          have h := HX.out
          rw [List.take_of_length_le (by rw [← HN.out]; omega), HA.out] at h
          exact h
        subst hXe
        go_wp2
        go_ret
        have e : ((X : Int) == -(-(X : Int) + 1) + 1) = true := by simp; omega
        exact ⟨by first | simp [e] | (congr 2), rfl⟩
end Go.Proofs.Qxb6614732aDoor

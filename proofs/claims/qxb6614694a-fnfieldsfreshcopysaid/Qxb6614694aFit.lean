/-
  The two guards of FnFieldsFreshCopy: zzBytes (6): some bool; zzGb1FieldsFit (7): some bool, and where it is true the lengths are small and fit.
-/
import Derived.Test.Qxb6614694aLeafs
namespace Go.Proofs.Qxb6614694a
open Go.RowKit
set_option linter.unusedVariables false

def OkFit (e : Ending) (n0 n1 n2 n3 n4 n5 : Nat) : Prop := ∃ b : Bool, e = .returned (.bool b) ∧ (b = true → n0 ≤ 4096 ∧ n3 ≤ 4096 ∧ n0 = n1 ∧ n0 = n2 ∧ n3 = n4 ∧ n3 = n5)
theorem OkFit.no {n0 n1 n2 n3 n4 n5 : Nat} : OkFit (.returned (.bool false)) n0 n1 n2 n3 n4 n5 := ⟨false, rfl, fun h => by cases h⟩

set_option maxHeartbeats 1000000 in
theorem fit_any (a0 a1 a2 a3 a4 a5 : Option Addr) (n0 n1 n2 n3 n4 n5 c0 c1 c2 c3 c4 c5 : Nat) (s0 s1 s3 s4 : List ByteArray) (w : World)
    (l0 : n0 ≤ maxLen) (l1 : n1 ≤ maxLen) (l2 : n2 ≤ maxLen) (l3 : n3 ≤ maxLen) (l4 : n4 ≤ maxLen) (l5 : n5 ≤ maxLen)
    (h0 : StrsAt w a0 n0 s0) (h1 : StrsAt w a1 n1 s1) (h3 : StrsAt w a3 n3 s3) (h4 : StrsAt w a4 n4 s4) :
    Calls Try.prog 7 #[.slice a0 n0 c0, .slice a1 n1 c1, .slice a2 n2 c2, .slice a3 n3 c3, .slice a4 n4 c4, .slice a5 n5 c5] w
      fun e w' => OkFit e n0 n1 n2 n3 n4 n5 ∧ w' = w := by
  by_cases hs : n0 ≤ 4096 ∧ n1 ≤ 4096 ∧ n2 ≤ 4096 ∧ n3 ≤ 4096 ∧ n4 ≤ 4096 ∧ n5 ≤ 4096
  · obtain ⟨g0, g1, g2, g3, g4, g5⟩ := hs
    have A0 : Hid (∀ z, Calls Try.prog 18 #[.int .i64 z, .slice a0 n0 c0] w fun e w' => (∃ r : Int, e = .returned (.int .i64 r)) ∧ w' = w) := fun z => add_any z a0 n0 c0 s0 w l0 h0
    have A1 : Hid (∀ z, Calls Try.prog 18 #[.int .i64 z, .slice a1 n1 c1] w fun e w' => (∃ r : Int, e = .returned (.int .i64 r)) ∧ w' = w) := fun z => add_any z a1 n1 c1 s1 w l1 h1
    have A3 : Hid (∀ z, Calls Try.prog 18 #[.int .i64 z, .slice a3 n3 c3] w fun e w' => (∃ r : Int, e = .returned (.int .i64 r)) ∧ w' = w) := fun z => add_any z a3 n3 c3 s3 w l3 h3
    have A4 : Hid (∀ z, Calls Try.prog 18 #[.int .i64 z, .slice a4 n4 c4] w fun e w' => (∃ r : Int, e = .returned (.int .i64 r)) ∧ w' = w) := fun z => add_any z a4 n4 c4 s4 w l4 h4
    clear h0 h1 h3 h4 l0 l1 l2 l3 l4 l5
    go_enter Try.func7, Try.ntmps7
    go_wp2_with fail
    refine (A0.out _).mono ?_
    rintro e w' ⟨⟨r0, rfl⟩, hw⟩
    subst hw
    go_wp2_with fail
    refine (A1.out _).mono ?_
    rintro e w' ⟨⟨r1, rfl⟩, hw⟩
    subst hw
    go_wp2_with fail
    refine (A3.out _).mono ?_
    rintro e w' ⟨⟨r3, rfl⟩, hw⟩
    subst hw
    go_wp2_with fail
    refine (A4.out _).mono ?_
    rintro e w' ⟨⟨r4, rfl⟩, hw⟩
    subst hw
    go_wp2
    all_goals go_ret
    all_goals first | exact ⟨OkFit.no, rfl⟩ | (refine ⟨⟨_, rfl, fun hb => ?_⟩, rfl⟩; simp at hb; omega)
  · go_enter Try.func7, Try.ntmps7
    go_wp2
    all_goals go_ret
    all_goals first | exact ⟨OkFit.no, rfl⟩ | (refine ⟨⟨_, rfl, fun hb => ?_⟩, rfl⟩; simp at hb; omega)

def OkB (e : Ending) : Prop := ∃ b : Bool, e = .returned (.bool b)
theorem OkB.mk (b : Bool) : OkB (.returned (.bool b)) := ⟨b, rfl⟩

set_option maxHeartbeats 2000000 in
theorem bytes_any (a0 a1 a2 a3 a4 a5 : Option Addr) (n0 n1 n2 n3 n4 n5 c0 c1 c2 c3 c4 c5 : Nat) (s0 s1 s3 s4 : List ByteArray) (w : World)
    (l0 : n0 ≤ maxLen) (l1 : n1 ≤ maxLen) (l2 : n2 ≤ maxLen) (l3 : n3 ≤ maxLen) (l4 : n4 ≤ maxLen) (l5 : n5 ≤ maxLen)
    (h0 : StrsAt w a0 n0 s0) (h1 : StrsAt w a1 n1 s1) (h3 : StrsAt w a3 n3 s3) (h4 : StrsAt w a4 n4 s4) :
    Calls Try.prog 6 #[.slice a0 n0 c0, .slice a1 n1 c1, .slice a2 n2 c2, .slice a3 n3 c3, .slice a4 n4 c4, .slice a5 n5 c5] w
      fun e w' => OkB e ∧ w' = w := by
  unfold maxLen at l0 l1 l2 l3 l4 l5
  go_enter Try.func6, Try.ntmps6
  go_wp2
  any_goals (go_ret; exact ⟨OkB.mk _, rfl⟩)
  go_loop [13, 14] (fun s i => ∃ (k : Nat) (y : Int), k ≤ n0 ∧ i = .int .i64 k ∧ s = .int .i64 y) (fun _ i => n0 - (intOf i).toNat)
  case atStart => exact ⟨0, _, Nat.zero_le _, rfl, rfl⟩
  case round =>
    obtain ⟨k, y, hk, rfl, rfl⟩ := hrel
    by_cases hlt : k < n0
    · obtain ⟨b, off, rfl, hbl, hc⟩ := h0 (by omega)
      have hc0 := hc k hlt
      obtain ⟨s, hs⟩ : ∃ s, s = s0.getD k ByteArray.empty := ⟨_, rfl⟩
      rw [← hs] at hc0
      clear hs hc
      go_wp2
      any_goals (go_ret; exact ⟨OkB.mk _, rfl⟩)
      go_round
      case rel => exact ⟨k + 1, _, by omega, by go_num, rfl⟩
      case measure => simp [intOf]; omega
    · go_wp2
      any_goals (go_ret; exact ⟨OkB.mk _, rfl⟩)
      go_loop [13, 15] (fun s i => ∃ (k : Nat) (y : Int), k ≤ n1 ∧ i = .int .i64 k ∧ s = .int .i64 y) (fun _ i => n1 - (intOf i).toNat)
      case atStart => exact ⟨0, _, Nat.zero_le _, rfl, rfl⟩
      case round =>
        obtain ⟨k, y, hk, rfl, rfl⟩ := hrel
        by_cases hlt : k < n1
        · obtain ⟨b, off, rfl, hbl, hc⟩ := h1 (by omega)
          have hc0 := hc k hlt
          obtain ⟨s, hs⟩ : ∃ s, s = s1.getD k ByteArray.empty := ⟨_, rfl⟩
          rw [← hs] at hc0
          clear hs hc
          go_wp2
          any_goals (go_ret; exact ⟨OkB.mk _, rfl⟩)
          go_round
          case rel => exact ⟨k + 1, _, by omega, by go_num, rfl⟩
          case measure => simp [intOf]; omega
        · go_wp2
          any_goals (go_ret; exact ⟨OkB.mk _, rfl⟩)
          go_loop [13, 16] (fun s i => ∃ (k : Nat) (y : Int), k ≤ n3 ∧ i = .int .i64 k ∧ s = .int .i64 y) (fun _ i => n3 - (intOf i).toNat)
          case atStart => exact ⟨0, _, Nat.zero_le _, rfl, rfl⟩
          case round =>
            obtain ⟨k, y, hk, rfl, rfl⟩ := hrel
            by_cases hlt : k < n3
            · obtain ⟨b, off, rfl, hbl, hc⟩ := h3 (by omega)
              have hc0 := hc k hlt
              obtain ⟨s, hs⟩ : ∃ s, s = s3.getD k ByteArray.empty := ⟨_, rfl⟩
              rw [← hs] at hc0
              clear hs hc
              go_wp2
              any_goals (go_ret; exact ⟨OkB.mk _, rfl⟩)
              go_round
              case rel => exact ⟨k + 1, _, by omega, by go_num, rfl⟩
              case measure => simp [intOf]; omega
            · go_wp2
              any_goals (go_ret; exact ⟨OkB.mk _, rfl⟩)
              go_loop [13, 17] (fun s i => ∃ (k : Nat) (y : Int), k ≤ n4 ∧ i = .int .i64 k ∧ s = .int .i64 y) (fun _ i => n4 - (intOf i).toNat)
              case atStart => exact ⟨0, _, Nat.zero_le _, rfl, rfl⟩
              case round =>
                obtain ⟨k, y, hk, rfl, rfl⟩ := hrel
                by_cases hlt : k < n4
                · obtain ⟨b, off, rfl, hbl, hc⟩ := h4 (by omega)
                  have hc0 := hc k hlt
                  obtain ⟨s, hs⟩ : ∃ s, s = s4.getD k ByteArray.empty := ⟨_, rfl⟩
                  rw [← hs] at hc0
                  clear hs hc
                  go_wp2
                  any_goals (go_ret; exact ⟨OkB.mk _, rfl⟩)
                  go_round
                  case rel => exact ⟨k + 1, _, by omega, by go_num, rfl⟩
                  case measure => simp [intOf]; omega
                · go_wp2
                  any_goals (go_ret; exact ⟨OkB.mk _, rfl⟩)
end Go.Proofs.Qxb6614694a

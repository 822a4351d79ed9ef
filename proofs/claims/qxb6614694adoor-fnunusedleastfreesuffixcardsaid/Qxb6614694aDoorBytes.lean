/-
  The two byte guards (5, 11): some bool.
-/
import Derived.Test.Qxb6614694aDoorLeafs
namespace Go.Proofs.Qxb6614694aDoor
open Go.RowKit
set_option linter.unusedVariables false

def OkB (e : Ending) : Prop := ∃ b : Bool, e = .returned (.bool b)
theorem OkB.mk (b : Bool) : OkB (.returned (.bool b)) := ⟨b, rfl⟩

set_option maxHeartbeats 1000000 in
theorem bytes5 (base : ByteArray) (a : Option Addr) (cap : Nat) (L : List ByteArray) (w : World) (hl : L.length ≤ maxLen) (ha : StrsAt w a L)  :
    Calls Tryd.prog 5 #[.string base, .slice a L.length cap] w fun e w' => OkB e ∧ w' = w := by
  obtain ⟨n, hn⟩ : ∃ n, n = L.length := ⟨_, rfl⟩
  unfold StrsAt at ha
  rw [← hn] at hl ha ⊢
  clear hn
  unfold maxLen at hl
  go_enter Tryd.func5, Tryd.ntmps5
  go_wp2
  any_goals (go_ret; exact ⟨OkB.mk _, rfl⟩)
  go_loop [5, 6] (fun s i => ∃ (k : Nat) (y : Int), k ≤ n ∧ i = .int .i64 k ∧ s = .int .i64 y) (fun _ i => n - (intOf i).toNat)
  case atStart => exact ⟨0, _, Nat.zero_le _, rfl, rfl⟩
  case round =>
    obtain ⟨k, y, hk, rfl, rfl⟩ := hrel
    by_cases hlt : k < n
    · obtain ⟨b, off, rfl, hbl, hc⟩ := ha (by omega)
      have hc0 := hc k hlt
      obtain ⟨s, hs⟩ : ∃ s, s = L.getD k ByteArray.empty := ⟨_, rfl⟩
      rw [← hs] at hc0
      clear hs hc
      go_wp2
      any_goals (go_ret; exact ⟨OkB.mk _, rfl⟩)
      go_round
      case rel => exact ⟨k + 1, _, by omega, by go_num, rfl⟩
      case measure => simp [intOf]; omega
    · go_wp2
      all_goals (go_ret; exact ⟨OkB.mk _, rfl⟩)

set_option maxHeartbeats 1000000 in
theorem bytes11 (base extra : ByteArray) (a : Option Addr) (cap : Nat) (L : List ByteArray) (w : World) (hl : L.length ≤ maxLen) (ha : StrsAt w a L)  :
    Calls Tryd.prog 11 #[.string base, .slice a L.length cap, .string extra] w fun e w' => OkB e ∧ w' = w := by
  obtain ⟨n, hn⟩ : ∃ n, n = L.length := ⟨_, rfl⟩
  unfold StrsAt at ha
  rw [← hn] at hl ha ⊢
  clear hn
  unfold maxLen at hl
  go_enter Tryd.func11, Tryd.ntmps11
  go_wp2
  any_goals (go_ret; exact ⟨OkB.mk _, rfl⟩)
  go_loop [7, 8] (fun s i => ∃ (k : Nat) (y : Int), k ≤ n ∧ i = .int .i64 k ∧ s = .int .i64 y) (fun _ i => n - (intOf i).toNat)
  case atStart => exact ⟨0, _, Nat.zero_le _, rfl, rfl⟩
  case round =>
    obtain ⟨k, y, hk, rfl, rfl⟩ := hrel
    by_cases hlt : k < n
    · obtain ⟨b, off, rfl, hbl, hc⟩ := ha (by omega)
      have hc0 := hc k hlt
      obtain ⟨s, hs⟩ : ∃ s, s = L.getD k ByteArray.empty := ⟨_, rfl⟩
      rw [← hs] at hc0
      clear hs hc
      go_wp2
      any_goals (go_ret; exact ⟨OkB.mk _, rfl⟩)
      go_round
      case rel => exact ⟨k + 1, _, by omega, by go_num, rfl⟩
      case measure => simp [intOf]; omega
    · go_wp2
      all_goals (go_ret; exact ⟨OkB.mk _, rfl⟩)
end Go.Proofs.Qxb6614694aDoor

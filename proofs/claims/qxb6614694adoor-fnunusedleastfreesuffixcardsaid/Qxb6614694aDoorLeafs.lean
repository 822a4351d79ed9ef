/-
  THE LEAVES of the two Unused laws: AddStrings (6), Has (9).
-/
import Derived.Test.Qxb6614694aDoorProg
import Derived.Test.Qxb6614694aDoorPlain
import Derived.WalkKit
import Derived.WalkSpells
import Derived.WalkLawsBesides
import Derived.KernelRfl
import Derived.Lib.Strings
namespace Go.Proofs.Qxb6614694aDoor
open Go.RowKit
set_option linter.unusedVariables false

theorem hide {p : Prop} (h : p) : Hid p := h

theorem getD_lt {L : List ByteArray} {k : Nat} (h : k < L.length) : L.getD k ByteArray.empty = L[k] := by simp [List.getD, h]

/-- The slice at a has the elements L. -/
def StrsAt (w : World) (a : Option Addr) (L : List ByteArray) : Prop :=
  0 < L.length → ∃ b off, a = some ⟨b, off, none⟩ ∧ b < w.heap.size ∧ ∀ k, k < L.length → w.cell? ⟨b, off + k, none⟩ = some (.string (L.getD k ByteArray.empty))

theorem StrsAt.below {w w' : World} {a : Option Addr} {L : List ByteArray} (h : StrsAt w a L) (hb : Below w.heap.size w w') : StrsAt w' a L := by
  intro hp
  obtain ⟨b, off, ha, hl, hc⟩ := h hp
  exact ⟨b, off, ha, Nat.lt_of_lt_of_le hl hb.size, fun k hk => (hb.cell (p := ⟨b, off + k, none⟩) hl).trans (hc k hk)⟩

def hasB (L : List ByteArray) (s : ByteArray) : Bool := Lib.containsS L s
theorem hasB_iff (L : List ByteArray) (s : ByteArray) : hasB L s = true ↔ s ∈ L := Lib.containsS_iff L s
theorem hasB_no (L : List ByteArray) (s : ByteArray) : hasB L s = false ↔ s ∉ L := by rw [← hasB_iff]; simp
theorem eq_of_lists {x s : ByteArray} (h : (x.toList == s.toList) = true) : x = s := by
  have h1 : x.toList = s.toList := by simpa using h
  rw [Lib.toList_data, Lib.toList_data] at h1
  cases x; cases s; congr 1; exact Array.toList_inj.1 h1
theorem ne_of_lists {x s : ByteArray} (h : (x.toList == s.toList) = false) : x ≠ s := by
  intro e; subst e; simp at h

set_option maxHeartbeats 400000 in
theorem add_any (z : Int) (a : Option Addr) (cap : Nat) (L : List ByteArray) (w : World) (hl : L.length ≤ maxLen) (ha : StrsAt w a L) :
    Calls Tryd.prog 6 #[.int .i64 z, .slice a L.length cap] w fun e w' => (∃ r : Int, e = .returned (.int .i64 r)) ∧ w' = w := by
  obtain ⟨n, hn⟩ : ∃ n, n = L.length := ⟨_, rfl⟩
  unfold StrsAt at ha
  rw [← hn] at hl ha ⊢
  clear hn
  unfold maxLen at hl
  go_enter Tryd.func6, Tryd.ntmps6
  go_wp2
  any_goals (go_ret; exact ⟨⟨_, rfl⟩, rfl⟩)
  go_loop [0, 5] (fun s i => ∃ (k : Nat) (y : Int), k ≤ n ∧ i = .int .i64 k ∧ s = .int .i64 y) (fun _ i => n - (intOf i).toNat)
  case atStart => exact ⟨0, z, Nat.zero_le _, rfl, rfl⟩
  case round =>
    obtain ⟨k, y, hk, rfl, rfl⟩ := hrel
    by_cases hlt : k < n
    · obtain ⟨b, off, rfl, hbl, hc⟩ := ha (by omega)
      have hc0 := hc k hlt
      obtain ⟨s, hs⟩ : ∃ s, s = L.getD k ByteArray.empty := ⟨_, rfl⟩
      rw [← hs] at hc0
      clear hs hc
      go_wp2
      any_goals (go_ret; exact ⟨⟨_, rfl⟩, rfl⟩)
      go_round
      case rel => exact ⟨k + 1, _, by omega, by go_num, rfl⟩
      case measure => simp [intOf]; omega
    · go_wp2
      go_ret
      exact ⟨⟨_, rfl⟩, rfl⟩

set_option maxHeartbeats 400000 in
theorem has_any (s : ByteArray) (a : Option Addr) (cap : Nat) (L : List ByteArray) (w : World) (hl : L.length ≤ maxLen) (ha : StrsAt w a L) :
    Calls Tryd.prog 9 #[.slice a L.length cap, .string s] w fun e w' => e = .returned (.bool (hasB L s)) ∧ w' = w := by
  obtain ⟨n, hn⟩ : ∃ n, n = L.length := ⟨_, rfl⟩
  unfold StrsAt at ha
  rw [← hn] at hl ha ⊢
  have HN := hide hn
  clear hn
  unfold maxLen at hl
  go_enter Tryd.func9, Tryd.ntmps9
  go_wp2
  go_loop [5] (fun i => ∃ (k : Nat), k ≤ n ∧ i = .int .i64 k ∧ Hid (∀ j, j < k → L.getD j ByteArray.empty ≠ s)) (fun i => n - (intOf i).toNat)
  case atStart => exact ⟨0, Nat.zero_le _, rfl, fun j hj => by omega⟩
  case round =>
    obtain ⟨k, hk, rfl, HJ⟩ := hrel
    by_cases hlt : k < n
    · obtain ⟨b, off, rfl, hbl, hc⟩ := ha (by omega)
      have hc0 := hc k hlt
      obtain ⟨x, hx⟩ : ∃ x, x = L.getD k ByteArray.empty := ⟨_, rfl⟩
      rw [← hx] at hc0
      have HX := hide hx
      clear hx hc
      go_wp2
      · go_ret
        refine ⟨?_, rfl⟩
        have e : x = s := eq_of_lists ‹_›
        have hm : hasB L s = true := by
          rw [hasB_iff, ← e, HX.out, getD_lt (by rw [← HN.out]; exact hlt)]
          exact List.getElem_mem _
        rw [hm]
        rfl
      · have hne : x ≠ s := ne_of_lists ‹_›
        go_round
        case rel => exact ⟨k + 1, by omega, by go_num, fun j hj => by
          by_cases h : j = k
          · subst h; rw [← HX.out]; exact hne
          · exact HJ.out j (by omega)⟩
        case measure => simp [intOf]; omega
    · go_wp2
      go_ret
      refine ⟨?_, rfl⟩
      have hm : hasB L s = false := by
        rw [hasB_no]
        intro hmem
        obtain ⟨i, hi, he⟩ := List.getElem_of_mem hmem
        refine HJ.out i (by have := HN.out; omega) ?_
        rw [getD_lt hi]; exact he
      rw [hm]
      rfl
end Go.Proofs.Qxb6614694aDoor

/-
  PLAIN: a slice's front and rest; the message cut.
-/
import Derived.Test.Qxb6614815aMem
namespace Go.Proofs.Qxb6614815a
open Go.RowKit
set_option linter.unusedVariables false

theorem BytesAt.take {w : World} {a : Option Addr} {D : List UInt8} (h : BytesAt w a D) (k : Nat) : BytesAt w a (D.take k) := by
  intro hp
  rw [List.length_take] at hp
  obtain ⟨b, off, ha, hl, hc⟩ := h (by omega)
  refine ⟨b, off, ha, hl, fun j hj => ?_⟩
  have hj1 := hj
  rw [List.length_take] at hj1
  have hj2 : j < D.length := by omega
  rw [hc j hj2, getD_lt hj, getD_lt hj2, List.getElem_take]

theorem BytesAt.drop {w : World} {b off : Nat} {D : List UInt8} (h : BytesAt w (some ⟨b, off, none⟩) D) (k : Nat) : BytesAt w (some ⟨b, off + k, none⟩) (D.drop k) := by
  intro hp
  rw [List.length_drop] at hp
  obtain ⟨b', off', ha, hl, hc⟩ := h (by omega)
  obtain ⟨rfl, rfl⟩ : b = b' ∧ off = off' := by simpa using ha
  refine ⟨b, off + k, rfl, hl, fun j hj => ?_⟩
  have hj1 := hj
  rw [List.length_drop] at hj1
  have hj2 : k + j < D.length := by omega
  rw [Nat.add_assoc, hc (k + j) hj2, getD_lt hj, getD_lt hj2, List.getElem_drop]

theorem bytes_empty (w : World) (a : Option Addr) {D : List UInt8} (h : D.length = 0) : BytesAt w a D := fun hp => by omega

theorem msg_cut (x : Nat) (D : List UInt8) (k : Nat) : msg x (D.take k) ++ D.drop k = msg x D := by
  unfold msg
  rw [List.cons_append, List.append_assoc, List.take_append_drop]
theorem msg_nil (x : Nat) (D : List UInt8) : msg x [] ++ D = msg x D := by
  unfold msg
  simp
theorem msg_rest (x : Nat) : (msg x []).drop 1 = Lib.uvarint x := by
  unfold msg
  simp
end Go.Proofs.Qxb6614815a

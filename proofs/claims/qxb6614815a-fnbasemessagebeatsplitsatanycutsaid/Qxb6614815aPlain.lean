/-
  PLAIN: the message tells its incarnation and its beat apart.
-/
import Derived.Test.Qxb6614815aBase
namespace Go.Proofs.Qxb6614815a
set_option linter.unusedVariables false

theorem u8nat {n : Nat} (h : n < 256) : n.toUInt8.toNat = n := by
  simp [Nat.toUInt8]; omega

/-- Where two varints, each with something behind it, are one, the numbers are one, and what is behind. -/
theorem uv_apart : ∀ (x y : Nat) (D E : List UInt8), Lib.uvarint x ++ D = Lib.uvarint y ++ E → x = y ∧ D = E := by
  intro x
  induction x using Nat.strongRecOn with
  | _ x ih =>
    intro y D E h
    by_cases hx : x < 128
    · rw [Lib.uvarint_small hx] at h
      by_cases hy : y < 128
      · rw [Lib.uvarint_small hy] at h
        simp only [List.cons_append, List.nil_append, List.cons.injEq] at h
        have h1 := congrArg UInt8.toNat h.1
        rw [u8nat (by omega), u8nat (by omega)] at h1
        exact ⟨h1, h.2⟩
      · rw [Lib.uvarint_big (by omega)] at h
        simp only [List.cons_append, List.nil_append, List.cons.injEq] at h
        have h1 := congrArg UInt8.toNat h.1
        rw [u8nat (by omega), u8nat (by omega)] at h1
        omega
    · rw [Lib.uvarint_big (by omega)] at h
      by_cases hy : y < 128
      · rw [Lib.uvarint_small hy] at h
        simp only [List.cons_append, List.nil_append, List.cons.injEq] at h
        have h1 := congrArg UInt8.toNat h.1
        rw [u8nat (by omega), u8nat (by omega)] at h1
        omega
      · rw [Lib.uvarint_big (x := y) (by omega)] at h
        simp only [List.cons_append, List.cons.injEq] at h
        have h1 := congrArg UInt8.toNat h.1
        rw [u8nat (by omega), u8nat (by omega)] at h1
        obtain ⟨h2, h3⟩ := ih (x / 128) (by omega) (y / 128) D E h.2
        exact ⟨by omega, h3⟩

theorem msg_same {x y : Nat} {D E : List UInt8} (hxy : x = y) : eqB (msg x D) (msg y E) = eqB D E := by
  subst hxy
  unfold eqB msg
  by_cases h : D = E
  · subst h; simp
  · have h2 : ¬ (3 :: (Lib.uvarint x ++ D) = 3 :: (Lib.uvarint x ++ E)) := fun he => h (by simpa using he)
    rw [beq_eq_false_iff_ne.2 h, beq_eq_false_iff_ne.2 h2]

theorem msg_other {x y : Nat} {D E : List UInt8} (hxy : x ≠ y) : eqB (msg x D) (msg y E) = false := by
  unfold eqB msg
  rw [beq_eq_false_iff_ne]
  intro he
  exact hxy (uv_apart x y D E (by simpa using he)).1

theorem msg_first (x : Nat) (D : List UInt8) : (Lib.byteCells (msg x D))[0]? = some (.int .u8 3) := by
  simp [Lib.byteCells, msg]
end Go.Proofs.Qxb6614815a

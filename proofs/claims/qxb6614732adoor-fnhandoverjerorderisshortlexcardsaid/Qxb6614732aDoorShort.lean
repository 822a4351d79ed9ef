/-
  digitCount (13), cat3 (12), shortlex (14), and the plain law: shortlex on decimals is the order of the numbers.
-/
import Derived.Test.Qxb6614732aDoorLeafs
import Derived.Test.Qxb6614732aDoorPlain
namespace Go.Proofs.Qxb6614732aDoor
open Go.RowKit
set_option linter.unusedVariables false

/-! ### The plain law -/
theorem val_append (p q : List UInt8) : val (p ++ q) = val p * 10 ^ q.length + val q := by
  have key : ∀ (q : List UInt8) (a : Nat), q.foldl (fun a d => a * 10 + (d.toNat - 48)) a = a * 10 ^ q.length + q.foldl (fun a d => a * 10 + (d.toNat - 48)) 0 := by
    intro q
    induction q with
    | nil => intro a; simp
    | cons d q ih =>
      intro a
      simp only [List.foldl_cons, List.length_cons]
      rw [ih (a * 10 + (d.toNat - 48)), ih (0 * 10 + (d.toNat - 48)), Nat.pow_succ, Nat.add_mul, Nat.add_mul, Nat.mul_comm (10 ^ q.length) 10, Nat.mul_assoc]
      omega
  unfold val
  rw [List.foldl_append, key q]

theorem val_lt (q : List UInt8) (h : ∀ d ∈ q, d.toNat ≤ 57) : val q < 10 ^ q.length := by
  induction q with
  | nil => simp [val]
  | cons d q ih =>
    have hq := ih (fun x hx => h x (List.mem_cons_of_mem _ hx))
    have hd := h d List.mem_cons_self
    have e := val_append [d] q
    have e1 : val [d] = d.toNat - 48 := by simp [val]
    rw [e1] at e
    rw [List.singleton_append] at e
    rw [e, List.length_cons, Nat.pow_succ]
    have : (d.toNat - 48) * 10 ^ q.length ≤ 9 * 10 ^ q.length := Nat.mul_le_mul_right _ (by omega)
    omega

/-- At equal lengths the first difference decides. -/
theorem val_first {A B : List UInt8} {k : Nat} (hl : A.length = B.length) (hk : k < A.length) (hA : ∀ d ∈ A, 48 ≤ d.toNat ∧ d.toNat ≤ 57) (hB : ∀ d ∈ B, 48 ≤ d.toNat ∧ d.toNat ≤ 57) (hj : ∀ j, j < k → A.getD j 0 = B.getD j 0) (hlt : (A.getD k 0).toNat < (B.getD k 0).toNat) : val A < val B := by
  have hkB : k < B.length := by omega
  have eA : A = A.take k ++ ([A[k]] ++ A.drop (k + 1)) := by
    rw [List.singleton_append, List.getElem_cons_drop, List.take_append_drop]
  have eB : B = B.take k ++ ([B[k]] ++ B.drop (k + 1)) := by
    rw [List.singleton_append, List.getElem_cons_drop, List.take_append_drop]
  have et : A.take k = B.take k := by
    refine List.ext_getElem (by simp; omega) fun i h1 h2 => ?_
    have hik : i < k := by simp at h1; omega
    have := hj i hik
    rw [getD_lt (by omega), getD_lt (by omega)] at this
    simpa using this
  rw [getD_lt hk, getD_lt hkB] at hlt
  have hdl : (A.drop (k + 1)).length = (B.drop (k + 1)).length := by simp; omega
  have vA := val_append (A.take k) ([A[k]] ++ A.drop (k + 1))
  have vB := val_append (B.take k) ([B[k]] ++ B.drop (k + 1))
  have wA := val_append [A[k]] (A.drop (k + 1))
  have wB := val_append [B[k]] (B.drop (k + 1))
  have sA : val [A[k]] = A[k].toNat - 48 := by simp [val]
  have sB : val [B[k]] = B[k].toNat - 48 := by simp [val]
  have lA := val_lt (A.drop (k + 1)) (fun d hd => (hA d (List.mem_of_mem_drop hd)).2)
  have bA := hA A[k] (List.getElem_mem _)
  rw [← eA] at vA
  rw [← eB] at vB
  have lens : ([A[k]] ++ A.drop (k + 1)).length = ([B[k]] ++ B.drop (k + 1)).length := by simp only [List.length_append, List.length_singleton]; omega
  rw [vA, vB, et, lens, wA, wB, sA, sB, ← hdl]
  have hm : (A[k].toNat - 48 + 1) * 10 ^ (A.drop (k + 1)).length ≤ (B[k].toNat - 48) * 10 ^ (A.drop (k + 1)).length := Nat.mul_le_mul_right _ (by omega)
  rw [Nat.add_mul, Nat.one_mul] at hm
  omega

theorem nDigits_mono : ∀ (y x : Nat), x ≤ y → Lib.nDigits x ≤ Lib.nDigits y := by
  intro y
  induction y using Nat.strongRecOn with
  | _ y ih =>
    intro x hxy
    by_cases hx : x < 10
    · rw [Lib.nDigits_small hx]; exact Lib.nDigits_pos y
    · rw [Lib.nDigits_big hx, Lib.nDigits_big (show ¬ y < 10 by omega)]
      have := ih (y / 10) (by omega) (x / 10) (by omega)
      omega

/-- What shortlex answers. -/
def Slx (A B : List UInt8) (r : Int) : Prop :=
  (A.length < B.length ∧ r = -1) ∨ (B.length < A.length ∧ r = 1) ∨ (A = B ∧ r = 0) ∨
  (A.length = B.length ∧ ∃ k, k < A.length ∧ (∀ j, j < k → A.getD j 0 = B.getD j 0) ∧ (((A.getD k 0).toNat < (B.getD k 0).toNat ∧ r = -1) ∨ ((B.getD k 0).toNat < (A.getD k 0).toNat ∧ r = 1)))

def cmpN (x y : Nat) : Int := if x < y then -1 else if y < x then 1 else 0

theorem slx_dec {x y : Nat} {r : Int} (h : Slx (Lib.decDigits x) (Lib.decDigits y) r) : r = cmpN x y := by
  unfold cmpN
  rcases h with ⟨hl, rfl⟩ | ⟨hl, rfl⟩ | ⟨he, rfl⟩ | ⟨hl, k, hk, hj, h⟩
  · rw [Lib.decDigits_length, Lib.decDigits_length] at hl
    by_cases hxy : x < y
    · rw [if_pos hxy]
    · have := nDigits_mono x y (by omega); omega
  · rw [Lib.decDigits_length, Lib.decDigits_length] at hl
    by_cases hxy : y < x
    · rw [if_neg (by omega), if_pos hxy]
    · have := nDigits_mono y x (by omega); omega
  · have := congrArg val he
    rw [val_dec, val_dec] at this
    rw [if_neg (by omega), if_neg (by omega)]
  · rcases h with ⟨hlt, rfl⟩ | ⟨hlt, rfl⟩
    · have := val_first hl hk (dec_digits x) (dec_digits y) hj hlt
      rw [val_dec, val_dec] at this
      rw [if_pos this]
    · have := val_first hl.symm (by omega) (dec_digits y) (dec_digits x) (fun j h => (hj j h).symm) hlt
      rw [val_dec, val_dec] at this
      rw [if_neg (by omega), if_pos this]
end Go.Proofs.Qxb6614732aDoor

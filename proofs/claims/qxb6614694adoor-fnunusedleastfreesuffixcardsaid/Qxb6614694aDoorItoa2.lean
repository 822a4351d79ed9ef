/-
  zzGb1Itoa (10).
-/
import Derived.Test.Qxb6614694aDoorItoa
namespace Go.Proofs.Qxb6614694aDoor
open Go.RowKit
set_option linter.unusedVariables false

theorem strOf_bytes (D : List UInt8) : strOfNums (D.map fun d => (d.toNat : Int)) = ⟨D.toArray⟩ := by
  unfold strOfNums
  have e : (D.map fun d => (d.toNat : Int)).map (fun n => UInt8.ofNat n.toNat) = D := by
    rw [List.map_map]
    conv => rhs; rw [← List.map_id D]
    refine List.map_congr_left fun d _ => ?_
    simp
  rw [e]

theorem step_dec {n m : Nat} {D : List UInt8} (hpos : 0 < m) (h : Lib.decDigits n = (if m = 0 then [] else Lib.decDigits m) ++ D) : Lib.decDigits n = (if m / 10 = 0 then [] else Lib.decDigits (m / 10)) ++ (UInt8.ofNat (48 + m % 10) :: D) := by
  rw [h, if_neg (by omega)]
  by_cases hs : m < 10
  · rw [if_pos (by omega), Lib.decDigits, dif_pos hs, Nat.mod_eq_of_lt hs]; rfl
  · rw [if_neg (by omega), Lib.decDigits, dif_neg hs]; simp

theorem step_itoa {w : World} {G j m : Nat} {C : List Value} {D : List UInt8} (hC : C.length = 24) (hE : C.drop (j + 1) = D.map (fun d => Value.int .u8 d.toNat)) (hG : w.heap[G]? = some (.cells C.toArray 33 (0, 0))) (hj : j < 24) :
    (C.set j (.int .u8 (48 + (m : Int) % 10))).length = 24 ∧ (C.set j (.int .u8 (48 + (m : Int) % 10))).drop j = (UInt8.ofNat (48 + m % 10) :: D).map (fun d => Value.int .u8 d.toNat) ∧
    (w.setCell ⟨G, j, none⟩ (.int .u8 (48 + (m : Int) % 10))).heap[G]? = some (.cells (C.set j (.int .u8 (48 + (m : Int) % 10))).toArray 33 (0, 0)) := by
  refine ⟨by simpa using hC, ?_, ?_⟩
  · have e : Value.int .u8 (48 + (m : Int) % 10) = Value.int .u8 ((UInt8.ofNat (48 + m % 10)).toNat : Int) := by
      rw [dig_toNat _ (by omega)]; congr 1
    rw [List.drop_eq_getElem_cons (by simp; omega), List.getElem_set_self, List.drop_set_of_lt (by omega), hE, List.map_cons, e]
  · rw [heap_setCell_same w G j _ 33 _ hG]
    simp

set_option maxHeartbeats 400000 in
theorem itoa_any (n : Nat) (w : World) (h1 : 1 ≤ n) (h2 : n ≤ 99999) :
    Calls Tryd.prog 10 #[.int .i64 n] w fun e w' => e = .returned (.string ⟨(Lib.decDigits n).toArray⟩) ∧ Below w.heap.size w w' := by
  go_enter Tryd.func10, Tryd.ntmps10
  go_wp2
  go_loopw [0, 4] (fun vm vi wr => ∃ (m i : Nat) (C : List Value) (D : List UInt8), vm = .int .i64 m ∧ vi = .int .i64 i ∧ m ≤ 99999 ∧ i + D.length = 24 ∧ Hid (Lib.decDigits n = (if m = 0 then [] else Lib.decDigits m) ++ D) ∧ Hid (C.length = 24) ∧ Hid (C.drop i = D.map (fun d => Value.int .u8 d.toNat)) ∧ Hid (wr.heap[w.heap.size]? = some (.cells C.toArray 33 (0, 0))) ∧ Below w.heap.size w wr) (fun vm _ _ => (intOf vm).toNat)
  case atStart => exact ⟨n, 24, List.replicate 24 (.int .u8 0), [], rfl, rfl, h2, rfl, by show _ = _; rw [if_neg (by omega)]; simp, rfl, rfl, heap_alloc_new w _, (Below.refl _ _).alloc (Nat.le_refl _) _⟩
  case round =>
    obtain ⟨m, i, C, D, rfl, rfl, hm, hi, HD, HC, HE, HG, hb⟩ := hrel
    by_cases hpos : 0 < m
    · have hil : D.length ≤ 5 := by
        have h := congrArg List.length HD.out
        rw [if_neg (by omega), List.length_append] at h
        have := dec_len n h2
        have := dec_pos m
        omega
      obtain ⟨j, rfl⟩ : ∃ j, i = j + 1 := ⟨i - 1, by omega⟩
      have hj : j ≤ 23 := by omega
      obtain ⟨u, hu⟩ : ∃ u, C[j]? = some u := ⟨_, List.getElem?_eq_getElem (by have := HC.out; omega)⟩
      have hcell : wr.cell? ⟨w.heap.size, j, none⟩ = some u := by
        rw [cell_of_row wr _ _ _ 33 (0, 0) HG.out]; simpa using hu
      have hfz : wr.frozen? ⟨w.heap.size, j, none⟩ = false := frozen_of_row wr _ _ _ 33 HG.out
      have HU := hide hu
      clear hu
      have HS := hide (step_itoa HC.out HE.out HG.out (show j < 24 by omega) (m := m))
      have HDn := hide (step_dec hpos HD.out)
      go_wp2
      go_roundw
      case rel => exact ⟨m / 10, j, C.set j (.int .u8 (48 + (m : Int) % 10)), UInt8.ofNat (48 + m % 10) :: D, by go_num, rfl, by omega, by simp; omega, HDn.out, HS.out.1, HS.out.2.1, HS.out.2.2, hb.setCell (Nat.le_refl _) _⟩
      case measure => simp [intOf]; omega
    · have hm0 : m = 0 := by omega
      subst hm0
      have hD : D = Lib.decDigits n := by have := HD.out; rw [if_pos rfl, List.nil_append] at this; exact this.symm
      have hDl : 0 < D.length := by rw [hD]; exact dec_pos n
      have HDD := hide hD
      have hi23 : i ≤ 23 := by omega
      have hi24 : (i : Int) ≤ 24 := by omega
      have hine : ¬ 24 = i := by omega
      have HI := hide hi
      have hcv := run_convert_bytes_arg (P := Tryd.prog) wr 34 5 Tryd.underlying34 Tryd.underlying5 w.heap.size i (24 - i) (24 - i) (D.map fun d => (d.toNat : Int)) (by simp; omega) (fun t ht => by
        rw [cell_of_row wr _ _ _ 33 (0, 0) HG.out]
        have h := congrArg (fun l : List Value => l[t]?) HE.out
        simp only [List.getElem?_drop] at h
        rw [List.getElem?_toArray, h]
        have htD : t < D.length := by omega
        simp [htD, List.getD]) 9 Tryd.underlying9
      have e : strOfNums (D.map fun d => (d.toNat : Int)) = ⟨(Lib.decDigits n).toArray⟩ := by
        rw [← hD]
        exact strOf_bytes D
      rw [e] at hcv
      clear hD hi e HD HE HG
      go_wp2
      go_ret
      exact ⟨rfl, hb⟩
end Go.Proofs.Qxb6614694aDoor

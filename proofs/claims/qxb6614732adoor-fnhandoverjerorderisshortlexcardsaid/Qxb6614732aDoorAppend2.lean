/-
  AppendInt (17, 16), appendJER (15), ZZHandoverAppendJER (7) at a number that is not negative, with the exact frame.
-/
import Derived.Test.Qxb6614732aDoorAppend
namespace Go.Proofs.Qxb6614732aDoor
open Go.RowKit
set_option linter.unusedVariables false

theorem uint_any (B n u : Nat) (hu64 : u < 18446744073709551616) (sv : Value) (xs : List Value) (w : World) (hown : w.ownsRow B 5 1 sv n xs) (hBw : B ≤ w.heap.size) (hlim : n + 20 ≤ 140737488355328)
    (htab : Lib.TabIs Tryd.prog w "internal/strconv.uint64pow10" .u64 Lib.pow10Tab) :
    Calls Tryd.prog 18 #[sv, .int .u64 u, .int .i64 10] w fun e w' => ∃ v', e = .returned v' ∧ w'.ownsRow B 5 1 v' (n + (Lib.decDigits u).length) (xs ++ Lib.byteCells (Lib.decDigits u)) ∧ w.grownBy w' sv.ownBlock ∧ Lies w sv v' := by
  by_cases h : u < 100
  · exact uint_small B n u h sv xs w hown hBw hlim
  · exact uint_big B n u (by omega) hu64 sv xs w hown hBw hlim htab

set_option maxHeartbeats 1000000 in
set_option maxRecDepth 100000 in
theorem int17 (B n u : Nat) (hu : u ≤ 9223372036854775807) (sv : Value) (xs : List Value) (w : World) (hown : w.ownsRow B 5 1 sv n xs) (hBw : B ≤ w.heap.size) (hlim : n + 20 ≤ 140737488355328)
    (htab : Lib.TabIs Tryd.prog w "internal/strconv.uint64pow10" .u64 Lib.pow10Tab) :
    Calls Tryd.prog 17 #[sv, .int .i64 u, .int .i64 10] w fun e w' => ∃ v', e = .returned v' ∧ w'.ownsRow B 5 1 v' (n + (Lib.decDigits u).length) (xs ++ Lib.byteCells (Lib.decDigits u)) ∧ w.grownBy w' sv.ownBlock ∧ Lies w sv v' := by
  have HC := hide (uint_any B n u (by omega) sv xs w hown hBw hlim htab)
  have hub : (u : Int) ≤ 9223372036854775807 := by omega
  have hun : ¬ (u : Int) < 0 := by omega
  clear hown htab
  go_enter Tryd.func17, Tryd.ntmps17
  go_wp2_with fail
  refine HC.out.mono ?_
  rintro e w' ⟨v', rfl, h1, h2, h3⟩
  go_wp2
  go_ret
  exact ⟨v', rfl, h1, h2, h3⟩

set_option maxHeartbeats 1000000 in
set_option maxRecDepth 100000 in
theorem int16 (B n u : Nat) (hu : u ≤ 9223372036854775807) (sv : Value) (xs : List Value) (w : World) (hown : w.ownsRow B 5 1 sv n xs) (hBw : B ≤ w.heap.size) (hlim : n + 20 ≤ 140737488355328)
    (htab : Lib.TabIs Tryd.prog w "internal/strconv.uint64pow10" .u64 Lib.pow10Tab) :
    Calls Tryd.prog 16 #[sv, .int .i64 u, .int .i64 10] w fun e w' => ∃ v', e = .returned v' ∧ w'.ownsRow B 5 1 v' (n + (Lib.decDigits u).length) (xs ++ Lib.byteCells (Lib.decDigits u)) ∧ w.grownBy w' sv.ownBlock ∧ Lies w sv v' := by
  have HC := hide (int17 B n u hu sv xs w hown hBw hlim htab)
  clear hown htab
  go_enter Tryd.func16, Tryd.ntmps16
  go_wp2_with fail
  refine HC.out.mono ?_
  rintro e w' ⟨v', rfl, h1, h2, h3⟩
  go_wp2
  go_ret
  exact ⟨v', rfl, h1, h2, h3⟩

set_option maxHeartbeats 400000 in
theorem jer15x (B n p u : Nat) (hu : u ≤ 9223372036854775807) (sv : Value) (xs : List Value) (w : World) (hown : w.ownsRow B 5 1 sv n xs) (hBw : B ≤ w.heap.size) (hlim : n + 20 ≤ 140737488355328)
    (hp : w.cell? ⟨p, 0, none⟩ = some (.int .i64 u)) (htab : Lib.TabIs Tryd.prog w "internal/strconv.uint64pow10" .u64 Lib.pow10Tab) :
    Calls Tryd.prog 15 #[.pointer (some ⟨p, 0, none⟩), sv] w fun e w' => ∃ v', e = .returned (.tuple #[v', .nilIface]) ∧ w'.ownsRow B 5 1 v' (n + (Lib.decDigits u).length) (xs ++ Lib.byteCells (Lib.decDigits u)) ∧ w.grownBy w' sv.ownBlock ∧ Lies w sv v' := by
  have HC := hide (int16 B n u hu sv xs w hown hBw hlim htab)
  clear hown htab
  go_enter Tryd.func15, Tryd.ntmps15
  go_wp2_with fail
  refine HC.out.mono ?_
  rintro e w' ⟨v', rfl, h1, h2, h3⟩
  go_wp2
  go_ret2
  exact ⟨v', rfl, h1, h2, h3⟩

set_option maxHeartbeats 400000 in
theorem jerx (B n u : Nat) (hu : u ≤ 9223372036854775807) (sv : Value) (xs : List Value) (w : World) (hown : w.ownsRow B 5 1 sv n xs) (hBw : B ≤ w.heap.size) (hlim : n + 20 ≤ 140737488355328)
    (htab : Lib.TabBelow Tryd.prog w.heap.size w "internal/strconv.uint64pow10" .u64 Lib.pow10Tab) :
    Calls Tryd.prog 7 #[.int .i64 u, sv] w fun e w' => ∃ v', e = .returned (.tuple #[v', .nilIface]) ∧ w'.ownsRow B 5 1 v' (n + (Lib.decDigits u).length) (xs ++ Lib.byteCells (Lib.decDigits u)) ∧ w.grownBy w' sv.ownBlock ∧ Lies w sv v' := by
  have HC := hide (jer15x B n w.heap.size u hu sv xs (w.alloc (.cells #[.int .i64 u] 25)) (hown.alloc _) (by simp; omega) hlim (by simp) (htab _ ((Below.refl _ _).alloc (Nat.le_refl _) _)))
  clear hown htab
  go_enter Tryd.func7, Tryd.ntmps7
  go_wp2_with fail
  refine HC.out.mono ?_
  rintro e w' ⟨v', rfl, h1, h2, h3⟩
  go_wp2
  go_ret2
  refine ⟨v', rfl, h1, grown_trans (World.grownBy_alloc w _ _) h2, ?_⟩
  rcases h3 with h | ⟨k, h, hk⟩
  · exact .inl h
  · exact .inr ⟨k, h, by simp at hk; omega⟩
end Go.Proofs.Qxb6614732aDoor

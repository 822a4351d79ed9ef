/-
  cloneBytes (6); appendJER (15), ZZHandoverAppendJER (7).
-/
import Derived.Test.Qxb6614732aDoorLeafs
import Derived.Test.Qxb6614732aDoorShelf
namespace Go.Proofs.Qxb6614732aDoor
open Go.RowKit
set_option linter.unusedVariables false

theorem made_block {w : World} {B g n : Nat} {xs : List Value} (h : w.ownsRow B 5 1 (.slice (some ⟨g, 0, none⟩) n n) n xs) : ∃ cur : List Value, cur.length = n ∧ w.heap[g]? = some (.cells cur.toArray 5 (0, 0)) := by
  rcases h.2 with ⟨h1, _⟩ | ⟨g', cap, cur, h1, _, h3, _, _, h4, _⟩
  · simp at h1
  · simp at h1
    obtain ⟨rfl, rfl⟩ := h1
    exact ⟨cur.toList, by simpa using h4, by simpa using h3⟩

theorem set_take {C X : List Value} {k : Nat} {v : Value} (hC : C.length = X.length) (hk : k < X.length) (h : C.take k = X.take k) (hv : X[k]? = some v) : (C.set k v).take (k + 1) = X.take (k + 1) := by
  rw [List.take_add_one, List.take_add_one, hv, List.take_set_of_le (Nat.le_refl _), h, List.getElem?_set_self (by omega)]

set_option maxHeartbeats 1000000 in
theorem clone_some (ad : Addr) (c : Nat) (D : List UInt8) (w : World) (h : BytesAt w (some ad) D) (hD : D.length ≤ 10000000) :
    Calls Tryd.prog 6 #[.slice (some ad) D.length c] w fun e w' => ∃ v', e = .returned v' ∧ w'.ownsRow w.heap.size 5 1 v' D.length (Lib.byteCells D) ∧ Below w.heap.size w w' := by
  obtain ⟨i0, hi, hz0, hz1, hz2⟩ := info_parts Tryd.info5
  have hX := bytes_get D
  obtain ⟨X, eX⟩ : ∃ X, X = Lib.byteCells D := ⟨_, rfl⟩
  have hXl : X.length = D.length := by rw [eX, Lib.byteCells_length]
  rw [← eX] at hX ⊢
  clear eX
  unfold BytesAt at h
  obtain ⟨n, hn⟩ : ∃ n, n = D.length := ⟨_, rfl⟩
  rw [← hn] at h hX hXl hD ⊢
  have HXl := hide hXl
  have HX := hide hX
  clear hn hXl hX
  have hnil : ∀ w, (binOp .eql 22 (.slice (some ad) n c) (.slice none 0 0)).run Tryd.prog w = .ok (.bool false) w := fun w => by simpa using Lib.run_eql_slice_nil w 22 5 (some ad) n c 0 0 Tryd.underlying22
  go_enter Tryd.func6, Tryd.ntmps6
  go_wp2_with (at_make; refine wpList_make_full _ rfl _ _ 22 rfl w.heap.size 5 i0 _ 1 Tryd.underlying22 hi hz0 hz1 _ _ _ _ n rfl rfl rfl rfl ?b2 ?b3 ?b4 ?_)
  case b2 => rw [hz2]; omega
  case b3 => unfold maxLen; omega
  case b4 => exact Nat.le_refl _
  intro w1 hown1 hgr1
  have hb1 : Below w.heap.size w w1 := (Below.refl _ _).grown hgr1 (Nat.le_refl _) (fun k hk => by cases hk)
  obtain ⟨cur, hcl, hcb⟩ := made_block hown1
  have HC1 := hide hcl
  have HB1 := hide hcb
  clear hown1 hgr1 hcl hcb
  go_wp2
  go_loopw [4] (fun i wr => ∃ (k : Nat) (C : List Value), k ≤ n ∧ i = .int .i64 k ∧ Hid (C.length = n) ∧ Hid (C.take k = X.take k) ∧ Hid (wr.heap[w.heap.size]? = some (.cells C.toArray 5 (0, 0))) ∧ Below w.heap.size w wr) (fun i _ => n - (intOf i).toNat)
  case atStart => exact ⟨0, cur, Nat.zero_le _, rfl, HC1.out, by show _ = _; simp, HB1.out, hb1⟩
  case round =>
    obtain ⟨k, C, hk, rfl, HC, HT, HG, hb⟩ := hrel
    by_cases hlt : k < n
    · obtain ⟨b, off, e, hbl, hc⟩ := h (by omega)
      obtain rfl := Option.some.inj e
      have e1 : wr.cell? ⟨b, off + k, none⟩ = some (.int .u8 ((D.getD k 0).toNat : Int)) := (hb.cell (p := ⟨b, off + k, none⟩) hbl).trans (hc k hlt)
      obtain ⟨x, hx⟩ : ∃ x, x = D.getD k 0 := ⟨_, rfl⟩
      rw [← hx] at e1
      have hv : X[k]? = some (.int .u8 (x.toNat : Int)) := by rw [hx]; exact HX.out k hlt
      obtain ⟨u, hu⟩ : ∃ u, C[k]? = some u := ⟨_, List.getElem?_eq_getElem (by have := HC.out; omega)⟩
      have hcell : wr.cell? ⟨w.heap.size, k, none⟩ = some u := by
        rw [cell_of_row wr _ _ _ 5 (0, 0) HG.out]; simpa using hu
      have hfz : wr.frozen? ⟨w.heap.size, k, none⟩ = false := frozen_of_row wr _ _ _ 5 HG.out
      have HT2 := hide (set_take (by rw [HC.out, HXl.out]) (by rw [HXl.out]; exact hlt) HT.out hv)
      have HG2 := hide (heap_setCell_same wr w.heap.size k C.toArray 5 (.int .u8 (x.toNat : Int)) HG.out)
      have HC2 := hide (show (C.set k (.int .u8 (x.toNat : Int))).length = n by rw [List.length_set]; exact HC.out)
      rw [List.setIfInBounds_toArray] at HG2
      clear hc hu hv hx
      go_wp2
      go_roundw
      case rel => exact ⟨k + 1, C.set k (.int .u8 (x.toNat : Int)), by omega, by go_num, HC2, HT2, HG2, hb.setCell (Nat.le_refl _) _⟩
      case measure => simp [intOf]; omega
    · go_wp2
      go_ret
      have hkn : k = n := by omega
      subst hkn
      have hCX : C = X := by
        have := HT.out
        rw [List.take_of_length_le (by have := HC.out; omega), List.take_of_length_le (by have := HXl.out; omega)] at this
        exact this
      refine ⟨_, rfl, ⟨by rw [HXl.out]; omega, .inr ⟨w.heap.size, k, C.toArray, rfl, Nat.le_refl _, HG.out, Nat.le_refl _, by unfold maxLen; omega, ?_, ?_⟩⟩, hb⟩
      · have := HC.out; simp; exact this
      · rw [← hCX]
        have := HC.out
        simp only [Nat.mul_one]
        exact List.take_of_length_le (by omega)

set_option maxHeartbeats 400000 in
theorem clone_none (w : World) :
    Calls Tryd.prog 6 #[.slice none 0 0] w fun e w' => e = .returned (.slice none 0 0) ∧ w' = w := by
  have hnil : ∀ w, (binOp .eql 22 (.slice none 0 0) (.slice none 0 0)).run Tryd.prog w = .ok (.bool true) w := fun w => by simpa using Lib.run_eql_slice_nil w 22 5 none 0 0 0 0 Tryd.underlying22
  go_enter Tryd.func6, Tryd.ntmps6
  go_wp2
  go_ret
  exact ⟨rfl, rfl⟩

theorem clone_any (a : Option Addr) (c : Nat) (D : List UInt8) (w : World) (h : BytesAt w a D) (hD : D.length ≤ 10000000) (hnil : a = none → D.length = 0 ∧ c = 0) :
    Calls Tryd.prog 6 #[.slice a D.length c] w fun e w' => ∃ v', e = .returned v' ∧ w'.ownsRow w.heap.size 5 1 v' D.length (Lib.byteCells D) ∧ Below w.heap.size w w' := by
  cases a with
  | some ad => exact clone_some ad c D w h hD
  | none =>
    obtain ⟨h0, rfl⟩ := hnil rfl
    obtain rfl : D = [] := List.eq_nil_of_length_eq_zero h0
    exact (clone_none w).mono fun e w' ⟨he, hw⟩ => ⟨_, he, by rw [hw]; exact World.ownsRow_nil _ _ _ _, by rw [hw]; exact Below.refl _ _⟩

set_option maxHeartbeats 400000 in
theorem jer15 (B n p : Nat) (i : Int) (h0 : -9223372036854775808 ≤ i) (h1 : i ≤ 9223372036854775807) (sv : Value) (xs : List Value) (w : World) (hown : w.ownsRow B 5 1 sv n xs) (hBw : B ≤ w.heap.size) (hlim : n + 21 ≤ 140737488355328)
    (hp : w.cell? ⟨p, 0, none⟩ = some (.int .i64 i)) (htab : Lib.TabBelow Tryd.prog B w "internal/strconv.uint64pow10" .u64 Lib.pow10Tab) :
    Calls Tryd.prog 15 #[.pointer (some ⟨p, 0, none⟩), sv] w fun e w' => ∃ v', e = .returned (.tuple #[v', .nilIface]) ∧ w'.ownsRow B 5 1 v' (n + (Lib.itoa i).length) (xs ++ Lib.byteCells (Lib.itoa i)) ∧ Below B w w' := by
  have HC := hide (Tryd.strconv_AppendInt_10 B n i h0 h1 sv xs w hown hBw hlim htab)
  clear hown htab
  go_enter Tryd.func15, Tryd.ntmps15
  go_wp2_with fail
  refine HC.out.mono ?_
  rintro e w' ⟨v', rfl, hown', hb', _⟩
  go_wp2
  go_ret2
  exact ⟨v', rfl, hown', hb'⟩

set_option maxHeartbeats 400000 in
theorem jer_any (B n : Nat) (i : Int) (h0 : -9223372036854775808 ≤ i) (h1 : i ≤ 9223372036854775807) (sv : Value) (xs : List Value) (w : World) (hown : w.ownsRow B 5 1 sv n xs) (hBw : B ≤ w.heap.size) (hlim : n + 21 ≤ 140737488355328)
    (htab : Lib.TabBelow Tryd.prog B w "internal/strconv.uint64pow10" .u64 Lib.pow10Tab) :
    Calls Tryd.prog 7 #[.int .i64 i, sv] w fun e w' => ∃ v', e = .returned (.tuple #[v', .nilIface]) ∧ w'.ownsRow B 5 1 v' (n + (Lib.itoa i).length) (xs ++ Lib.byteCells (Lib.itoa i)) ∧ Below B w w' := by
  have HC := hide (jer15 B n w.heap.size i h0 h1 sv xs (w.alloc (.cells #[.int .i64 i] 25)) (hown.alloc _) (by simp; omega) hlim (by simp) (fun w' hb' => htab w' (((Below.refl _ _).alloc hBw _).trans hb')))
  clear hown htab
  go_enter Tryd.func7, Tryd.ntmps7
  go_wp2_with fail
  refine HC.out.mono ?_
  rintro e w' ⟨v', rfl, hown', hb'⟩
  go_wp2
  go_ret2
  exact ⟨v', rfl, hown', ((Below.refl _ _).alloc hBw _).trans hb'⟩
end Go.Proofs.Qxb6614732aDoor

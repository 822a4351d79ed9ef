/-
  joinBytes (11): a fresh slice with the bytes of both.
-/
import Derived.Test.Qxb6614815aLeafs
namespace Go.Proofs.Qxb6614815a
open Go.RowKit
set_option linter.unusedVariables false

theorem bytes_snoc (D : List UInt8) (k : Nat) (h : k < D.length) : Lib.byteCells (D.take (k + 1)) = Lib.byteCells (D.take k) ++ [.int .u8 ((D.getD k 0).toNat : Int)] := by
  rw [getD_lt h, List.take_succ_eq_append_getElem h]
  unfold Lib.byteCells
  rw [List.map_append]
  rfl

set_option maxHeartbeats 2000000 in
theorem join_any (a1 a2 : Option Addr) (A B : List UInt8) (c1 c2 : Nat) (w : World) (h1 : BytesAt w a1 A) (h2 : BytesAt w a2 B) (hA : A.length ≤ 10000000) (hB : B.length ≤ 10000000) :
    Calls Try.prog 11 #[.slice a1 A.length c1, .slice a2 B.length c2] w fun e w' => ∃ v', e = .returned v' ∧ w'.ownsRow w.heap.size 5 1 v' (A ++ B).length (Lib.byteCells (A ++ B)) ∧ Below w.heap.size w w' := by
  obtain ⟨i0, hi, hz0, hz1, hz2⟩ := info_parts Try.info5
  have T1 := hide (bytes_snoc A)
  have T2 := hide (bytes_snoc B)
  have hcat : Lib.byteCells (A ++ B) = Lib.byteCells A ++ Lib.byteCells (B.take B.length) := by simp [Lib.byteCells]
  have hfull : Lib.byteCells A = Lib.byteCells (A.take A.length) := by simp
  have z1 : Lib.byteCells (A.take 0) = [] := by simp [Lib.byteCells]
  have z2 : Lib.byteCells A ++ Lib.byteCells (B.take 0) = Lib.byteCells A := by simp [Lib.byteCells]
  rw [hcat, List.length_append]
  have Z1 := hide z1
  have Z2 := hide z2
  have HF := hide hfull
  have HH1 := hide (fun (wx : World) (hb : Below w.heap.size w wx) => h1.below hb)
  have HH2 := hide (fun (wx : World) (hb : Below w.heap.size w wx) => h2.below hb)
  unfold BytesAt at HH1 HH2
  obtain ⟨n, hn⟩ : ∃ n, n = A.length := ⟨_, rfl⟩
  obtain ⟨m, hm⟩ : ∃ m, m = B.length := ⟨_, rfl⟩
  rw [← hn] at hA T1 HF HH1 ⊢
  rw [← hm] at hB T2 HH2 ⊢
  clear hn hm z1 z2 hcat hfull h1 h2
  go_enter Try.func11, Try.ntmps11
  go_wp2_with (at_make; refine wpList_make_own _ rfl _ _ 22 rfl w.heap.size 5 i0 _ 1 Try.underlying22 hi hz0 hz1 _ _ _ (n + m) rfl rfl (by omega) ?b1 ?b2 ?b3 ?_)
  case b1 => rw [hz2]; omega
  case b2 => unfold maxLen; omega
  case b3 => exact Nat.le_refl _
  intro w1 hown1 hgr1
  have HB1 := hide (show Below w.heap.size w w1 from (Below.refl _ _).grown hgr1 (Nat.le_refl _) (fun k hk => by cases hk))
  have HO1 := hide hown1
  clear hown1 hgr1
  go_wp2
  go_loopw [5, 6] (fun c i wr => ∃ k : Nat, k ≤ n ∧ i = .int .i64 k ∧ Hid (wr.ownsRow w.heap.size 5 1 c k (Lib.byteCells (A.take k))) ∧ Hid (Below w.heap.size w wr)) (fun _ i _ => n - (intOf i).toNat)
  case atStart => exact ⟨0, Nat.zero_le _, rfl, by rw [Z1.out]; exact HO1, HB1⟩
  case round =>
    obtain ⟨k, hk, rfl, HO, HB⟩ := hrel
    by_cases hlt : k < n
    · obtain ⟨b1, o1, rfl, hb1, hc1⟩ := HH1.out _ HB.out (by omega)
      have e1 := hc1 k hlt
      have ht := T1.out k hlt
      obtain ⟨x, hx⟩ : ∃ x, x = A.getD k 0 := ⟨_, rfl⟩
      rw [← hx] at e1 ht
      have HT := hide ht
      clear hx hc1 ht
      have hk0 : (0 : Int) ≤ (k : Int) := by omega
      have hkn : (k : Int) < (n : Int) := by omega
      go_wp2_with (at_builtin; refine wpList_append_own _ rfl _ _ 22 rfl w.heap.size 5 i0 _ 1 1 Try.underlying22 hi hz0 hz1 hz2 rfl (by decide) _ k (Lib.byteCells (A.take k)) rfl (HO.out.alloc _) ⟨wr.heap.size, 0, none⟩ 1 1 [.int .u8 (x.toNat : Int)] rfl rfl ?c1 ?c2 ?c3 ?c4 ?c5 ?_)
      case c1 => exact cell_one_new wr (.int .u8 (x.toNat : Int)) 5
      case c2 => intro u hu; simp at hu; subst hu; rfl
      case c3 => unfold maxLen; omega
      case c4 => omega
      case c5 => have := HB.out.size; simp; omega
      intro v' w2 hown2 hgr2 _
      have HB2 := hide (show Below w.heap.size w w2 from (HB.out.alloc HB.out.size _).grown hgr2 (by have := HB.out.size; simp; omega) (fun j hj => (HO.out.lt j hj).1))
      rw [← HT.out] at hown2
      have HO2 := hide hown2
      clear hown2 hgr2 e1
      go_wp2
      go_roundw
      case rel => exact ⟨k + 1, by omega, by go_num, HO2, HB2⟩
      case measure => simp [intOf]; omega
    · have hkn : k = n := by omega
      subst hkn
      have HO3 := HO
      rw [← HF.out] at HO3
      clear HO
      go_wp2
      go_loopw [5, 7] (fun c i wr => ∃ j : Nat, j ≤ m ∧ i = .int .i64 j ∧ Hid (wr.ownsRow w.heap.size 5 1 c (k + j) (Lib.byteCells A ++ Lib.byteCells (B.take j))) ∧ Hid (Below w.heap.size w wr)) (fun _ i _ => m - (intOf i).toNat)
      case atStart => exact ⟨0, Nat.zero_le _, rfl, by rw [Z2.out]; exact HO3, HB⟩
      case round =>
        clear HO3 HB
        obtain ⟨j, hj, rfl, HO, HB⟩ := hrel
        by_cases hlt : j < m
        · obtain ⟨b1, o1, rfl, hb1, hc1⟩ := HH2.out _ HB.out (by omega)
          have e1 := hc1 j hlt
          have ht := T2.out j hlt
          obtain ⟨x, hx⟩ : ∃ x, x = B.getD j 0 := ⟨_, rfl⟩
          rw [← hx] at e1 ht
          have HT := hide ht
          clear hx hc1 ht
          have hk0 : (0 : Int) ≤ (j : Int) := by omega
          have hkn : (j : Int) < (m : Int) := by omega
          rename_i wr2 _
          go_wp2_with (at_builtin; refine wpList_append_own _ rfl _ _ 22 rfl w.heap.size 5 i0 _ 1 1 Try.underlying22 hi hz0 hz1 hz2 rfl (by decide) _ (k + j) (Lib.byteCells A ++ Lib.byteCells (B.take j)) rfl (HO.out.alloc _) ⟨wr.heap.size, 0, none⟩ 1 1 [.int .u8 (x.toNat : Int)] rfl rfl ?c1 ?c2 ?c3 ?c4 ?c5 ?_)
          case c1 => exact cell_one_new wr (.int .u8 (x.toNat : Int)) 5
          case c2 => intro u hu; simp at hu; subst hu; rfl
          case c3 => unfold maxLen; omega
          case c4 => omega
          case c5 => have := HB.out.size; simp; omega
          intro v' w2 hown2 hgr2 _
          have HB2 := hide (show Below w.heap.size w w2 from (HB.out.alloc HB.out.size _).grown hgr2 (by have := HB.out.size; simp; omega) (fun j hj => (HO.out.lt j hj).1))
          rw [← HT.out, Nat.add_assoc] at hown2
          have HO2 := hide hown2
          clear hown2 hgr2 e1
          go_wp2
          go_roundw
          case rel => exact ⟨j + 1, by omega, by go_num, HO2, HB2⟩
          case measure => simp [intOf]; omega
        · have hjm : j = m := by omega
          subst hjm
          go_wp2
          go_ret
          exact ⟨_, rfl, HO.out, HB.out⟩
end Go.Proofs.Qxb6614815a

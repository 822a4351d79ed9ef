/-
  digitCount (13), cat3 (12), shortlex (14): the walks.
-/
import Derived.Test.Qxb6614732aDoorShort
namespace Go.Proofs.Qxb6614732aDoor
open Go.RowKit
set_option linter.unusedVariables false

set_option maxHeartbeats 400000 in
theorem count_any (u : Nat) (w : World) (hu : u ≤ 9223372036854775807) :
    Calls Tryd.prog 13 #[.int .i64 u] w fun e w' => e = .returned (.int .i64 (Lib.decDigits u).length) ∧ w' = w := by
  have h20 := dec_len20 u (by omega)
  rw [Lib.decDigits_length] at h20 ⊢
  obtain ⟨N, hN⟩ : ∃ N, N = Lib.nDigits u := ⟨_, rfl⟩
  rw [← hN] at h20 ⊢
  have HN := hide hN
  have hub : (u : Int) ≤ 9223372036854775807 := by omega
  clear hN
  go_enter Tryd.func13, Tryd.ntmps13
  go_wp2
  go_loop [0, 3] (fun a b => ∃ (x k : Nat), a = .int .i64 x ∧ b = .int .i64 k ∧ x ≤ u ∧ k ≤ 20 ∧ Hid (k + Lib.nDigits x = N + 1)) (fun a _ => (intOf a).toNat)
  case atStart => exact ⟨u, 1, rfl, rfl, Nat.le_refl _, by omega, by show _ = _; rw [← HN.out]; omega⟩
  case round =>
    obtain ⟨x, k, rfl, rfl, hx, hk, HK⟩ := hrel
    by_cases hge : 10 ≤ x
    · have HK2 : Hid (k + 1 + Lib.nDigits (x / 10) = N + 1) := by
        show _ = _
        have h := HK.out
        rw [Lib.nDigits_big (by omega)] at h
        omega
      have hk2 : k + 1 ≤ 20 := by
        have h := HK2.out
        have := Lib.nDigits_pos (x / 10)
        omega
      have hge' : (10 : Int) ≤ (x : Int) := by omega
      go_wp2
      go_round
      case rel => exact ⟨x / 10, k + 1, by go_num, by go_num, by omega, hk2, HK2⟩
      case measure => simp [intOf]; omega
    · have e : k = N := by
        have h := HK.out
        rw [Lib.nDigits_small (by omega)] at h
        omega
      subst e
      go_wp2
      go_ret
      exact ⟨rfl, rfl⟩

set_option maxHeartbeats 1000000 in
theorem cat3_any (a1 a2 a3 : Option Addr) (A B C : List UInt8) (c1 c2 c3 : Nat) (w : World) (h1 : BytesAt w a1 A) (h2 : BytesAt w a2 B) (h3 : BytesAt w a3 C) (q1 : a1 = none → A.length = 0 ∧ c1 = 0) (q2 : a2 = none → B.length = 0 ∧ c2 = 0) (q3 : a3 = none → C.length = 0 ∧ c3 = 0)
    (hA : A.length ≤ 2000000) (hB : B.length ≤ 2000000) (hC : C.length ≤ 2000000) :
    Calls Tryd.prog 12 #[.slice a1 A.length c1, .slice a2 B.length c2, .slice a3 C.length c3] w fun e w' => ∃ v', e = .returned v' ∧ w'.ownsRow w.heap.size 5 1 v' (A ++ B ++ C).length (Lib.byteCells (A ++ B ++ C)) ∧ Below w.heap.size w w' := by
  have K1 := hide (cat2_any a1 a2 A B c1 c2 w h1 h2 q1 q2 (by omega) (by omega))
  have hABl : (A ++ B).length ≤ 4000000 := by rw [List.length_append]; omega
  obtain ⟨E, hE⟩ : ∃ E, E = A ++ B := ⟨_, rfl⟩
  obtain ⟨F, hF⟩ : ∃ F, F = E ++ C := ⟨_, rfl⟩
  rw [← hE] at K1 hABl ⊢
  rw [← hF]
  obtain ⟨n1, e1⟩ : ∃ n1, n1 = A.length := ⟨_, rfl⟩
  obtain ⟨n2, e2⟩ : ∃ n2, n2 = B.length := ⟨_, rfl⟩
  obtain ⟨n3, e3⟩ : ∃ n3, n3 = C.length := ⟨_, rfl⟩
  obtain ⟨m, em⟩ : ∃ m, m = E.length := ⟨_, rfl⟩
  obtain ⟨l, el⟩ : ∃ l, l = F.length := ⟨_, rfl⟩
  rw [← e1, ← e2] at K1
  rw [← em] at K1
  rw [← e1, ← e2, ← e3, ← el]
  have H3 := hide h3
  have Q3 := hide q3
  have E3 := hide e3
  have EM := hide em
  have EL := hide el
  have EF := hide hF
  have HM := hide hABl
  have HC3 := hide hC
  clear h1 h2 h3 q1 q2 q3 e1 e2 e3 em el hE hF hA hB hC hABl
  go_enter Tryd.func12, Tryd.ntmps12
  go_wp2_with fail
  refine K1.out.mono ?_
  rintro e w1 ⟨v1, rfl, hown1, hb1⟩
  obtain ⟨A1, C1, rfl, _⟩ := own_form hown1
  have K2 := hide (cat2_any A1 a3 E C C1 c3 w1 (own_bytes hown1) (H3.out.below hb1) (by rw [← EM.out]; exact own_none hown1) Q3.out (by have := HM.out; omega) (by have := HC3.out; omega))
  rw [← EF.out, ← EM.out, ← E3.out, ← EL.out] at K2
  clear K1 hown1
  go_wp2_with fail
  refine K2.out.mono ?_
  rintro e w2 ⟨v2, rfl, hown2, hb2⟩
  go_wp2
  go_ret
  refine ⟨v2, rfl, ?_, hb1.trans (hb2.mono hb1.size)⟩
  refine ⟨hown2.1, ?_⟩
  rcases hown2.2 with h | ⟨g, cap, cur, e1, e2, e3⟩
  · exact .inl h
  · exact .inr ⟨g, cap, cur, e1, Nat.le_trans hb1.size e2, e3⟩

set_option maxHeartbeats 1000000 in
theorem short_any (a1 a2 : Option Addr) (A B : List UInt8) (c1 c2 : Nat) (w : World) (h1 : BytesAt w a1 A) (h2 : BytesAt w a2 B) (hA : A.length ≤ maxLen) (hB : B.length ≤ maxLen) :
    Calls Tryd.prog 14 #[.slice a1 A.length c1, .slice a2 B.length c2] w fun e w' => (∃ r : Int, e = .returned (.int .i64 r) ∧ Slx A B r) ∧ ∃ q, w' = w.drewN q := by
  by_cases hne : A.length = B.length
  · obtain ⟨n, hn⟩ : ∃ n, n = A.length := ⟨_, rfl⟩
    have hn2 : n = B.length := hn.trans hne
    unfold BytesAt at h1 h2
    rw [← hn] at h1 hA
    rw [← hn2] at h2
    rw [← hn, ← hn2]
    have HN := hide hn
    have HN2 := hide hn2
    have HE := hide hne
    clear hn hn2 hne hB
    unfold maxLen at hA
    go_enter Tryd.func14, Tryd.ntmps14
    go_wp2
    go_loopw [5] (fun i wr => ∃ k : Nat, k ≤ n ∧ i = .int .i64 k ∧ Hid (∀ j, j < k → A.getD j 0 = B.getD j 0) ∧ ∃ q, wr = w.drewN q) (fun i _ => n - (intOf i).toNat)
    case atStart => exact ⟨0, Nat.zero_le _, rfl, fun j hj => by omega, 0, rfl⟩
    case round =>
      obtain ⟨k, hk, rfl, HJ, qq, rfl⟩ := hrel
      by_cases hlt : k < n
      · obtain ⟨b1, o1, rfl, hb1, hc1⟩ := h1 (by omega)
        obtain ⟨b2, o2, rfl, hb2, hc2⟩ := h2 (by omega)
        have e1 := hc1 k hlt
        have e2 := hc2 k hlt
        obtain ⟨x, hx⟩ : ∃ x, x = A.getD k 0 := ⟨_, rfl⟩
        obtain ⟨y, hy⟩ : ∃ y, y = B.getD k 0 := ⟨_, rfl⟩
        rw [← hx] at e1
        rw [← hy] at e2
        have HX := hide hx
        have HY := hide hy
        clear hx hy hc1 hc2
        have hk0 : (0 : Int) ≤ (k : Int) := by omega
        have hkn : (k : Int) < (n : Int) := by omega
        have hkA : k < A.length := by have := HN.out; omega
        rcases Nat.lt_trichotomy x.toNat y.toNat with hxy | hxy | hxy
        · have hb : ((x.toNat : Int) != (y.toNat : Int)) = true := by simp; omega
          have hc : (x.toNat : Int) < (y.toNat : Int) := by omega
          have HS : Hid (Slx A B (-1)) := .inr (.inr (.inr ⟨HE.out, k, hkA, HJ.out, .inl ⟨by rw [← HX.out, ← HY.out]; exact hxy, rfl⟩⟩))
          go_wp2
          go_quiet (fail)
          go_wp2
          go_quiet (fail)
          go_wp2
          go_ret
          refine ⟨⟨_, rfl, HS.out⟩, ?_⟩
          simp only [World.drewN_drewN]
          exact ⟨_, rfl⟩
        · have e : x = y := UInt8.toNat_inj.1 hxy
          subst e
          have HJ2 : Hid (∀ j, j < k + 1 → A.getD j 0 = B.getD j 0) := fun j hj => by
            by_cases e : j = k
            · subst e; rw [← HX.out, ← HY.out]
            · exact HJ.out j (by omega)
          go_wp2
          go_quiet (fail)
          go_wp2
          go_roundw
          case rel => exact ⟨k + 1, by omega, by go_num, HJ2, _, rfl⟩
          case measure => simp [intOf]; omega
        · have hb : ((x.toNat : Int) != (y.toNat : Int)) = true := by simp; omega
          have hc : ¬ (x.toNat : Int) < (y.toNat : Int) := by omega
          have HS : Hid (Slx A B 1) := .inr (.inr (.inr ⟨HE.out, k, hkA, HJ.out, .inr ⟨by rw [← HX.out, ← HY.out]; exact hxy, rfl⟩⟩))
          go_wp2
          go_quiet (fail)
          go_wp2
          go_quiet (fail)
          go_wp2
          go_ret
          refine ⟨⟨_, rfl, HS.out⟩, ?_⟩
          simp only [World.drewN_drewN]
          exact ⟨_, rfl⟩
      · have hAB : A = B := by
          have hkn : k = n := by omega
          have := eqB_all HE.out (by rw [← HN.out, ← hkn]; exact HJ.out)
          unfold eqB at this
          exact beq_iff_eq.1 this
        have HS : Hid (Slx A B 0) := .inr (.inr (.inl ⟨hAB, rfl⟩))
        clear hAB
        go_wp2
        go_ret
        exact ⟨⟨_, rfl, HS.out⟩, _, rfl⟩
  · unfold maxLen at hA hB
    by_cases hl : A.length < B.length
    · have HS : Hid (Slx A B (-1)) := .inl ⟨hl, rfl⟩
      go_enter Tryd.func14, Tryd.ntmps14
      go_wp2
      go_ret
      exact ⟨⟨_, rfl, HS.out⟩, 0, rfl⟩
    · have HS : Hid (Slx A B 1) := .inr (.inl ⟨by omega, rfl⟩)
      go_enter Tryd.func14, Tryd.ntmps14
      go_wp2
      go_ret
      exact ⟨⟨_, rfl, HS.out⟩, 0, rfl⟩
end Go.Proofs.Qxb6614732aDoor

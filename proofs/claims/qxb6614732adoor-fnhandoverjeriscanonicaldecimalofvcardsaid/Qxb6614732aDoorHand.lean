/-
  THE WALK of FnHandoverJERIsCanonicalDecimalOfV (3).
-/
import Derived.Test.Qxb6614732aDoorClone
import Derived.Test.Qxb6614732aDoorCanon
namespace Go.Proofs.Qxb6614732aDoor
open Go.RowKit
set_option linter.unusedVariables false

theorem canon_any (i : Int) (h0 : -9223372036854775808 ≤ i) (h1 : i ≤ 9223372036854775807) (a : Option Addr) (c : Nat) (w : World) (h : BytesAt w a (Lib.itoa i)) (hc : (Lib.itoa i).length ≤ c) (hc2 : c ≤ maxLen) :
    Calls Tryd.prog 10 #[.slice a (Lib.itoa i).length c, .int .i64 i] w fun e w' => e = .returned (.bool true) ∧ w' = w := by
  by_cases hneg : i < 0
  · obtain ⟨u, rfl⟩ : ∃ u : Nat, i = -(u : Int) := ⟨i.natAbs, by omega⟩
    rw [Lib.itoa_neg u (by omega)] at h hc ⊢
    obtain ⟨b, off, rfl, _, hcell⟩ := h (by simp)
    simp only [List.length_cons] at hcell hc ⊢
    refine canon_neg b off c (Lib.decDigits u).length u w (by omega) (by omega) rfl hc hc2 ?_ ?_
    · exact hcell 0 (by omega)
    · intro k hk
      have := hcell (k + 1) (by omega)
      rw [show off + 1 + k = off + (k + 1) by omega, this]
      simp
  · obtain ⟨u, rfl⟩ : ∃ u : Nat, i = (u : Int) := ⟨i.toNat, by omega⟩
    rw [Lib.itoa_nonneg u] at h hc ⊢
    obtain ⟨b, off, rfl, _, hcell⟩ := h (dec_pos u)
    exact canon_pos b off c (Lib.decDigits u).length u w (by omega) rfl hc hc2 hcell

theorem own_cap {w : World} {B e n c : Nat} {xs : List Value} {a : Option Addr} (h : w.ownsRow B e 1 (.slice a n c) n xs) : n ≤ c ∧ c ≤ maxLen := by
  rcases h.2 with ⟨h1, h2⟩ | ⟨g, cap, cur, h1, _, _, h3, h4, _⟩
  · simp at h1; obtain ⟨_, rfl, rfl⟩ := h1; exact ⟨Nat.le_refl _, by decide⟩
  · simp at h1; obtain ⟨_, rfl⟩ := h1; exact ⟨h3, h4⟩

set_option maxHeartbeats 2000000 in
set_option maxRecDepth 100000 in
theorem hand_walk (v : Int) (a : Option Addr) (c : Nat) (D : List UInt8) (w : World) (h0 : -9223372036854775808 ≤ v) (h1 : v ≤ 9223372036854775807) (hl : D.length ≤ maxLen) (ha : BytesAt w a D) (hnil : a = none → D.length = 0 ∧ c = 0)
    (htab : Lib.TabBelow Tryd.prog w.heap.size w "internal/strconv.uint64pow10" .u64 Lib.pow10Tab) :
    Calls Tryd.prog 3 #[.int .i64 v, .slice a D.length c] w fun e w' => e = .returned (.bool true) ∧ Below w.heap.size w w' := by
  have hby := bytes5 v a D.length c w hl
  have hlen := Lib.itoa_length_le v h0 h1
  have HA := hide ha
  have HT := hide htab
  have HNil := hide hnil
  clear ha htab hnil
  obtain ⟨n, hn⟩ : ∃ n, n = D.length := ⟨_, rfl⟩
  have HN := hide hn
  rw [← hn] at hl hby ⊢
  clear hn
  unfold maxLen at hl
  go_enter Tryd.func3, Tryd.ntmps3
  go_wp2_with fail
  refine hby.mono ?_
  rintro e w' ⟨⟨b, rfl⟩, hw⟩
  have hw := hw.symm; subst hw
  cases b
  · go_wp2
    go_ret
    exact ⟨rfl, Below.refl _ _⟩
  clear hby
  by_cases hs : n ≤ 1048576
  · have K1 := hide (clone_any a c D w HA.out (by have := HN.out; omega) HNil.out)
    rw [← HN.out] at K1
    go_wp2_with fail
    refine K1.out.mono ?_
    rintro e w1 ⟨v1, rfl, hown1, hb1⟩
    obtain ⟨A1, C1, rfl, _⟩ := own_form hown1
    have K2 := hide (clone_any a c D w1 (HA.out.below hb1) (by have := HN.out; omega) HNil.out)
    rw [← HN.out] at K2
    clear K1
    go_wp2_with fail
    refine K2.out.mono ?_
    rintro e w2 ⟨v2, rfl, hown2, hb2⟩
    have hbw2 : Below w.heap.size w w2 := hb1.trans (hb2.mono hb1.size)
    have K3 := hide (jer_any w1.heap.size n v h0 h1 v2 (Lib.byteCells D) w2 hown2 hb2.size (by omega) (fun w' hb' => HT.out w' (hbw2.trans (hb'.mono hb1.size))))
    obtain ⟨A2, C2, rfl, _⟩ := own_form hown2
    clear K2
    go_wp2_with fail
    refine K3.out.mono ?_
    rintro e w3 ⟨v3, rfl, hown3, hb3⟩
    have hbw3 : Below w.heap.size w w3 := hbw2.trans (hb3.mono hb1.size)
    have hb13 : Below w1.heap.size w1 w3 := hb2.trans hb3
    obtain ⟨A3, C3, rfl, _⟩ := own_form hown3
    have K4 := hide (jer_any w3.heap.size 0 v h0 h1 (.slice none 0 0) [] w3 (World.ownsRow_nil _ _ _ _) (Nat.le_refl _) (by omega) (fun w' hb' => HT.out w' (hbw3.trans (hb'.mono hbw3.size))))
    simp only [Nat.zero_add, List.nil_append] at K4
    clear K3
    go_wp2_with fail
    refine K4.out.mono ?_
    rintro e w4 ⟨v4, rfl, hown4, hb4⟩
    have hbw4 : Below w.heap.size w w4 := hbw3.trans (hb4.mono hbw3.size)
    have hb14 : Below w1.heap.size w1 w4 := hb13.trans (hb4.mono hb13.size)
    obtain ⟨A4, C4, rfl, _⟩ := own_form hown4
    have hB1 : BytesAt w4 A1 D := own_bytes (own_below hown1 hb14)
    have hB4 : BytesAt w4 A4 (Lib.itoa v) := own_bytes hown4
    have hcat : Lib.byteCells D ++ Lib.byteCells (Lib.itoa v) = Lib.byteCells (D ++ Lib.itoa v) := by simp [Lib.byteCells]
    rw [hcat] at hown3
    have hB3 : BytesAt w4 A3 (D ++ Lib.itoa v) := own_bytes (own_below hown3 hb4)
    have hc4 := own_cap hown4
    have N1 := own_none hown1
    have N4 := own_none hown4
    have K5 := hide (cat2_any A1 A4 D (Lib.itoa v) C1 C4 w4 hB1 hB4 (by rw [← HN.out]; exact N1) N4 (by have := HN.out; omega) (by omega))
    rw [← HN.out] at K5
    have HB3 := hide hB3
    have HB4 := hide hB4
    have HN1 := hide N1
    have HN4 := hide N4
    have HC4 := hide hc4
    clear K4 hown1 hown2 hown3 hown4 hB1 hB3 hB4 N1 N4 hc4 hcat hb13 hb14 hbw2 hbw3 hb1 hb2 hb3 hb4
    obtain ⟨T, hT⟩ : ∃ T, T = Lib.itoa v := ⟨_, rfl⟩
    rw [← hT] at K5 HB3 HB4 HC4 hlen
    have HT5 := hide hT
    have hTl : ∃ m, m = T.length := ⟨_, rfl⟩
    obtain ⟨m, hm⟩ := hTl
    rw [← hT, ← hm]
    rw [← hm] at K5 HC4 hlen
    have HM := hide hm
    clear hm hT
    go_wp2_with fail
    refine K5.out.mono ?_
    rintro e w5 ⟨v5, rfl, hown5, hb5⟩
    obtain ⟨A5, C5, rfl, _⟩ := own_form hown5
    have hbw5 : Below w.heap.size w w5 := hbw4.trans (hb5.mono hbw4.size)
    have hll : (D ++ T).length = n + m := by rw [List.length_append, ← HN.out, ← HM.out]
    have K6 := hide (eq_any A3 A5 (D ++ T) (D ++ T) C3 C5 w5 (HB3.out.below hb5) (own_bytes hown5) (by unfold maxLen; omega) (by unfold maxLen; omega))
    rw [eqB_same, hll] at K6
    rw [hll]
    have HL := hide hll
    have HB5 := hide (HB4.out.below hb5)
    clear hown5 hll K5 HB3
    go_wp2_with fail
    refine K6.out.mono ?_
    rintro e w6 ⟨rfl, q6, rfl⟩
    have K7 := hide (canon_any v h0 h1 A4 C4 (w5.drewN q6) (by rw [← HT5.out]; exact HB5.out) (by rw [← HT5.out, ← HM.out]; exact HC4.out.1) HC4.out.2)
    rw [← HT5.out, ← HM.out] at K7
    clear K6
    go_wp2_with fail
    refine K7.out.mono ?_
    rintro e w7 ⟨rfl, hw⟩
    have hw := hw.symm; subst hw
    go_wp2
    go_ret
    exact ⟨rfl, hbw5.trans ⟨rfl, rfl, rfl, Nat.le_refl _, fun _ _ => rfl⟩⟩
  · go_wp2
    go_ret
    exact ⟨rfl, Below.refl _ _⟩
end Go.Proofs.Qxb6614732aDoor

/-
  THE WALK of FnHandoverJEROrderIsShortlex (4).
-/
import Derived.Test.Qxb6614732aDoorAppend2
import Derived.Test.Qxb6614732aDoorShort2
namespace Go.Proofs.Qxb6614732aDoor
open Go.RowKit
set_option linter.unusedVariables false

theorem below_of_grown {a b : World} (h : a.grownBy b none) : Below a.heap.size a b := ⟨h.os, h.tape, h.output, h.size, fun k hk => h.block k hk (by simp)⟩

/-- Two owned slices in blocks apart. -/
theorem apart_of {w1 w2 : World} {B1 B2 : Nat} {v1 v2 : Value} {n1 n2 : Nat} {xs ys : List Value} (h1 : w1.ownsRow B1 5 1 v1 n1 xs) (h2 : w2.ownsRow B2 5 1 v2 n2 ys) (h : w1.heap.size ≤ B2) : v1.ownBlock = none ∨ v1.ownBlock ≠ v2.ownBlock := by
  cases hb : v1.ownBlock with
  | none => exact .inl rfl
  | some k =>
    right
    intro e
    have a := (h1.lt k hb).2
    have b := (h2.lt k e.symm).1
    omega

theorem apart_swap {w1 w2 : World} {B1 B2 : Nat} {v1 v2 : Value} {n1 n2 : Nat} {xs ys : List Value} (h1 : w1.ownsRow B1 5 1 v1 n1 xs) (h2 : w2.ownsRow B2 5 1 v2 n2 ys) (h : w1.heap.size ≤ B2) : v2.ownBlock = none ∨ v2.ownBlock ≠ v1.ownBlock := by
  cases hb : v2.ownBlock with
  | none => exact .inl rfl
  | some k =>
    right
    intro e
    have a := (h1.lt k e.symm).2
    have b := (h2.lt k hb).1
    omega

/-- A slice apart from the old row is apart from where the new one lies. -/
theorem apart_lies {w w1 : World} {B : Nat} {v v' u : Value} {n : Nat} {xs : List Value} (hl : Lies w v v') (hu : w1.ownsRow B 5 1 u n xs) (hw : w1.heap.size ≤ w.heap.size) (h : u.ownBlock = none ∨ u.ownBlock ≠ v.ownBlock) : u.ownBlock = none ∨ u.ownBlock ≠ v'.ownBlock := by
  rcases hl with e | ⟨k, e, hk⟩
  · rw [e]; exact h
  · cases hb : u.ownBlock with
    | none => exact .inl rfl
    | some j =>
      right
      rw [e]
      intro e2
      have := (hu.lt j hb).2
      have : j = k := Option.some.inj e2
      omega

set_option maxHeartbeats 4000000 in
set_option maxRecDepth 100000 in
theorem order_nat (x y : Nat) (hx : x ≤ 9223372036854775807) (hy : y ≤ 9223372036854775807) (a : Option Addr) (c : Nat) (D : List UInt8) (w : World) (hl : D.length ≤ maxLen) (ha : BytesAt w a D) (hnil : a = none → D.length = 0 ∧ c = 0)
    (htab : Lib.TabBelow Tryd.prog w.heap.size w "internal/strconv.uint64pow10" .u64 Lib.pow10Tab) :
    Calls Tryd.prog 4 #[.int .i64 x, .int .i64 y, .slice a D.length c] w fun e w' => e = .returned (.bool true) ∧ Below w.heap.size w w' := by
  have hby := bytes11 x y a D.length c w hl
  have hlx := dec_len20 x (by omega)
  have hly := dec_len20 y (by omega)
  have HA := hide ha
  have HT := hide htab
  have HNil := hide hnil
  clear ha htab hnil
  have hx0 : ¬ (x : Int) < 0 := by omega
  have hy0 : ¬ (y : Int) < 0 := by omega
  have HX := hide hx
  have HY := hide hy
  clear hx hy
  obtain ⟨n, hn⟩ : ∃ n, n = D.length := ⟨_, rfl⟩
  have HN := hide hn
  rw [← hn] at hl hby ⊢
  clear hn
  obtain ⟨X, hX⟩ : ∃ X, X = Lib.decDigits x := ⟨_, rfl⟩
  obtain ⟨Y, hY⟩ : ∃ Y, Y = Lib.decDigits y := ⟨_, rfl⟩
  obtain ⟨lx, hlX⟩ : ∃ lx, lx = X.length := ⟨_, rfl⟩
  obtain ⟨ly, hlY⟩ : ∃ ly, ly = Y.length := ⟨_, rfl⟩
  rw [← hX, ← hlX] at hlx
  rw [← hY, ← hlY] at hly
  have EX := hide hX
  have EY := hide hY
  have LX := hide hlX
  have LY := hide hlY
  clear hX hY hlX hlY
  unfold maxLen at hl
  go_enter Tryd.func4, Tryd.ntmps4
  go_wp2_with fail
  refine hby.mono ?_
  rintro e w' ⟨⟨b, rfl⟩, hw⟩
  have hw := hw.symm; subst hw
  cases b
  · go_wp2
    go_ret
    exact ⟨rfl, Below.refl _ _⟩
  clear hby
  by_cases hs : n ≤ 1048576
  · have K1 := hide (clone_any a c D w HA.out (by have := HN.out; omega) HNil.out)
    rw [← HN.out] at K1
    go_wp2_with fail
    refine K1.out.mono ?_
    rintro e w1 ⟨v1, rfl, hown1, hb1⟩
    obtain ⟨A1, C1, rfl, _⟩ := own_form hown1
    have K2 := hide (clone_any a c D w1 (HA.out.below hb1) (by have := HN.out; omega) HNil.out)
    rw [← HN.out] at K2
    clear K1
    go_wp2_with fail
    refine K2.out.mono ?_
    rintro e w2 ⟨v2, rfl, hown2, hb2⟩
    obtain ⟨A2, C2, rfl, _⟩ := own_form hown2
    have hbw2 : Below w.heap.size w w2 := hb1.trans (hb2.mono hb1.size)
    have K3 := hide (jerx w2.heap.size 0 x HX.out (.slice none 0 0) [] w2 (World.ownsRow_nil _ _ _ _) (Nat.le_refl _) (by omega) (fun w' hb' => HT.out w' (hbw2.trans (hb'.mono hbw2.size))))
    simp only [Nat.zero_add, List.nil_append] at K3
    rw [← EX.out, ← LX.out] at K3
    clear K2
    go_wp2_with fail
    refine K3.out.mono ?_
    rintro e w3 ⟨v3, rfl, hown3, hgr3, _⟩
    have hb3 : Below w2.heap.size w2 w3 := below_of_grown hgr3
    obtain ⟨A3, C3, rfl, _⟩ := own_form hown3
    have hbw3 : Below w.heap.size w w3 := hbw2.trans (hb3.mono hbw2.size)
    have K4 := hide (jerx w3.heap.size 0 y HY.out (.slice none 0 0) [] w3 (World.ownsRow_nil _ _ _ _) (Nat.le_refl _) (by omega) (fun w' hb' => HT.out w' (hbw3.trans (hb'.mono hbw3.size))))
    simp only [Nat.zero_add, List.nil_append] at K4
    rw [← EY.out, ← LY.out] at K4
    clear K3
    go_wp2_with fail
    refine K4.out.mono ?_
    rintro e w4 ⟨v4, rfl, hown4, hgr4, _⟩
    have hb4 : Below w3.heap.size w3 w4 := below_of_grown hgr4
    obtain ⟨A4, C4, rfl, _⟩ := own_form hown4
    have hbw4 : Below w.heap.size w w4 := hbw3.trans (hb4.mono hbw3.size)
    have hs2 := hb2.size
    have hs3 := hb3.size
    have hs4 := hb4.size
    have hs1 := hb1.size
    -- the four slices, in w4
    have o1 : w4.ownsRow w.heap.size 5 1 (.slice A1 n C1) n (Lib.byteCells D) := own_below (own_below (own_below hown1 hb2) hb3) hb4
    have o2 : w4.ownsRow w1.heap.size 5 1 (.slice A2 n C2) n (Lib.byteCells D) := own_below (own_below hown2 hb3) hb4
    have o3 : w4.ownsRow w2.heap.size 5 1 (.slice A3 lx C3) lx (Lib.byteCells X) := own_below hown3 hb4
    have p12 := apart_of hown1 hown2 (Nat.le_refl _)
    have p32 := apart_swap hown2 hown3 (Nat.le_refl _)
    have p42 := apart_swap (own_below hown2 hb3) hown4 (Nat.le_refl _)
    have K5 := hide (jerx w1.heap.size n x HX.out (.slice A2 n C2) (Lib.byteCells D) w4 o2 (by omega) (by omega) (fun w' hb' => HT.out w' (hbw4.trans (hb'.mono hbw4.size))))
    rw [← EX.out, ← LX.out] at K5
    have HO := hide (And.intro o1 (And.intro o3 (And.intro hown4 (And.intro p12 (And.intro p32 p42)))))
    have HS := hide (And.intro hown1 (And.intro hown3 hown4))
    have HZ := hide (And.intro hs1 (And.intro hs2 (And.intro hs3 hs4)))
    have HO2 := hide o2
    clear K4 o1 o2 o3 p12 p32 p42 hown1 hown2 hown3 hown4 hgr3 hgr4 hb1 hb2 hb3 hb4 hbw2 hbw3 hs1 hs2 hs3 hs4
    go_wp2_with fail
    refine K5.out.mono ?_
    rintro e w5 ⟨v5, rfl, hown5, hgr5, hlies5⟩
    have hbw5 : Below w.heap.size w w5 := hbw4.grown hgr5 hbw4.size (fun k hk => Nat.le_trans HZ.out.1 (HO2.out.lt k hk).1)
    obtain ⟨A5, C5, rfl, _⟩ := own_form hown5
    have K6 := hide (jerx w1.heap.size (n + lx) y HY.out (.slice A5 (n + lx) C5) _ w5 hown5 (by have := HZ.out; have := hgr5.size; omega) (by omega) (fun w' hb' => HT.out w' (hbw5.trans (hb'.mono hbw5.size))))
    rw [← EY.out, ← LY.out] at K6
    have HO5 := hide hown5
    have HG5 := hide hgr5
    have HL5 := hide hlies5
    clear K5 hown5 hgr5 hlies5
    go_wp2_with fail
    refine K6.out.mono ?_
    rintro e w6 ⟨v6, rfl, hown6, hgr6, hlies6⟩
    have hbw6 : Below w.heap.size w w6 := hbw5.grown hgr6 hbw5.size (fun k hk => Nat.le_trans HZ.out.1 (HO5.out.lt k hk).1)
    obtain ⟨A6, C6, rfl, _⟩ := own_form hown6
    -- what stands in w6
    have hrow : Lib.byteCells D ++ Lib.byteCells X ++ Lib.byteCells Y = Lib.byteCells (D ++ X ++ Y) := by simp [Lib.byteCells]
    rw [hrow] at hown6
    obtain ⟨o1, o3, o4, p12, p32, p42⟩ := HO.out
    obtain ⟨z1, z2, z3, z4⟩ := HZ.out
    have q1 := (o1.kept HG5.out p12).kept hgr6 (apart_lies HL5.out o1 (Nat.le_refl _) p12)
    have q3 := (o3.kept HG5.out p32).kept hgr6 (apart_lies HL5.out o3 (Nat.le_refl _) p32)
    have q4 := (o4.kept HG5.out p42).kept hgr6 (apart_lies HL5.out o4 (Nat.le_refl _) p42)
    have K7 := hide (cat3_any A1 A3 A4 D X Y C1 C3 C4 w6 (own_bytes q1) (own_bytes q3) (own_bytes q4) (by rw [← HN.out]; exact own_none q1) (by rw [← LX.out]; exact own_none q3) (by rw [← LY.out]; exact own_none q4) (by have := HN.out; omega) (by have := LX.out; omega) (by have := LY.out; omega))
    rw [← HN.out, ← LX.out, ← LY.out] at K7
    have B3 := hide (own_bytes q3)
    have B4 := hide (own_bytes q4)
    have B6 := hide (own_bytes hown6)
    clear K6 hrow o1 o3 o4 p12 p32 p42 z1 z2 z3 z4 q1 q3 q4 hown6 hgr6 hlies6 HO HS HZ HO2 HO5 HG5 HL5 hbw4 hbw5
    obtain ⟨F, hF⟩ : ∃ F, F = D ++ X ++ Y := ⟨_, rfl⟩
    have hlF : F.length = n + lx + ly := by rw [hF, List.length_append, List.length_append, ← HN.out, ← LX.out, ← LY.out]
    rw [← hF, hlF] at K7
    rw [← hF] at B6
    have HLF := hide hlF
    clear hF hlF
    go_wp2_with fail
    refine K7.out.mono ?_
    rintro e w7 ⟨v7, rfl, hown7, hb7⟩
    obtain ⟨A7, C7, rfl, _⟩ := own_form hown7
    have hbw7 : Below w.heap.size w w7 := hbw6.trans (hb7.mono hbw6.size)
    have K8 := hide (eq_any A6 A7 F F C6 C7 w7 (B6.out.below hb7) (own_bytes hown7) (by have := HLF.out; unfold maxLen; omega) (by have := HLF.out; unfold maxLen; omega))
    rw [eqB_same, HLF.out] at K8
    have B3' := hide (B3.out.below hb7)
    have B4' := hide (B4.out.below hb7)
    clear K7 hown7 B6 B3 B4 hb7 hbw6
    go_wp2_with fail
    refine K8.out.mono ?_
    rintro e w8 ⟨rfl, q8, rfl⟩
    have K9 := hide (fun wx => count_any x wx HX.out)
    have K10 := hide (fun wx => count_any y wx HY.out)
    rw [← EX.out, ← LX.out] at K9
    rw [← EY.out, ← LY.out] at K10
    clear K8
    go_wp2_with fail
    refine (K9.out _).mono ?_
    rintro e w9 ⟨rfl, hw⟩
    have hw := hw.symm; subst hw
    go_wp2_with fail
    refine (K10.out _).mono ?_
    rintro e w9 ⟨rfl, hw⟩
    have hw := hw.symm; subst hw
    have K11 := hide (short_any A3 A4 X Y C3 C4 (w7.drewN q8) B3'.out B4'.out (by have := LX.out; unfold maxLen; omega) (by have := LY.out; unfold maxLen; omega))
    rw [← LX.out, ← LY.out] at K11
    have HBW := hide hbw7
    clear K9 K10 hbw7 B3' B4'
    have fin : ∀ r, Slx X Y r → r = cmpN x y := fun r h => slx_dec (by rw [← EX.out, ← EY.out]; exact h)
    have HF := hide fin
    clear fin
    rcases Nat.lt_trichotomy x y with hxy | hxy | hxy
    · have c1 : cmpN x y = -1 := by unfold cmpN; rw [if_pos hxy]
      have HC := hide c1
      clear c1
      have i1 : (x : Int) < (y : Int) := by omega
      have i2 : ¬ (y : Int) < (x : Int) := by omega
      go_wp2_with fail
      refine K11.out.mono ?_
      rintro e w9 ⟨⟨r, rfl, hr⟩, q9, rfl⟩
      have er : r = -1 := (HF.out r hr).trans HC.out
      subst er
      clear hr
      go_wp2
      go_ret
      exact ⟨by simp, below_drewN HBW.out _⟩
    · subst hxy
      have c1 : cmpN x x = 0 := by unfold cmpN; rw [if_neg (by omega), if_neg (by omega)]
      have HC := hide c1
      clear c1
      go_wp2_with fail
      refine K11.out.mono ?_
      rintro e w9 ⟨⟨r, rfl, hr⟩, q9, rfl⟩
      have er : r = 0 := (HF.out r hr).trans HC.out
      subst er
      clear hr
      go_wp2
      go_ret
      exact ⟨by simp, below_drewN HBW.out _⟩
    · have c1 : cmpN x y = 1 := by unfold cmpN; rw [if_neg (by omega), if_pos hxy]
      have HC := hide c1
      clear c1
      have i1 : ¬ (x : Int) < (y : Int) := by omega
      have i2 : (y : Int) < (x : Int) := by omega
      go_wp2_with fail
      refine K11.out.mono ?_
      rintro e w9 ⟨⟨r, rfl, hr⟩, q9, rfl⟩
      have er : r = 1 := (HF.out r hr).trans HC.out
      subst er
      clear hr
      go_wp2
      go_ret
      exact ⟨by simp, below_drewN HBW.out _⟩
  · go_wp2
    go_ret
    exact ⟨rfl, Below.refl _ _⟩

set_option maxHeartbeats 1000000 in
set_option maxRecDepth 100000 in
theorem order_neg (v u : Int) (h : v < 0 ∨ u < 0) (a : Option Addr) (n c : Nat) (w : World) (hl : n ≤ maxLen) :
    Calls Tryd.prog 4 #[.int .i64 v, .int .i64 u, .slice a n c] w fun e w' => e = .returned (.bool true) ∧ Below w.heap.size w w' := by
  have hby := bytes11 v u a n c w hl
  unfold maxLen at hl
  go_enter Tryd.func4, Tryd.ntmps4
  go_wp2_with fail
  refine hby.mono ?_
  rintro e w' ⟨⟨b, rfl⟩, hw⟩
  have hw := hw.symm; subst hw
  cases b
  · go_wp2
    go_ret
    exact ⟨rfl, Below.refl _ _⟩
  clear hby
  by_cases hs : n ≤ 1048576
  · by_cases hv : v < 0
    · go_wp2_with fail
      go_ret
      exact ⟨rfl, Below.refl _ _⟩
    · have hu : u < 0 := by omega
      go_wp2_with fail
      go_ret
      exact ⟨rfl, Below.refl _ _⟩
  · go_wp2
    go_ret
    exact ⟨rfl, Below.refl _ _⟩

theorem order_walk (v u : Int) (a : Option Addr) (c : Nat) (D : List UInt8) (w : World) (_ : -9223372036854775808 ≤ v) (h1 : v ≤ 9223372036854775807) (_ : -9223372036854775808 ≤ u) (h3 : u ≤ 9223372036854775807) (hl : D.length ≤ maxLen) (ha : BytesAt w a D) (hnil : a = none → D.length = 0 ∧ c = 0)
    (htab : Lib.TabBelow Tryd.prog w.heap.size w "internal/strconv.uint64pow10" .u64 Lib.pow10Tab) :
    Calls Tryd.prog 4 #[.int .i64 v, .int .i64 u, .slice a D.length c] w fun e w' => e = .returned (.bool true) ∧ Below w.heap.size w w' := by
  by_cases h : v < 0 ∨ u < 0
  · exact order_neg v u h a D.length c w hl
  · obtain ⟨x, rfl⟩ : ∃ x : Nat, v = (x : Int) := ⟨v.toNat, by omega⟩
    obtain ⟨y, rfl⟩ : ∃ y : Nat, u = (y : Int) := ⟨u.toNat, by omega⟩
    exact order_nat x y (by omega) (by omega) a c D w hl ha hnil htab
end Go.Proofs.Qxb6614732aDoor

/-
  THE WALK of FnBaseMessageBeatSplitsAtAnyCut (4).
-/
import Derived.Test.Qxb6614815aCut
import Derived.Test.Qxb6614815aDec
import Derived.Test.Qxb6614815aJoin
import Derived.WalkSmall
namespace Go.Proofs.Qxb6614815a
open Go.RowKit
set_option linter.unusedVariables false

set_option maxHeartbeats 4000000 in
set_option maxRecDepth 100000 in
theorem splits_some (x : Nat) (hx : x < 18446744073709551616) (ad : Addr) (cap : Nat) (D : List UInt8) (cut : Int) (w : World) (hl : D.length ≤ maxLen) (ha : BytesAt w (some ad) D) :
    Calls Try.prog 4 #[.int .u64 x, .slice (some ad) D.length cap, .int .i64 cut] w fun e w' => e = .returned (.bool true) ∧ Below w.heap.size w w' := by
  obtain ⟨i0, hi, hz0, hz1, hz2⟩ := info_parts Try.info5
  obtain ⟨n, hn⟩ : ∃ n, n = D.length := ⟨_, rfl⟩
  have HN := hide hn
  have HA := hide ha
  rw [← hn] at hl ⊢
  clear hn ha
  have hnil : ∀ w, (binOp .neq 22 (.slice (some ad) n cap) (.slice none 0 0)).run Try.prog w = .ok (.bool true) w := fun w => by simpa using run_neq_slice_nil_any w 22 5 (some ad) n cap 0 0 Try.underlying22
  have HBY := hide (bytes7 x (some ad) n cap cut w hl)
  unfold maxLen at hl
  by_cases hs : n ≤ 1048576 ∧ 0 ≤ cut ∧ cut ≤ n
  · obtain ⟨s1, s2, s3⟩ := hs
    obtain ⟨k, rfl⟩ := Int.eq_ofNat_of_zero_le s2
    have s3 : k ≤ n := by omega
    go_enter Try.func4, Try.ntmps4
    go_wp2_with fail
    refine HBY.out.mono ?_
    rintro e w' ⟨⟨b, rfl⟩, hw⟩
    have hw := hw.symm; subst hw
    cases b
    · go_wp2
      go_ret
      exact ⟨rfl, Below.refl _ _⟩
    clear HBY
    obtain ⟨cs1, hcs⟩ : ∃ cs, cs = Lib.byteCells D := ⟨_, rfl⟩
    have HO1 := hide (show ∀ v ∈ cs1, v.oneCell' = true by rw [hcs]; exact bytes_one D)
    have HL1 := hide (show cs1.length = n by rw [hcs, Lib.byteCells_length, HN.out])
    have HCS1 := hide hcs
    clear hcs
    go_wp2_with (at_make; refine wpList_make_full _ rfl _ _ 22 rfl w.heap.size 5 i0 _ 1 Try.underlying22 hi hz0 hz1 _ _ _ _ n rfl rfl rfl rfl ?b2 ?b3 ?b4 ?_)
    case b2 => rw [hz2]; omega
    case b3 => unfold maxLen; omega
    case b4 => exact Nat.le_refl _
    intro wm hown1 hgr1
    have hb1 : Below w.heap.size w wm := (Below.refl _ _).grown hgr1 (Nat.le_refl _) (fun k hk => by cases hk)
    obtain ⟨cur, hcl, hcb⟩ := made_block hown1
    have HS1 := hide (src_bytes (HA.out.below hb1))
    rw [← HCS1.out] at HS1
    have HC := hide hcl
    clear hown1 hgr1 hcl
    go_wp2_with (refine wpList_copy_splice rfl (.tmp 34) (.tmp 35) 22 22 rfl 5 Try.underlying22 Try.one5 _ _ _ _ _ _ rfl rfl w.heap.size 0 cur 5 hcb cs1 ?c1 (by exact fun h => ⟨rfl, HS1.out h⟩) ?c3 HO1.out w.heap.size w hb1 (Nat.le_refl _) ?_)
    case c1 => rw [HL1.out]; simp
    case c3 => rw [HL1.out, HC.out]; simp
    intro w1 HG2 hbw1
    have HF := hide (show BytesAt w1 (some ⟨w.heap.size, 0, none⟩) D from bytes_of_block (by rw [← HCS1.out]; have := HG2.out; rw [splice_full cur cs1 (by rw [HC.out, HL1.out])] at this; exact this))
    clear hcb HG2 hb1 HS1 HC HO1 HL1 HCS1
    have HM1 := hide (base8 x hx (some ⟨w.heap.size, 0, none⟩) D n w1 HF.out (fun h => by cases h) (by rw [← HN.out]; omega))
    rw [← HN.out] at HM1
    have HF2 := hide (show BytesAt w1 (some ⟨w.heap.size, 0, none⟩) (D.take k) from HF.out.take k)
    have ht : (D.take k).length = k := by have := HN.out; simp; omega
    have HM2 := hide (fun (wx : World) (hb : Below w1.heap.size w1 wx) => base8 x hx (some ⟨w.heap.size, 0, none⟩) (D.take k) n wx (HF2.out.below hb) (fun h => by cases h) (by rw [ht]; omega))
    rw [ht] at HM2
    have HM3 := hide (fun (wx : World) => base8 x hx none [] 0 wx (fun h => by simp at h) (fun _ => ⟨rfl, rfl⟩) (by simp))
    have HG1 := hide (msg_length x D)
    have HG2 := hide (msg_length x (D.take k))
    have HG3 := hide (msg_length x [])
    rw [← HN.out] at HG1
    rw [ht] at HG2
    simp only [List.length_nil, Nat.add_zero] at HG3 HM3
    have hu1 := Lib.uvarint_length64 hx
    have hup := Lib.uvarint_pos x
    have HDC := hide (fun (a5 : Option Addr) (c5 : Nat) (wx : World) h5 => dec_any x hx a5 c5 wx h5)
    have HJ1 := hide (fun (a3 a4 : Option Addr) (c3 c4 : Nat) (wx : World) h3 h4 h5 h6 => join_any a3 a4 (msg x (D.take k)) (D.drop k) c3 c4 wx h3 h4 h5 h6)
    have HJ2 := hide (fun (a3 a4 : Option Addr) (c3 c4 : Nat) (wx : World) h3 h4 h5 h6 => join_any a3 a4 (msg x []) D c3 c4 wx h3 h4 h5 h6)
    rw [msg_cut x D k] at HJ1
    rw [msg_nil x D] at HJ2
    have HE := hide (fun (a3 a4 : Option Addr) (c3 c4 : Nat) (wx : World) h3 h4 h5 => eq_any a3 a4 (msg x D) (msg x D) c3 c4 wx h3 h4 h5 h5)
    rw [eqB_same] at HE
    have hdl : (D.drop k).length = n - k := by have := HN.out; simp; omega
    obtain ⟨M1, hM1⟩ : ∃ M, M = msg x D := ⟨_, rfl⟩
    obtain ⟨M2, hM2⟩ : ∃ M, M = msg x (D.take k) := ⟨_, rfl⟩
    obtain ⟨M3, hM3⟩ : ∃ M, M = msg x [] := ⟨_, rfl⟩
    rw [← hM1] at HM1 HG1 HJ1 HJ2 HE
    rw [← hM2] at HM2 HG2 HJ1
    rw [← hM3] at HM3 HG3 HJ2
    have H3 := hide hM3
    clear hM1 hM2 hM3
    rw [HG1.out] at HM1 HE HJ1 HJ2
    rw [HG2.out] at HM2 HJ1
    rw [HG3.out] at HM3 HJ2
    rw [hdl] at HJ1
    rw [← HN.out] at HJ2
    obtain ⟨u, hu⟩ : ∃ u, u = (Lib.uvarint x).length := ⟨_, rfl⟩
    rw [← hu] at HM1 HM2 HM3 HDC HJ1 HJ2 HE hu1 hup
    have HU := hide hu
    clear hu HG1 HG2 HG3 ht hdl
    have hkn : k ≤ n := s3
    go_wp2_with fail
    refine HM1.out.mono ?_
    rintro e w3 ⟨v3, rfl, hown3, hb3⟩
    clear HM1
    go_wp2_with fail
    refine (HM2.out w3 hb3).mono ?_
    rintro e w4 ⟨v4, rfl, hown4, hb4⟩
    clear HM2
    have hb14 : Below w1.heap.size w1 w4 := hb3.trans (hb4.mono hb3.size)
    have hown3 := own_below hown3 hb4
    go_wp2_with fail
    refine (HM3.out w4).mono ?_
    rintro e w5 ⟨v5, rfl, hown5, hb5⟩
    clear HM3
    have hb15 : Below w1.heap.size w1 w5 := hb14.trans (hb5.mono hb14.size)
    have hown3 := own_below hown3 hb5
    have hown4 := own_below hown4 hb5
    obtain ⟨a3, c3, rfl, hc3⟩ := own_form hown3
    obtain ⟨a4, c4, rfl, hc4⟩ := own_form hown4
    obtain ⟨a5, c5, rfl, hc5⟩ := own_form hown5
    have R3 := hide (own_bytes hown3)
    have R4 := hide (own_bytes hown4)
    have R5 := hide (own_bytes hown5)
    have hm3 : (Lib.byteCells M3)[0]? = some (.int .u8 3) := by rw [H3.out]; exact msg_first _ _
    obtain ⟨g5, he5, hz5, hc5'⟩ : ∃ g, a5 = some ⟨g, 0, none⟩ ∧ w5.cell? ⟨g, 0, none⟩ = some (.int .u8 3) ∧ 1 + u ≤ c5 := by
      rcases hown5.2 with ⟨_, h⟩ | ⟨g, c, _, h, _, _, hle, _⟩
      · omega
      · simp at h
        obtain ⟨rfl, rfl⟩ := h
        exact ⟨g, rfl, by rw [hown5.cellAt 0 (by omega)]; exact hm3, hle⟩
    subst he5
    have HD5 := hide (show BytesAt w5 (some ⟨g5, 1, none⟩) (Lib.uvarint x) by
      have := R5.out.drop 1
      rw [H3.out, msg_rest, Nat.zero_add] at this
      exact this)
    have HDD := hide (HDC.out (some ⟨g5, 1, none⟩) (c5 - 1) w5 HD5.out)
    have HF5 := hide (HF.out.below hb15)
    have HFK := hide (HF5.out.drop k)
    have HBW := hide (show Below w.heap.size w w5 from hbw1.trans (hb15.mono hbw1.size))
    clear hown3 hown4 hown5 hb3 hb4 hb5 hb14 hb15 HF HF2 HD5 HDC hm3 HA
    obtain ⟨m1, hm1⟩ : ∃ m, m = 1 + u + n := ⟨_, rfl⟩
    obtain ⟨m2, hm2⟩ : ∃ m, m = 1 + u + k := ⟨_, rfl⟩
    obtain ⟨m5, hm5⟩ : ∃ m, m = 1 + u := ⟨_, rfl⟩
    rw [← hm1] at HE HJ1 HJ2
    rw [← hm2] at HJ1
    rw [← hm5] at HJ2
    rw [← hm1, ← hm2, ← hm5]
    have hu5 : u = m5 - 1 := by omega
    have p5 : 2 ≤ m5 := by omega
    have p5' : m5 ≤ 11 := by omega
    have p5c : m5 ≤ c5 := by omega
    have l1 : m1 ≤ 10000000 := by omega
    have l2 : m2 ≤ 10000000 := by omega
    unfold maxLen at hc5 hc4 hc3
    rw [hu5, show ((m5 - 1 : Nat) : Int) = (m5 : Int) - 1 by omega] at HDD
    clear hm1 hm2 hm5 hu5 hc5' hu1 hup HU
    go_wp2_with fail
    refine HDD.out.mono ?_
    rintro e w' ⟨rfl, hw⟩
    have hw := hw.symm; subst hw
    clear HDD hz5
    by_cases hkn2 : k < n
    · go_wp2_with fail
      refine (HJ1.out a4 (some ⟨w.heap.size, k, none⟩) c4 (n - k) w5 R4.out (by have := HFK.out; rw [Nat.zero_add] at this; exact this) (by omega) (by omega)).mono ?_
      rintro e w6 ⟨v6, rfl, hown6, hb6⟩
      obtain ⟨a6, c6, rfl, hc6⟩ := own_form hown6
      have R6 := hide (own_bytes hown6)
      have R36 := hide (R3.out.below hb6)
      have R56 := hide (R5.out.below hb6)
      have HF6 := hide (HF5.out.below hb6)
      have HB6 := hide (HBW.out.trans (hb6.mono HBW.out.size))
      have HE1 := hide (HE.out a3 a6 c3 c6 w6 R36.out R6.out (by unfold maxLen; omega))
      clear HJ1 R3 R4 R5 HF5 HFK HBW hown6 hb6 hc6 R6
      go_wp2_with fail
      refine HE1.out.mono ?_
      rintro e w' ⟨rfl, q7, rfl⟩
      have hq := below_drewN (Below.refl w6.heap.size w6) q7
      have HJ := hide (HJ2.out (some ⟨g5, 0, none⟩) (some ⟨w.heap.size, 0, none⟩) c5 n (w6.drewN q7) (R56.out.below hq) (HF6.out.below hq) (by omega) (by omega))
      clear HE1 HJ2 R56 HF6
      go_wp2_with fail
      refine HJ.out.mono ?_
      rintro e w8 ⟨v8, rfl, hown8, hb8⟩
      obtain ⟨a8, c8, rfl, hc8⟩ := own_form hown8
      have R8 := hide (own_bytes hown8)
      have R38 := hide ((R36.out.below hq).below hb8)
      have HE2 := hide (HE.out a3 a8 c3 c8 w8 R38.out R8.out (by unfold maxLen; omega))
      have HB8 := hide (show Below w.heap.size w w8 from (below_drewN HB6.out q7).trans (hb8.mono (below_drewN HB6.out q7).size))
      clear HJ hown8 hb8 hc8 R8 R38 HE hq HB6
      go_wp2_with fail
      refine HE2.out.mono ?_
      rintro e w' ⟨rfl, q9, rfl⟩
      go_wp2
      go_ret
      exact ⟨by simp, below_drewN HB8.out _⟩
    · have hkn3 : k = n := by omega
      subst hkn3
      rw [Nat.sub_self] at HJ1
      go_wp2_with fail
      refine (HJ1.out a4 (some ⟨w.heap.size, 0, none⟩) c4 0 w5 R4.out (bytes_empty _ _ (by have := HN.out; simp; omega)) (by omega) (by omega)).mono ?_
      rintro e w6 ⟨v6, rfl, hown6, hb6⟩
      obtain ⟨a6, c6, rfl, hc6⟩ := own_form hown6
      have R6 := hide (own_bytes hown6)
      have R36 := hide (R3.out.below hb6)
      have R56 := hide (R5.out.below hb6)
      have HF6 := hide (HF5.out.below hb6)
      have HB6 := hide (HBW.out.trans (hb6.mono HBW.out.size))
      have HE1 := hide (HE.out a3 a6 c3 c6 w6 R36.out R6.out (by unfold maxLen; omega))
      clear HJ1 R3 R4 R5 HF5 HFK HBW hown6 hb6 hc6 R6
      go_wp2_with fail
      refine HE1.out.mono ?_
      rintro e w' ⟨rfl, q7, rfl⟩
      have hq := below_drewN (Below.refl w6.heap.size w6) q7
      have HJ := hide (HJ2.out (some ⟨g5, 0, none⟩) (some ⟨w.heap.size, 0, none⟩) c5 k (w6.drewN q7) (R56.out.below hq) (HF6.out.below hq) (by omega) (by omega))
      clear HE1 HJ2 R56 HF6
      go_wp2_with fail
      refine HJ.out.mono ?_
      rintro e w8 ⟨v8, rfl, hown8, hb8⟩
      obtain ⟨a8, c8, rfl, hc8⟩ := own_form hown8
      have R8 := hide (own_bytes hown8)
      have R38 := hide ((R36.out.below hq).below hb8)
      have HE2 := hide (HE.out a3 a8 c3 c8 w8 R38.out R8.out (by unfold maxLen; omega))
      have HB8 := hide (show Below w.heap.size w w8 from (below_drewN HB6.out q7).trans (hb8.mono (below_drewN HB6.out q7).size))
      clear HJ hown8 hb8 hc8 R8 R38 HE hq HB6
      go_wp2_with fail
      refine HE2.out.mono ?_
      rintro e w' ⟨rfl, q9, rfl⟩
      go_wp2
      go_ret
      exact ⟨by simp, below_drewN HB8.out _⟩
  · go_enter Try.func4, Try.ntmps4
    go_wp2_with fail
    refine HBY.out.mono ?_
    rintro e w' ⟨⟨b, rfl⟩, hw⟩
    have hw := hw.symm; subst hw
    clear HBY
    cases b
    · go_wp2
      go_ret
      exact ⟨rfl, Below.refl _ _⟩
    · by_cases s1 : n ≤ 1048576
      · by_cases s2 : 0 ≤ cut
        · have s3 : (n : Int) < cut := by omega
          clear hs
          go_wp2
          go_ret
          exact ⟨rfl, Below.refl _ _⟩
        · clear hs
          go_wp2
          go_ret
          exact ⟨rfl, Below.refl _ _⟩
      · clear hs
        go_wp2
        go_ret
        exact ⟨rfl, Below.refl _ _⟩
end Go.Proofs.Qxb6614815a

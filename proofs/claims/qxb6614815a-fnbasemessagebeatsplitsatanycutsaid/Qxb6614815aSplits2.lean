/-
  THE WALK of FnBaseMessageBeatSplitsAtAnyCut (4).
-/
import Derived.Test.Qxb6614815aCut
import Derived.Test.Qxb6614815aDec
import Derived.Test.Qxb6614815aJoin
import Derived.WalkSmall
namespace Go.Proofs.Qxb6614815a
open Go.RowKit
set_option linter.unusedVariables false


set_option maxHeartbeats 4000000 in
set_option maxRecDepth 100000 in
theorem splits_none (x : Nat) (hx : x < 18446744073709551616) (cut : Int) (w : World) :
    Calls Try.prog 4 #[.int .u64 x, .slice none 0 0, .int .i64 cut] w fun e w' => e = .returned (.bool true) ∧ Below w.heap.size w w' := by
  have hnil : ∀ w, (binOp .neq 22 (.slice none 0 0) (.slice none 0 0)).run Try.prog w = .ok (.bool false) w := fun w => by simpa using run_neq_slice_nil_any w 22 5 none 0 0 0 0 Try.underlying22
  have HBY := hide (bytes7 x none 0 0 cut w (by decide))
  by_cases hs : cut = 0
  · subst hs
    go_enter Try.func4, Try.ntmps4
    go_wp2_with fail
    refine HBY.out.mono ?_
    rintro e w' ⟨⟨b, rfl⟩, hw⟩
    have hw := hw.symm; subst hw
    cases b
    · go_wp2
      go_ret
      exact ⟨rfl, Below.refl _ _⟩
    clear HBY
    have HM3 := hide (fun (wx : World) => base8 x hx none [] 0 wx (fun h => by simp at h) (fun _ => ⟨rfl, rfl⟩) (by simp))
    have HG3 := hide (msg_length x [])
    simp only [List.length_nil, Nat.add_zero] at HG3 HM3
    have hu1 := Lib.uvarint_length64 hx
    have hup := Lib.uvarint_pos x
    have HDC := hide (fun (a5 : Option Addr) (c5 : Nat) (wx : World) h5 => dec_any x hx a5 c5 wx h5)
    have HJ2 := hide (fun (a3 : Option Addr) (c3 : Nat) (wx : World) h3 h5 => join_any a3 none (msg x []) [] c3 0 wx h3 (fun h => by simp at h) h5 (by simp))
    rw [msg_nil x []] at HJ2
    simp only [List.length_nil] at HJ2
    have HE := hide (fun (a3 a4 : Option Addr) (c3 c4 : Nat) (wx : World) h3 h4 h5 => eq_any a3 a4 (msg x []) (msg x []) c3 c4 wx h3 h4 h5 h5)
    rw [eqB_same] at HE
    obtain ⟨M3, hM3⟩ : ∃ M, M = msg x [] := ⟨_, rfl⟩
    rw [← hM3] at HM3 HG3 HJ2 HE
    have H3 := hide hM3
    clear hM3
    rw [HG3.out] at HM3 HJ2 HE
    obtain ⟨u, hu⟩ : ∃ u, u = (Lib.uvarint x).length := ⟨_, rfl⟩
    rw [← hu] at HM3 HDC HJ2 HE hu1 hup
    have HU := hide hu
    clear hu HG3
    have hb0 : Below w.heap.size w w := Below.refl _ _
    go_wp2_with fail
    refine (HM3.out w).mono ?_
    rintro e w3 ⟨v3, rfl, hown3, hb3⟩
    go_wp2_with fail
    refine (HM3.out w3).mono ?_
    rintro e w4 ⟨v4, rfl, hown4, hb4⟩
    have hb14 : Below w.heap.size w w4 := hb3.trans (hb4.mono hb3.size)
    have hown3 := own_below hown3 hb4
    go_wp2_with fail
    refine (HM3.out w4).mono ?_
    rintro e w5 ⟨v5, rfl, hown5, hb5⟩
    clear HM3
    have hb15 : Below w.heap.size w w5 := hb14.trans (hb5.mono hb14.size)
    have hown3 := own_below hown3 hb5
    have hown4 := own_below hown4 hb5
    obtain ⟨a3, c3, rfl, hc3⟩ := own_form hown3
    obtain ⟨a4, c4, rfl, hc4⟩ := own_form hown4
    obtain ⟨a5, c5, rfl, hc5⟩ := own_form hown5
    have R3 := hide (own_bytes hown3)
    have R4 := hide (own_bytes hown4)
    have R5 := hide (own_bytes hown5)
    have hm3 : (Lib.byteCells M3)[0]? = some (.int .u8 3) := by rw [H3.out]; exact msg_first _ _
    obtain ⟨g5, he5, hz5, hc5'⟩ : ∃ g, a5 = some ⟨g, 0, none⟩ ∧ w5.cell? ⟨g, 0, none⟩ = some (.int .u8 3) ∧ 1 + u ≤ c5 := by
      rcases hown5.2 with ⟨_, h⟩ | ⟨g, c, _, h, _, _, hle, _⟩
      · omega
      · simp at h
        obtain ⟨rfl, rfl⟩ := h
        exact ⟨g, rfl, by rw [hown5.cellAt 0 (by omega)]; exact hm3, hle⟩
    subst he5
    have HD5 := hide (show BytesAt w5 (some ⟨g5, 1, none⟩) (Lib.uvarint x) by
      have := R5.out.drop 1
      rw [H3.out, msg_rest, Nat.zero_add] at this
      exact this)
    have HDD := hide (HDC.out (some ⟨g5, 1, none⟩) (c5 - 1) w5 HD5.out)
    have HBW := hide (show Below w.heap.size w w5 from hb15)
    clear hown3 hown4 hown5 hb3 hb4 hb5 hb14 hb15 HD5 HDC hm3
    obtain ⟨m5, hm5⟩ : ∃ m, m = 1 + u := ⟨_, rfl⟩
    rw [← hm5] at HJ2 HE
    rw [← hm5]
    have hu5 : u = m5 - 1 := by omega
    have p5 : 2 ≤ m5 := by omega
    have p5' : m5 ≤ 11 := by omega
    have p5c : m5 ≤ c5 := by omega
    unfold maxLen at hc5 hc4 hc3
    rw [hu5, show ((m5 - 1 : Nat) : Int) = (m5 : Int) - 1 by omega] at HDD
    clear hm5 hu5 hc5' hu1 hup HU
    go_wp2_with fail
    refine HDD.out.mono ?_
    rintro e w' ⟨rfl, hw⟩
    have hw := hw.symm; subst hw
    clear HDD hz5
    go_wp2_with fail
    refine (HJ2.out a4 c4 w5 R4.out (by omega)).mono ?_
    rintro e w6 ⟨v6, rfl, hown6, hb6⟩
    obtain ⟨a6, c6, rfl, hc6⟩ := own_form hown6
    have R6 := hide (own_bytes hown6)
    have R36 := hide (R3.out.below hb6)
    have R56 := hide (R5.out.below hb6)
    have HB6 := hide (HBW.out.trans (hb6.mono HBW.out.size))
    have HE1 := hide (HE.out a3 a6 c3 c6 w6 R36.out R6.out (by unfold maxLen; omega))
    clear R3 R4 R5 HBW hown6 hb6 hc6 R6
    go_wp2_with fail
    refine HE1.out.mono ?_
    rintro e w' ⟨rfl, q7, rfl⟩
    have hq := below_drewN (Below.refl w6.heap.size w6) q7
    have HJ := hide (HJ2.out (some ⟨g5, 0, none⟩) c5 (w6.drewN q7) (R56.out.below hq) (by omega))
    clear HE1 HJ2 R56
    go_wp2_with fail
    refine HJ.out.mono ?_
    rintro e w8 ⟨v8, rfl, hown8, hb8⟩
    obtain ⟨a8, c8, rfl, hc8⟩ := own_form hown8
    have R8 := hide (own_bytes hown8)
    have R38 := hide ((R36.out.below hq).below hb8)
    have HE2 := hide (HE.out a3 a8 c3 c8 w8 R38.out R8.out (by unfold maxLen; omega))
    have HB8 := hide (show Below w.heap.size w w8 from (below_drewN HB6.out q7).trans (hb8.mono (below_drewN HB6.out q7).size))
    clear HJ hown8 hb8 hc8 R8 R38 HE hq HB6
    go_wp2_with fail
    refine HE2.out.mono ?_
    rintro e w' ⟨rfl, q9, rfl⟩
    go_wp2
    go_ret
    exact ⟨by simp, below_drewN HB8.out _⟩
  · go_enter Try.func4, Try.ntmps4
    go_wp2_with fail
    refine HBY.out.mono ?_
    rintro e w' ⟨⟨b, rfl⟩, hw⟩
    have hw := hw.symm; subst hw
    clear HBY
    cases b
    · go_wp2
      go_ret
      exact ⟨rfl, Below.refl _ _⟩
    · by_cases s2 : 0 ≤ cut
      · have s3 : 0 < cut := by omega
        clear hs
        go_wp2
        go_ret
        exact ⟨rfl, Below.refl _ _⟩
      · clear hs
        go_wp2
        go_ret
        exact ⟨rfl, Below.refl _ _⟩
end Go.Proofs.Qxb6614815a

/-
  THE WALK of FnBaseMessageTellsApartIncarnationAndBeat (5): first slice nil, second nil.
-/
import Derived.Test.Qxb6614815aMem
import Derived.WalkSmall
namespace Go.Proofs.Qxb6614815a
open Go.RowKit
set_option linter.unusedVariables false

set_option maxHeartbeats 4000000 in
set_option maxRecDepth 100000 in
theorem tells_none_none (x1 x2 : Nat) (hx1 : x1 < 18446744073709551616) (hx2 : x2 < 18446744073709551616)  (w : World) :
    Calls Try.prog 5 #[.int .u64 x1, .slice none 0 0, .int .u64 x2, .slice none 0 0] w fun e w' => e = .returned (.bool true) ∧ Below w.heap.size w w' := by
  obtain ⟨i0, hi, hz0, hz1, hz2⟩ := info_parts Try.info5
  have hniln : ∀ w, (binOp .neq 22 (.slice none 0 0) (.slice none 0 0)).run Try.prog w = .ok (.bool false) w := fun w => by simpa using run_neq_slice_nil_any w 22 5 none 0 0 0 0 Try.underlying22
  have HBY := hide (bytes12 x1 x2 none none 0 0 0 0 w (by decide) (by decide))
  go_enter Try.func5, Try.ntmps5
  go_wp2_with fail
  refine HBY.out.mono ?_
  rintro e w' ⟨⟨b, rfl⟩, hw⟩
  have hw := hw.symm; subst hw
  cases b
  · go_wp2
    go_ret
    exact ⟨rfl, Below.refl _ _⟩
  clear HBY
  have hbw : Below w.heap.size w w := Below.refl _ _
  have HF1 := hide (show BytesAt w none [] from (fun h => by simp at h))
  have HF2 := hide (show BytesAt w none [] from (fun h => by simp at h))
  have hd1 : ([] : List UInt8).length = 0 := rfl
  have hd2 : ([] : List UInt8).length = 0 := rfl
  have HM1 := hide (base8 x1 hx1 none [] 0 w HF1.out (fun _ => ⟨rfl, rfl⟩) (by rw [hd1]; omega))
  have HM2 := hide (fun (wx : World) (hb : Below w.heap.size w wx) => base8 x2 hx2 none [] 0 wx (HF2.out.below hb) (fun _ => ⟨rfl, rfl⟩) (by rw [hd2]; omega))
  have HE1 := hide (fun (wx : World) (hb : Below w.heap.size w wx) => eq_any none none [] [] 0 0 wx (HF1.out.below hb) (HF2.out.below hb) (by rw [hd1]; unfold maxLen; omega) (by rw [hd2]; unfold maxLen; omega))
  have HG1 := hide (msg_length x1 [])
  have HG2 := hide (msg_length x2 [])
  have HE2 := hide (fun (a3 a4 : Option Addr) (c3 c4 : Nat) (wx : World) h3 h4 h5 h6 => eq_any a3 a4 (msg x1 []) (msg x2 []) c3 c4 wx h3 h4 h5 h6)
  rw [hd1] at HM1 HG1 HE1
  rw [hd2] at HM2 HG2
  have hu1 := Lib.uvarint_length64 hx1
  have hu2 := Lib.uvarint_length64 hx2
  have HU1 := hide (fun wx => uvlen x1 hx1 wx)
  have HU2 := hide (fun wx => uvlen x2 hx2 wx)
  obtain ⟨u1, hue1⟩ : ∃ u, u = (Lib.uvarint x1).length := ⟨_, rfl⟩
  obtain ⟨u2, hue2⟩ : ∃ u, u = (Lib.uvarint x2).length := ⟨_, rfl⟩
  rw [← hue1] at hu1 HG1 HU1
  rw [← hue2] at hu2 HG2 HU2
  clear hue1 hue2 hd1 hd2
  obtain ⟨M1, hM1⟩ : ∃ M, M = msg x1 [] := ⟨_, rfl⟩
  obtain ⟨M2, hM2⟩ : ∃ M, M = msg x2 [] := ⟨_, rfl⟩
  rw [← hM1] at HM1 HG1 HE2
  rw [← hM2] at HM2 HG2 HE2
  have h31 : (Lib.byteCells M1)[0]? = some (.int .u8 3) := by rw [hM1]; exact msg_first _ _
  have h32 : (Lib.byteCells M2)[0]? = some (.int .u8 3) := by rw [hM2]; exact msg_first _ _
  have H31 := hide h31
  have H32 := hide h32
  have HX1 := hide hM1
  have HX2 := hide hM2
  clear hM1 hM2 h31 h32
  go_wp2_with fail
  refine HM1.out.mono ?_
  rintro e w3 ⟨v3, rfl, hown3, hb3⟩
  rw [HG1.out] at hown3
  go_wp2_with fail
  refine (HM2.out w3 hb3).mono ?_
  rintro e w4 ⟨v4, rfl, hown4, hb4⟩
  rw [HG2.out] at hown4
  have hb34 : Below w.heap.size w w4 := hb3.trans (hb4.mono hb3.size)
  have hown3 := own_below hown3 hb4
  obtain ⟨a3, c3, rfl, hc3⟩ := own_form hown3
  obtain ⟨a4, c4, rfl, hc4⟩ := own_form hown4
  have HY := hide (fun (wx : World) (hb : Below w4.heap.size w4 wx) => HE2.out a3 a4 c3 c4 wx ((own_bytes hown3).below hb) ((own_bytes hown4).below hb) (by rw [HG1.out]; unfold maxLen; omega) (by rw [HG2.out]; unfold maxLen; omega))
  rw [HG1.out, HG2.out] at HY
  have HZ := hide (HE1.out w4 hb34)
  obtain ⟨g3, he3, hz3⟩ : ∃ g, a3 = some ⟨g, 0, none⟩ ∧ w4.cell? ⟨g, 0, none⟩ = some (.int .u8 3) := by
    rcases hown3.2 with ⟨_, h⟩ | ⟨g, c, _, h, _⟩
    · omega
    · simp at h
      obtain ⟨rfl, rfl⟩ := h
      exact ⟨g, rfl, by rw [hown3.cellAt 0 (by omega)]; exact H31.out⟩
  obtain ⟨g4, he4, hz4⟩ : ∃ g, a4 = some ⟨g, 0, none⟩ ∧ w4.cell? ⟨g, 0, none⟩ = some (.int .u8 3) := by
    rcases hown4.2 with ⟨_, h⟩ | ⟨g, c, _, h, _⟩
    · omega
    · simp at h
      obtain ⟨rfl, rfl⟩ := h
      exact ⟨g, rfl, by rw [hown4.cellAt 0 (by omega)]; exact H32.out⟩
  subst he3 he4
  have HBW := hide (hbw.trans (hb34.mono hbw.size))
  clear hown3 hown4 HM1 HM2 HE1 HE2 HG1 HG2 hb3 hb4 hb34 HF1 HF2
  obtain ⟨m1, hm1⟩ : ∃ m, m = 1 + u1 + 0 := ⟨_, rfl⟩
  obtain ⟨m2, hm2⟩ : ∃ m, m = 1 + u2 + 0 := ⟨_, rfl⟩
  rw [← hm1, ← hm2] at HY
  rw [← hm1, ← hm2]
  have t1 : ((m1 : Int) != ((1 + (u1 : Int)))) = false := by simp; omega
  have t2 : ((m2 : Int) != ((1 + (u2 : Int)))) = false := by simp; omega
  have p1 : 0 < m1 := by omega
  have p2 : 0 < m2 := by omega
  have q1 : m1 ≤ 600000 := by omega
  have q2 : m2 ≤ 600000 := by omega
  clear hm1 hm2
  go_wp2_with fail
  refine (HU1.out w4).mono ?_
  rintro e w' ⟨rfl, hw⟩
  have hw := hw.symm; subst hw
  go_wp2_with fail
  refine (HU2.out w4).mono ?_
  rintro e w' ⟨rfl, hw⟩
  have hw := hw.symm; subst hw
  by_cases hxy : x1 = x2
  · have hs := msg_same (D := []) (E := []) hxy
    rw [← HX1.out, ← HX2.out] at hs
    rw [hs] at HY
    obtain ⟨r, hr⟩ : ∃ r, r = eqB [] [] := ⟨_, rfl⟩
    rw [← hr] at HY HZ
    clear hr hs
    subst hxy
    go_wp2_with fail
    refine HZ.out.mono ?_
    rintro e w' ⟨rfl, q5, rfl⟩
    go_wp2_with fail
    refine (HY.out _ (below_drewN (Below.refl _ _) q5)).mono ?_
    rintro e w' ⟨rfl, q6, rfl⟩
    go_wp2
    go_ret
    exact ⟨by simp, below_drewN HBW.out _⟩
  · have hs := msg_other (D := []) (E := []) hxy
    rw [← HX1.out, ← HX2.out] at hs
    rw [hs] at HY
    clear hs
    go_wp2_with fail
    refine (HY.out w4 (Below.refl _ _)).mono ?_
    rintro e w' ⟨rfl, q5, rfl⟩
    go_wp2
    go_ret
    exact ⟨by simp, below_drewN HBW.out _⟩
end Go.Proofs.Qxb6614815a

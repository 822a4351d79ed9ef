/-
  THE WALK of FnUnusedLeastFreeSuffix (3).
-/
import Derived.Test.Qxb6614694aDoorMem
import Derived.Test.Qxb6614694aDoorUnused
import Derived.Test.Qxb6614694aDoorBytes
import Derived.Test.Qxb6614694aDoorLaw2
import Derived.Test.Qxb6614694aDoorItoa2
namespace Go.Proofs.Qxb6614694aDoor
open Go.RowKit
set_option linter.unusedVariables false

set_option maxHeartbeats 4000000 in
set_option maxRecDepth 100000 in
theorem least_some (base : ByteArray) (ad : Addr) (cap : Nat) (L : List ByteArray) (w : World) (hl : L.length ≤ maxLen) (ha : StrsAt w (some ad) L)
    (htab : Lib.TabBelow Tryd.prog w.heap.size w "internal/strconv.uint64pow10" .u64 Lib.pow10Tab) :
    Calls Tryd.prog 3 #[.string base, .slice (some ad) L.length cap] w fun e w' => e = .returned (.bool true) ∧ Below w.heap.size w w' := by
  have hby := bytes5 base (some ad) cap L w hl ha
  have HAd := hide (fun z => add_any z (some ad) cap L w hl ha)
  obtain ⟨i0, hi, hz0, hz1, hz2⟩ := info_parts Tryd.info9
  have HA := hide ha
  have HT := hide htab
  clear ha htab
  obtain ⟨n, hn⟩ : ∃ n, n = L.length := ⟨_, rfl⟩
  have HN := hide hn
  rw [← hn] at hl hby HAd ⊢
  clear hn
  unfold maxLen at hl
  have hnil : ∀ w, (binOp .neq 22 (.slice (some ad) n cap) (.slice none 0 0)).run Tryd.prog w = .ok (.bool true) w := fun w => by simpa using run_neq_slice_nil_any w 22 9 (some ad) n cap 0 0 Tryd.underlying22
  go_enter Tryd.func3, Tryd.ntmps3
  go_wp2_with fail
  refine hby.mono ?_
  rintro e w' ⟨⟨b, rfl⟩, hw⟩
  have hw := hw.symm; subst hw
  cases b
  · go_wp2
    go_ret
    exact ⟨rfl, Below.refl _ _⟩
  clear hby
  by_cases hs : base.size ≤ 1048576 ∧ n ≤ 4096
  · obtain ⟨s1, s3⟩ := hs
    have s3' : L.length ≤ 4096 := by have := HN.out; omega
    go_wp2_with fail
    refine (HAd.out _).mono ?_
    rintro e w' ⟨⟨r, rfl⟩, hw⟩
    have hw := hw.symm; subst hw
    by_cases hr : r < 0
    · go_wp2
      go_ret
      exact ⟨rfl, Below.refl _ _⟩
    obtain ⟨cs, hcs⟩ : ∃ cs, cs = L.map Value.string := ⟨_, rfl⟩
    have hone : ∀ v ∈ cs, v.oneCell' = true := by rw [hcs]; exact one_strs L
    have hcsl : cs.length = n := by rw [hcs]; simp [HN.out]
    have HCS := hide hcs
    have HL := hide hcsl
    have HO := hide hone
    clear hcs hone hcsl
    go_wp2_with (at_make; refine wpList_make_full _ rfl _ _ 22 rfl w.heap.size 9 i0 _ 1 Tryd.underlying22 hi hz0 hz1 _ _ _ _ n rfl rfl rfl rfl ?b2 ?b3 ?b4 ?_)
    case b2 => rw [hz2]; omega
    case b3 => unfold maxLen; omega
    case b4 => exact Nat.le_refl _
    intro w1 hown1 hgr1
    have hb1 : Below w.heap.size w w1 := (Below.refl _ _).grown hgr1 (Nat.le_refl _) (fun k hk => by cases hk)
    obtain ⟨cur, hcl, hcb⟩ := made_block hown1
    have hA1 : StrsAt w1 (some ad) L := HA.out.below hb1
    have HS1 := hide (fun h => src_strs hA1 h)
    rw [← HCS.out] at HS1
    have HC := hide hcl
    clear hown1 hgr1 hA1 hcl
    go_wp2_with (refine wpList_copy_splice rfl (.tmp 37) (.tmp 38) 22 22 rfl 9 Tryd.underlying22 Tryd.one9 _ _ _ _ _ _ rfl rfl w.heap.size 0 cur 9 hcb cs ?c1 (by exact fun h => ⟨rfl, HS1.out h⟩) ?c3 HO.out w.heap.size w hb1 (Nat.le_refl _) ?_)
    case c1 => rw [HL.out]; simp
    case c3 => rw [HL.out, HC.out]; simp
    intro w2 HG2 hb2
    have hA2 : StrsAt w2 (some ⟨w.heap.size, 0, none⟩) L := strs_of_block (rest := []) (by rw [List.append_nil, ← HCS.out]; have := HG2.out; rw [splice_full cur cs (by rw [HC.out, HL.out])] at this; exact this)
    clear hcb HG2 hb1
    have HT2 := hide (fun w' (hb' : Below w2.heap.size w2 w') => HT.out w' (hb2.trans (hb'.mono hb2.size)))
    have HU1 := hide (unusedIn_any base (some ⟨w.heap.size, 0, none⟩) n L w2 (by have := HN.out; omega) (by omega) hA2 HT2.out)
    rw [← HN.out] at HU1
    have HS2 := hide (fun (wx : World) (hbx : Below w2.heap.size w2 wx) h => src_strs (hA2.below hbx) h)
    rw [← HCS.out] at HS2
    have HH1 := hide (fun (s : ByteArray) (wx : World) (hbx : Below w2.heap.size w2 wx) => has_any s (some ⟨w.heap.size, 0, none⟩) n L wx (by have := HN.out; unfold maxLen; omega) (hA2.below hbx))
    rw [← HN.out] at HH1
    clear hA2
    go_wp2_with fail
    refine HU1.out.mono ?_
    rintro e w3 ⟨k1, hk1, rfl, hb3⟩
    have hkl : k1 ≤ 4096 := Nat.le_trans hk1.1 s3'
    obtain ⟨R1, hR1⟩ : ∃ R1, R1 = nm base k1 := ⟨_, rfl⟩
    rw [← hR1]
    have HR1 := hide hR1
    have HK1 := hide hk1
    have hbw3 : Below w.heap.size w w3 := hb2.trans (hb3.mono hb2.size)
    have HX1 := hide (index_nm base k1 w3 (by omega) (by omega))
    have Q1 := hide (HH1.out R1 w3 hb3)
    rw [hR1, least_free hk1, ← hR1] at Q1
    rw [← hR1] at HX1
    have Q2 := hide (HH1.out base w3 hb3)
    rw [least_base hk1] at Q2
    clear hR1 hk1 HU1
    go_wp2_with fail
    refine HX1.out.mono ?_
    rintro e w' ⟨rfl, hw⟩
    have hw := hw.symm; subst hw
    go_wp2_with fail
    refine Q1.out.mono ?_
    rintro e w' ⟨rfl, hw⟩
    have hw := hw.symm; subst hw
    go_wp2_with fail
    refine Q2.out.mono ?_
    rintro e w' ⟨rfl, hw⟩
    have hw := hw.symm; subst hw
    obtain ⟨bz, hbz⟩ : ∃ bz : Bool, ((k1 : Int) == 0) = bz := ⟨_, rfl⟩
    have HBZ := hide hbz
    cases bz
    all_goals go_wp2
    all_goals
      go_loopw [9] (fun vj wr => ∃ j : Nat, 1 ≤ j ∧ j ≤ 5000 ∧ vj = .int .i64 j ∧ Below w3.heap.size w3 wr) (fun vj _ => 6000 - (intOf vj).toNat)
      case atStart => exact ⟨1, Nat.le_refl _, by omega, by go_num, Below.refl _ _⟩
      case round =>
        obtain ⟨j, hj1, hj5, rfl, hbr⟩ := hrel
        by_cases hjk : j < k1
        · obtain ⟨t, ht⟩ : ∃ t : ByteArray, t = ⟨(Lib.decDigits j).toArray⟩ := ⟨_, rfl⟩
          have hts : t.size ≤ 6 := by
            have := dec_len j (by omega)
            rw [ht]
            simpa [ByteArray.size] using this
          have HI := hide (itoa_any j wr (by omega) (by omega))
          rw [← ht] at HI
          have HNm := hide (show nm base j = base ++ t by rw [nm_succ _ _ (by omega), itoa_nat, ht])
          have HTk := hide (least_taken HK1.out hjk)
          rw [HNm.out] at HTk
          clear ht
          go_wp2_with fail
          refine HI.out.mono ?_
          rintro e w' ⟨rfl, hbi⟩
          have hbr2 : Below w3.heap.size w3 w' := hbr.trans (hbi.mono hbr.size)
          have Q4 := hide (HH1.out (base ++ t) w' (hb3.trans (hbr2.mono hb3.size)))
          rw [HTk.out] at Q4
          clear hbi hbr HI
          go_wp2_with fail
          refine Q4.out.mono ?_
          rintro e w'' ⟨rfl, hw⟩
          have hw := hw.symm; subst hw
          go_wp2
          go_roundw
          case rel => first | exact ⟨j + 1, by omega, by omega, by go_num, hbr2⟩ | ((repeat apply Exists.intro); refine ⟨?_, rfl⟩; exact ⟨j + 1, by omega, by omega, by go_num, hbr2⟩)
          case measure => simp [intOf]; omega
        · obtain ⟨w3', hw3'⟩ : ∃ x, x = wr := ⟨_, rfl⟩
          subst hw3'
          have hb3' : Below w2.heap.size w2 w3' := hb3.trans (hbr.mono hb3.size)
          have hbw3' : Below w.heap.size w w3' := hb2.trans (hb3'.mono hb2.size)
          clear hj1 hj5 hbr Q1 Q2 HX1
          go_wp2_with (at_make; refine wpList_make_full _ rfl _ _ 22 rfl w3'.heap.size 9 i0 _ 1 Tryd.underlying22 hi hz0 hz1 _ _ _ _ (n + 1) rfl rfl (by omega) (by omega) ?d2 ?d3 ?d4 ?_)
          case d2 => rw [hz2]; omega
          case d3 => unfold maxLen; omega
          case d4 => exact Nat.le_refl _
          intro w4 hown4 hgr4
          have hb4 : Below w3'.heap.size w3' w4 := (Below.refl _ _).grown hgr4 (Nat.le_refl _) (fun k hk => by cases hk)
          obtain ⟨cur4, hcl4, hcb4⟩ := made_block hown4
          have HC4 := hide hcl4
          have hb24 : Below w2.heap.size w2 w4 := hb3'.trans (hb4.mono hb3'.size)
          have HS4 := hide (HS2.out w4 hb24)
          clear hown4 hgr4 hcl4
          go_wp2_with (refine wpList_copy_splice rfl (.tmp 79) (.tmp 80) 22 22 rfl 9 Tryd.underlying22 Tryd.one9 _ _ _ _ _ _ rfl rfl w3'.heap.size 0 cur4 9 hcb4 cs ?e1 (by exact fun h => ⟨rfl, HS4.out h⟩) ?e3 HO.out w3'.heap.size w3' hb4 (Nat.le_refl _) ?_)
          case e1 => rw [HL.out]; simp
          case e3 => rw [HL.out, HC4.out]; simp
          intro w5 HG5 hb5
          obtain ⟨v5, hv5⟩ := splice_more cur4 cs (by rw [HC4.out, HL.out])
          have HB5 := hide (show w5.heap[w3'.heap.size]? = some (.cells (L.map Value.string ++ [v5]).toArray 9 (0, 0)) by rw [← HCS.out, ← hv5]; exact HG5.out)
          have hc5 : w5.cell? ⟨w3'.heap.size, n, none⟩ = some v5 := by
            rw [cell_of_row w5 _ _ _ 9 (0, 0) HB5.out, HN.out]; simp
          have hf5 : w5.frozen? ⟨w3'.heap.size, n, none⟩ = false := by
            simp [World.frozen?, HB5.out]
          have HV5 := hide hv5
          clear hv5 hcb4 HG5
          have hA6 : StrsAt (w5.setCell ⟨w3'.heap.size, n, none⟩ (.string R1)) (some ⟨w3'.heap.size, 0, none⟩) (L ++ [R1]) := by
            have := strs_snoc R1 HB5.out
            rw [← HN.out] at this
            exact this
          have hb6 : Below w3'.heap.size w3' (w5.setCell ⟨w3'.heap.size, n, none⟩ (.string R1)) := hb5.setCell (Nat.le_refl _) _
          obtain ⟨w6, hw6⟩ : ∃ w6, w6 = w5.setCell ⟨w3'.heap.size, n, none⟩ (.string R1) := ⟨_, rfl⟩
          rw [← hw6] at hA6 hb6
          have hbw6 : Below w.heap.size w w6 := hbw3'.trans (hb6.mono hbw3'.size)
          have hb26 : Below w2.heap.size w2 w6 := hb3'.trans (hb6.mono hb3'.size)
          have hlen6 : (L ++ [R1]).length = n + 1 := by simp [HN.out]
          have HU2 := hide (unusedIn_any base (some ⟨w3'.heap.size, 0, none⟩) (n + 1) (L ++ [R1]) w6 (by omega) (by omega) hA6 (fun w' hb' => HT.out w' (hbw6.trans (hb'.mono hbw6.size))))
          have HH2 := hide (fun (s : ByteArray) (wx : World) (hbx : Below w6.heap.size w6 wx) => has_any s (some ⟨w3'.heap.size, 0, none⟩) (n + 1) (L ++ [R1]) wx (by unfold maxLen; omega) (hA6.below hbx))
          rw [hlen6] at HU2 HH2
          have HW6 := hide hw6
          have HL6 := hide hlen6
          clear hA6 hw6 hlen6
          go_wp2_with fail
          rw [← HW6.out]
          refine HU2.out.mono ?_
          rintro e w7 ⟨k2, hk2, rfl, hb7⟩
          have hk2l : k2 ≤ 4097 := by have := hk2.1; have := HL6.out; omega
          obtain ⟨R2, hR2⟩ : ∃ R2, R2 = nm base k2 := ⟨_, rfl⟩
          rw [← hR2]
          have HX2 := hide (index_nm base k2 w7 (by omega) (by omega))
          have Q3 := hide (HH2.out R2 w7 hb7)
          rw [hR2, least_free hk2, ← hR2] at Q3
          rw [← hR2] at HX2
          rw [HR1.out] at hk2
          have hk12 : k1 < k2 := least_lt HK1.out hk2
          have HK2 := hide hk2
          have hkd : decide (k2 ≤ k1) = false := decide_eq_false (by omega)
          have hbw7 : Below w.heap.size w w7 := hbw6.trans (hb7.mono hbw6.size)
          have hb27 : Below w2.heap.size w2 w7 := hb26.trans (hb7.mono hb26.size)
          clear hR2 hk2 HU2 HH2 HS1 HS2 HS4 HV5 HC HC4 HL HO HCS HB5 hc5 hf5 hb26 hb24 hb5 hb4 hb6 hbw6 hbw3' hb3' hb7 HW6
          go_wp2_with fail
          refine HX2.out.mono ?_
          rintro e w' ⟨rfl, hw⟩
          have hw := hw.symm; subst hw
          go_wp2_with fail
          refine Q3.out.mono ?_
          rintro e w' ⟨rfl, hw⟩
          have hw := hw.symm; subst hw
          clear Q3 HX2
          go_wp2
          go_loopw [14] (fun vj wr => ∃ j : Nat, k1 + 1 ≤ j ∧ j ≤ 5000 ∧ vj = .int .i64 j ∧ Below w7.heap.size w7 wr) (fun vj _ => 6000 - (intOf vj).toNat)
          case atStart => exact ⟨k1 + 1, Nat.le_refl _, by omega, by go_num, Below.refl _ _⟩
          case round =>
            obtain ⟨j, hj1, hj5, rfl, hbr⟩ := hrel
            by_cases hjk : j < k2
            · obtain ⟨t, ht⟩ : ∃ t : ByteArray, t = ⟨(Lib.decDigits j).toArray⟩ := ⟨_, rfl⟩
              have hts : t.size ≤ 6 := by
                have := dec_len j (by omega)
                rw [ht]
                simpa [ByteArray.size] using this
              have HI := hide (itoa_any j wr (by omega) (by omega))
              rw [← ht] at HI
              have HNm := hide (show nm base j = base ++ t by rw [nm_succ _ _ (by omega), itoa_nat, ht])
              have HTk := hide (least_between HK2.out (by omega) hjk)
              rw [HNm.out] at HTk
              clear ht
              go_wp2_with fail
              refine HI.out.mono ?_
              rintro e w' ⟨rfl, hbi⟩
              have hbr2 : Below w7.heap.size w7 w' := hbr.trans (hbi.mono hbr.size)
              have Q4 := hide (HH1.out (base ++ t) w' (hb27.trans (hbr2.mono hb27.size)))
              rw [HTk.out] at Q4
              clear hbi hbr HI
              go_wp2_with fail
              refine Q4.out.mono ?_
              rintro e w'' ⟨rfl, hw⟩
              have hw := hw.symm; subst hw
              go_wp2
              go_roundw
              case rel => first | exact ⟨j + 1, by omega, by omega, by go_num, hbr2⟩ | ((repeat apply Exists.intro); refine ⟨?_, rfl⟩; exact ⟨j + 1, by omega, by omega, by go_num, hbr2⟩)
              case measure => simp [intOf]; omega
            · go_wp2
              go_ret
              exact ⟨rfl, hbw7.trans (hbr.mono hbw7.size)⟩
  · go_wp2
    all_goals (go_ret; exact ⟨rfl, Below.refl _ _⟩)

set_option maxHeartbeats 4000000 in
set_option maxRecDepth 100000 in
theorem least_nil (base : ByteArray) (cap : Nat) (L : List ByteArray) (w : World) (hl : L.length ≤ maxLen) (ha : StrsAt w (none) L)
    (htab : Lib.TabBelow Tryd.prog w.heap.size w "internal/strconv.uint64pow10" .u64 Lib.pow10Tab) :
    Calls Tryd.prog 3 #[.string base, .slice (none) L.length cap] w fun e w' => e = .returned (.bool true) ∧ Below w.heap.size w w' := by
  have hby := bytes5 base (none) cap L w hl ha
  have HAd := hide (fun z => add_any z (none) cap L w hl ha)
  obtain ⟨i0, hi, hz0, hz1, hz2⟩ := info_parts Tryd.info9
  have HA := hide ha
  have HT := hide htab
  clear ha htab
  obtain ⟨n, hn⟩ : ∃ n, n = L.length := ⟨_, rfl⟩
  have HN := hide hn
  rw [← hn] at hl hby HAd ⊢
  clear hn
  unfold maxLen at hl
  have hnil : ∀ w, (binOp .neq 22 (.slice (none) n cap) (.slice none 0 0)).run Tryd.prog w = .ok (.bool false) w := fun w => by simpa using run_neq_slice_nil_any w 22 9 (none) n cap 0 0 Tryd.underlying22
  go_enter Tryd.func3, Tryd.ntmps3
  go_wp2_with fail
  refine hby.mono ?_
  rintro e w' ⟨⟨b, rfl⟩, hw⟩
  have hw := hw.symm; subst hw
  cases b
  · go_wp2
    go_ret
    exact ⟨rfl, Below.refl _ _⟩
  clear hby
  by_cases hs : base.size ≤ 1048576 ∧ n ≤ 4096
  · obtain ⟨s1, s3⟩ := hs
    have s3' : L.length ≤ 4096 := by have := HN.out; omega
    go_wp2_with fail
    refine (HAd.out _).mono ?_
    rintro e w' ⟨⟨r, rfl⟩, hw⟩
    have hw := hw.symm; subst hw
    by_cases hr : r < 0
    · go_wp2
      go_ret
      exact ⟨rfl, Below.refl _ _⟩
    obtain ⟨cs, hcs⟩ : ∃ cs, cs = L.map Value.string := ⟨_, rfl⟩
    have hone : ∀ v ∈ cs, v.oneCell' = true := by rw [hcs]; exact one_strs L
    have hcsl : cs.length = n := by rw [hcs]; simp [HN.out]
    have HCS := hide hcs
    have HL := hide hcsl
    have HO := hide hone
    clear hcs hone hcsl
    have hb2 : Below w.heap.size w w := Below.refl _ _
    have hA2 : StrsAt w none L := HA.out
    have HS1 := hide True.intro
    have HC := hide True.intro
    have HT2 := hide (fun w' (hb' : Below w.heap.size w w') => HT.out w' (hb2.trans (hb'.mono hb2.size)))
    have HU1 := hide (unusedIn_any base none cap L w (by have := HN.out; omega) (by omega) hA2 HT2.out)
    rw [← HN.out] at HU1
    have HS2 := hide (fun (wx : World) (hbx : Below w.heap.size w wx) h => src_strs (hA2.below hbx) h)
    rw [← HCS.out] at HS2
    have HH1 := hide (fun (s : ByteArray) (wx : World) (hbx : Below w.heap.size w wx) => has_any s none cap L wx (by have := HN.out; unfold maxLen; omega) (hA2.below hbx))
    rw [← HN.out] at HH1
    clear hA2
    go_wp2_with fail
    refine HU1.out.mono ?_
    rintro e w3 ⟨k1, hk1, rfl, hb3⟩
    have hkl : k1 ≤ 4096 := Nat.le_trans hk1.1 s3'
    obtain ⟨R1, hR1⟩ : ∃ R1, R1 = nm base k1 := ⟨_, rfl⟩
    rw [← hR1]
    have HR1 := hide hR1
    have HK1 := hide hk1
    have hbw3 : Below w.heap.size w w3 := hb2.trans (hb3.mono hb2.size)
    have HX1 := hide (index_nm base k1 w3 (by omega) (by omega))
    have Q1 := hide (HH1.out R1 w3 hb3)
    rw [hR1, least_free hk1, ← hR1] at Q1
    rw [← hR1] at HX1
    have Q2 := hide (HH1.out base w3 hb3)
    rw [least_base hk1] at Q2
    clear hR1 hk1 HU1
    go_wp2_with fail
    refine HX1.out.mono ?_
    rintro e w' ⟨rfl, hw⟩
    have hw := hw.symm; subst hw
    go_wp2_with fail
    refine Q1.out.mono ?_
    rintro e w' ⟨rfl, hw⟩
    have hw := hw.symm; subst hw
    go_wp2_with fail
    refine Q2.out.mono ?_
    rintro e w' ⟨rfl, hw⟩
    have hw := hw.symm; subst hw
    obtain ⟨bz, hbz⟩ : ∃ bz : Bool, ((k1 : Int) == 0) = bz := ⟨_, rfl⟩
    have HBZ := hide hbz
    cases bz
    all_goals go_wp2
    all_goals
      go_loopw [9] (fun vj wr => ∃ j : Nat, 1 ≤ j ∧ j ≤ 5000 ∧ vj = .int .i64 j ∧ Below w3.heap.size w3 wr) (fun vj _ => 6000 - (intOf vj).toNat)
      case atStart => exact ⟨1, Nat.le_refl _, by omega, by go_num, Below.refl _ _⟩
      case round =>
        obtain ⟨j, hj1, hj5, rfl, hbr⟩ := hrel
        by_cases hjk : j < k1
        · obtain ⟨t, ht⟩ : ∃ t : ByteArray, t = ⟨(Lib.decDigits j).toArray⟩ := ⟨_, rfl⟩
          have hts : t.size ≤ 6 := by
            have := dec_len j (by omega)
            rw [ht]
            simpa [ByteArray.size] using this
          have HI := hide (itoa_any j wr (by omega) (by omega))
          rw [← ht] at HI
          have HNm := hide (show nm base j = base ++ t by rw [nm_succ _ _ (by omega), itoa_nat, ht])
          have HTk := hide (least_taken HK1.out hjk)
          rw [HNm.out] at HTk
          clear ht
          go_wp2_with fail
          refine HI.out.mono ?_
          rintro e w' ⟨rfl, hbi⟩
          have hbr2 : Below w3.heap.size w3 w' := hbr.trans (hbi.mono hbr.size)
          have Q4 := hide (HH1.out (base ++ t) w' (hb3.trans (hbr2.mono hb3.size)))
          rw [HTk.out] at Q4
          clear hbi hbr HI
          go_wp2_with fail
          refine Q4.out.mono ?_
          rintro e w'' ⟨rfl, hw⟩
          have hw := hw.symm; subst hw
          go_wp2
          go_roundw
          case rel => first | exact ⟨j + 1, by omega, by omega, by go_num, hbr2⟩ | ((repeat apply Exists.intro); refine ⟨?_, rfl⟩; exact ⟨j + 1, by omega, by omega, by go_num, hbr2⟩)
          case measure => simp [intOf]; omega
        · obtain ⟨w3', hw3'⟩ : ∃ x, x = wr := ⟨_, rfl⟩
          subst hw3'
          have hb3' : Below w.heap.size w w3' := hb3.trans (hbr.mono hb3.size)
          have hbw3' : Below w.heap.size w w3' := hb2.trans (hb3'.mono hb2.size)
          clear hj1 hj5 hbr Q1 Q2 HX1
          go_wp2_with (at_make; refine wpList_make_full _ rfl _ _ 22 rfl w3'.heap.size 9 i0 _ 1 Tryd.underlying22 hi hz0 hz1 _ _ _ _ (n + 1) rfl rfl (by omega) (by omega) ?d2 ?d3 ?d4 ?_)
          case d2 => rw [hz2]; omega
          case d3 => unfold maxLen; omega
          case d4 => exact Nat.le_refl _
          intro w4 hown4 hgr4
          have hb4 : Below w3'.heap.size w3' w4 := (Below.refl _ _).grown hgr4 (Nat.le_refl _) (fun k hk => by cases hk)
          obtain ⟨cur4, hcl4, hcb4⟩ := made_block hown4
          have HC4 := hide hcl4
          have hb24 : Below w.heap.size w w4 := hb3'.trans (hb4.mono hb3'.size)
          have HS4 := hide (HS2.out w4 hb24)
          clear hown4 hgr4 hcl4
          go_wp2_with (refine wpList_copy_splice rfl (.tmp 79) (.tmp 80) 22 22 rfl 9 Tryd.underlying22 Tryd.one9 _ _ _ _ _ _ rfl rfl w3'.heap.size 0 cur4 9 hcb4 cs ?e1 (by exact fun h => ⟨rfl, HS4.out h⟩) ?e3 HO.out w3'.heap.size w3' hb4 (Nat.le_refl _) ?_)
          case e1 => rw [HL.out]; simp
          case e3 => rw [HL.out, HC4.out]; simp
          intro w5 HG5 hb5
          obtain ⟨v5, hv5⟩ := splice_more cur4 cs (by rw [HC4.out, HL.out])
          have HB5 := hide (show w5.heap[w3'.heap.size]? = some (.cells (L.map Value.string ++ [v5]).toArray 9 (0, 0)) by rw [← HCS.out, ← hv5]; exact HG5.out)
          have hc5 : w5.cell? ⟨w3'.heap.size, n, none⟩ = some v5 := by
            rw [cell_of_row w5 _ _ _ 9 (0, 0) HB5.out, HN.out]; simp
          have hf5 : w5.frozen? ⟨w3'.heap.size, n, none⟩ = false := by
            simp [World.frozen?, HB5.out]
          have HV5 := hide hv5
          clear hv5 hcb4 HG5
          have hA6 : StrsAt (w5.setCell ⟨w3'.heap.size, n, none⟩ (.string R1)) (some ⟨w3'.heap.size, 0, none⟩) (L ++ [R1]) := by
            have := strs_snoc R1 HB5.out
            rw [← HN.out] at this
            exact this
          have hb6 : Below w3'.heap.size w3' (w5.setCell ⟨w3'.heap.size, n, none⟩ (.string R1)) := hb5.setCell (Nat.le_refl _) _
          obtain ⟨w6, hw6⟩ : ∃ w6, w6 = w5.setCell ⟨w3'.heap.size, n, none⟩ (.string R1) := ⟨_, rfl⟩
          rw [← hw6] at hA6 hb6
          have hbw6 : Below w.heap.size w w6 := hbw3'.trans (hb6.mono hbw3'.size)
          have hb26 : Below w.heap.size w w6 := hb3'.trans (hb6.mono hb3'.size)
          have hlen6 : (L ++ [R1]).length = n + 1 := by simp [HN.out]
          have HU2 := hide (unusedIn_any base (some ⟨w3'.heap.size, 0, none⟩) (n + 1) (L ++ [R1]) w6 (by omega) (by omega) hA6 (fun w' hb' => HT.out w' (hbw6.trans (hb'.mono hbw6.size))))
          have HH2 := hide (fun (s : ByteArray) (wx : World) (hbx : Below w6.heap.size w6 wx) => has_any s (some ⟨w3'.heap.size, 0, none⟩) (n + 1) (L ++ [R1]) wx (by unfold maxLen; omega) (hA6.below hbx))
          rw [hlen6] at HU2 HH2
          have HW6 := hide hw6
          have HL6 := hide hlen6
          clear hA6 hw6 hlen6
          go_wp2_with fail
          rw [← HW6.out]
          refine HU2.out.mono ?_
          rintro e w7 ⟨k2, hk2, rfl, hb7⟩
          have hk2l : k2 ≤ 4097 := by have := hk2.1; have := HL6.out; omega
          obtain ⟨R2, hR2⟩ : ∃ R2, R2 = nm base k2 := ⟨_, rfl⟩
          rw [← hR2]
          have HX2 := hide (index_nm base k2 w7 (by omega) (by omega))
          have Q3 := hide (HH2.out R2 w7 hb7)
          rw [hR2, least_free hk2, ← hR2] at Q3
          rw [← hR2] at HX2
          rw [HR1.out] at hk2
          have hk12 : k1 < k2 := least_lt HK1.out hk2
          have HK2 := hide hk2
          have hkd : decide (k2 ≤ k1) = false := decide_eq_false (by omega)
          have hbw7 : Below w.heap.size w w7 := hbw6.trans (hb7.mono hbw6.size)
          have hb27 : Below w.heap.size w w7 := hb26.trans (hb7.mono hb26.size)
          clear hR2 hk2 HU2 HH2 HS1 HS2 HS4 HV5 HC HC4 HL HO HCS HB5 hc5 hf5 hb26 hb24 hb5 hb4 hb6 hbw6 hbw3' hb3' hb7 HW6
          go_wp2_with fail
          refine HX2.out.mono ?_
          rintro e w' ⟨rfl, hw⟩
          have hw := hw.symm; subst hw
          go_wp2_with fail
          refine Q3.out.mono ?_
          rintro e w' ⟨rfl, hw⟩
          have hw := hw.symm; subst hw
          clear Q3 HX2
          go_wp2
          go_loopw [14] (fun vj wr => ∃ j : Nat, k1 + 1 ≤ j ∧ j ≤ 5000 ∧ vj = .int .i64 j ∧ Below w7.heap.size w7 wr) (fun vj _ => 6000 - (intOf vj).toNat)
          case atStart => exact ⟨k1 + 1, Nat.le_refl _, by omega, by go_num, Below.refl _ _⟩
          case round =>
            obtain ⟨j, hj1, hj5, rfl, hbr⟩ := hrel
            by_cases hjk : j < k2
            · obtain ⟨t, ht⟩ : ∃ t : ByteArray, t = ⟨(Lib.decDigits j).toArray⟩ := ⟨_, rfl⟩
              have hts : t.size ≤ 6 := by
                have := dec_len j (by omega)
                rw [ht]
                simpa [ByteArray.size] using this
              have HI := hide (itoa_any j wr (by omega) (by omega))
              rw [← ht] at HI
              have HNm := hide (show nm base j = base ++ t by rw [nm_succ _ _ (by omega), itoa_nat, ht])
              have HTk := hide (least_between HK2.out (by omega) hjk)
              rw [HNm.out] at HTk
              clear ht
              go_wp2_with fail
              refine HI.out.mono ?_
              rintro e w' ⟨rfl, hbi⟩
              have hbr2 : Below w7.heap.size w7 w' := hbr.trans (hbi.mono hbr.size)
              have Q4 := hide (HH1.out (base ++ t) w' (hb27.trans (hbr2.mono hb27.size)))
              rw [HTk.out] at Q4
              clear hbi hbr HI
              go_wp2_with fail
              refine Q4.out.mono ?_
              rintro e w'' ⟨rfl, hw⟩
              have hw := hw.symm; subst hw
              go_wp2
              go_roundw
              case rel => first | exact ⟨j + 1, by omega, by omega, by go_num, hbr2⟩ | ((repeat apply Exists.intro); refine ⟨?_, rfl⟩; exact ⟨j + 1, by omega, by omega, by go_num, hbr2⟩)
              case measure => simp [intOf]; omega
            · go_wp2
              go_ret
              exact ⟨rfl, hbw7.trans (hbr.mono hbw7.size)⟩
  · go_wp2
    all_goals (go_ret; exact ⟨rfl, Below.refl _ _⟩)
end Go.Proofs.Qxb6614694aDoor

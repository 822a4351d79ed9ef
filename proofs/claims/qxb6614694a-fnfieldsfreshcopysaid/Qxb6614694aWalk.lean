/-
  THE WALK of FnFieldsFreshCopy (3).
-/
import Derived.Test.Qxb6614694aPlain
import Derived.Test.Qxb6614694aFit
namespace Go.Proofs.Qxb6614694a
open Go.RowKit
set_option linter.unusedVariables false

def IntsAt (w : World) (a : Option Addr) (len : Nat) (zs : List Int) : Prop :=
  0 < len → ∃ b off, a = some ⟨b, off, none⟩ ∧ b < w.heap.size ∧ ∀ k, k < len → w.cell? ⟨b, off + k, none⟩ = some (.int .i64 (zs.getD k 0))

/-- Cells of the arguments, carried. -/
theorem StrsAt.at {w w' : World} {a : Option Addr} {len : Nat} {ss : List ByteArray} (h : StrsAt w a len ss) (hb : Below w.heap.size w w') {k : Nat} (hk : k < len) :
    ∃ b off, a = some ⟨b, off, none⟩ ∧ b < w.heap.size ∧ w'.cell? ⟨b, off + k, none⟩ = some (.string (ss.getD k ByteArray.empty)) := by
  obtain ⟨b, off, ha, hlt, hc⟩ := h (by omega)
  exact ⟨b, off, ha, hlt, (hb.cell (p := ⟨b, off + k, none⟩) hlt).trans (hc k hk)⟩
theorem IntsAt.at {w w' : World} {a : Option Addr} {len : Nat} {zs : List Int} (h : IntsAt w a len zs) (hb : Below w.heap.size w w') {k : Nat} (hk : k < len) :
    ∃ b off, a = some ⟨b, off, none⟩ ∧ b < w.heap.size ∧ w'.cell? ⟨b, off + k, none⟩ = some (.int .i64 (zs.getD k 0)) := by
  obtain ⟨b, off, ha, hlt, hc⟩ := h (by omega)
  exact ⟨b, off, ha, hlt, (hb.cell (p := ⟨b, off + k, none⟩) hlt).trans (hc k hk)⟩

theorem own_form {w : World} {B e z n : Nat} {v : Value} {xs : List Value} (h : w.ownsRow B e z v n xs) : ∃ a c, v = .slice a n c := by
  rcases h.2 with ⟨h1, h2⟩ | ⟨g, cap, cur, h1, _⟩
  · subst h2; exact ⟨_, _, h1⟩
  · exact ⟨_, _, h1⟩

theorem own_below {w w' : World} {B e z n : Nat} {v : Value} {xs : List Value} (h : w.ownsRow B e z v n xs) (hb : Below w.heap.size w w') : w'.ownsRow B e z v n xs := by
  refine ⟨h.1, ?_⟩
  rcases h.2 with h1 | ⟨g, cap, cur, h1, h2, h3, h4⟩
  · exact .inl h1
  · exact .inr ⟨g, cap, cur, h1, h2, by rw [hb.block g (Array.getElem?_eq_some_iff.1 h3).1]; exact h3, h4⟩

theorem want_at (a0 a1 a2 a3 a4 a5 : Option Addr) (n0 n3 c0 c1 c2 c3 c4 c5 k : Nat) (s0 s1 s3 s4 : List ByteArray) (z2 z5 : List Int) (w wx : World) (g0 : n0 ≤ 4096) (g3 : n3 ≤ 4096)
    (h0 : StrsAt w a0 n0 s0) (h1 : StrsAt w a1 n0 s1) (h2 : IntsAt w a2 n0 z2) (h3 : StrsAt w a3 n3 s3) (h4 : StrsAt w a4 n3 s4) (h5 : IntsAt w a5 n3 z5) (hk : k < n0 + n3) (hb : Below w.heap.size w wx) :
    Calls Try.prog 12 #[.int .i64 k, .slice a0 n0 c0, .slice a1 n0 c1, .slice a2 n0 c2, .slice a3 n3 c3, .slice a4 n3 c4, .slice a5 n3 c5] wx
      fun e w' => e = .returned (.tuple #[.string (fo s0 s1 z2 n0 s3 s4 z5 k).1, .string (fo s0 s1 z2 n0 s3 s4 z5 k).2.1, .int .i64 (fo s0 s1 z2 n0 s3 s4 z5 k).2.2]) ∧ ∃ q, w' = wx.drewN q := by
  by_cases hlt : k < n0
  · obtain ⟨b0, o0, rfl, hl0, q0⟩ := StrsAt.at h0 hb hlt
    obtain ⟨b1, o1, rfl, hl1, q1⟩ := StrsAt.at h1 hb hlt
    obtain ⟨b2, o2, rfl, hl2, q2⟩ := IntsAt.at h2 hb hlt
    have e : fo s0 s1 z2 n0 s3 s4 z5 k = (s0.getD k ByteArray.empty, s1.getD k ByteArray.empty, z2.getD k 0) := by unfold fo; rw [if_pos hlt]
    rw [e]
    exact want_step k n0 b0 o0 c0 b1 o1 c1 b2 o2 c2 _ _ _ _ _ _ wx hlt (by omega) q0 q1 q2
  · have hlt' : k - n0 < n3 := by omega
    obtain ⟨b0, o0, rfl, hl0, q0⟩ := StrsAt.at h3 hb hlt'
    obtain ⟨b1, o1, rfl, hl1, q1⟩ := StrsAt.at h4 hb hlt'
    obtain ⟨b2, o2, rfl, hl2, q2⟩ := IntsAt.at h5 hb hlt'
    have e : fo s0 s1 z2 n0 s3 s4 z5 k = (s3.getD (k - n0) ByteArray.empty, s4.getD (k - n0) ByteArray.empty, z5.getD (k - n0) 0) := by unfold fo; rw [if_neg hlt]
    rw [e]
    exact want_set k (k - n0) n3 b0 o0 c3 b1 o1 c4 b2 o2 c5 n0 c0 a0 _ _ _ _ _ wx hlt' (by omega) (by omega) (by omega) q0 q1 q2

theorem at_rows (G N c k : Nat) (φ : Nat → ByteArray × ByteArray × Int) (wx : World) (h : Rows4 wx G N φ) (hk : k < N) (hN : N ≤ 100000) (x : ByteArray × ByteArray × Int) (hx : φ k = x) :
    Calls Try.prog 13 #[.slice (some ⟨G, 0, none⟩) N c, .int .i64 k] wx fun e w' => e = .returned (.tuple #[.string x.1, .string x.2.1, .int .i64 x.2.2, .bool false]) ∧ ∃ q, w' = wx.drewN q := by
  obtain ⟨e0, e1, e2, e3⟩ := h.1 k hk
  rw [hx] at e0 e1 e2
  exact at_any G N c k _ _ _ wx hk hN e0 e1 e2 e3

set_option maxHeartbeats 2000000 in
set_option maxRecDepth 100000 in
theorem walk (a0 a1 a2 a3 a4 a5 : Option Addr) (n0 n1 n2 n3 n4 n5 c0 c1 c2 c3 c4 c5 : Nat) (s0 s1 s3 s4 : List ByteArray) (z2 z5 : List Int) (w : World)
    (l0 : n0 ≤ maxLen) (l1 : n1 ≤ maxLen) (l2 : n2 ≤ maxLen) (l3 : n3 ≤ maxLen) (l4 : n4 ≤ maxLen) (l5 : n5 ≤ maxLen)
    (h0 : StrsAt w a0 n0 s0) (h1 : StrsAt w a1 n1 s1) (h2 : IntsAt w a2 n2 z2) (h3 : StrsAt w a3 n3 s3) (h4 : StrsAt w a4 n4 s4) (h5 : IntsAt w a5 n5 z5) :
    Calls Try.prog 3 #[.slice a0 n0 c0, .slice a1 n1 c1, .slice a2 n2 c2, .slice a3 n3 c3, .slice a4 n4 c4, .slice a5 n5 c5] w
      fun e w' => e = .returned (.bool true) ∧ Below w.heap.size w w' := by
  have hby := bytes_any a0 a1 a2 a3 a4 a5 n0 n1 n2 n3 n4 n5 c0 c1 c2 c3 c4 c5 s0 s1 s3 s4 w l0 l1 l2 l3 l4 l5 h0 h1 h3 h4
  have hfi := fit_any a0 a1 a2 a3 a4 a5 n0 n1 n2 n3 n4 n5 c0 c1 c2 c3 c4 c5 s0 s1 s3 s4 w l0 l1 l2 l3 l4 l5 h0 h1 h3 h4
  clear l0 l1 l2 l3 l4 l5
  have H0 : Hid _ := h0
  have H1 : Hid _ := h1
  have H2 : Hid _ := h2
  have H3 : Hid _ := h3
  have H4 : Hid _ := h4
  have H5 : Hid _ := h5
  clear h0 h1 h2 h3 h4 h5
  go_enter Try.func3, Try.ntmps3
  go_wp2_with fail
  refine hby.mono ?_
  rintro e w' ⟨⟨b, rfl⟩, hw⟩
  have hw := hw.symm; subst hw
  cases b
  · go_wp2
    go_ret
    exact ⟨rfl, Below.refl _ _⟩
  go_wp2_with fail
  refine hfi.mono ?_
  rintro e w' ⟨⟨b, rfl, hfit⟩, hw⟩
  have hw := hw.symm; subst hw
  cases b
  · go_wp2
    go_ret
    exact ⟨rfl, Below.refl _ _⟩
  obtain ⟨g0, g3, rfl, rfl, rfl, rfl⟩ := hfit rfl
  clear hby hfi hfit
  go_wp2_with (go_at_call 8; refine (no_any _).mono ?_; rintro e w1 ⟨rfl, hw⟩; have hw := hw.symm; subst hw)
  go_loopw [15, 16] (fun v i wr => ∃ k : Nat, k ≤ n0 ∧ i = .int .i64 k ∧ wr.ownsRow w.heap.size 35 4 v k (F s0 s1 z2 k) ∧ Below w.heap.size w wr) (fun _ i _ => n0 - (intOf i).toNat)
  case atStart => exact ⟨0, Nat.zero_le _, rfl, World.ownsRow_nil _ _ _ _, Below.refl _ _⟩
  case round =>
    obtain ⟨k, hk, rfl, hown, hb⟩ := hrel
    by_cases hlt : k < n0
    · obtain ⟨b0, o0, rfl, hl0, q0⟩ := StrsAt.at H0.out hb hlt
      obtain ⟨b1, o1, rfl, hl1, q1⟩ := StrsAt.at H1.out hb hlt
      obtain ⟨b2, o2, rfl, hl2, q2⟩ := IntsAt.at H2.out hb hlt
      obtain ⟨S, hS⟩ : ∃ S, S = s0.getD k ByteArray.empty := ⟨_, rfl⟩
      obtain ⟨T, hT⟩ : ∃ T, T = s1.getD k ByteArray.empty := ⟨_, rfl⟩
      obtain ⟨Z, hZ⟩ : ∃ Z, Z = z2.getD k 0 := ⟨_, rfl⟩
      rw [← hS] at q0
      rw [← hT] at q1
      rw [← hZ] at q2
      have HF : Hid (F s0 s1 z2 (k + 1) = F s0 s1 z2 k ++ fld S T Z) := by rw [hS, hT, hZ]; rfl
      clear hS hT hZ
      have hk0 : (0 : Int) ≤ (k : Int) := by omega
      have hkn : (k : Int) < (n0 : Int) := by omega
      have hsz := hb.size
      have HA := hide (app_any w.heap.size u15 k (F s0 s1 z2 k) S T Z wr.drew hown.drew hsz (by omega))
      go_wp2
      go_region_held3 (fun w' => w'.cell? ⟨b0, o0 + k, none⟩ = some (.string S) ∧ w'.cell? ⟨b1, o1 + k, none⟩ = some (.string T) ∧ w'.cell? ⟨b2, o2 + k, none⟩ = some (.int .i64 Z)) (go_keep) ((go_at_call 9; refine HA.out.mono ?_; rintro e w1 ⟨v1, rfl, hown1, hb1⟩; have e0 := (hb1.cell (p := ⟨b0, o0 + k, none⟩) hl0).trans q0; have e1 := (hb1.cell (p := ⟨b1, o1 + k, none⟩) hl1).trans q1; have e2 := (hb1.cell (p := ⟨b2, o2 + k, none⟩) hl2).trans q2))
      rw [← HF.out] at hown1
      have hb2 : Below w.heap.size w w1 := (hb.drew).trans hb1
      clear e0 e1 e2 hb1 hown HA
      go_wp2
      go_roundw
      case rel => exact ⟨k + 1, by omega, by go_num, hown1, hb2⟩
      case measure => simp [intOf]; omega
    · have hkn : n0 = k := by omega
      subst hkn
      clear hlt hk
      go_wp2_with (go_at_call 8; refine (no_any _).mono ?_; rintro e w1 ⟨rfl, hw⟩; have hw := hw.symm; subst hw)
      obtain ⟨wa, hwa⟩ : ∃ wa, wa = wr := ⟨_, rfl⟩
      obtain ⟨va, hva⟩ : ∃ va, va = u15 := ⟨_, rfl⟩
      subst hwa hva
      go_loopw [17, 18] (fun v i wr => ∃ k : Nat, k ≤ n3 ∧ i = .int .i64 k ∧ wr.ownsRow wa.heap.size 35 4 v k (F s3 s4 z5 k) ∧ Below wa.heap.size wa wr) (fun _ i _ => n3 - (intOf i).toNat)
      case atStart => exact ⟨0, Nat.zero_le _, rfl, World.ownsRow_nil _ _ _ _, Below.refl _ _⟩
      case round =>
        obtain ⟨k, hk, rfl, hown', hb'⟩ := hrel
        have hsa := hb.size
        have hsz := hb'.size
        have hbw : Below w.heap.size w wr := hb.trans (hb'.mono hsa)
        by_cases hlt : k < n3
        · obtain ⟨b0, o0, rfl, hl0, q0⟩ := StrsAt.at H3.out hbw hlt
          obtain ⟨b1, o1, rfl, hl1, q1⟩ := StrsAt.at H4.out hbw hlt
          obtain ⟨b2, o2, rfl, hl2, q2⟩ := IntsAt.at H5.out hbw hlt
          obtain ⟨S, hS⟩ : ∃ S, S = s3.getD k ByteArray.empty := ⟨_, rfl⟩
          obtain ⟨T, hT⟩ : ∃ T, T = s4.getD k ByteArray.empty := ⟨_, rfl⟩
          obtain ⟨Z, hZ⟩ : ∃ Z, Z = z5.getD k 0 := ⟨_, rfl⟩
          rw [← hS] at q0
          rw [← hT] at q1
          rw [← hZ] at q2
          have HF : Hid (F s3 s4 z5 (k + 1) = F s3 s4 z5 k ++ fld S T Z) := by rw [hS, hT, hZ]; rfl
          clear hS hT hZ
          have hk0 : (0 : Int) ≤ (k : Int) := by omega
          have hkn : (k : Int) < (n3 : Int) := by omega
          have HA := hide (app_any wa.heap.size u17 k (F s3 s4 z5 k) S T Z wr.drew hown'.drew hsz (by omega))
          go_wp2
          go_region_held3 (fun w' => w'.cell? ⟨b0, o0 + k, none⟩ = some (.string S) ∧ w'.cell? ⟨b1, o1 + k, none⟩ = some (.string T) ∧ w'.cell? ⟨b2, o2 + k, none⟩ = some (.int .i64 Z)) (go_keep) ((go_at_call 9; refine HA.out.mono ?_; rintro e w1 ⟨v1, rfl, hown1, hb1⟩; have e0 := (hb1.cell (p := ⟨b0, o0 + k, none⟩) (Nat.lt_of_lt_of_le hl0 hsa)).trans q0; have e1 := (hb1.cell (p := ⟨b1, o1 + k, none⟩) (Nat.lt_of_lt_of_le hl1 hsa)).trans q1; have e2 := (hb1.cell (p := ⟨b2, o2 + k, none⟩) (Nat.lt_of_lt_of_le hl2 hsa)).trans q2))
          rw [← HF.out] at hown1
          have hb2 : Below wa.heap.size wa w1 := (hb'.drew).trans hb1
          clear e0 e1 e2 hb1 hown' HA
          go_wp2
          go_roundw
          case rel => exact ⟨k + 1, by omega, by go_num, hown1, hb2⟩
          case measure => simp [intOf]; omega
        · have hkn : n3 = k := by omega
          subst hkn
          clear hlt hk
          have hownA : wr.ownsRow w.heap.size 35 4 va n0 (F s0 s1 z2 n0) := own_below hown hb'
          obtain ⟨A1, C1, rfl⟩ := own_form hownA
          obtain ⟨A2, C2, rfl⟩ := own_form hown'
          obtain ⟨wb, hwb⟩ : ∃ wb, wb = wr := ⟨_, rfl⟩
          subst hwb
          clear hown hb hb' hsa hsz
          obtain ⟨wc, hwc⟩ : ∃ wc, wc = wb.alloc (.cells (bld (.slice A1 n0 C1) (.slice A2 n3 C2)) 48) := ⟨_, rfl⟩
          have hc1 : wc.ownsRow w.heap.size 35 4 (.slice A1 n0 C1) n0 (F s0 s1 z2 n0) := by rw [hwc]; exact hownA.alloc _
          have hc2 : wc.ownsRow wa.heap.size 35 4 (.slice A2 n3 C2) n3 (F s3 s4 z5 n3) := by rw [hwc]; exact hown'.alloc _
          have hcp : wc.heap[wb.heap.size]? = some (.cells (bld (.slice A1 n0 C1) (.slice A2 n3 C2)) 48 (0, 0)) := by rw [hwc]; exact heap_alloc_new _ _
          have hbc : Below w.heap.size w wc := by rw [hwc]; exact hbw.alloc hbw.size _
          have HB := hide (bfields_any wb.heap.size w.heap.size wa.heap.size n0 C1 n3 C2 A1 A2 _ _ wc hc1 hc2 (F_one _ _ _ _) (F_one _ _ _ _) (by omega) (by omega) hcp)
          have HW := hide hwc
          clear hwc
          go_wp2_with fail
          refine (new_any _ _ _ _ _ _ _).mono ?_
          rintro e w1 ⟨rfl, hw⟩
          rw [← HW.out] at hw
          have hw := hw.symm
          subst hw
          go_wp2_with fail
          refine HB.out.mono ?_
          rintro e wd ⟨vd, rfl, hownd, hbd⟩
          obtain ⟨A3, C3, rfl⟩ := own_form hownd
          go_wp2
          have hbd2 : Below w.heap.size w wd := hbc.trans (hbd.mono hbc.size)
          obtain ⟨G, hG⟩ : ∃ G : Nat, 0 < n0 + n3 → A3 = some ⟨G, 0, none⟩ ∧ wc.heap.size ≤ G ∧ Rows4 wd G (n0 + n3) (fo s0 s1 z2 n0 s3 s4 z5) := rows_of hownd
          go_loopw [21, 22] (fun vi vj wr => ∃ (k : Nat) (y : Int), 2 * k ≤ n0 + n3 ∧ vi = .int .i64 k ∧ vj = .int .i64 y ∧ Hid (y = (n0 : Int) + (n3 : Int) - 1 - (k : Int)) ∧ (0 < n0 + n3 → Rows4 wr G (n0 + n3) (fun i => fo s0 s1 z2 n0 s3 s4 z5 (rv (n0 + n3) k i))) ∧ Below wc.heap.size wc wr) (fun vi _ _ => n0 + n3 - 2 * (intOf vi).toNat)
          case atStart => exact ⟨0, _, by omega, rfl, rfl, by show _ = _; omega, fun h => rows_zero (hG h).2.2, hbd⟩
          case round =>
            obtain ⟨k, y, hk, rfl, rfl, HY, hR, hbr⟩ := hrel
            by_cases hlt : (k : Int) < y
            · have hpos : 0 < n0 + n3 := by have := HY.out; omega
              obtain ⟨rfl, hGc, _⟩ := hG hpos
              obtain ⟨hR, hfz⟩ := hR hpos
              obtain ⟨j, rfl⟩ : ∃ j : Nat, y = (j : Int) := ⟨y.toNat, by omega⟩
              have hj : j < n0 + n3 := by have := HY.out; omega
              have hkj : k < j := by omega
              have p := hR k (by omega)
              have q := hR j hj
              obtain ⟨P0, hP⟩ : ∃ P0, P0 = fo s0 s1 z2 n0 s3 s4 z5 (rv (n0 + n3) k k) := ⟨_, rfl⟩
              obtain ⟨Q0, hQ⟩ : ∃ Q0, Q0 = fo s0 s1 z2 n0 s3 s4 z5 (rv (n0 + n3) k j) := ⟨_, rfl⟩
              simp only [← hP] at p
              simp only [← hQ] at q
              obtain ⟨ps, pt, pz⟩ := P0
              obtain ⟨qs, qt, qz⟩ := Q0
              obtain ⟨p0, p1, p2, p3⟩ := p
              obtain ⟨q0, q1, q2, q3⟩ := q
              have fa : ∀ o, wr.frozen? ⟨G, o, none⟩ = false := hfz
              have hk0 : (0 : Int) ≤ (k : Int) := by omega
              have hj0 : (0 : Int) ≤ (j : Int) := by omega
              have hkn : (k : Int) < (n0 : Int) + (n3 : Int) := by omega
              have hjn : (j : Int) < (n0 : Int) + (n3 : Int) := by omega
              have HR := hide hR
              have hGw : G < wr.heap.size := World.block_lt_of_cell? wr _ p0
              clear hR
              have hjk : j + k + 1 = n0 + n3 := by have := HY.out; omega
              have HS := hide (rows_swap ⟨HR.out, hfz⟩ hkj hjk hGw (ps, pt, pz) (qs, qt, qz) hP hQ (.cells #[.string ps, .string pt, .int .i64 pz, .nilIface] 35))
              have HL := hide ((below_set4 (o := j * 4) (below_set4 (o := k * 4) hbr hGc (qs, qt, qz)) hGc (ps, pt, pz)).alloc (by rw [set4_size, set4_size]; exact hbr.size) (.cells #[.string ps, .string pt, .int .i64 pz, .nilIface] 35))
              clear hP hQ
              go_wp2
              go_roundw
              case rel => exact ⟨k + 1, (j : Int) - 1, by omega, by go_num, rfl, by show _ = _; omega, fun _ => HS.out, HL.out⟩
              case measure => simp [intOf]; omega
            · have hN2 : n0 + n3 ≤ 2 * k + 1 := by have := HY.out; omega
              have hR2 : 0 < n0 + n3 → Rows4 wr G (n0 + n3) (fun i => fo s0 s1 z2 n0 s3 s4 z5 (n0 + n3 - 1 - i)) := fun h => rows_done (hR h) hk hN2
              obtain ⟨we, hwe⟩ : ∃ we, we = wr := ⟨_, rfl⟩
              subst hwe
              have HB2 := hide (bfields_any wb.heap.size w.heap.size wa.heap.size n0 C1 n3 C2 A1 A2 _ _ we (own_below hc1 hbr) (own_below hc2 hbr) (F_one _ _ _ _) (F_one _ _ _ _) (by omega) (by omega) ((hbr.block _ (Array.getElem?_eq_some_iff.1 hcp).1).trans hcp))
              have hbe : Below w.heap.size w we := hbc.trans (hbr.mono hbc.size)
              clear hR hk hN2 hownd hbd HB HW hc1 hc2 hcp hbr hbc hownA hown' hbd2
              go_wp2_with fail
              refine HB2.out.mono ?_
              rintro e wf ⟨vf, rfl, hownf, hbf⟩
              obtain ⟨A4, C4, rfl⟩ := own_form hownf
              obtain ⟨G2, hG2⟩ := rows_of hownf
              have hbf2 : Below w.heap.size w wf := hbe.trans (hbf.mono hbe.size)
              have hR3 : 0 < n0 + n3 → Rows4 wf G (n0 + n3) (fun i => fo s0 s1 z2 n0 s3 s4 z5 (n0 + n3 - 1 - i)) := fun h => rows_below (hR2 h) hbf (World.block_lt_of_cell? _ _ ((hR2 h).1 0 h).1)
              clear hR2 hownf hbf hbe HB2
              go_wp2
              go_loopw [25] (fun vi wr => ∃ k : Nat, k ≤ n0 + n3 ∧ vi = .int .i64 k ∧ ∃ q, wr = wf.drewN q) (fun vi _ => n0 + n3 - (intOf vi).toNat)
              case atStart => exact ⟨0, Nat.zero_le _, rfl, 0, rfl⟩
              case round =>
                obtain ⟨x, hx, rfl, qq, rfl⟩ := hrel
                by_cases hlx : x < n0 + n3
                · have hpos : 0 < n0 + n3 := by omega
                  obtain ⟨rfl, _, _⟩ := hG hpos
                  obtain ⟨rfl, _, hR4⟩ := hG2 hpos
                  obtain ⟨j, hj⟩ : ∃ j : Nat, j = n0 + n3 - 1 - x := ⟨_, rfl⟩
                  obtain ⟨⟨S, T, Z⟩, hP⟩ : ∃ P, P = fo s0 s1 z2 n0 s3 s4 z5 x := ⟨_, rfl⟩
                  have K1 := hide (fun q => want_at a0 a1 a2 a3 a4 a5 n0 n3 c0 c1 c2 c3 c4 c5 x s0 s1 s3 s4 z2 z5 w (wf.drewN q) g0 g3 H0.out H1.out H2.out H3.out H4.out H5.out hlx (below_drewN hbf2 q))
                  rw [← hP] at K1
                  have K2 := hide (fun q => at_rows G2 (n0 + n3) C4 x _ (wf.drewN q) hR4 hlx (by omega) (S, T, Z) hP.symm)
                  have K3 := hide (fun q => at_rows G (n0 + n3) C3 j _ (wf.drewN q) (hR3 hpos) (by omega) (by omega) (S, T, Z) (by rw [hP]; show fo _ _ _ _ _ _ _ _ = _; congr 1; omega))
                  have hjx : (n0 : Int) + (n3 : Int) - 1 - (x : Int) = (j : Int) := by omega
                  have hxx : (x : Int) < (n0 : Int) + (n3 : Int) := by omega
                  clear hP hj hR3 hG hG2 hR4
                  go_wp2_with fail
                  refine (K1.out _).mono ?_
                  rintro e w1 ⟨rfl, q1, rfl⟩
                  go_wp2_with fail
                  refine (K2.out _).mono ?_
                  rintro e w1 ⟨rfl, q2, rfl⟩
                  go_wp2_with fail
                  refine (K3.out _).mono ?_
                  rintro e w1 ⟨rfl, q3, rfl⟩
                  go_wp2
                  go_roundw
                  case rel => exact ⟨x + 1, by omega, by go_num, _, rfl⟩
                  case measure => simp [intOf]; omega
                · go_wp2
                  go_ret
                  exact ⟨rfl, below_drewN hbf2 _⟩
end Go.Proofs.Qxb6614694a

/-
  decodeCanonicalUvarint (9): it reads back what the varint says.
-/
import Derived.Test.Qxb6614815aPlain
import Derived.Lib.VarintBits
namespace Go.Proofs.Qxb6614815a
open Go.RowKit
set_option linter.unusedVariables false

theorem wrap64 {z : Int} (h0 : 0 ≤ z) (h1 : z < 18446744073709551616) : IntKind.u64.wrap z = z := by
  simp [IntKind.wrap, IntKind.bits, IntKind.signed]; omega

theorem at_drop {l m : List UInt8} {k : Nat} (h : l.drop k = m) : l.getD k 0 = m.getD 0 0 := by subst h; simp [List.getD]
theorem uv_small {l : List UInt8} {k y : Nat} (h : l.drop k = Lib.uvarint y) (hy : y < 128) : (l.getD k 0).toNat = y := by
  rw [at_drop h, Lib.uvarint_small hy]; exact u8nat (by omega)
theorem uv_big {l : List UInt8} {k y : Nat} (h : l.drop k = Lib.uvarint y) (hy : 128 ≤ y) : (l.getD k 0).toNat = y % 128 + 128 := by
  rw [at_drop h, Lib.uvarint_big hy]; exact u8nat (by omega)
theorem uv_next {l : List UInt8} {k y : Nat} (h : l.drop k = Lib.uvarint y) (hy : 128 ≤ y) : l.drop (k + 1) = Lib.uvarint (y / 128) := by
  have h1 : l.drop (k + 1) = (l.drop k).drop 1 := by simp
  rw [h1, h, Lib.uvarint_big hy]; rfl
theorem uv_len {l : List UInt8} {k y : Nat} (h : l.drop k = Lib.uvarint y) : k + (Lib.uvarint y).length = l.length := by
  have h1 := congrArg List.length h
  have h2 := Lib.uvarint_pos y
  simp at h1
  omega

theorem or_0 (p r : Nat) (b : Int) (hb0 : 0 ≤ b) (hb : b < 256) (hr : b % 128 = r) (hp : p < 1) (hx : p + 1 * r < 18446744073709551616) : bits .or .u64 (p : Int) (IntKind.u64.wrap (IntKind.u64.wrap (bits .and .u8 b 127))) = ((p + 1 * r : Nat) : Int) := by
  rw [u8_and127 _ hb0 hb, hr, wrap64 (z := (r : Int)) (by omega) (by omega), wrap64 (z := (r : Int)) (by omega) (by omega), u64_orv0 _ _ (by omega) (by omega) (by omega) (by omega) (by omega)]
  omega
theorem or_1 (p r : Nat) (b : Int) (hb0 : 0 ≤ b) (hb : b < 256) (hr : b % 128 = r) (hp : p < 128) (hx : p + 128 * r < 18446744073709551616) : bits .or .u64 (p : Int) (IntKind.u64.wrap (IntKind.u64.wrap (bits .and .u8 b 127) * 128)) = ((p + 128 * r : Nat) : Int) := by
  rw [u8_and127 _ hb0 hb, hr, wrap64 (z := (r : Int)) (by omega) (by omega), wrap64 (z := (r : Int) * 128) (by omega) (by omega), u64_orv7 _ _ (by omega) (by omega) (by omega) (by omega) (by omega)]
  omega
theorem or_2 (p r : Nat) (b : Int) (hb0 : 0 ≤ b) (hb : b < 256) (hr : b % 128 = r) (hp : p < 16384) (hx : p + 16384 * r < 18446744073709551616) : bits .or .u64 (p : Int) (IntKind.u64.wrap (IntKind.u64.wrap (bits .and .u8 b 127) * 16384)) = ((p + 16384 * r : Nat) : Int) := by
  rw [u8_and127 _ hb0 hb, hr, wrap64 (z := (r : Int)) (by omega) (by omega), wrap64 (z := (r : Int) * 16384) (by omega) (by omega), u64_orv14 _ _ (by omega) (by omega) (by omega) (by omega) (by omega)]
  omega
theorem or_3 (p r : Nat) (b : Int) (hb0 : 0 ≤ b) (hb : b < 256) (hr : b % 128 = r) (hp : p < 2097152) (hx : p + 2097152 * r < 18446744073709551616) : bits .or .u64 (p : Int) (IntKind.u64.wrap (IntKind.u64.wrap (bits .and .u8 b 127) * 2097152)) = ((p + 2097152 * r : Nat) : Int) := by
  rw [u8_and127 _ hb0 hb, hr, wrap64 (z := (r : Int)) (by omega) (by omega), wrap64 (z := (r : Int) * 2097152) (by omega) (by omega), u64_orv21 _ _ (by omega) (by omega) (by omega) (by omega) (by omega)]
  omega
theorem or_4 (p r : Nat) (b : Int) (hb0 : 0 ≤ b) (hb : b < 256) (hr : b % 128 = r) (hp : p < 268435456) (hx : p + 268435456 * r < 18446744073709551616) : bits .or .u64 (p : Int) (IntKind.u64.wrap (IntKind.u64.wrap (bits .and .u8 b 127) * 268435456)) = ((p + 268435456 * r : Nat) : Int) := by
  rw [u8_and127 _ hb0 hb, hr, wrap64 (z := (r : Int)) (by omega) (by omega), wrap64 (z := (r : Int) * 268435456) (by omega) (by omega), u64_orv28 _ _ (by omega) (by omega) (by omega) (by omega) (by omega)]
  omega
theorem or_5 (p r : Nat) (b : Int) (hb0 : 0 ≤ b) (hb : b < 256) (hr : b % 128 = r) (hp : p < 34359738368) (hx : p + 34359738368 * r < 18446744073709551616) : bits .or .u64 (p : Int) (IntKind.u64.wrap (IntKind.u64.wrap (bits .and .u8 b 127) * 34359738368)) = ((p + 34359738368 * r : Nat) : Int) := by
  rw [u8_and127 _ hb0 hb, hr, wrap64 (z := (r : Int)) (by omega) (by omega), wrap64 (z := (r : Int) * 34359738368) (by omega) (by omega), u64_orv35 _ _ (by omega) (by omega) (by omega) (by omega) (by omega)]
  omega
theorem or_6 (p r : Nat) (b : Int) (hb0 : 0 ≤ b) (hb : b < 256) (hr : b % 128 = r) (hp : p < 4398046511104) (hx : p + 4398046511104 * r < 18446744073709551616) : bits .or .u64 (p : Int) (IntKind.u64.wrap (IntKind.u64.wrap (bits .and .u8 b 127) * 4398046511104)) = ((p + 4398046511104 * r : Nat) : Int) := by
  rw [u8_and127 _ hb0 hb, hr, wrap64 (z := (r : Int)) (by omega) (by omega), wrap64 (z := (r : Int) * 4398046511104) (by omega) (by omega), u64_orv42 _ _ (by omega) (by omega) (by omega) (by omega) (by omega)]
  omega
theorem or_7 (p r : Nat) (b : Int) (hb0 : 0 ≤ b) (hb : b < 256) (hr : b % 128 = r) (hp : p < 562949953421312) (hx : p + 562949953421312 * r < 18446744073709551616) : bits .or .u64 (p : Int) (IntKind.u64.wrap (IntKind.u64.wrap (bits .and .u8 b 127) * 562949953421312)) = ((p + 562949953421312 * r : Nat) : Int) := by
  rw [u8_and127 _ hb0 hb, hr, wrap64 (z := (r : Int)) (by omega) (by omega), wrap64 (z := (r : Int) * 562949953421312) (by omega) (by omega), u64_orv49 _ _ (by omega) (by omega) (by omega) (by omega) (by omega)]
  omega
theorem or_8 (p r : Nat) (b : Int) (hb0 : 0 ≤ b) (hb : b < 256) (hr : b % 128 = r) (hp : p < 72057594037927936) (hx : p + 72057594037927936 * r < 18446744073709551616) : bits .or .u64 (p : Int) (IntKind.u64.wrap (IntKind.u64.wrap (bits .and .u8 b 127) * 72057594037927936)) = ((p + 72057594037927936 * r : Nat) : Int) := by
  rw [u8_and127 _ hb0 hb, hr, wrap64 (z := (r : Int)) (by omega) (by omega), wrap64 (z := (r : Int) * 72057594037927936) (by omega) (by omega), u64_orv56 _ _ (by omega) (by omega) (by omega) (by omega) (by omega)]
  omega
theorem or_9 (p r : Nat) (b : Int) (hb0 : 0 ≤ b) (hb : b < 256) (hr : b % 128 = r) (hp : p < 9223372036854775808) (hx : p + 9223372036854775808 * r < 18446744073709551616) : bits .or .u64 (p : Int) (IntKind.u64.wrap (IntKind.u64.wrap (bits .and .u8 b 127) * 9223372036854775808)) = ((p + 9223372036854775808 * r : Nat) : Int) := by
  rw [u8_and127 _ hb0 hb, hr, wrap64 (z := (r : Int)) (by omega) (by omega), wrap64 (z := (r : Int) * 9223372036854775808) (by omega) (by omega), u64_orv63 _ _ (by omega) (by omega) (by omega) (by omega) (by omega)]
  omega

set_option maxHeartbeats 4000000 in
set_option maxRecDepth 100000 in
theorem dec_any (x : Nat) (hx : x < 18446744073709551616) (a : Option Addr) (c : Nat) (w : World) (h : BytesAt w a (Lib.uvarint x)) :
    Calls Try.prog 9 #[.slice a (Lib.uvarint x).length c] w fun e w' => e = .returned (.tuple #[.int .u64 x, .int .i64 ((Lib.uvarint x).length : Int)]) ∧ w' = w := by
  have hul := Lib.uvarint_length64 hx
  have hup := Lib.uvarint_pos x
  unfold BytesAt at h
  obtain ⟨u, hu⟩ : ∃ u, u = (Lib.uvarint x).length := ⟨_, rfl⟩
  rw [← hu] at hul hup h ⊢
  have HU := hide hu
  clear hu
  obtain ⟨b, off, rfl, hb, hc⟩ := h (by omega)
  have HC := hide hc
  clear hc h
  go_enter Try.func9, Try.ntmps9
  go_wp2
  go_loopw [4, 5] (fun v i wr => ∃ k p y : Nat, k ≤ 9 ∧ v = .int .u64 p ∧ i = .int .i64 k ∧ Hid (x = p + 128 ^ k * y) ∧ Hid (p < 128 ^ k) ∧ Hid ((Lib.uvarint x).drop k = Lib.uvarint y) ∧ Hid (0 < k → 0 < y) ∧ wr = w) (fun _ i _ => 10 - (intOf i).toNat)
  case atStart => exact ⟨0, 0, x, by omega, rfl, rfl, by show _ = _; omega, by show _ < _; omega, by show _ = _; simp, fun h => by omega, rfl⟩
  case round =>
    obtain ⟨k, p, y, hk, rfl, rfl, HX, HP, HD, HY, rfl⟩ := hrel
    have hku : k + (Lib.uvarint y).length = u := by rw [HU.out]; exact uv_len HD.out
    have hyp := Lib.uvarint_pos y
    have hlt : k < u := by omega
    have e1 := HC.out k hlt
    by_cases hy : y < 128
    · rw [uv_small HD.out hy] at e1
      have hk1 : k + 1 = u := by rw [Lib.uvarint_small hy] at hku; simpa using hku
      clear hku hyp HC
      have hk10 : k = 0 ∨ k = 1 ∨ k = 2 ∨ k = 3 ∨ k = 4 ∨ k = 5 ∨ k = 6 ∨ k = 7 ∨ k = 8 ∨ k = 9 := by omega
      rcases hk10 with rfl | rfl | rfl | rfl | rfl | rfl | rfl | rfl | rfl | rfl
      · have e0 := e1
        rw [Nat.add_zero] at e0
        have e5 := hide (or_0 p y y (by omega) (by omega) (by omega) (by have := HP.out; omega) (by have := HX.out; omega))
        have e6 : p + 1 * y = x := by have := HX.out; omega
        rw [e6] at e5
        clear e6
        clear HX HP HD HY
        subst hk1
        go_wp2
        go_ret2
        exact ⟨by rw [e5.out]; rfl, rfl⟩
      · have e5 := hide (or_1 p y y (by omega) (by omega) (by omega) (by have := HP.out; omega) (by have := HX.out; omega))
        have e6 : p + 128 * y = x := by have := HX.out; omega
        rw [e6] at e5
        clear e6
        have hy0 : ((y : Int) == 0) = false := by have := HY.out (by omega); simp; omega
        clear HX HP HD HY
        subst hk1
        go_wp2
        go_ret2
        exact ⟨by rw [e5.out]; rfl, rfl⟩
      · have e5 := hide (or_2 p y y (by omega) (by omega) (by omega) (by have := HP.out; omega) (by have := HX.out; omega))
        have e6 : p + 16384 * y = x := by have := HX.out; omega
        rw [e6] at e5
        clear e6
        have hy0 : ((y : Int) == 0) = false := by have := HY.out (by omega); simp; omega
        clear HX HP HD HY
        subst hk1
        go_wp2
        go_ret2
        exact ⟨by rw [e5.out]; rfl, rfl⟩
      · have e5 := hide (or_3 p y y (by omega) (by omega) (by omega) (by have := HP.out; omega) (by have := HX.out; omega))
        have e6 : p + 2097152 * y = x := by have := HX.out; omega
        rw [e6] at e5
        clear e6
        have hy0 : ((y : Int) == 0) = false := by have := HY.out (by omega); simp; omega
        clear HX HP HD HY
        subst hk1
        go_wp2
        go_ret2
        exact ⟨by rw [e5.out]; rfl, rfl⟩
      · have e5 := hide (or_4 p y y (by omega) (by omega) (by omega) (by have := HP.out; omega) (by have := HX.out; omega))
        have e6 : p + 268435456 * y = x := by have := HX.out; omega
        rw [e6] at e5
        clear e6
        have hy0 : ((y : Int) == 0) = false := by have := HY.out (by omega); simp; omega
        clear HX HP HD HY
        subst hk1
        go_wp2
        go_ret2
        exact ⟨by rw [e5.out]; rfl, rfl⟩
      · have e5 := hide (or_5 p y y (by omega) (by omega) (by omega) (by have := HP.out; omega) (by have := HX.out; omega))
        have e6 : p + 34359738368 * y = x := by have := HX.out; omega
        rw [e6] at e5
        clear e6
        have hy0 : ((y : Int) == 0) = false := by have := HY.out (by omega); simp; omega
        clear HX HP HD HY
        subst hk1
        go_wp2
        go_ret2
        exact ⟨by rw [e5.out]; rfl, rfl⟩
      · have e5 := hide (or_6 p y y (by omega) (by omega) (by omega) (by have := HP.out; omega) (by have := HX.out; omega))
        have e6 : p + 4398046511104 * y = x := by have := HX.out; omega
        rw [e6] at e5
        clear e6
        have hy0 : ((y : Int) == 0) = false := by have := HY.out (by omega); simp; omega
        clear HX HP HD HY
        subst hk1
        go_wp2
        go_ret2
        exact ⟨by rw [e5.out]; rfl, rfl⟩
      · have e5 := hide (or_7 p y y (by omega) (by omega) (by omega) (by have := HP.out; omega) (by have := HX.out; omega))
        have e6 : p + 562949953421312 * y = x := by have := HX.out; omega
        rw [e6] at e5
        clear e6
        have hy0 : ((y : Int) == 0) = false := by have := HY.out (by omega); simp; omega
        clear HX HP HD HY
        subst hk1
        go_wp2
        go_ret2
        exact ⟨by rw [e5.out]; rfl, rfl⟩
      · have e5 := hide (or_8 p y y (by omega) (by omega) (by omega) (by have := HP.out; omega) (by have := HX.out; omega))
        have e6 : p + 72057594037927936 * y = x := by have := HX.out; omega
        rw [e6] at e5
        clear e6
        have hy0 : ((y : Int) == 0) = false := by have := HY.out (by omega); simp; omega
        clear HX HP HD HY
        subst hk1
        go_wp2
        go_ret2
        exact ⟨by rw [e5.out]; rfl, rfl⟩
      · have e5 := hide (or_9 p y y (by omega) (by omega) (by omega) (by have := HP.out; omega) (by have := HX.out; omega))
        have e6 : p + 9223372036854775808 * y = x := by have := HX.out; omega
        rw [e6] at e5
        clear e6
        have hy0 : ((y : Int) == 0) = false := by have := HY.out (by omega); simp; omega
        have hy1 : y ≤ 1 := by have := HX.out; omega
        clear HX HP HD HY
        subst hk1
        go_wp2
        go_ret2
        exact ⟨by rw [e5.out]; rfl, rfl⟩
    · rw [uv_big HD.out (by omega)] at e1
      have HD2 := hide (uv_next HD.out (by omega))
      have hk9 : k ≠ 9 := by
        rintro rfl
        have := HX.out
        omega
      obtain ⟨r, hr⟩ : ∃ r, r = y % 128 := ⟨_, rfl⟩
      obtain ⟨z, hz⟩ : ∃ z, z = y / 128 := ⟨_, rfl⟩
      obtain ⟨q, hq⟩ : ∃ q, q = r + 128 := ⟨_, rfl⟩
      rw [← hr, ← hq] at e1
      rw [← hz] at HD2
      have hq1 : 128 ≤ q := by omega
      have hq2 : q < 256 := by omega
      have HYZ := hide (show y = r + 128 * z by omega)
      have HZ0 := hide (show 0 < z by omega)
      have HQR := hide (show ((q : Int) % 128 = r) by omega)
      have HR := hide (show r < 128 by omega)
      clear hku hyp HC hr hz hq HD hy
      have hk10 : k = 0 ∨ k = 1 ∨ k = 2 ∨ k = 3 ∨ k = 4 ∨ k = 5 ∨ k = 6 ∨ k = 7 ∨ k = 8 := by omega
      rcases hk10 with rfl | rfl | rfl | rfl | rfl | rfl | rfl | rfl | rfl
      · have e0 := e1
        rw [Nat.add_zero] at e0
        have e5 := hide (or_0 p r q (by omega) (by omega) HQR.out (by have := HP.out; omega) (by have h1 := HX.out; have h2 := HYZ.out; omega))
        have HX2 := hide (show x = (p + 1 * r) + 128 ^ 1 * z by have h1 := HX.out; have h2 := HYZ.out; omega)
        have HP2 := hide (show (p + 1 * r) < 128 ^ 1 by have h1 := HP.out; have h2 := HR.out; omega)
        clear HX HP HY
        go_wp2
        go_roundw
        case rel => exact ⟨1, _, z, by omega, by rw [e5.out], rfl, HX2, HP2, HD2, fun _ => HZ0.out, by trivial⟩
        case measure => simp [intOf]
      · have e5 := hide (or_1 p r q (by omega) (by omega) HQR.out (by have := HP.out; omega) (by have h1 := HX.out; have h2 := HYZ.out; omega))
        have HX2 := hide (show x = (p + 128 * r) + 128 ^ 2 * z by have h1 := HX.out; have h2 := HYZ.out; omega)
        have HP2 := hide (show (p + 128 * r) < 128 ^ 2 by have h1 := HP.out; have h2 := HR.out; omega)
        clear HX HP HY
        go_wp2
        go_roundw
        case rel => exact ⟨2, _, z, by omega, by rw [e5.out], rfl, HX2, HP2, HD2, fun _ => HZ0.out, by trivial⟩
        case measure => simp [intOf]
      · have e5 := hide (or_2 p r q (by omega) (by omega) HQR.out (by have := HP.out; omega) (by have h1 := HX.out; have h2 := HYZ.out; omega))
        have HX2 := hide (show x = (p + 16384 * r) + 128 ^ 3 * z by have h1 := HX.out; have h2 := HYZ.out; omega)
        have HP2 := hide (show (p + 16384 * r) < 128 ^ 3 by have h1 := HP.out; have h2 := HR.out; omega)
        clear HX HP HY
        go_wp2
        go_roundw
        case rel => exact ⟨3, _, z, by omega, by rw [e5.out], rfl, HX2, HP2, HD2, fun _ => HZ0.out, by trivial⟩
        case measure => simp [intOf]
      · have e5 := hide (or_3 p r q (by omega) (by omega) HQR.out (by have := HP.out; omega) (by have h1 := HX.out; have h2 := HYZ.out; omega))
        have HX2 := hide (show x = (p + 2097152 * r) + 128 ^ 4 * z by have h1 := HX.out; have h2 := HYZ.out; omega)
        have HP2 := hide (show (p + 2097152 * r) < 128 ^ 4 by have h1 := HP.out; have h2 := HR.out; omega)
        clear HX HP HY
        go_wp2
        go_roundw
        case rel => exact ⟨4, _, z, by omega, by rw [e5.out], rfl, HX2, HP2, HD2, fun _ => HZ0.out, by trivial⟩
        case measure => simp [intOf]
      · have e5 := hide (or_4 p r q (by omega) (by omega) HQR.out (by have := HP.out; omega) (by have h1 := HX.out; have h2 := HYZ.out; omega))
        have HX2 := hide (show x = (p + 268435456 * r) + 128 ^ 5 * z by have h1 := HX.out; have h2 := HYZ.out; omega)
        have HP2 := hide (show (p + 268435456 * r) < 128 ^ 5 by have h1 := HP.out; have h2 := HR.out; omega)
        clear HX HP HY
        go_wp2
        go_roundw
        case rel => exact ⟨5, _, z, by omega, by rw [e5.out], rfl, HX2, HP2, HD2, fun _ => HZ0.out, by trivial⟩
        case measure => simp [intOf]
      · have e5 := hide (or_5 p r q (by omega) (by omega) HQR.out (by have := HP.out; omega) (by have h1 := HX.out; have h2 := HYZ.out; omega))
        have HX2 := hide (show x = (p + 34359738368 * r) + 128 ^ 6 * z by have h1 := HX.out; have h2 := HYZ.out; omega)
        have HP2 := hide (show (p + 34359738368 * r) < 128 ^ 6 by have h1 := HP.out; have h2 := HR.out; omega)
        clear HX HP HY
        go_wp2
        go_roundw
        case rel => exact ⟨6, _, z, by omega, by rw [e5.out], rfl, HX2, HP2, HD2, fun _ => HZ0.out, by trivial⟩
        case measure => simp [intOf]
      · have e5 := hide (or_6 p r q (by omega) (by omega) HQR.out (by have := HP.out; omega) (by have h1 := HX.out; have h2 := HYZ.out; omega))
        have HX2 := hide (show x = (p + 4398046511104 * r) + 128 ^ 7 * z by have h1 := HX.out; have h2 := HYZ.out; omega)
        have HP2 := hide (show (p + 4398046511104 * r) < 128 ^ 7 by have h1 := HP.out; have h2 := HR.out; omega)
        clear HX HP HY
        go_wp2
        go_roundw
        case rel => exact ⟨7, _, z, by omega, by rw [e5.out], rfl, HX2, HP2, HD2, fun _ => HZ0.out, by trivial⟩
        case measure => simp [intOf]
      · have e5 := hide (or_7 p r q (by omega) (by omega) HQR.out (by have := HP.out; omega) (by have h1 := HX.out; have h2 := HYZ.out; omega))
        have HX2 := hide (show x = (p + 562949953421312 * r) + 128 ^ 8 * z by have h1 := HX.out; have h2 := HYZ.out; omega)
        have HP2 := hide (show (p + 562949953421312 * r) < 128 ^ 8 by have h1 := HP.out; have h2 := HR.out; omega)
        clear HX HP HY
        go_wp2
        go_roundw
        case rel => exact ⟨8, _, z, by omega, by rw [e5.out], rfl, HX2, HP2, HD2, fun _ => HZ0.out, by trivial⟩
        case measure => simp [intOf]
      · have e5 := hide (or_8 p r q (by omega) (by omega) HQR.out (by have := HP.out; omega) (by have h1 := HX.out; have h2 := HYZ.out; omega))
        have HX2 := hide (show x = (p + 72057594037927936 * r) + 128 ^ 9 * z by have h1 := HX.out; have h2 := HYZ.out; omega)
        have HP2 := hide (show (p + 72057594037927936 * r) < 128 ^ 9 by have h1 := HP.out; have h2 := HR.out; omega)
        clear HX HP HY
        go_wp2
        go_roundw
        case rel => exact ⟨9, _, z, by omega, by rw [e5.out], rfl, HX2, HP2, HD2, fun _ => HZ0.out, by trivial⟩
        case measure => simp [intOf]
end Go.Proofs.Qxb6614815a

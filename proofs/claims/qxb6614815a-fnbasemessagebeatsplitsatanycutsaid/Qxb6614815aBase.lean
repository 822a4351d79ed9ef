/-
  baseMessage (15, 8) and uvarintLen (13).
-/
import Derived.Test.Qxb6614815aLeafs
import Derived.Test.Qxb6614815aShelf
namespace Go.Proofs.Qxb6614815a
open Go.RowKit
set_option linter.unusedVariables false

/-- The message: the kind 3, the varint, the beat. -/
def msg (x : Nat) (D : List UInt8) : List UInt8 := 3 :: (Lib.uvarint x ++ D)
theorem msg_length (x : Nat) (D : List UInt8) : (msg x D).length = 1 + (Lib.uvarint x).length + D.length := by simp [msg]; omega

set_option maxHeartbeats 1000000 in
theorem base15 (x : Nat) (hx : x < 18446744073709551616) (a : Option Addr) (D : List UInt8) (c : Nat) (w : World) (h : BytesAt w a D) (q : a = none → D.length = 0 ∧ c = 0) (hD : D.length ≤ 10000000) :
    Calls Try.prog 15 #[.int .u64 x, .slice a D.length c] w fun e w' => ∃ v', e = .returned v' ∧ w'.ownsRow w.heap.size 5 1 v' (msg x D).length (Lib.byteCells (msg x D)) ∧ Below w.heap.size w w' := by
  obtain ⟨i0, hi, hz0, hz1, hz2⟩ := info_parts Try.info5
  have hown0 : (w.alloc (.cells #[.int .u8 3] 5)).ownsRow w.heap.size 5 1 (.slice (some ⟨w.heap.size, 0, none⟩) 1 1) 1 [.int .u8 3] := World.ownsRow_lit w #[.int .u8 3] 1 (Nat.le_refl _) (by decide) rfl
  have hb0 : Below w.heap.size w (w.alloc (.cells #[.int .u8 3] 5)) := (Below.refl _ _).alloc (Nat.le_refl _) _
  have hU := hide (Try.binary_AppendUvarint w.heap.size 1 x hx _ _ _ hown0 (by simp) (by decide))
  have S1 := hide (fun (wx : World) (hb : Below w.heap.size w wx) => (h.below hb).src)
  have hcat : Lib.byteCells (msg x D) = ([.int .u8 3] ++ Lib.byteCells (Lib.uvarint x)) ++ Lib.byteCells D := by simp [Lib.byteCells, msg]
  rw [hcat, msg_length]
  have hul := Lib.uvarint_length64 hx
  obtain ⟨u, hu⟩ : ∃ u, u = (Lib.uvarint x).length := ⟨_, rfl⟩
  rw [← hu] at hul hU ⊢
  obtain ⟨U, hUU⟩ : ∃ U, U = Lib.byteCells (Lib.uvarint x) := ⟨_, rfl⟩
  rw [← hUU] at hU ⊢
  have L1 := hide (Lib.byteCells_length D)
  have O1 := hide (bytes_one D)
  obtain ⟨X, hX⟩ : ∃ X, X = Lib.byteCells D := ⟨_, rfl⟩
  rw [← hX] at S1 L1 O1 ⊢
  obtain ⟨n, hn⟩ : ∃ n, n = D.length := ⟨_, rfl⟩
  rw [← hn] at q hD L1 ⊢
  have N1 := hide q
  clear hX hn h q hcat hu hUU hown0
  go_enter Try.func15, Try.ntmps15
  go_wp2_with fail
  refine hU.out.mono ?_
  rintro e w1 ⟨v1, rfl, hown1, hbw1⟩
  have hb1 : Below w.heap.size w w1 := hb0.trans hbw1
  have hs1 := hb1.size
  clear hbw1 hb0 hU
  go_wp2_with (at_builtin; refine wpList_append_any rfl (.tmp 7) (.tmp 8) 22 rfl w.heap.size 5 i0 _ 1 1 Try.underlying22 hi hz0 hz1 hz2 rfl (by decide) v1 (1 + u) _ rfl hown1 a n c X rfl N1.out ?d0 (S1.out w1 hb1) O1.out ?d1 ?d2 hs1 ?_)
  case d0 => rw [L1.out]; omega
  case d1 => unfold maxLen; omega
  case d2 => omega
  intro v2 w2 hown2 hgr2
  have hb2 : Below w.heap.size w w2 := hb1.grown hgr2 hs1 (fun k hk => (hown1.lt k hk).1)
  clear hown1 hgr2
  go_wp2
  go_ret
  exact ⟨v2, rfl, hown2, hb2⟩

theorem base8 (x : Nat) (hx : x < 18446744073709551616) (a : Option Addr) (D : List UInt8) (c : Nat) (w : World) (h : BytesAt w a D) (q : a = none → D.length = 0 ∧ c = 0) (hD : D.length ≤ 10000000) :
    Calls Try.prog 8 #[.int .u64 x, .slice a D.length c] w fun e w' => ∃ v', e = .returned v' ∧ w'.ownsRow w.heap.size 5 1 v' (msg x D).length (Lib.byteCells (msg x D)) ∧ Below w.heap.size w w' := by
  have H := hide (base15 x hx a D c w h q hD)
  obtain ⟨n, hn⟩ : ∃ n, n = D.length := ⟨_, rfl⟩
  obtain ⟨m, hm⟩ : ∃ m, m = (msg x D).length := ⟨_, rfl⟩
  obtain ⟨M, hM⟩ : ∃ M, M = Lib.byteCells (msg x D) := ⟨_, rfl⟩
  rw [← hn, ← hm, ← hM] at H ⊢
  clear hn hm hM h q hD
  go_enter Try.func8, Try.ntmps8
  go_wp2_with fail
  refine H.out.mono ?_
  rintro e w1 ⟨v1, rfl, hown1, hbw1⟩
  go_wp2
  go_ret
  exact ⟨v1, rfl, hown1, hbw1⟩

set_option maxHeartbeats 1000000 in
set_option maxRecDepth 100000 in
theorem uvlen (x : Nat) (hx : x < 18446744073709551616) (w : World) :
    Calls Try.prog 13 #[.int .u64 x] w fun e w' => e = .returned (.int .i64 ((Lib.uvarint x).length : Int)) ∧ w' = w := by
  have hul := Lib.uvarint_length64 hx
  obtain ⟨u, hu⟩ : ∃ u, u = (Lib.uvarint x).length := ⟨_, rfl⟩
  rw [← hu] at hul ⊢
  have H0 := hide hu
  clear hu
  go_enter Try.func13, Try.ntmps13
  go_wp2
  go_loopw [0, 3] (fun p i wr => ∃ y k : Nat, p = .int .u64 y ∧ i = .int .i64 k ∧ y < 18446744073709551616 ∧ k ≤ 10 ∧ Hid (k + (Lib.uvarint y).length = u + 1) ∧ wr = w) (fun p _ _ => (intOf p).toNat)
  case atStart => exact ⟨x, 1, rfl, rfl, hx, by omega, by show 1 + _ = _; rw [← H0.out]; omega, rfl⟩
  case round =>
    obtain ⟨y, k, rfl, rfl, hy, hk, he, rfl⟩ := hrel
    by_cases hlt : 128 ≤ y
    · have e2 : (Lib.uvarint y).length = (Lib.uvarint (y / 128)).length + 1 := by rw [Lib.uvarint_big hlt]; simp
      have hp := Lib.uvarint_pos (y / 128)
      have he1 := he.out
      have hk2 : k + 1 ≤ 10 := by omega
      have he2 := hide (show (k + 1) + (Lib.uvarint (y / 128)).length = u + 1 by omega)
      clear e2 hp he1 he
      go_wp2
      go_roundw
      case rel => exact ⟨y / 128, k + 1, by simp, by go_num, by omega, by omega, he2, by trivial⟩
      case measure => simp [intOf]; omega
    · have e2 : (Lib.uvarint y).length = 1 := by rw [Lib.uvarint_small (by omega)]; simp
      have hku : k = u := by have := he.out; omega
      clear e2 he
      go_wp2
      go_ret
      exact ⟨by rw [hku]; rfl, rfl⟩
end Go.Proofs.Qxb6614815a

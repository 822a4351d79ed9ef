/-
  THE LEAVES of FnFieldsFreshCopy: AddStrings (18), NoFields (8), AppendField (9), NewBuilder (10).
-/
import Derived.Test.Qxb6614694aProg
import Derived.WalkKit
import Derived.WalkSpells
import Derived.WalkLawsBesides
import Derived.KernelRfl
import Derived.Deep.QuietTactic
import Derived.BigQuiet
import Derived.Deep.AppendLies
namespace Go.Proofs.Qxb6614694a
open Go.RowKit
set_option linter.unusedVariables false

/-- What a walk is told of a slice of strings: where it has elements, its address, and the cells. -/
def StrsAt (w : World) (a : Option Addr) (len : Nat) (ss : List ByteArray) : Prop :=
  0 < len → ∃ b off, a = some ⟨b, off, none⟩ ∧ b < w.heap.size ∧ ∀ k, k < len → w.cell? ⟨b, off + k, none⟩ = some (.string (ss.getD k ByteArray.empty))

set_option maxHeartbeats 400000 in
theorem add_any (z : Int) (a : Option Addr) (len cap : Nat) (ss : List ByteArray) (w : World) (hl : len ≤ maxLen) (ha : StrsAt w a len ss) :
    Calls Try.prog 18 #[.int .i64 z, .slice a len cap] w fun e w' => (∃ r : Int, e = .returned (.int .i64 r)) ∧ w' = w := by
  unfold maxLen at hl
  go_enter Try.func18, Try.ntmps18
  go_wp2
  any_goals (go_ret; exact ⟨⟨_, rfl⟩, rfl⟩)
  go_loop [0, 5] (fun s i => ∃ (k : Nat) (y : Int), k ≤ len ∧ i = .int .i64 k ∧ s = .int .i64 y) (fun _ i => len - (intOf i).toNat)
  case atStart => exact ⟨0, z, Nat.zero_le _, rfl, rfl⟩
  case round =>
    obtain ⟨k, y, hk, rfl, rfl⟩ := hrel
    by_cases hlt : k < len
    · obtain ⟨b, off, rfl, hbl, hc⟩ := ha (by omega)
      have hc0 := hc k hlt
      obtain ⟨s, hs⟩ : ∃ s, s = ss.getD k ByteArray.empty := ⟨_, rfl⟩
      rw [← hs] at hc0
      clear hs hc
      go_wp2
      any_goals (go_ret; exact ⟨⟨_, rfl⟩, rfl⟩)
      go_round
      case rel => exact ⟨k + 1, _, by omega, by go_num, rfl⟩
      case measure => simp [intOf]; omega
    · go_wp2
      go_ret
      exact ⟨⟨_, rfl⟩, rfl⟩

theorem no_any (w : World) : Calls Try.prog 8 #[] w fun e w' => e = .returned (.slice none 0 0) ∧ w' = w := by
  go_enter Try.func8, Try.ntmps8
  go_wp2
  go_ret
  exact ⟨rfl, rfl⟩

/-- The four cells of a field. -/
def fld (a b : ByteArray) (p : Int) : List Value := [.string a, .string b, .int .i64 p, .nilIface]

theorem Try.info35 : (Try.prog.info? 35).map (fun i => (i.zero, i.size, i.bytes)) = some (some (.agg #[.string ByteArray.empty, .string ByteArray.empty, .int .i64 0, .nilIface]), 4, 56) := by kernel_rfl

set_option maxHeartbeats 400000 in
theorem app_any (B : Nat) (v : Value) (n : Nat) (xs : List Value) (s t : ByteArray) (p : Int) (w : World) (hown : w.ownsRow B 35 4 v n xs) (hB : B ≤ w.heap.size) (hn : n ≤ 100000) :
    Calls Try.prog 9 #[v, .string s, .string t, .int .i64 p] w fun e w' => ∃ v', e = .returned v' ∧ w'.ownsRow B 35 4 v' (n + 1) (xs ++ fld s t p) ∧ Below B w w' := by
  obtain ⟨i0, hi, hz0, hz1, hz2⟩ := info_parts Try.info35
  go_enter Try.func9, Try.ntmps9
  go_wp2_with (at_builtin; refine wpList_append_own _ rfl _ _ 25 rfl B 35 i0 _ 4 56 Try.underlying25 hi hz0 hz1 hz2 rfl (by decide) v n xs rfl (hown.alloc _) ⟨w.heap.size, 0, none⟩ 1 1 (fld s t p) rfl rfl ?c1 ?c2 ?c3 ?c4 ?c5 ?_)
  case c1 => exact World.news_of_block (heap_alloc_new w _)
  case c2 => intro u hu; simp [fld] at hu; rcases hu with rfl | rfl | rfl | rfl <;> rfl
  case c3 => unfold maxLen; omega
  case c4 => omega
  case c5 => simp; omega
  intro v' w1 hown' hgrow _
  go_wp2
  go_ret
  refine ⟨v', rfl, hown', ?_⟩
  exact ((Below.refl B w).alloc hB _).grown hgrow (by simp; omega) (fun k hk => (hown.lt k hk).1)

/-- The eleven cells of a builder with these steps and setters. -/
def bld (v1 v2 : Value) : Array Value := #[.string ByteArray.empty, .string ByteArray.empty, .int .i64 0, .pointer none, .pointer none, .slice none 0 0, v1, v2, .slice none 0 0, .bool false, .slice none 0 0]

set_option maxHeartbeats 400000 in
theorem new_any (a1 a2 : Option Addr) (n1 c1 n2 c2 : Nat) (w : World) :
    Calls Try.prog 10 #[.slice a1 n1 c1, .slice a2 n2 c2] w fun e w' => e = .returned (.pointer (some ⟨w.heap.size, 0, none⟩)) ∧ w' = w.alloc (.cells (bld (.slice a1 n1 c1) (.slice a2 n2 c2)) 48) := by
  go_enter Try.func10, Try.ntmps10
  go_wp2
  go_ret
  exact ⟨rfl, rfl⟩

theorem results_tmp4 {fn : Func} {t u v x : Tmp} (h : fn.results = #[.tmp t, .tmp u, .tmp v, .tmp x]) (tmps : Array Value) (P : Program) (w : World) :
    (results fn tmps).run P w = .ok (.tuple #[tmps.getD t undef, tmps.getD u undef, tmps.getD v undef, tmps.getD x undef]) w := by
  simp [results, h]

set_option maxHeartbeats 400000 in
theorem at_any (g n c i : Nat) (s t : ByteArray) (p : Int) (w : World) (hi : i < n) (hn : n ≤ 100000)
    (h0 : w.cell? ⟨g, i * 4, none⟩ = some (.string s)) (h1 : w.cell? ⟨g, i * 4 + 1, none⟩ = some (.string t)) (h2 : w.cell? ⟨g, i * 4 + 2, none⟩ = some (.int .i64 p)) (h3 : w.cell? ⟨g, i * 4 + 3, none⟩ = some .nilIface) :
    Calls Try.prog 13 #[.slice (some ⟨g, 0, none⟩) n c, .int .i64 i] w fun e w' => e = .returned (.tuple #[.string s, .string t, .int .i64 p, .bool false]) ∧ ∃ q, w' = w.drewN q := by
  have hi0 : (0 : Int) ≤ (i : Int) := by omega
  have hin : (i : Int) < (n : Int) := by omega
  go_enter Try.func13, Try.ntmps13
  go_wp2
  go_quiet (fail)
  go_wp2
  refine bodyPost_ret (results_tmp4 rfl _ _ _) rfl ?_
  exact ⟨rfl, _, rfl⟩

set_option maxHeartbeats 400000 in
theorem want_step (i n b0 o0 c0 b1 o1 c1 b2 o2 c2 : Nat) (x3 x4 x5 : Value) (s t : ByteArray) (p : Int) (w : World) (hi : i < n) (hn : n ≤ 100000)
    (h0 : w.cell? ⟨b0, o0 + i, none⟩ = some (.string s)) (h1 : w.cell? ⟨b1, o1 + i, none⟩ = some (.string t)) (h2 : w.cell? ⟨b2, o2 + i, none⟩ = some (.int .i64 p)) :
    Calls Try.prog 12 #[.int .i64 i, .slice (some ⟨b0, o0, none⟩) n c0, .slice (some ⟨b1, o1, none⟩) n c1, .slice (some ⟨b2, o2, none⟩) n c2, x3, x4, x5] w
      fun e w' => e = .returned (.tuple #[.string s, .string t, .int .i64 p]) ∧ ∃ q, w' = w.drewN q := by
  have hi0 : (0 : Int) ≤ (i : Int) := by omega
  have hin : (i : Int) < (n : Int) := by omega
  go_enter Try.func12, Try.ntmps12
  go_wp2
  go_quiet (fail)
  go_wp2
  go_ret3
  exact ⟨rfl, _, rfl⟩

set_option maxHeartbeats 400000 in
theorem want_set (i k n b0 o0 c0 b1 o1 c1 b2 o2 c2 m c : Nat) (a : Option Addr) (x1 x2 : Value) (s t : ByteArray) (p : Int) (w : World) (hi : k < n) (hn : n ≤ 100000) (hm : m ≤ 100000) (him : i = m + k)
    (h0 : w.cell? ⟨b0, o0 + k, none⟩ = some (.string s)) (h1 : w.cell? ⟨b1, o1 + k, none⟩ = some (.string t)) (h2 : w.cell? ⟨b2, o2 + k, none⟩ = some (.int .i64 p)) :
    Calls Try.prog 12 #[.int .i64 i, .slice a m c, x1, x2, .slice (some ⟨b0, o0, none⟩) n c0, .slice (some ⟨b1, o1, none⟩) n c1, .slice (some ⟨b2, o2, none⟩) n c2] w
      fun e w' => e = .returned (.tuple #[.string s, .string t, .int .i64 p]) ∧ ∃ q, w' = w.drewN q := by
  have hi0 : (0 : Int) ≤ (k : Int) := by omega
  have hin : (k : Int) < (n : Int) := by omega
  have hge : ¬ (i : Int) < (m : Int) := by omega
  have hik : (i : Int) - (m : Int) = (k : Int) := by omega
  clear him
  go_enter Try.func12, Try.ntmps12
  go_wp2
  go_quiet (fail)
  go_wp2
  go_ret3
  exact ⟨rfl, _, rfl⟩
end Go.Proofs.Qxb6614694a

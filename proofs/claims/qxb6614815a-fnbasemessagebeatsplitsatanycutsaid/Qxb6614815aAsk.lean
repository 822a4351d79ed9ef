/-
  THE WALK of FnAskMessageIsFreshAndOfItsKind (3).
-/
import Derived.Test.Qxb6614815aProg
import Derived.WalkKit
import Derived.WalkSpells
import Derived.WalkLawsBesides
import Derived.KernelRfl
import Derived.Deep.AppendLies
namespace Go.Proofs.Qxb6614815a
open Go.RowKit
set_option linter.unusedVariables false

theorem hide {p : Prop} (h : p) : Hid p := h
theorem Try.info5 : (Try.prog.info? 5).map (fun i => (i.zero, i.size, i.bytes)) = some (some (.int .u8 0), 1, 1) := by kernel_rfl

set_option maxHeartbeats 1000000 in
set_option maxRecDepth 100000 in
theorem ask_walk (a0 : Int) (w : World) :
    Calls Try.prog 3 #[.int .u8 a0] w fun e w' => e = .returned (.bool true) ∧ Below w.heap.size w w' := by
  obtain ⟨i0, hi, hz0, hz1, hz2⟩ := info_parts Try.info5
  have hown : (w.alloc (.cells #[.int .u8 a0] 5)).ownsRow w.heap.size 5 1 (.slice (some ⟨w.heap.size, 0, none⟩) 1 1) 1 [.int .u8 a0] := World.ownsRow_lit w #[.int .u8 a0] 1 (Nat.le_refl _) (by decide) rfl
  go_enter Try.func3, Try.ntmps3
  go_wp2_with (first
    | (at_builtin; refine wpList_append_own _ rfl _ _ 22 rfl w.heap.size 5 i0 _ 1 1 Try.underlying22 hi hz0 hz1 hz2 rfl (by decide) _ 1 [.int .u8 a0] rfl (hown.alloc _) ⟨w.heap.size + 1, 0, none⟩ 1 1 [.int .u8 a0] rfl rfl ?c1 ?c2 ?c3 ?c4 ?c5 ?_)
    | go_in)
  case c1 =>
    have h := cell_one_new (w.alloc (.cells #[.int .u8 a0] 5)) (.int .u8 a0) 5
    simp only [World.size_alloc] at h
    exact h
  case c2 => intro u hu; simp at hu; subst hu; rfl
  case c3 => decide
  case c4 => decide
  case c5 => simp; omega
  intro v' w1 hown1 hgr1 _
  have hb1 : Below w.heap.size w w1 := (((Below.refl _ _).alloc (Nat.le_refl _) _).alloc (by simp) _).grown hgr1 (by simp; omega) (fun k hk => by simp [Value.ownBlock] at hk; omega)
  obtain ⟨g, c, e⟩ : ∃ g c, v' = .slice (some ⟨g, 0, none⟩) 2 c := by
    rcases hown1.2 with ⟨_, h⟩ | ⟨g, c, _, h, _⟩
    · omega
    · exact ⟨g, c, h⟩
  subst e
  have hg := (hown1.lt g rfl).2
  have e0 : w1.cell? ⟨g, 0, none⟩ = some (.int .u8 a0) := by simpa using hown1.cellAt 0 (by omega)
  have e1 : w1.cell? ⟨g, 1, none⟩ = some (.int .u8 a0) := by simpa using hown1.cellAt 1 (by omega)
  clear hown1 hgr1 hown
  go_wp2
  go_ret
  exact ⟨by simp, hb1.alloc hb1.size _⟩
end Go.Proofs.Qxb6614815a

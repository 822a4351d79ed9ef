/-
  Rows.FnBaseMessageBeatSplitsAtAnyCutSaid PROVED (the given shell's frame).
-/
import Derived.Test.Qxb6614815aIn
import Derived.Test.Qxb6614815aSplits1
import Derived.Test.Qxb6614815aSplits2
import Derived.Below
namespace Go.Proofs.Qxb6614815a.fnBaseMessageBeatSplitsAtAnyCut
open Go.ChangeShapes Go.WideShapes Go.ChangeAt Go.RowKit
open Go.ChangeMaps (open_string shut_string)
set_option linter.unusedVariables false

theorem walk (a0 : Int) (a1 : Option Addr) (len1 cap1 : Nat) (D1 : List UInt8) (a2 : Int) (w : World) (w0 : (Lit.int .u64 a0).wf = true) (hD1 : D1.length = len1) (hl1 : D1.length ≤ maxLen) (ha1 : BytesAt w a1 D1) (hn1 : a1 = none → D1.length = 0 ∧ cap1 = 0) :
    Calls Try.prog 4 #[.int .u64 a0, .slice a1 len1 cap1, .int .i64 a2] w fun e w' => e = .returned (.bool true) ∧ Below w.heap.size w w' := by
  obtain ⟨b0, b0'⟩ := bounds_u64 w0
  obtain ⟨x1, rfl⟩ := Int.eq_ofNat_of_zero_le b0
  have hx1 : x1 < 18446744073709551616 := by omega
  subst hD1
  cases a1 with
  | some ad1 => exact splits_some x1 hx1 ad1 cap1 D1 a2 w hl1 ha1
  | none =>
    obtain ⟨e1, rfl⟩ := hn1 rfl
    rw [e1]
    exact splits_none x1 hx1 a2 w

set_option maxRecDepth 100000 in
theorem lifted (os : Os) (started : os.Started) (H : Type) (enc : TypeId × Value → H) :
    ReturnsInHanded {} Try.checked os 4 .any (Rows.fnBaseMessageBeatSplitsAtAnyCutSpec.pre6 enc Try.prog Try.f4 Rows.fnBaseMessageBeatSplitsAtAnyCutRow.domain false) (Rows.fnBaseMessageBeatSplitsAtAnyCutSpec.post enc Try.prog Try.f4 false true false false) := by
  refine returnsInHanded_of_change (C := Try.checked) own started (by kernel_rfl) Try.func4
    (ChangeSpec.witness6 (enc := enc) (C := Try.checked) false ⟨#[], #[.int .u64 0, .slice none 0 0, .int .i64 0], []⟩ 8 (by kernel_rfl) (by kernel_rfl) (by kernel_rfl) (by kernel_rfl)) ?_
  intro W base args ds gs before hval0 hW hcnd _
  have hval : ∀ (j : Nat) t v, Try.f4.params[j]? = some t → args[j]? = some v → Value.okWide Try.prog W .any base t v := hval0
  have hW' := hW
  obtain ⟨p, q, hA0, hV, rfl, hfz, hnd⟩ := hW
  have hA : DataW.TrodAll enc Try.prog W 0 (fun _ => true) true Try.f4.params.toList args.toList ds p := hA0
  rw [Try.params4] at hA hval
  obtain ⟨v0, vs0, d0, ds0, p0, q0, hargs, rfl, rfl, h0, r0⟩ := trodAll_cons hA
  obtain ⟨v1, vs1, d1, ds1, p1, q1, rfl, rfl, rfl, h1, r1⟩ := trodAll_cons r0
  obtain ⟨v2, vs2, d2, ds2, p2, q2, rfl, rfl, rfl, h2, r2⟩ := trodAll_cons r1
  obtain ⟨rfl, rfl, rfl⟩ := trodAll_nil r2
  obtain rfl : args = #[v0, v1, v2] := by cases args; simp_all
  obtain ⟨rfl, rfl⟩ := trodVars_none hV
  obtain ⟨a0, rfl, rfl, rfl, w0⟩ := open_int Try.underlying25 (hval 0 25 v0 rfl rfl) h0
  obtain ⟨a1, len1, cap1, rfl⟩ := okWide_slice Try.underlying22 (hval 1 22 v1 rfl rfl)
  have k1 := h1
  have lt1 : ∀ x ∈ p1, x.block < W.heap.size := by obtain ⟨m, hm⟩ := k1; exact DataW.trod_lt m _ _ _ hm
  obtain ⟨D1, hD1, hl1, ha1, hn1⟩ := bytes_in h1
  obtain ⟨a2, rfl, rfl, rfl, w2⟩ := open_int Try.underlying3 (hval 2 3 v2 rfl rfl) h2
  clear hA0 hval0
  refine (walk a0 a1 len1 cap1 D1 a2 W w0 hD1 hl1 ha1 hn1).mono fun e W' ⟨he, bel⟩ => ?_
  subst he
  exact ⟨_, rfl, _, _, _, [], _, [], hW', trodAll_mk1 (shut_bool Try.underlying4 _), (trodAll_cons_mk (shut_int Try.underlying25 w0) (trodAll_cons_mk (Below.trod laidOut (by kernel_rfl) (of_decide_eq_true (by kernel_rfl)) k1 bel lt1) (trodAll_cons_mk (shut_int Try.underlying3 w2) trodAll_mk0))), rfl, bel.frame _, fun h => by cases h⟩

theorem over : Rows.fnBaseMessageBeatSplitsAtAnyCutRow.holds Try.pinned (OpenSpec.ofChange Rows.fnBaseMessageBeatSplitsAtAnyCutSpec) :=
  OpenClaim.holds_of_wide 4 Try.f4 rfl rfl rfl rfl rfl rfl rfl ⟨rfl, rfl, rfl, rfl, rfl⟩ rfl rfl rfl rfl rfl (by kernel_rfl) Try.func4 (by kernel_rfl)
    (of_decide_eq_true (by kernel_rfl)) (by unfold Func.isWrapper; first | (rw [if_pos (by decide +kernel)]; kernel_rfl) | (rw [if_neg (by decide +kernel)]; exact ⟨rfl, rfl⟩))
    (fun os started H enc _ => lifted os started H enc)

/-- THE STATEMENT -/
theorem proved : Rows.FnBaseMessageBeatSplitsAtAnyCutSaid := over
end Go.Proofs.Qxb6614815a.fnBaseMessageBeatSplitsAtAnyCut

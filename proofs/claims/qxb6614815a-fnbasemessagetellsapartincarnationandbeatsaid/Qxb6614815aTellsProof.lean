/-
  Rows.FnBaseMessageTellsApartIncarnationAndBeatSaid PROVED (the given shell's frame).
-/
import Derived.Test.Qxb6614815aIn
import Derived.Test.Qxb6614815aTells1
import Derived.Test.Qxb6614815aTells2
import Derived.Test.Qxb6614815aTells3
import Derived.Test.Qxb6614815aTells4
import Derived.Below
namespace Go.Proofs.Qxb6614815a.fnBaseMessageTellsApartIncarnationAndBeat
open Go.ChangeShapes Go.WideShapes Go.ChangeAt Go.RowKit
open Go.ChangeMaps (open_string shut_string)
set_option linter.unusedVariables false

theorem walk (a0 : Int) (a1 : Option Addr) (len1 cap1 : Nat) (D1 : List UInt8) (a2 : Int) (a3 : Option Addr) (len3 cap3 : Nat) (D3 : List UInt8) (w : World) (w0 : (Lit.int .u64 a0).wf = true) (hD1 : D1.length = len1) (hl1 : D1.length ≤ maxLen) (ha1 : BytesAt w a1 D1) (hn1 : a1 = none → D1.length = 0 ∧ cap1 = 0) (w2 : (Lit.int .u64 a2).wf = true) (hD3 : D3.length = len3) (hl3 : D3.length ≤ maxLen) (ha3 : BytesAt w a3 D3) (hn3 : a3 = none → D3.length = 0 ∧ cap3 = 0) :
    Calls Try.prog 5 #[.int .u64 a0, .slice a1 len1 cap1, .int .u64 a2, .slice a3 len3 cap3] w fun e w' => e = .returned (.bool true) ∧ Below w.heap.size w w' := by
  obtain ⟨b0, b0'⟩ := bounds_u64 w0
  obtain ⟨b2, b2'⟩ := bounds_u64 w2
  obtain ⟨x1, rfl⟩ := Int.eq_ofNat_of_zero_le b0
  obtain ⟨x2, rfl⟩ := Int.eq_ofNat_of_zero_le b2
  have hx1 : x1 < 18446744073709551616 := by omega
  have hx2 : x2 < 18446744073709551616 := by omega
  subst hD1 hD3
  cases a1 with
  | some ad1 =>
    cases a3 with
    | some ad3 => exact tells_some_some x1 x2 hx1 hx2 ad1 cap1 ad3 cap3 D1 D3 w hl1 ha1 hl3 ha3
    | none =>
      obtain ⟨e1, rfl⟩ := hn3 rfl
      rw [e1]
      exact tells_some_none x1 x2 hx1 hx2 ad1 cap1 D1 w hl1 ha1
  | none =>
    obtain ⟨e1, rfl⟩ := hn1 rfl
    rw [e1]
    cases a3 with
    | some ad3 => exact tells_none_some x1 x2 hx1 hx2 ad3 cap3 D3 w hl3 ha3
    | none =>
      obtain ⟨e3, rfl⟩ := hn3 rfl
      rw [e3]
      exact tells_none_none x1 x2 hx1 hx2 w

set_option maxRecDepth 100000 in
theorem lifted (os : Os) (started : os.Started) (H : Type) (enc : TypeId × Value → H) :
    ReturnsInHanded {} Try.checked os 5 .any (Rows.fnBaseMessageTellsApartIncarnationAndBeatSpec.pre6 enc Try.prog Try.f5 Rows.fnBaseMessageTellsApartIncarnationAndBeatRow.domain false) (Rows.fnBaseMessageTellsApartIncarnationAndBeatSpec.post enc Try.prog Try.f5 false true false false) := by
  refine returnsInHanded_of_change (C := Try.checked) own started (by kernel_rfl) Try.func5
    (ChangeSpec.witness6 (enc := enc) (C := Try.checked) false ⟨#[], #[.int .u64 0, .slice none 0 0, .int .u64 0, .slice none 0 0], []⟩ 8 (by kernel_rfl) (by kernel_rfl) (by kernel_rfl) (by kernel_rfl)) ?_
  intro W base args ds gs before hval0 hW hcnd _
  have hval : ∀ (j : Nat) t v, Try.f5.params[j]? = some t → args[j]? = some v → Value.okWide Try.prog W .any base t v := hval0
  have hW' := hW
  obtain ⟨p, q, hA0, hV, rfl, hfz, hnd⟩ := hW
  have hA : DataW.TrodAll enc Try.prog W 0 (fun _ => true) true Try.f5.params.toList args.toList ds p := hA0
  rw [Try.params5] at hA hval
  obtain ⟨v0, vs0, d0, ds0, p0, q0, hargs, rfl, rfl, h0, r0⟩ := trodAll_cons hA
  obtain ⟨v1, vs1, d1, ds1, p1, q1, rfl, rfl, rfl, h1, r1⟩ := trodAll_cons r0
  obtain ⟨v2, vs2, d2, ds2, p2, q2, rfl, rfl, rfl, h2, r2⟩ := trodAll_cons r1
  obtain ⟨v3, vs3, d3, ds3, p3, q3, rfl, rfl, rfl, h3, r3⟩ := trodAll_cons r2
  obtain ⟨rfl, rfl, rfl⟩ := trodAll_nil r3
  obtain rfl : args = #[v0, v1, v2, v3] := by cases args; simp_all
  obtain ⟨rfl, rfl⟩ := trodVars_none hV
  obtain ⟨a0, rfl, rfl, rfl, w0⟩ := open_int Try.underlying25 (hval 0 25 v0 rfl rfl) h0
  obtain ⟨a1, len1, cap1, rfl⟩ := okWide_slice Try.underlying22 (hval 1 22 v1 rfl rfl)
  have k1 := h1
  have lt1 : ∀ x ∈ p1, x.block < W.heap.size := by obtain ⟨m, hm⟩ := k1; exact DataW.trod_lt m _ _ _ hm
  obtain ⟨D1, hD1, hl1, ha1, hn1⟩ := bytes_in h1
  obtain ⟨a2, rfl, rfl, rfl, w2⟩ := open_int Try.underlying25 (hval 2 25 v2 rfl rfl) h2
  obtain ⟨a3, len3, cap3, rfl⟩ := okWide_slice Try.underlying22 (hval 3 22 v3 rfl rfl)
  have k3 := h3
  have lt3 : ∀ x ∈ p3, x.block < W.heap.size := by obtain ⟨m, hm⟩ := k3; exact DataW.trod_lt m _ _ _ hm
  obtain ⟨D3, hD3, hl3, ha3, hn3⟩ := bytes_in h3
  clear hA0 hval0
  refine (walk a0 a1 len1 cap1 D1 a2 a3 len3 cap3 D3 W w0 hD1 hl1 ha1 hn1 w2 hD3 hl3 ha3 hn3).mono fun e W' ⟨he, bel⟩ => ?_
  subst he
  exact ⟨_, rfl, _, _, _, [], _, [], hW', trodAll_mk1 (shut_bool Try.underlying4 _), (trodAll_cons_mk (shut_int Try.underlying25 w0) (trodAll_cons_mk (Below.trod laidOut (by kernel_rfl) (of_decide_eq_true (by kernel_rfl)) k1 bel lt1) (trodAll_cons_mk (shut_int Try.underlying25 w2) (trodAll_cons_mk (Below.trod laidOut (by kernel_rfl) (of_decide_eq_true (by kernel_rfl)) k3 bel lt3) trodAll_mk0)))), rfl, bel.frame _, fun h => by cases h⟩

theorem over : Rows.fnBaseMessageTellsApartIncarnationAndBeatRow.holds Try.pinned (OpenSpec.ofChange Rows.fnBaseMessageTellsApartIncarnationAndBeatSpec) :=
  OpenClaim.holds_of_wide 5 Try.f5 rfl rfl rfl rfl rfl rfl rfl ⟨rfl, rfl, rfl, rfl, rfl⟩ rfl rfl rfl rfl rfl (by kernel_rfl) Try.func5 (by kernel_rfl)
    (of_decide_eq_true (by kernel_rfl)) (by unfold Func.isWrapper; first | (rw [if_pos (by decide +kernel)]; kernel_rfl) | (rw [if_neg (by decide +kernel)]; exact ⟨rfl, rfl⟩))
    (fun os started H enc _ => lifted os started H enc)

/-- THE STATEMENT -/
theorem proved : Rows.FnBaseMessageTellsApartIncarnationAndBeatSaid := over
end Go.Proofs.Qxb6614815a.fnBaseMessageTellsApartIncarnationAndBeat

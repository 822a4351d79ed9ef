/-
  A SLICE OF BYTES THAT CAME IN, opened for the walk.
-/
import Derived.Test.Qxb6614815aRows
import Derived.Test.Qxb6614815aLeafs
import Derived.ProofKit
import Derived.OpenShut
import Derived.ShutString
import Derived.ChangeOld
import Derived.WalkSmall
namespace Go.Proofs.Qxb6614815a
open Go.ChangeShapes Go.WideShapes Go.ChangeAt Go.RowKit
set_option linter.unusedVariables false

theorem own : ownKnob Try.prog.godebug = none := by kernel_rfl
theorem laidOut : laidOutB Try.prog = true := by kernel_rfl
theorem cells5 : Try.prog.cellsOf 5 = 1 := by kernel_rfl

theorem bytes_in {H : Type} {enc : TypeId × Value → H} {W : World} {a : Option Addr} {len cap : Nat} {d : DataW H} {p : List MemPlace} (h : DataW.Trod enc Try.prog W 0 (fun _ => true) true 22 (.slice a len cap) d p) :
    ∃ D : List UInt8, D.length = len ∧ D.length ≤ maxLen ∧ BytesAt W a D ∧ (a = none → D.length = 0 ∧ cap = 0) := by
  obtain ⟨fuel, hf⟩ := h
  rcases open_ints Try.underlying22 Try.underlying5 cells5 hf with ⟨hcs, _⟩ | ⟨x, l, c, zs, hcs, _, hl, hm, hz, _, hcell, hwz⟩
  · simp [Value.cells] at hcs
    obtain ⟨rfl, rfl, rfl⟩ := hcs
    exact ⟨[], rfl, by decide, fun h => by simp at h, fun _ => ⟨rfl, rfl⟩⟩
  · simp [Value.cells] at hcs
    obtain ⟨rfl, rfl, rfl⟩ := hcs
    simp at hz
    have htl : ((zs.take len).map fun z => UInt8.ofNat z.toNat).length = len := by simp; omega
    refine ⟨(zs.take len).map fun z => UInt8.ofNat z.toNat, htl, by rw [htl]; exact Nat.le_trans hl hm, fun hpos => ?_, fun h => by cases h⟩
    rw [htl] at hpos ⊢
    obtain ⟨b, off, spot⟩ := x
    have hc0 := hcell 0 (by omega)
    have hspot : spot = none := by simpa [Addr.add] using World.cell?_spot hc0
    subst hspot
    refine ⟨b, off, rfl, ?_, fun k hk => ?_⟩
    · have := World.block_lt_of_cell? _ _ hc0
      simpa [Addr.add] using this
    · rw [← add_plain, hcell k (by omega)]
      have hkz : k < zs.length := by omega
      have hb := bounds_u8 (hwz (zs[k]) (List.getElem_mem _))
      have e1 : zs.getD k 0 = zs[k] := by simp [List.getD, hkz]
      have e2 : ((zs.take len).map fun z => UInt8.ofNat z.toNat).getD k 0 = UInt8.ofNat (zs[k]).toNat := by simp [List.getD, hk, hkz]
      rw [e1, e2, UInt8.toNat_ofNat']
      congr 2
      omega
end Go.Proofs.Qxb6614815a

/-
  WHAT THE LAID TABLES GIVE; a start that meets them; the arguments opened.
-/
import Derived.Test.Qxb6614732aDoorRows
import Derived.Test.Qxb6614732aDoorLeafs
import Derived.ProofKit
import Derived.LaidMore
import Derived.OpenShut
import Derived.ShutString
import Derived.Stop.Joined
import Derived.Lib.LaidTab
import Derived.Lib.ItoaNum
import Derived.Lib.AppendIntMem
import Derived.WalkSmall
namespace Go.Proofs.Qxb6614732aDoor
open Go.ChangeShapes Go.WideShapes Go.ChangeAt Go.RowKit
open Go.ChangeMaps (open_string shut_string)
set_option linter.unusedVariables false

theorem own : ownKnob Tryd.prog.godebug = none := by kernel_rfl
theorem laidOut : laidOutB Tryd.prog = true := by kernel_rfl
theorem cells5 : Tryd.prog.cellsOf 5 = 1 := by kernel_rfl

def laid3 {H : Type} : List (String × DataW H) := [("math/bits.deBruijn32tab", Rows.laid_math_bits_deBruijn32tab), ("math/bits.deBruijn64tab", Rows.laid_math_bits_deBruijn64tab), ("internal/strconv.uint64pow10", Rows.laid_internal_strconv_uint64pow10)]

theorem door_met (os : Os) (args : Array Value) : laidMetH Tryd.prog laid3 ((World.doorLaid Tryd.prog 400 os).forCall (fun _ _ => 0) ⟨#[], args, []⟩).memory :=
  laidMetH_of_parts3 (fuel := 8) (laidMet_of_run' 8 (by kernel_rfl) (by kernel_rfl)) (by kernel_rfl) (by kernel_rfl)

theorem gPow : Tryd.prog.globalNamed "internal/strconv.uint64pow10" = some 0 := by kernel_rfl
theorem tPow : (Tryd.prog.globals[0]?).map (·.type) = some 50 := by kernel_rfl
theorem cellsA : Tryd.prog.cellsOf 50 = 20 := by kernel_rfl
theorem cellsE : Tryd.prog.cellsOf 38 = 1 := by kernel_rfl

/-- WHAT THE CONDITION GIVES: the table of the powers of ten, in every later world too. -/
theorem tab_of_laid {W : World} (h : laidMetH Tryd.prog laid3 W) : Lib.TabBelow Tryd.prog W.heap.size W "internal/strconv.uint64pow10" .u64 Lib.pow10Tab := by
  rw [MakeChecks.laidMetH_plain _ _ _ (by kernel_rfl)] at h
  obtain ⟨ps, ⟨g0, t0, cs0, f0, p0, q0, hg0, ht0, hv0, hd0, ⟨g1, t1, cs1, f1, p1, q1, hg1, ht1, hv1, hd1, ⟨g2, t2, cs2, f2, p2, q2, hg2, ht2, hv2, hd2, _, _⟩, _⟩, _⟩, _, _⟩ := h
  obtain rfl := Option.some.inj (gPow.symm.trans hg2)
  obtain rfl := Option.some.inj (tPow.symm.trans ht2)
  have hc := Lib.cells_of_tab (zs := Lib.pow10Tab) Tryd.underlying50 Tryd.underlying38 cellsE cellsA hd2
  have hv : W.var? Tryd.prog "internal/strconv.uint64pow10" = some (Lib.pow10Tab.map fun z => Value.int .u64 z).toArray := by
    rw [hv2, ← hc]
  have hlt : 0 < W.heap.size := by
    have hx := hv
    unfold World.var? at hx
    simp only [gPow, Option.bind_some] at hx
    by_cases hlt : 0 < W.heap.size
    · exact hlt
    · rw [Array.getElem?_eq_none (by omega)] at hx
      simp at hx
  intro w' hb
  exact var?_below hb gPow hlt hv

/-- A slice of bytes that came in, opened for the walk. -/
theorem bytes_in {H : Type} {enc : TypeId × Value → H} {W : World} {a : Option Addr} {len cap : Nat} {d : DataW H} {p : List MemPlace} (h : DataW.Trod enc Tryd.prog W 0 (fun _ => true) true 22 (.slice a len cap) d p) :
    ∃ D : List UInt8, D.length = len ∧ D.length ≤ maxLen ∧ BytesAt W a D ∧ (a = none → D.length = 0 ∧ cap = 0) := by
  obtain ⟨fuel, hf⟩ := h
  rcases open_ints Tryd.underlying22 Tryd.underlying5 cells5 hf with ⟨hcs, _⟩ | ⟨x, l, c, zs, hcs, _, hl, hm, hz, _, hcell, hwz⟩
  · simp [Value.cells] at hcs
    obtain ⟨rfl, rfl, rfl⟩ := hcs
    exact ⟨[], rfl, by decide, fun h => by simp at h, fun _ => ⟨rfl, rfl⟩⟩
  · simp [Value.cells] at hcs
    obtain ⟨rfl, rfl, rfl⟩ := hcs
    simp at hz
    have htl : ((zs.take len).map fun z => UInt8.ofNat z.toNat).length = len := by simp; omega
    refine ⟨(zs.take len).map fun z => UInt8.ofNat z.toNat, htl, by rw [htl]; exact Nat.le_trans hl hm, fun hpos => ?_, fun h => by cases h⟩
    rw [htl] at hpos ⊢
    obtain ⟨b, off, spot⟩ := x
    have hc0 := hcell 0 (by omega)
    have hspot : spot = none := by simpa [Addr.add] using World.cell?_spot hc0
    subst hspot
    refine ⟨b, off, rfl, ?_, fun k hk => ?_⟩
    · have := World.block_lt_of_cell? _ _ hc0
      simpa [Addr.add] using this
    · rw [← add_plain, hcell k (by omega)]
      have hkz : k < zs.length := by omega
      have hb := bounds_u8 (hwz (zs[k]) (List.getElem_mem _))
      have e1 : zs.getD k 0 = zs[k] := by simp [List.getD, hkz]
      have e2 : ((zs.take len).map fun z => UInt8.ofNat z.toNat).getD k 0 = UInt8.ofNat (zs[k]).toNat := by simp [List.getD, hk, hkz]
      rw [e1, e2, UInt8.toNat_ofNat']
      congr 2
      omega
end Go.Proofs.Qxb6614732aDoor

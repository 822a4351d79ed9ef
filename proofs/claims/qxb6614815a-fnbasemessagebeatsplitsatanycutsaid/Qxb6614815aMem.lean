/-
  MEMORY: a slice of bytes that the call makes and fills.
-/
import Derived.Test.Qxb6614815aPlain
import Derived.Laws.CopyOwn
namespace Go.Proofs.Qxb6614815a
open Go.RowKit
set_option linter.unusedVariables false

theorem Try.one5 : (Try.prog.info? 5).map (·.size) = some 1 := by kernel_rfl

theorem made_block {w : World} {B g n : Nat} {xs : List Value} (h : w.ownsRow B 5 1 (.slice (some ⟨g, 0, none⟩) n n) n xs) : ∃ cur : List Value, cur.length = n ∧ w.heap[g]? = some (.cells cur.toArray 5 (0, 0)) := by
  rcases h.2 with ⟨h1, _⟩ | ⟨g', cap, cur, h1, _, h3, _, _, h4, _⟩
  · simp at h1
  · simp at h1
    obtain ⟨rfl, rfl⟩ := h1
    exact ⟨cur.toList, by simpa using h4, by simpa using h3⟩

theorem bytes_of_block {w : World} {g : Nat} {D : List UInt8} (h : w.heap[g]? = some (.cells (Lib.byteCells D).toArray 5 (0, 0))) : BytesAt w (some ⟨g, 0, none⟩) D := by
  intro _
  refine ⟨g, 0, rfl, (Array.getElem?_eq_some_iff.1 h).1, fun k hk => ?_⟩
  rw [Nat.zero_add, cell_of_row w g k _ 5 (0, 0) h]
  simpa using bytes_get D k hk

theorem splice_full (cur cs : List Value) (h : cur.length = cs.length) : splice cur 0 cs = cs := by
  unfold splice; rw [List.drop_eq_nil_of_le (by omega)]; simp

theorem src_bytes {w : World} {a : Option Addr} {D : List UInt8} (h : BytesAt w a D) : 0 < (Lib.byteCells D).length → ∃ ad, a = some ad ∧ ∀ j v, (Lib.byteCells D)[j]? = some v → w.cell? (ad.add j) = some v := by
  intro hp
  obtain ⟨b, off, rfl, _, hc⟩ := h (by rwa [Lib.byteCells_length] at hp)
  refine ⟨_, rfl, fun j v hv => ?_⟩
  exact h.src _ rfl j v hv
end Go.Proofs.Qxb6614815a

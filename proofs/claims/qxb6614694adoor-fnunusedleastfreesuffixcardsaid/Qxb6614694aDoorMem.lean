/-
  MEMORY: a slice of strings that the call makes and fills.
-/
import Derived.Test.Qxb6614694aDoorLeafs
import Derived.Laws.CopyOwn
namespace Go.Proofs.Qxb6614694aDoor
open Go.RowKit
set_option linter.unusedVariables false

theorem Tryd.info9 : (Tryd.prog.info? 9).map (fun i => (i.zero, i.size, i.bytes)) = some (some (.string ByteArray.empty), 1, 16) := by kernel_rfl
theorem Tryd.one9 : (Tryd.prog.info? 9).map (·.size) = some 1 := by kernel_rfl

theorem made_block {w : World} {B g n : Nat} {xs : List Value} (h : w.ownsRow B 9 1 (.slice (some ⟨g, 0, none⟩) n n) n xs) : ∃ cur : List Value, cur.length = n ∧ w.heap[g]? = some (.cells cur.toArray 9 (0, 0)) := by
  rcases h.2 with ⟨h1, _⟩ | ⟨g', cap, cur, h1, _, h3, _, _, h4, _⟩
  · simp at h1
  · simp at h1
    obtain ⟨rfl, rfl⟩ := h1
    exact ⟨cur.toList, by simpa using h4, by simpa using h3⟩

theorem get_strs (L : List ByteArray) (rest : List Value) (k : Nat) (hk : k < L.length) : (L.map Value.string ++ rest)[k]? = some (Value.string L[k]) := by
  rw [List.getElem?_append_left (by simpa using hk)]
  simp [hk]

theorem strs_of_block {w : World} {g : Nat} {L : List ByteArray} {rest : List Value} (h : w.heap[g]? = some (.cells (L.map Value.string ++ rest).toArray 9 (0, 0))) : StrsAt w (some ⟨g, 0, none⟩) L := by
  intro _
  refine ⟨g, 0, rfl, (Array.getElem?_eq_some_iff.1 h).1, fun k hk => ?_⟩
  rw [Nat.zero_add, cell_of_row w g k _ 9 (0, 0) h, getD_lt hk]
  simpa using get_strs L rest k hk

theorem splice_full (cur cs : List Value) (h : cur.length = cs.length) : splice cur 0 cs = cs := by
  unfold splice; rw [List.drop_eq_nil_of_le (by omega)]; simp
theorem splice_more (cur cs : List Value) (h : cur.length = cs.length + 1) : ∃ v, splice cur 0 cs = cs ++ [v] := by
  have hl : (cur.drop cs.length).length = 1 := by simp; omega
  match hd : cur.drop cs.length, hl with
  | [v], _ => exact ⟨v, by unfold splice; rw [Nat.zero_add, hd]; simp⟩

theorem one_strs (L : List ByteArray) : ∀ v ∈ L.map Value.string, v.oneCell' = true := by
  intro v hv
  obtain ⟨s, _, rfl⟩ := List.mem_map.1 hv
  rfl

theorem src_strs {w : World} {a : Option Addr} {L : List ByteArray} (h : StrsAt w a L) : 0 < (L.map Value.string).length → ∃ ad, a = some ad ∧ ∀ j v, (L.map Value.string)[j]? = some v → w.cell? (ad.add j) = some v := by
  intro hp
  obtain ⟨b, off, rfl, _, hc⟩ := h (by simpa using hp)
  refine ⟨_, rfl, fun j v hv => ?_⟩
  have hj : j < L.length := by have := (List.getElem?_eq_some_iff.1 hv).1; simpa using this
  rw [Addr.add_lit, hc j hj, getD_lt hj]
  simp [hj] at hv
  rw [hv]

/-- The row with one more string at its end. -/
theorem strs_snoc {w : World} {g : Nat} {L : List ByteArray} {v : Value} (x : ByteArray) (h : w.heap[g]? = some (.cells (L.map Value.string ++ [v]).toArray 9 (0, 0))) : StrsAt (w.setCell ⟨g, L.length, none⟩ (.string x)) (some ⟨g, 0, none⟩) (L ++ [x]) := by
  have hlt := (Array.getElem?_eq_some_iff.1 h).1
  intro _
  refine ⟨g, 0, rfl, by simpa [World.setCell] using hlt, fun k hk => ?_⟩
  rw [Nat.zero_add, getD_lt hk]
  by_cases e : k = L.length
  · subst e
    rw [World.cell?_setCell_same (u := v) _ _ _ (by rw [cell_of_row w g _ _ 9 (0, 0) h]; simp)]
    simp
  · have hne : (⟨g, L.length, none⟩ : Addr) ≠ ⟨g, k, none⟩ := fun h => e (by simpa using (congrArg Addr.off h).symm)
    rw [World.cell?_setCell_other _ _ _ _ hne, cell_of_row w g k _ 9 (0, 0) h]
    have hk' : k < L.length := by simp at hk; omega
    rw [List.getElem_append_left hk']
    simpa using get_strs L [v] k hk'
end Go.Proofs.Qxb6614694aDoor

/-
  PLAIN LAWS on the cells of fields: what a block of fields holds, before and behind an exchange.
-/
import Derived.Test.Qxb6614694aConcat
namespace Go.Proofs.Qxb6614694a
open Go.RowKit
set_option linter.unusedVariables false

theorem hide {p : Prop} (h : p) : Hid p := h

/-- The cells of the first k fields. -/
def F (s t : List ByteArray) (z : List Int) : Nat → List Value
  | 0 => []
  | k + 1 => F s t z k ++ fld (s.getD k ByteArray.empty) (t.getD k ByteArray.empty) (z.getD k 0)

theorem F_one (s t : List ByteArray) (z : List Int) (k : Nat) : ∀ u ∈ F s t z k, u.oneCell' = true := by
  induction k with
  | zero => simp [F]
  | succ k ih =>
    intro u hu
    simp only [F, List.mem_append] at hu
    rcases hu with hu | hu
    · exact ih u hu
    · simp [fld] at hu; rcases hu with rfl | rfl | rfl | rfl <;> rfl

theorem F_length (s t : List ByteArray) (z : List Int) (k : Nat) : (F s t z k).length = k * 4 := by
  induction k with
  | zero => rfl
  | succ k ih => simp [F, ih, fld]; omega

theorem F_get (s t : List ByteArray) (z : List Int) (k i c : Nat) (hi : i < k) (hc : c < 4) :
    (F s t z k)[i * 4 + c]? = (fld (s.getD i ByteArray.empty) (t.getD i ByteArray.empty) (z.getD i 0))[c]? := by
  induction k with
  | zero => omega
  | succ k ih =>
    have hl := F_length s t z k
    simp only [F]
    by_cases h : i < k
    · rw [List.getElem?_append_left (by omega)]
      exact ih h
    · have : i = k := by omega
      subst this
      rw [List.getElem?_append_right (by omega), hl, Nat.add_sub_cancel_left]

/-- The field at place i of the steps and the setters. -/
def fo (s0 s1 : List ByteArray) (z2 : List Int) (n0 : Nat) (s3 s4 : List ByteArray) (z5 : List Int) (i : Nat) : ByteArray × ByteArray × Int :=
  if i < n0 then (s0.getD i ByteArray.empty, s1.getD i ByteArray.empty, z2.getD i 0) else (s3.getD (i - n0) ByteArray.empty, s4.getD (i - n0) ByteArray.empty, z5.getD (i - n0) 0)

/-- Which place stands at i when the first k and the last k have changed places. -/
def rv (N k i : Nat) : Nat := if i < k ∨ N - k ≤ i then N - 1 - i else i

/-- Block G holds N fields, by the function φ; nothing in it is frozen. -/
def Rows4 (w : World) (G N : Nat) (φ : Nat → ByteArray × ByteArray × Int) : Prop :=
  (∀ i, i < N → w.cell? ⟨G, i * 4, none⟩ = some (.string (φ i).1) ∧ w.cell? ⟨G, i * 4 + 1, none⟩ = some (.string (φ i).2.1) ∧ w.cell? ⟨G, i * 4 + 2, none⟩ = some (.int .i64 (φ i).2.2) ∧ w.cell? ⟨G, i * 4 + 3, none⟩ = some .nilIface) ∧
  ∀ o, w.frozen? ⟨G, o, none⟩ = false

theorem rv_zero (N i : Nat) (h : i < N) : rv N 0 i = i := by unfold rv; split <;> omega

theorem Rows4.congr {w : World} {G N : Nat} {φ ψ : Nat → ByteArray × ByteArray × Int} (h : Rows4 w G N φ) (e : ∀ i, i < N → ψ i = φ i) : Rows4 w G N ψ :=
  ⟨fun i hi => by rw [e i hi]; exact h.1 i hi, h.2⟩

theorem rows_zero {w : World} {G N : Nat} {φ : Nat → ByteArray × ByteArray × Int} (h : Rows4 w G N φ) : Rows4 w G N (fun i => φ (rv N 0 i)) :=
  h.congr fun i hi => by rw [rv_zero N i hi]

theorem rows_done {w : World} {G N k : Nat} {φ : Nat → ByteArray × ByteArray × Int} (h : Rows4 w G N (fun i => φ (rv N k i))) (h1 : 2 * k ≤ N) (h2 : N ≤ 2 * k + 1) : Rows4 w G N (fun i => φ (N - 1 - i)) :=
  h.congr fun i hi => by
    show _ = φ (rv N k i)
    congr 1
    unfold rv
    split <;> omega

theorem rows_of {w : World} {B n0 n3 c : Nat} {a : Option Addr} {s0 s1 s3 s4 : List ByteArray} {z2 z5 : List Int} (h : w.ownsRow B 35 4 (.slice a (n0 + n3) c) (n0 + n3) (F s0 s1 z2 n0 ++ F s3 s4 z5 n3)) :
    ∃ G : Nat, 0 < n0 + n3 → a = some ⟨G, 0, none⟩ ∧ B ≤ G ∧ Rows4 w G (n0 + n3) (fo s0 s1 z2 n0 s3 s4 z5) := by
  rcases h.2 with ⟨h1, h2⟩ | ⟨g, cap, cur, h1, h2, h3, h4⟩
  · exact ⟨0, fun h0 => by omega⟩
  · simp at h1
    obtain ⟨rfl, rfl⟩ := h1
    refine ⟨g, fun _ => ⟨rfl, h2, ?_, fun o => h.frozenAt o⟩⟩
    have l0 := F_length s0 s1 z2 n0
    have key : ∀ i, i < n0 + n3 → ∀ d, d < 4 → w.cell? ⟨g, i * 4 + d, none⟩ = (fld (fo s0 s1 z2 n0 s3 s4 z5 i).1 (fo s0 s1 z2 n0 s3 s4 z5 i).2.1 (fo s0 s1 z2 n0 s3 s4 z5 i).2.2)[d]? := by
      intro i hi d hd
      rw [h.cellAt (i * 4 + d) (by omega)]
      unfold fo
      split
      · rename_i hlt
        rw [List.getElem?_append_left (by omega)]
        exact F_get _ _ _ _ _ _ hlt hd
      · rename_i hge
        rw [List.getElem?_append_right (by omega), l0]
        have e : i * 4 + d - n0 * 4 = (i - n0) * 4 + d := by omega
        rw [e]
        exact F_get _ _ _ _ _ _ (by omega) hd
    intro i hi
    exact ⟨key i hi 0 (by omega), key i hi 1 (by omega), key i hi 2 (by omega), key i hi 3 (by omega)⟩

theorem cell_set {w : World} {a b : Addr} {v u : Value} (h : w.cell? b = some u) : (w.setCell a v).cell? b = some (if a = b then v else u) := by
  by_cases e : a = b
  · subst e; rw [if_pos rfl]; exact World.cell?_setCell_same _ _ _ h
  · rw [if_neg e]; rw [World.cell?_setCell_other _ _ _ _ e]; exact h

def set4 (w : World) (G o : Nat) (x : ByteArray × ByteArray × Int) : World :=
  (((w.setCell ⟨G, o, none⟩ (.string x.1)).setCell ⟨G, o + 1, none⟩ (.string x.2.1)).setCell ⟨G, o + 2, none⟩ (.int .i64 x.2.2)).setCell ⟨G, o + 3, none⟩ .nilIface

theorem rows_set {w : World} {G N m : Nat} {φ : Nat → ByteArray × ByteArray × Int} (h : Rows4 w G N φ) (x : ByteArray × ByteArray × Int) : Rows4 (set4 w G (m * 4) x) G N (fun i => if i = m then x else φ i) := by
  refine ⟨fun i hi => ?_, fun o => by simp [set4]; exact h.2 o⟩
  obtain ⟨h0, h1, h2, h3⟩ := h.1 i hi
  have key : ∀ d u, w.cell? ⟨G, i * 4 + d, none⟩ = some u → (set4 w G (m * 4) x).cell? ⟨G, i * 4 + d, none⟩ = some (if m * 4 + 3 = i * 4 + d then .nilIface else if m * 4 + 2 = i * 4 + d then .int .i64 x.2.2 else if m * 4 + 1 = i * 4 + d then .string x.2.1 else if m * 4 = i * 4 + d then .string x.1 else u) := by
    intro d u hu
    have := cell_set (a := ⟨G, m * 4 + 3, none⟩) (v := .nilIface) (cell_set (a := ⟨G, m * 4 + 2, none⟩) (v := .int .i64 x.2.2) (cell_set (a := ⟨G, m * 4 + 1, none⟩) (v := .string x.2.1) (cell_set (a := ⟨G, m * 4, none⟩) (v := .string x.1) hu)))
    simpa [set4, Addr.mk.injEq] using this
  have k0 := key 0 _ h0
  have k1 := key 1 _ h1
  have k2 := key 2 _ h2
  have k3 := key 3 _ h3
  by_cases e : i = m
  · subst e
    simp only [if_true]
    simp at k0 k1 k2 k3
    exact ⟨k0, k1, k2, k3⟩
  · simp only [if_neg e]
    rw [if_neg (by omega), if_neg (by omega), if_neg (by omega), if_neg (by omega)] at k0 k1 k2 k3
    exact ⟨k0, k1, k2, k3⟩

theorem rows_alloc {w : World} {G N : Nat} {φ : Nat → ByteArray × ByteArray × Int} (h : Rows4 w G N φ) (hG : G < w.heap.size) (o : Obj) : Rows4 (w.alloc o) G N φ :=
  ⟨fun i hi => by
    rw [World.cell?_alloc_past _ _ _ hG, World.cell?_alloc_past _ _ _ hG, World.cell?_alloc_past _ _ _ hG, World.cell?_alloc_past _ _ _ hG]
    exact h.1 i hi, fun d => by rw [World.frozen?_alloc_past _ _ _ hG]; exact h.2 d⟩

theorem rows_below {w w' : World} {G N : Nat} {φ : Nat → ByteArray × ByteArray × Int} (h : Rows4 w G N φ) (hb : Below w.heap.size w w') (hG : G < w.heap.size) : Rows4 w' G N φ :=
  ⟨fun i hi => by
    have e : ∀ o, w'.cell? ⟨G, o, none⟩ = w.cell? ⟨G, o, none⟩ := fun o => hb.cell (p := ⟨G, o, none⟩) hG
    rw [e, e, e, e]
    exact h.1 i hi, fun d => (hb.frozen (p := ⟨G, d, none⟩) hG).trans (h.2 d)⟩

theorem set4_size (w : World) (G o : Nat) (x : ByteArray × ByteArray × Int) : (set4 w G o x).heap.size = w.heap.size := by simp [set4, World.setCell]

theorem rows_swap {w : World} {G N k j : Nat} {φ : Nat → ByteArray × ByteArray × Int} (h : Rows4 w G N (fun i => φ (rv N k i))) (hk : k < j) (hj : j + k + 1 = N) (hG : G < w.heap.size) (P Q : ByteArray × ByteArray × Int)
    (hP : P = φ (rv N k k)) (hQ : Q = φ (rv N k j)) (o : Obj) : Rows4 ((set4 (set4 w G (k * 4) Q) G (j * 4) P).alloc o) G N (fun i => φ (rv N (k + 1) i)) := by
  have h1 := rows_set (m := j) (rows_set (m := k) h Q) P
  refine rows_alloc (h1.congr fun i hi => ?_) (by rw [set4_size, set4_size]; exact hG) o
  show φ (rv N (k + 1) i) = if i = j then P else if i = k then Q else φ (rv N k i)
  rw [hP, hQ]
  split
  · subst i; congr 1; unfold rv; split <;> split <;> omega
  · split
    · subst i; congr 1; unfold rv; split <;> split <;> omega
    · congr 1; unfold rv; split <;> split <;> omega

theorem below_set4 {B G o : Nat} {w0 w : World} (h : Below B w0 w) (hG : B ≤ G) (x : ByteArray × ByteArray × Int) : Below B w0 (set4 w G o x) :=
  (((h.setCell (p := ⟨G, o, none⟩) hG _).setCell (p := ⟨G, o + 1, none⟩) hG _).setCell (p := ⟨G, o + 2, none⟩) hG _).setCell (p := ⟨G, o + 3, none⟩) hG _
end Go.Proofs.Qxb6614694a

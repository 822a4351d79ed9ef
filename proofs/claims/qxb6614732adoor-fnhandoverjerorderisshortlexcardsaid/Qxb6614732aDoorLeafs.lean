/-
  THE LEAVES of the two Handover laws: zzBytes (5, 11), cloneBytes (6), bytesEq (8), cat2 (9).
-/
import Derived.Test.Qxb6614732aDoorProg
import Derived.WalkKit
import Derived.WalkSpells
import Derived.WalkLawsBesides
import Derived.KernelRfl
import Derived.Deep.QuietTactic
import Derived.BigQuiet
import Derived.Laws.AppendOwnNone
import Derived.Lib.AppendIntMem
namespace Go.Proofs.Qxb6614732aDoor
open Go.RowKit
set_option linter.unusedVariables false

theorem hide {p : Prop} (h : p) : Hid p := h

/-- The slice at a has the bytes D. -/
def BytesAt (w : World) (a : Option Addr) (D : List UInt8) : Prop :=
  0 < D.length → ∃ b off, a = some ⟨b, off, none⟩ ∧ b < w.heap.size ∧ ∀ k, k < D.length → w.cell? ⟨b, off + k, none⟩ = some (.int .u8 ((D.getD k 0).toNat : Int))

theorem BytesAt.below {w w' : World} {a : Option Addr} {D : List UInt8} (h : BytesAt w a D) (hb : Below w.heap.size w w') : BytesAt w' a D := by
  intro hp
  obtain ⟨b, off, ha, hl, hc⟩ := h hp
  exact ⟨b, off, ha, Nat.lt_of_lt_of_le hl hb.size, fun k hk => (hb.cell (p := ⟨b, off + k, none⟩) hl).trans (hc k hk)⟩

theorem getD_lt {D : List UInt8} {k : Nat} (h : k < D.length) : D.getD k 0 = D[k] := by simp [List.getD, h]

theorem bytes_get (D : List UInt8) (k : Nat) (h : k < D.length) : (Lib.byteCells D)[k]? = some (.int .u8 ((D.getD k 0).toNat : Int)) := by
  rw [getD_lt h]; simp [Lib.byteCells, h]

theorem bytes_one (D : List UInt8) : ∀ u ∈ Lib.byteCells D, u.oneCell' = true := by
  intro u hu
  simp only [Lib.byteCells, List.mem_map] at hu
  obtain ⟨b, _, rfl⟩ := hu
  rfl

theorem own_form {w : World} {B e z n : Nat} {v : Value} {xs : List Value} (h : w.ownsRow B e z v n xs) : ∃ a c, v = .slice a n c ∧ c ≤ maxLen := by
  rcases h.2 with ⟨h1, h2⟩ | ⟨g, cap, cur, h1, _, _, _, h4, _⟩
  · subst h2; exact ⟨_, _, h1, by decide⟩
  · exact ⟨_, _, h1, h4⟩

theorem own_none {w : World} {B e z n c : Nat} {xs : List Value} {a : Option Addr} (h : w.ownsRow B e z (.slice a n c) n xs) : a = none → n = 0 ∧ c = 0 := by
  intro ha
  subst ha
  rcases h.2 with ⟨h1, h2⟩ | ⟨g, cap, cur, h1, _⟩
  · simp at h1; exact h1
  · simp at h1

theorem own_bytes {w : World} {B n c : Nat} {a : Option Addr} {D : List UInt8} (h : w.ownsRow B 5 1 (.slice a n c) n (Lib.byteCells D)) : BytesAt w a D := by
  intro hp
  have hl : D.length = n := by have := h.1; rw [Lib.byteCells_length] at this; omega
  rcases h.2 with ⟨h1, h2⟩ | ⟨g, cap, cur, h1, _⟩
  · omega
  · simp at h1
    obtain ⟨rfl, rfl⟩ := h1
    refine ⟨g, 0, rfl, (h.lt g rfl).2, fun k hk => ?_⟩
    rw [Nat.zero_add, h.cellAt k (by omega), bytes_get D k hk]

theorem own_below {w w' : World} {B e z n : Nat} {v : Value} {xs : List Value} (h : w.ownsRow B e z v n xs) (hb : Below w.heap.size w w') : w'.ownsRow B e z v n xs := by
  refine ⟨h.1, ?_⟩
  rcases h.2 with h1 | ⟨g, cap, cur, h1, h2, h3, h4⟩
  · exact .inl h1
  · exact .inr ⟨g, cap, cur, h1, h2, by rw [hb.block g (Array.getElem?_eq_some_iff.1 h3).1]; exact h3, h4⟩

/-- What is appended: the bytes lie at the address. -/
theorem BytesAt.src {w : World} {a : Option Addr} {D : List UInt8} (h : BytesAt w a D) : ∀ ad, a = some ad → ∀ j u, (Lib.byteCells D)[j]? = some u → w.cell? (ad.add j) = some u := by
  intro ad had j u hu
  have hj : j < D.length := by have := (List.getElem?_eq_some_iff.1 hu).1; rwa [Lib.byteCells_length] at this
  obtain ⟨b, off, ha, _, hc⟩ := h (by omega)
  rw [had] at ha
  obtain rfl := Option.some.inj ha
  rw [Addr.add_lit, hc j hj, ← bytes_get D j hj, hu]

theorem wpList_append_any {P : Program} {w : World} {ops : Array Oper} {rest : List Oper} {o : Oper} {a : Act} {Q : Exit → Act → World → Prop} (hgd : o.guard = none) (s x : Operand) (t : TypeId)
    (ho : o.op = .call { callee := .builtin .append, args := #[s, x], argTypes := #[t, t] })
    (base : Nat) (e : TypeId) (i : TypeInfo) (z : Value) (size bytes : Nat) (ht : P.underlying t = some (.slice e)) (hi : P.info? e = some i) (hz : i.zero = some z)
    (hsize : i.size = size) (hby : i.bytes = bytes) (hzs : z.cells.size = size) (hsz : 0 < size)
    (v : Value) (n : Nat) (xs : List Value) (hs : a.eval s = v) (hown : w.ownsRow base e size v n xs)
    (ao : Option Addr) (m c : Nat) (news : List Value) (hx : a.eval x = .slice ao m c) (hnone : ao = none → m = 0 ∧ c = 0) (hl : news.length = m * size)
    (hnews : ∀ ad, ao = some ad → ∀ j u, news[j]? = some u → w.cell? (ad.add j) = some u) (h1 : ∀ u ∈ news, u.oneCell' = true)
    (h63 : n + m ≤ maxLen) (hbytes : (n + m) * bytes ≤ 140737488355328) (hbase : base ≤ w.heap.size)
    (h : ∀ v' w', w'.ownsRow base e size v' (n + m) (xs ++ news) → w.grownBy w' v.ownBlock → wpList P ops Q rest (a.put o.dst v') w') : wpList P ops Q (o :: rest) a w := by
  cases ao with
  | some ad => exact wpList_append_own w hgd s x t ho base e i z size bytes ht hi hz hsize hby hzs hsz v n xs hs hown ad m c news hx hl (hnews ad rfl) h1 h63 hbytes hbase fun v' w' h2 h3 _ => h v' w' h2 h3
  | none =>
    obtain ⟨rfl, rfl⟩ := hnone rfl
    obtain rfl : news = [] := List.eq_nil_of_length_eq_zero (by simpa using hl)
    exact wpList_append_own_none hgd s x t ho base e i size ht hi v n xs hs hown hx (h v w (by simpa using hown) (World.grownBy.refl _ _))

theorem Tryd.info5 : (Tryd.prog.info? 5).map (fun i => (i.zero, i.size, i.bytes)) = some (some (.int .u8 0), 1, 1) := by kernel_rfl

def OkB (e : Ending) : Prop := ∃ b : Bool, e = .returned (.bool b)
theorem OkB.mk (b : Bool) : OkB (.returned (.bool b)) := ⟨b, rfl⟩

set_option maxHeartbeats 400000 in
theorem bytes5 (v : Int) (a : Option Addr) (n c : Nat) (w : World) (hn : n ≤ maxLen) :
    Calls Tryd.prog 5 #[.int .i64 v, .slice a n c] w fun e w' => OkB e ∧ w' = w := by
  unfold maxLen at hn
  go_enter Tryd.func5, Tryd.ntmps5
  go_wp2
  all_goals (go_ret; exact ⟨OkB.mk _, rfl⟩)

set_option maxHeartbeats 400000 in
theorem bytes11 (v v2 : Int) (a : Option Addr) (n c : Nat) (w : World) (hn : n ≤ maxLen) :
    Calls Tryd.prog 11 #[.int .i64 v, .int .i64 v2, .slice a n c] w fun e w' => OkB e ∧ w' = w := by
  unfold maxLen at hn
  go_enter Tryd.func11, Tryd.ntmps11
  go_wp2
  all_goals (go_ret; exact ⟨OkB.mk _, rfl⟩)

def eqB (A B : List UInt8) : Bool := A == B
theorem eqB_same (A : List UInt8) : eqB A A = true := by simp [eqB]
theorem eqB_len {A B : List UInt8} (h : A.length ≠ B.length) : eqB A B = false := by
  unfold eqB; rw [beq_eq_false_iff_ne]; intro e; exact h (congrArg List.length e)
theorem eqB_at {A B : List UInt8} {k : Nat} (h : A.getD k 0 ≠ B.getD k 0) : eqB A B = false := by
  unfold eqB; rw [beq_eq_false_iff_ne]; intro e; subst e; exact h rfl
theorem eqB_all {A B : List UInt8} (h : A.length = B.length) (h2 : ∀ j, j < A.length → A.getD j 0 = B.getD j 0) : eqB A B = true := by
  unfold eqB
  rw [beq_iff_eq]
  refine List.ext_getElem h fun i h1 h3 => ?_
  have := h2 i h1
  rwa [getD_lt h1, getD_lt h3] at this

theorem byte_ne {x y : UInt8} (h : ((x.toNat : Int) != (y.toNat : Int)) = true) : x ≠ y := by
  intro e; subst e; simp at h
theorem byte_eq {x y : UInt8} (h : ((x.toNat : Int) != (y.toNat : Int)) = false) : x = y := by
  have h1 : (x.toNat : Int) = (y.toNat : Int) := by simpa using h
  exact UInt8.toNat_inj.1 (by omega)

set_option maxHeartbeats 1000000 in
theorem eq_any (a1 a2 : Option Addr) (A B : List UInt8) (c1 c2 : Nat) (w : World) (h1 : BytesAt w a1 A) (h2 : BytesAt w a2 B) (hA : A.length ≤ maxLen) (hB : B.length ≤ maxLen) :
    Calls Tryd.prog 8 #[.slice a1 A.length c1, .slice a2 B.length c2] w fun e w' => e = .returned (.bool (eqB A B)) ∧ ∃ q, w' = w.drewN q := by
  by_cases hne : A.length = B.length
  · obtain ⟨n, hn⟩ : ∃ n, n = A.length := ⟨_, rfl⟩
    have hn2 : n = B.length := hn.trans hne
    unfold BytesAt at h1 h2
    rw [← hn] at h1 hA
    rw [← hn2] at h2
    rw [← hn, ← hn2]
    have HN := hide hn
    have HN2 := hide hn2
    clear hn hn2 hne hB
    unfold maxLen at hA
    go_enter Tryd.func8, Tryd.ntmps8
    go_wp2
    go_loopw [5] (fun i wr => ∃ k : Nat, k ≤ n ∧ i = .int .i64 k ∧ Hid (∀ j, j < k → A.getD j 0 = B.getD j 0) ∧ ∃ q, wr = w.drewN q) (fun i _ => n - (intOf i).toNat)
    case atStart => exact ⟨0, Nat.zero_le _, rfl, fun j hj => by omega, 0, rfl⟩
    case round =>
      obtain ⟨k, hk, rfl, HJ, qq, rfl⟩ := hrel
      by_cases hlt : k < n
      · obtain ⟨b1, o1, rfl, hb1, hc1⟩ := h1 (by omega)
        obtain ⟨b2, o2, rfl, hb2, hc2⟩ := h2 (by omega)
        have e1 := hc1 k hlt
        have e2 := hc2 k hlt
        obtain ⟨x, hx⟩ : ∃ x, x = A.getD k 0 := ⟨_, rfl⟩
        obtain ⟨y, hy⟩ : ∃ y, y = B.getD k 0 := ⟨_, rfl⟩
        rw [← hx] at e1
        rw [← hy] at e2
        have HX := hide hx
        have HY := hide hy
        clear hx hy hc1 hc2
        have hk0 : (0 : Int) ≤ (k : Int) := by omega
        have hkn : (k : Int) < (n : Int) := by omega
        go_wp2
        go_quiet (fail)
        go_wp2
        · go_ret
          refine ⟨?_, _, World.drewN_drewN _ _ _⟩
          have hxy : A.getD k 0 ≠ B.getD k 0 := by rw [← HX.out, ← HY.out]; exact byte_ne ‹_›
          rw [eqB_at hxy]
          rfl
        · have hxy : x = y := byte_eq ‹_›
          have HJ2 : Hid (∀ j, j < k + 1 → A.getD j 0 = B.getD j 0) := fun j hj => by
            by_cases e : j = k
            · subst e; rw [← HX.out, ← HY.out]; exact hxy
            · exact HJ.out j (by omega)
          go_roundw
          case rel => exact ⟨k + 1, by omega, by go_num, HJ2, _, rfl⟩
          case measure => simp [intOf]; omega
      · go_wp2
        go_ret
        refine ⟨?_, _, rfl⟩
        have hkn : k = n := by omega
        rw [eqB_all (by rw [← HN.out, ← HN2.out]) (by rw [← HN.out, ← hkn]; exact HJ.out)]
        rfl
  · rw [eqB_len hne]
    unfold maxLen at hA hB
    go_enter Tryd.func8, Tryd.ntmps8
    go_wp2
    go_ret
    exact ⟨rfl, 0, rfl⟩

set_option maxHeartbeats 1000000 in
theorem cat2_any (a1 a2 : Option Addr) (A B : List UInt8) (c1 c2 : Nat) (w : World) (h1 : BytesAt w a1 A) (h2 : BytesAt w a2 B) (q1 : a1 = none → A.length = 0 ∧ c1 = 0) (q2 : a2 = none → B.length = 0 ∧ c2 = 0) (hA : A.length ≤ 10000000) (hB : B.length ≤ 10000000) :
    Calls Tryd.prog 9 #[.slice a1 A.length c1, .slice a2 B.length c2] w fun e w' => ∃ v', e = .returned v' ∧ w'.ownsRow w.heap.size 5 1 v' (A ++ B).length (Lib.byteCells (A ++ B)) ∧ Below w.heap.size w w' := by
  obtain ⟨i0, hi, hz0, hz1, hz2⟩ := info_parts Tryd.info5
  have S1 := hide (fun (wx : World) (hb : Below w.heap.size w wx) => (h1.below hb).src)
  have S2 := hide (fun (wx : World) (hb : Below w.heap.size w wx) => (h2.below hb).src)
  have l1 := Lib.byteCells_length A
  have l2 := Lib.byteCells_length B
  have o1 := bytes_one A
  have o2 := bytes_one B
  have hcat : Lib.byteCells (A ++ B) = Lib.byteCells A ++ Lib.byteCells B := by simp [Lib.byteCells]
  rw [hcat, List.length_append]
  obtain ⟨n, hn⟩ : ∃ n, n = A.length := ⟨_, rfl⟩
  obtain ⟨m, hm⟩ : ∃ m, m = B.length := ⟨_, rfl⟩
  rw [← hn] at q1 hA l1 ⊢
  rw [← hm] at q2 hB l2 ⊢
  obtain ⟨X, hX⟩ : ∃ X, X = Lib.byteCells A := ⟨_, rfl⟩
  obtain ⟨Y, hY⟩ : ∃ Y, Y = Lib.byteCells B := ⟨_, rfl⟩
  rw [← hX] at S1 l1 o1 ⊢
  rw [← hY] at S2 l2 o2 ⊢
  have L1 := hide l1
  have L2 := hide l2
  have O1 := hide o1
  have O2 := hide o2
  have N1 := hide q1
  have N2 := hide q2
  clear hX hY hn hm l1 l2 o1 o2 q1 q2 h1 h2 hcat
  go_enter Tryd.func9, Tryd.ntmps9
  go_wp2_with (at_make; refine wpList_make_own _ rfl _ _ 22 rfl w.heap.size 5 i0 _ 1 Tryd.underlying22 hi hz0 hz1 _ _ _ (n + m) rfl rfl (by omega) ?b1 ?b2 ?b3 ?_)
  case b1 => rw [hz2]; omega
  case b2 => unfold maxLen; omega
  case b3 => exact Nat.le_refl _
  intro w1 hown1 hgr1
  have hb1 : Below w.heap.size w w1 := (Below.refl _ _).grown hgr1 (Nat.le_refl _) (fun k hk => by cases hk)
  have hs1 := hb1.size
  go_wp2_with (at_builtin; refine wpList_append_any rfl (.tmp 12) (.tmp 13) 22 rfl w.heap.size 5 i0 _ 1 1 Tryd.underlying22 hi hz0 hz1 hz2 rfl (by decide) _ 0 [] rfl hown1 a1 n c1 X rfl N1.out ?d0 (S1.out w1 hb1) O1.out ?d1 ?d2 hs1 ?_)
  case d0 => rw [L1.out]; omega
  case d1 => unfold maxLen; omega
  case d2 => omega
  intro v2 w2 hown2 hgr2
  have hb2 : Below w.heap.size w w2 := hb1.grown hgr2 hs1 (fun k hk => (hown1.lt k hk).1)
  have hs2 := hb2.size
  clear hown1 hgr1 hgr2
  go_wp2_with (at_builtin; refine wpList_append_any rfl (.tmp 15) (.tmp 16) 22 rfl w.heap.size 5 i0 _ 1 1 Tryd.underlying22 hi hz0 hz1 hz2 rfl (by decide) v2 n X rfl hown2 a2 m c2 Y rfl N2.out ?e0 (S2.out w2 hb2) O2.out ?e1 ?e2 hs2 ?_)
  case e0 => rw [L2.out]; omega
  case e1 => unfold maxLen; omega
  case e2 => omega
  intro v3 w3 hown3 hgr3
  have hb3 : Below w.heap.size w w3 := hb2.grown hgr3 hs2 (fun k hk => (hown2.lt k hk).1)
  clear hgr3 hown2
  go_wp2
  go_ret
  exact ⟨v3, rfl, hown3, hb3⟩
end Go.Proofs.Qxb6614732aDoor

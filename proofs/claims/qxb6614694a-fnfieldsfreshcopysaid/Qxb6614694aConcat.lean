/-
  slices.Grow at the nil slice (24), slices.Concat at two slices of the call's own (21), (*builder).fields (19), ZZBuilderFields (11).
-/
import Derived.Test.Qxb6614694aLeafs
import Derived.Lib.AppendZerosOnto
import Derived.Laws.AppendOwnNone
import Derived.Deep.RegionHeld3
namespace Go.Proofs.Qxb6614694a
open Go.RowKit
set_option linter.unusedVariables false

theorem wpList_append_any {P : Program} {w : World} {ops : Array Oper} {rest : List Oper} {o : Oper} {a : Act} {Q : Exit → Act → World → Prop} (hgd : o.guard = none) (s x : Operand) (t : TypeId)
    (ho : o.op = .call { callee := .builtin .append, args := #[s, x], argTypes := #[t, t] })
    (base : Nat) (e : TypeId) (i : TypeInfo) (z : Value) (size bytes : Nat) (ht : P.underlying t = some (.slice e)) (hi : P.info? e = some i) (hz : i.zero = some z)
    (hsize : i.size = size) (hby : i.bytes = bytes) (hzs : z.cells.size = size) (hsz : 0 < size)
    (v : Value) (n : Nat) (xs : List Value) (hs : a.eval s = v) (hown : w.ownsRow base e size v n xs)
    (ao : Option Addr) (m c : Nat) (news : List Value) (hx : a.eval x = .slice ao m c) (hnone : ao = none → m = 0 ∧ c = 0) (hl : news.length = m * size)
    (hnews : ∀ ad, ao = some ad → ∀ j u, news[j]? = some u → w.cell? (ad.add j) = some u) (h1 : ∀ u ∈ news, u.oneCell' = true)
    (h63 : n + m ≤ maxLen) (hbytes : (n + m) * bytes ≤ 140737488355328) (hbase : base ≤ w.heap.size)
    (h : ∀ v' w', w'.ownsRow base e size v' (n + m) (xs ++ news) → w.grownBy w' v.ownBlock → wpList P ops Q rest (a.put o.dst v') w') : wpList P ops Q (o :: rest) a w := by
  cases ao with
  | some ad => exact wpList_append_own w hgd s x t ho base e i z size bytes ht hi hz hsize hby hzs hsz v n xs hs hown ad m c news hx hl (hnews ad rfl) h1 h63 hbytes hbase fun v' w' h2 h3 _ => h v' w' h2 h3
  | none =>
    obtain ⟨rfl, rfl⟩ := hnone rfl
    obtain rfl : news = [] := List.eq_nil_of_length_eq_zero (by simpa using hl)
    exact wpList_append_own_none hgd s x t ho base e i size ht hi v n xs hs hown hx (h v w (by simpa using hown) (World.grownBy.refl _ _))

set_option maxHeartbeats 400000 in
theorem grow_nil (n : Nat) (w : World) (hn : n ≤ 100000) :
    Calls Try.prog 24 #[.slice none 0 0, .int .i64 n] w fun e w' => ∃ v', e = .returned v' ∧ w'.ownsRow w.heap.size 35 4 v' 0 [] ∧ Below w.heap.size w w' := by
  obtain ⟨i0, hi, hz0, hz1, hz2⟩ := info_parts Try.info35
  by_cases h0 : n = 0
  · subst h0
    go_enter Try.func24, Try.ntmps24
    go_wp2
    go_ret
    exact ⟨_, rfl, World.ownsRow_nil _ _ _ _, Below.refl _ _⟩
  · have hpos : (0 : Int) < (n : Int) := by omega
    have hr : ∀ ty, (Builtin.append_ #[25, 3] ty #[.slice none 0 0, .int .i64 n]).run Try.prog w = _ := fun ty =>
      Lib.run_append_grow_zeros w 25 3 ty 35 i0 _ .i64 .i64 Try.underlying25 Try.underlying3 hi hz0 none 0 0 [] (run_firstCells_none w.drew i0.size 0 0 0) n (by omega) (by omega) (by omega) (by omega) (by rw [hz2]; omega) (by rw [hz2]; exact growslice_fits (by omega) (by omega))
    simp only [Nat.zero_add] at hr
    have hge : n ≤ grownCap w n 0 35 := grownCap_ge w n 0 35
    have hle := grownCap_le_maxLen w n 0 35 (by unfold maxLen; omega)
    obtain ⟨G, hG⟩ : ∃ G, G = grownCap w n 0 35 := ⟨_, rfl⟩
    rw [← hG] at hr hge hle
    clear hG
    obtain ⟨C, hC⟩ : ∃ C, C = ([] : List Value).toArray ++ Builtin.zeroCells (Value.agg #[.string ByteArray.empty, .string ByteArray.empty, .int .i64 0, .nilIface]).cells n ++ Builtin.zeroCells (Value.agg #[.string ByteArray.empty, .string ByteArray.empty, .int .i64 0, .nilIface]).cells (G - n) := ⟨_, rfl⟩
    rw [← hC] at hr
    have hCs : C.size = G * 4 := by
      rw [hC]
      simp only [Array.size_append, size_zeroCells]
      simp [Value.cells]
      omega
    have hle' := hle
    unfold maxLen at hle
    clear hC hi hz0 hz1 hz2
    go_enter Try.func24, Try.ntmps24
    go_wp2_with (at_builtin; refine Lib.wpList_append_run _ rfl _ _ _ _ rfl _ _ rfl rfl _ _ (hr _) ?_)
    go_ret
    exact ⟨_, rfl, World.ownsRow_made w.drew C G (Nat.le_refl _) hle' hCs, ((Below.refl _ _).drew).alloc (Nat.le_refl _) _⟩

theorem own_none {w : World} {B e z n c : Nat} {xs : List Value} {a : Option Addr} (h : w.ownsRow B e z (.slice a n c) n xs) : a = none → n = 0 ∧ c = 0 := by
  intro ha
  subst ha
  rcases h.2 with ⟨h1, h2⟩ | ⟨g, cap, cur, h1, _⟩
  · simp at h1; exact h1
  · simp at h1

theorem own_cells {w : World} {B e z n c : Nat} {xs : List Value} {a : Option Addr} (h : w.ownsRow B e z (.slice a n c) n xs) : ∀ ad, a = some ad → ad.block < w.heap.size ∧ ∀ j u, xs[j]? = some u → w.cell? (ad.add j) = some u := by
  intro ad had
  subst had
  rcases h.2 with ⟨h1, h2⟩ | ⟨g, cap, cur, h1, _⟩
  · simp at h1
  · simp at h1
    obtain ⟨rfl, rfl⟩ := h1
    exact ⟨(h.lt g rfl).2, h.cells rfl⟩

theorem add_block (a : Addr) (j : Nat) : (a.add j).block = a.block := by unfold Addr.add; split <;> rfl

set_option maxHeartbeats 400000 in
theorem concat_any (g B1 B2 n1 c1 n2 c2 : Nat) (a1 a2 : Option Addr) (xs ys : List Value) (w : World) (h1 : w.ownsRow B1 35 4 (.slice a1 n1 c1) n1 xs) (h2 : w.ownsRow B2 35 4 (.slice a2 n2 c2) n2 ys)
    (hx1 : ∀ u ∈ xs, u.oneCell' = true) (hy1 : ∀ u ∈ ys, u.oneCell' = true) (hn1 : n1 ≤ 5000) (hn2 : n2 ≤ 5000) (hg : g < w.heap.size)
    (k0 : w.cell? ⟨g, 0, none⟩ = some (.slice a1 n1 c1)) (k1 : w.cell? ⟨g, 1, none⟩ = some (.slice a2 n2 c2)) :
    Calls Try.prog 21 #[.slice (some ⟨g, 0, none⟩) 2 2] w fun e w' => ∃ v', e = .returned v' ∧ w'.ownsRow w.heap.size 35 4 v' (n1 + n2) (xs ++ ys) ∧ Below w.heap.size w w' := by
  obtain ⟨i0, hi, hz0, hz1, hz2⟩ := info_parts Try.info35
  have l1 : xs.length = n1 * 4 := h1.1
  have l2 : ys.length = n2 * 4 := h2.1
  have q1 := own_none h1
  have q2 := own_none h2
  have r1 := own_cells h1
  have r2 := own_cells h2
  have Q1 : Hid _ := q1
  have Q2 : Hid _ := q2
  have R1 : Hid _ := r1
  have R2 : Hid _ := r2
  have L1 : Hid _ := l1
  have L2 : Hid _ := l2
  clear h1 h2 q1 q2 r1 r2 l1 l2
  obtain ⟨N, hN⟩ : ∃ N, N = n1 + n2 := ⟨_, rfl⟩
  have HN : Hid _ := hN
  have hN1 : N ≤ 10000 := by omega
  have hN2 : (n1 : Int) + (n2 : Int) = (N : Int) := by omega
  rw [← hN]
  clear hN
  go_enter Try.func21, Try.ntmps21
  go_wp2
  go_loop [3, 11] (fun s i => (i = .int .i64 0 ∧ s = .int .i64 0) ∨ (i = .int .i64 1 ∧ s = .int .i64 n1) ∨ (i = .int .i64 2 ∧ s = .int .i64 N)) (fun _ i => 2 - (intOf i).toNat)
  case atStart => exact .inl ⟨rfl, rfl⟩
  case round =>
    rcases hrel with ⟨rfl, rfl⟩ | ⟨rfl, rfl⟩ | ⟨rfl, rfl⟩
    · go_wp2
      go_round
      case rel => exact .inr (.inl ⟨rfl, rfl⟩)
      case measure => simp [intOf]
    · go_wp2
      go_round
      case rel => exact .inr (.inr ⟨rfl, rfl⟩)
      case measure => simp [intOf]
    · go_wp2_with (go_at_call 24; refine (grow_nil N _ (by omega)).mono ?_; rintro e w1 ⟨v1, rfl, hown, hb⟩)
      go_loopw [6, 27] (fun v i wr => ((i = .int .i64 0 ∧ wr.ownsRow w.heap.size 35 4 v 0 []) ∨ (i = .int .i64 1 ∧ wr.ownsRow w.heap.size 35 4 v n1 xs) ∨ (i = .int .i64 2 ∧ wr.ownsRow w.heap.size 35 4 v N (xs ++ ys))) ∧ Below w.heap.size w wr) (fun _ i _ => 2 - (intOf i).toNat)
      case atStart => exact ⟨.inl ⟨rfl, hown⟩, hb⟩
      case round =>
        clear hown hb
        obtain ⟨hrel, hb⟩ := hrel
        have kk0 : wr.cell? ⟨g, 0, none⟩ = some (.slice a1 n1 c1) := (hb.cell (p := ⟨g, 0, none⟩) hg).trans k0
        have kk1 : wr.cell? ⟨g, 1, none⟩ = some (.slice a2 n2 c2) := (hb.cell (p := ⟨g, 1, none⟩) hg).trans k1
        have hsz := hb.size
        have W1 : Hid (∀ ad, a1 = some ad → ∀ j u, xs[j]? = some u → wr.cell? (ad.add j) = some u) := fun ad had j u hu => (hb.cell (p := ad.add j) (by rw [add_block]; exact (R1.out ad had).1)).trans ((R1.out ad had).2 j u hu)
        have W2 : Hid (∀ ad, a2 = some ad → ∀ j u, ys[j]? = some u → wr.cell? (ad.add j) = some u) := fun ad had j u hu => (hb.cell (p := ad.add j) (by rw [add_block]; exact (R2.out ad had).1)).trans ((R2.out ad had).2 j u hu)
        rcases hrel with ⟨rfl, hown⟩ | ⟨rfl, hown⟩ | ⟨rfl, hown⟩
        · go_wp2_with (at_builtin; refine wpList_append_any rfl _ _ 25 rfl w.heap.size 35 i0 _ 4 56 Try.underlying25 hi hz0 hz1 hz2 rfl (by decide) u6 0 [] rfl hown a1 n1 c1 xs rfl Q1.out L1.out W1.out hx1 ?c3 ?c4 hsz ?_)
          case c3 => unfold maxLen; omega
          case c4 => omega
          intro v1 w1 hown1 hgrow1
          have hb1 := hb.grown hgrow1 hsz (fun k hk => (hown.lt k hk).1)
          clear hgrow1 hown W1 W2 kk0 kk1 hb
          go_wp2
          go_roundw
          case rel => exact ⟨.inr (.inl ⟨rfl, hown1⟩), hb1⟩
          case measure => simp [intOf]
        · go_wp2_with (at_builtin; refine wpList_append_any rfl _ _ 25 rfl w.heap.size 35 i0 _ 4 56 Try.underlying25 hi hz0 hz1 hz2 rfl (by decide) u6 n1 xs rfl hown a2 n2 c2 ys rfl Q2.out L2.out W2.out hy1 ?c5 ?c6 hsz ?_)
          case c5 => unfold maxLen; omega
          case c6 => omega
          intro v1 w1 hown1 hgrow1
          have hb1 := hb.grown hgrow1 hsz (fun k hk => (hown.lt k hk).1)
          rw [← HN.out] at hown1
          clear hgrow1 hown W1 W2 kk0 kk1 hb
          go_wp2
          go_roundw
          case rel => exact ⟨.inr (.inr ⟨rfl, hown1⟩), hb1⟩
          case measure => simp [intOf]
        · go_wp2
          go_ret
          exact ⟨_, rfl, hown, hb⟩

set_option maxHeartbeats 400000 in
theorem fields_any (p B1 B2 n1 c1 n2 c2 : Nat) (a1 a2 : Option Addr) (xs ys : List Value) (w : World) (h1 : w.ownsRow B1 35 4 (.slice a1 n1 c1) n1 xs) (h2 : w.ownsRow B2 35 4 (.slice a2 n2 c2) n2 ys)
    (hx1 : ∀ u ∈ xs, u.oneCell' = true) (hy1 : ∀ u ∈ ys, u.oneCell' = true) (hn1 : n1 ≤ 5000) (hn2 : n2 ≤ 5000)
    (hp : w.heap[p]? = some (.cells (bld (.slice a1 n1 c1) (.slice a2 n2 c2)) 48 (0, 0))) :
    Calls Try.prog 19 #[.pointer (some ⟨p, 0, none⟩)] w fun e w' => ∃ v', e = .returned v' ∧ w'.ownsRow w.heap.size 35 4 v' (n1 + n2) (xs ++ ys) ∧ Below w.heap.size w w' := by
  have k0 : w.cell? ⟨p, 6, none⟩ = some (.slice a1 n1 c1) := cell_of_row w p 6 _ 48 (0, 0) hp
  have k1 : w.cell? ⟨p, 7, none⟩ = some (.slice a2 n2 c2) := cell_of_row w p 7 _ 48 (0, 0) hp
  have hps : p < w.heap.size := (Array.getElem?_eq_some_iff.1 hp).1
  have HC : Hid (Calls Try.prog 21 #[.slice (some ⟨w.heap.size, 0, none⟩) 2 2] (w.alloc (.cells #[.slice a1 n1 c1, .slice a2 n2 c2] 25)).drew fun e w' => ∃ v', e = .returned v' ∧ w'.ownsRow w.heap.size 35 4 v' (n1 + n2) (xs ++ ys) ∧ Below w.heap.size w w') := by
    have hn := heap_alloc_new w (.cells #[.slice a1 n1 c1, .slice a2 n2 c2] 25)
    refine (concat_any w.heap.size B1 B2 n1 c1 n2 c2 a1 a2 xs ys _ ((h1.alloc _).drew) ((h2.alloc _).drew) hx1 hy1 hn1 hn2 (by simp) (cell_of_row (w.alloc _) w.heap.size 0 _ 25 (0, 0) hn) (cell_of_row (w.alloc _) w.heap.size 1 _ 25 (0, 0) hn)).mono ?_
    rintro e w' ⟨v', rfl, hown, hb⟩
    refine ⟨v', rfl, ?_, ?_⟩
    · obtain ⟨hl, ho⟩ := hown
      refine ⟨hl, ?_⟩
      rcases ho with ho | ⟨g, cap, cur, e1, e2, e3⟩
      · exact .inl ho
      · exact .inr ⟨g, cap, cur, e1, by simp at e2; omega, e3⟩
    · exact ((((Below.refl _ _).alloc (Nat.le_refl _) _).drew).trans (hb.mono (by simp)))
  clear hp h1 h2
  go_enter Try.func19, Try.ntmps19
  go_wp2
  go_region_held3 (fun w' => w'.cell? ⟨p, 6, none⟩ = some (.slice a1 n1 c1) ∧ w'.cell? ⟨p, 7, none⟩ = some (.slice a2 n2 c2)) (go_keep) ((go_at_call 21; refine HC.out.mono ?_; rintro e w1 ⟨v1, rfl, hown, hb⟩; have e6 := (hb.cell (p := ⟨p, 6, none⟩) hps).trans k0; have e7 := (hb.cell (p := ⟨p, 7, none⟩) hps).trans k1))
  go_wp2
  go_ret
  exact ⟨_, rfl, hown, hb⟩

set_option maxHeartbeats 400000 in
theorem bfields_any (p B1 B2 n1 c1 n2 c2 : Nat) (a1 a2 : Option Addr) (xs ys : List Value) (w : World) (h1 : w.ownsRow B1 35 4 (.slice a1 n1 c1) n1 xs) (h2 : w.ownsRow B2 35 4 (.slice a2 n2 c2) n2 ys)
    (hx1 : ∀ u ∈ xs, u.oneCell' = true) (hy1 : ∀ u ∈ ys, u.oneCell' = true) (hn1 : n1 ≤ 5000) (hn2 : n2 ≤ 5000)
    (hp : w.heap[p]? = some (.cells (bld (.slice a1 n1 c1) (.slice a2 n2 c2)) 48 (0, 0))) :
    Calls Try.prog 11 #[.pointer (some ⟨p, 0, none⟩)] w fun e w' => ∃ v', e = .returned v' ∧ w'.ownsRow w.heap.size 35 4 v' (n1 + n2) (xs ++ ys) ∧ Below w.heap.size w w' := by
  have HC := fields_any p B1 B2 n1 c1 n2 c2 a1 a2 xs ys w h1 h2 hx1 hy1 hn1 hn2 hp
  clear hp h1 h2
  go_enter Try.func11, Try.ntmps11
  go_wp2_with fail
  refine HC.mono ?_
  rintro e w1 ⟨v1, rfl, hown, hb⟩
  go_wp2
  go_ret
  exact ⟨_, rfl, hown, hb⟩
end Go.Proofs.Qxb6614694a

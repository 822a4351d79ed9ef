/-
  The closure (13), unused (12), ZZUnusedIn (7).
-/
import Derived.Test.Qxb6614694aDoorLeafs
import Derived.Test.Qxb6614694aDoorShelf
import Derived.Lib.AppendIntMem
import Derived.Lib.ItoaLen
namespace Go.Proofs.Qxb6614694aDoor
open Go.RowKit
set_option linter.unusedVariables false

theorem contains_any (s : ByteArray) (a : Option Addr) (cap : Nat) (L : List ByteArray) (w : World) (hl : L.length ≤ 5000) (ha : StrsAt w a L) :
    Calls Tryd.prog 14 #[.slice a L.length cap, .string s] w fun e w' => e = .returned (.bool (hasB L s)) ∧ w' = w := by
  by_cases h0 : L.length = 0
  · have e : L = [] := List.eq_nil_of_length_eq_zero h0
    subst e
    exact Tryd.slices_Contains_string_empty a cap s w
  · obtain ⟨b, off, rfl, _, hc⟩ := ha (by omega)
    have h := Tryd.slices_Contains_string b off L.length cap L s w (Nat.le_refl _) (by omega) hc
    rw [List.take_length] at h
    exact h

set_option maxHeartbeats 400000 in
theorem clos_any (s : ByteArray) (p : Nat) (a : Option Addr) (cap : Nat) (L : List ByteArray) (w : World) (hl : L.length ≤ 5000) (ha : StrsAt w a L) (hp : w.cell? ⟨p, 0, none⟩ = some (.slice a L.length cap)) :
    Calls Tryd.prog 13 #[.string s, .pointer (some ⟨p, 0, none⟩)] w fun e w' => e = .returned (.bool (hasB L s)) ∧ w' = w := by
  have HC := hide (contains_any s a cap L w hl ha)
  clear ha
  go_enter Tryd.func13, Tryd.ntmps13
  go_wp2_with fail
  refine HC.out.mono ?_
  rintro e w' ⟨rfl, hw⟩
  have hw := hw.symm
  subst hw
  go_wp2
  go_ret
  exact ⟨rfl, rfl⟩

set_option maxHeartbeats 1000000 in
theorem unused_any (base : ByteArray) (p : Nat) (a : Option Addr) (cap : Nat) (L : List ByteArray) (w : World) (hl : L.length ≤ 5000) (hbs : base.size ≤ 2097152) (ha : StrsAt w a L) (hp : w.cell? ⟨p, 0, none⟩ = some (.slice a L.length cap)) (hpw : p < w.heap.size)
    (htab : Lib.TabBelow Tryd.prog w.heap.size w "internal/strconv.uint64pow10" .u64 Lib.pow10Tab) :
    Calls Tryd.prog 12 #[.string base, .func (.func 13) #[] #[.pointer (some ⟨p, 0, none⟩)]] w fun e w' => ∃ k, Least base L k ∧ e = .returned (.string (nm base k)) ∧ Below w.heap.size w w' := by
  have HCl := hide (fun (s : ByteArray) (wx : World) (hb : Below w.heap.size w wx) => clos_any s p a cap L wx hl (ha.below hb) ((hb.cell (p := ⟨p, 0, none⟩) hpw).trans hp))
  have HTab := hide htab
  obtain ⟨n, hn⟩ : ∃ n, n = L.length := ⟨_, rfl⟩
  have HN := hide hn
  rw [← hn] at hl
  clear ha hp htab hn
  go_enter Tryd.func12, Tryd.ntmps12
  go_wp2
  go_loopw [5, 6] (fun vn vi wr => ∃ (k : Nat) (x : ByteArray), k ≤ n ∧ vi = .int .i64 ((k : Int) + 1) ∧ vn = .string x ∧ Hid (x = nm base k) ∧ Hid (∀ j, j < k → nm base j ∈ L) ∧ Below w.heap.size w wr) (fun _ vi _ => n + 2 - (intOf vi).toNat)
  case atStart => exact ⟨0, base, Nat.zero_le _, rfl, rfl, rfl, fun j hj => by omega, Below.refl _ _⟩
  case round =>
    obtain ⟨k, x, hk, rfl, rfl, HX, HJ, hb⟩ := hrel
    have HB := hide hb
    by_cases hm : hasB L x = true
    · have hk1 : k + 1 ≤ n := by
        have := names_bound base L (k + 1) (fun j hj => by
          by_cases h : j < k
          · exact HJ.out j h
          · have e : j = k := by omega
            subst e; rw [← HX.out]; exact (hasB_iff L x).1 hm)
        rw [HN.out]; exact this
      obtain ⟨t, ht⟩ : ∃ t : ByteArray, t = ⟨(Lib.itoa ((k : Int) + 1)).toArray⟩ := ⟨_, rfl⟩
      have hts : t.size ≤ 21 := by
        have := Lib.itoa_length_le ((k : Int) + 1) (by omega) (by omega)
        rw [ht]
        simpa [ByteArray.size] using this
      have HI := hide (fun wx (hbx : Below w.heap.size w wx) => Tryd.strconv_Itoa ((k : Int) + 1) (by omega) (by omega) wx (HTab.out wx hbx))
      rw [← ht] at HI
      have HNm := hide (show nm base (k + 1) = base ++ t by rw [nm_succ _ _ (by omega), ht]; rfl)
      clear ht
      go_wp2_with fail
      refine (HCl.out x wr HB.out).mono ?_
      rintro e w' ⟨rfl, hw⟩
      have hw := hw.symm
      subst hw
      rw [hm]
      go_wp2_with fail
      refine (HI.out _ HB.out).mono ?_
      rintro e w' ⟨rfl, q, os, rfl⟩
      have HB2 := hide (HB.out.trans (Lib.below_grow w.heap.size wr HB.out.size q os))
      go_wp2
      go_roundw
      case rel => exact ⟨k + 1, base ++ t, by omega, by go_num, rfl, HNm.out.symm, fun j hj => by
          by_cases h : j < k
          · exact HJ.out j h
          · have e : j = k := by omega
            subst e; rw [← HX.out]; exact (hasB_iff L x).1 hm, HB2.out⟩
      case measure => simp [intOf]; omega
    · have hf : hasB L x = false := by simpa using hm
      clear hm
      go_wp2_with fail
      refine (HCl.out x wr HB.out).mono ?_
      rintro e w' ⟨rfl, hw⟩
      have hw := hw.symm
      subst hw
      rw [hf]
      go_wp2
      go_ret
      exact ⟨k, ⟨by have := HN.out; omega, by rw [← HX.out]; exact (hasB_no L x).1 hf, HJ.out⟩, by rw [← HX.out]; rfl, HB.out⟩

set_option maxHeartbeats 400000 in
theorem unusedIn_any (base : ByteArray) (a : Option Addr) (cap : Nat) (L : List ByteArray) (w : World) (hl : L.length ≤ 5000) (hb : base.size ≤ 2097152) (ha : StrsAt w a L) (htab : Lib.TabBelow Tryd.prog w.heap.size w "internal/strconv.uint64pow10" .u64 Lib.pow10Tab) :
    Calls Tryd.prog 7 #[.string base, .slice a L.length cap] w fun e w' => ∃ k, Least base L k ∧ e = .returned (.string (nm base k)) ∧ Below w.heap.size w w' := by
  have HU := hide (unused_any base w.heap.size a cap L (w.alloc (.cells #[.slice a L.length cap] 22)) hl hb (ha.below ((Below.refl _ _).alloc (Nat.le_refl _) _)) (by simp) (by simp) (fun w' hb' => htab w' (((Below.refl _ _).alloc (Nat.le_refl _) _).trans (hb'.mono (by simp)))))
  clear ha htab
  go_enter Tryd.func7, Tryd.ntmps7
  go_wp2_with fail
  refine HU.out.mono ?_
  rintro e w' ⟨k, hk, rfl, hb'⟩
  have hb2 : Below w.heap.size w w' := ((Below.refl _ _).alloc (Nat.le_refl _) _).trans (hb'.mono (by simp))
  clear hb'
  go_wp2
  go_ret
  exact ⟨k, hk, rfl, hb2⟩
end Go.Proofs.Qxb6614694aDoor

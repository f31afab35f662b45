/- The walk of FnArgs: it returns true. -/
import Derived.Test.YtiklnckoimeimaaEq
import Derived.Test.YtiklnckoimeimaaSaLen
import Derived.Test.YtiklnckoimeimaaSpec
import Derived.Test.YtiklnckoimeimaaArgs
namespace Go.Proofs.Ytiklnckoimeimaa
open Go.RowKit

theorem below_then {B : Nat} {a b c : World} (h : Below B a b) (k : Below b.heap.size b c) (hB : B ≤ a.heap.size) : Below B a c :=
  h.trans (k.mono (by have := h.size; omega))
theorem below_new (w : World) (o : Obj) : Below w.heap.size w (w.alloc o) := (Below.refl _ _).alloc (Nat.le_refl _) _
theorem below_drewN {B : Nat} {a b : World} (h : Below B a b) (n : Nat) : Below B a (b.drewN n) := ⟨h.os, h.tape, h.output, h.size, h.block⟩
theorem own_below {w1 w2 : World} {B : Nat} {v : Value} {n : Nat} {xs : List Value} (h : w1.ownsRow B 9 1 v n xs) (hb : Below w1.heap.size w1 w2) : w2.ownsRow B 9 1 v n xs :=
  own_of h fun k c hk => by rw [hb.block k (Array.getElem?_eq_some_iff.1 hk).1]; exact hk

set_option maxHeartbeats 2000000 in
theorem fnArgs_walk (a0 : ByteArray) (w0 : a0.size ≤ maxLen) (w : World) :
    Calls Try.prog 3 #[.string a0] w fun e w' => e = .returned (.bool true) ∧ Below w.heap.size w w' := by
  unfold maxLen at w0
  by_cases h0 : a0.size ≤ 2147483647
  · have hbey := beyond_any [a0.size] w.heap.size 0 1 1 (w.alloc (.cells #[.int .i64 a0.size] 3)) (by decide) (fun i hi => by
      obtain rfl : i = 0 := by omega
      exact Lib.cell_of_heap (heap_alloc_new w _) 0)
    have Hbey := Lib.hid hbey
    clear hbey
    have hb0 := Lib.hid (below_new w (.cells #[.int .i64 a0.size] 3))
    go_enter Try.func3, Try.ntmps3
    go_wp2_with fail
    refine Hbey.out.mono ?_
    rintro e w1 ⟨r, rfl, hr, rfl⟩
    clear Hbey
    cases r with
    | true =>
      clear hr
      go_wp2_with fail
      go_ret
      exact ⟨rfl, hb0.out⟩
    | false =>
      have hle : a0.size ≤ 1048576 := by
        by_cases h : a0.size ≤ 1048576
        · exact h
        · have := hr.2 ⟨0, by omega, by simp; omega⟩
          simp at this
      clear hr
      generalize w.alloc (.cells #[.int .i64 a0.size] 3) = wa at *
      have hs := fun wz => spec_any a0 wz (by omega)
      have ha := fun wz => args_any a0 wz (by omega)
      have hp := fun L (h : sa a0.data.toList 0 ss0 = some L) => And.intro (pa_spec a0.data.toList L h) (show L.length ≤ 9223372036854775807 from by
        have h1 := sa_len _ _ _ _ L (Nat.le_refl _) h
        have h2 : a0.data.toList.length = a0.size := by simp
        rw [h2] at h1
        simp only [ss0, List.length_nil] at h1
        omega)
      generalize sa a0.data.toList 0 ss0 = R at *
      have hf := fun (wz : World) => far_any [a0] wz.heap.size 0 1 1 (wz.alloc (.cells #[.string a0] 9)) (by decide) (fun i hi => by
        obtain rfl : i = 0 := by omega
        exact Lib.cell_of_heap (heap_alloc_new wz _) 0) (by simp [tot]; omega)
      have ht : tot [a0] 1 = a0.size := by simp [tot]
      rw [ht] at hf
      have Hs := Lib.hid hs
      have Ha := Lib.hid ha
      have Hp := Lib.hid hp
      clear hs ha hp ht
      go_wp2_with fail
      refine (Hs.out _).mono ?_
      rintro e w1 ⟨v, rfl, hown, hb1⟩
      have HO := Lib.hid hown
      have HB := Lib.hid (below_then hb0.out hb1 (Nat.le_refl _))
      clear hown hb1 Hs
      by_cases hbig : (65536 : Int) < ((a0.size : Nat) : Int)
      · rw [decide_eq_true hbig] at hf
        have Hf := Lib.hid hf
        clear hf
        go_wp2_with fail
        refine (Hf.out _).mono ?_
        rintro e w2 ⟨rfl, rfl⟩
        go_wp2_with fail
        go_ret
        exact ⟨rfl, below_then HB.out (below_new _ _) (Nat.le_refl _)⟩
      · rw [decide_eq_false hbig] at hf
        have Hf := Lib.hid hf
        clear hf
        cases R with
        | none =>
          go_wp2_with fail
          refine (Hf.out _).mono ?_
          rintro e w2 ⟨rfl, rfl⟩
          go_wp2_with fail
          go_ret
          exact ⟨rfl, below_then HB.out (below_new _ _) (Nat.le_refl _)⟩
        | some L =>
          have hlen := (Hp.out L rfl).2
          have HL := Lib.hid (Hp.out L rfl).1
          clear Hp
          go_wp2_with fail
          refine (Hf.out _).mono ?_
          rintro e w2 ⟨rfl, rfl⟩
          go_wp2_with fail
          refine (Ha.out _).mono ?_
          rintro e w2 ⟨v2, rfl, hown2, hb2⟩
          rw [HL.out] at hown2
          have HE := Lib.hid (equal_rows L L v2 v w2 (own_row hown2) (own_row (own_below (own_below HO.out (below_new _ _)) hb2)) hlen hlen)
          have HB2 := Lib.hid (below_then (below_then HB.out (below_new _ _) (Nat.le_refl _)) hb2 (Nat.le_refl _))
          clear hown2 hb2
          go_wp2_with fail
          refine HE.out.mono ?_
          rintro e w3 ⟨rfl, q, rfl⟩
          go_wp2_with fail
          go_ret
          exact ⟨ret_bool (by simp), below_drewN HB2.out q⟩
  · go_enter Try.func3, Try.ntmps3
    go_wp2
    go_ret
    exact ⟨rfl, Below.refl _ _⟩
end Go.Proofs.Ytiklnckoimeimaa

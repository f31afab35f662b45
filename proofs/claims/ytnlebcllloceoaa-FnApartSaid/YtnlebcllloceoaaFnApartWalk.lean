/- The walk of FnApart: it returns true. -/
import Derived.Test.YtnlebcllloceoaaCls
namespace Go.Proofs.Ytnlebcllloceoaa
open Go.RowKit

theorem fnApart_walk (a0 : ByteArray) (a1 : ByteArray) (w0 : a0.size ≤ maxLen) (w1 : a1.size ≤ maxLen) (w : World) :
    Calls Try.prog 3 #[.string a0, .string a1] w fun e w' => e = .returned (.bool true) ∧ Below w.heap.size w w' := by
  unfold maxLen at w0 w1
  by_cases h0 : a0.size ≤ 2147483647
  · by_cases h1 : a1.size ≤ 2147483647
    · have hf := far2 a0 a1 w h0 h1
      by_cases hb : (65536 : Int) < ((a0.size + a1.size : Nat) : Int)
      · rw [decide_eq_true hb] at hf
        have Hf := Lib.hid hf
        clear hf
        go_enter Try.func3, Try.ntmps3
        go_wp2_with fail
        refine Hf.out.mono ?_
        rintro e w' ⟨rfl, rfl⟩
        go_wp2_with fail
        go_ret
        exact ⟨rfl, below_new _ _⟩
      · rw [decide_eq_false hb] at hf
        have Hf := Lib.hid hf
        clear hf
        by_cases heq : a0 = a1
        · subst heq
          go_enter Try.func3, Try.ntmps3
          go_wp2_with fail
          refine Hf.out.mono ?_
          rintro e w' ⟨rfl, rfl⟩
          go_wp2_with fail
          refine (prefix_any a0 (by omega) _).mono ?_
          rintro e w1 ⟨rfl, hb1⟩
          go_wp2_with fail
          refine (prefix_any a0 (by omega) _).mono ?_
          rintro e w2 ⟨rfl, hb2⟩
          go_wp2_with fail
          go_ret
          exact ⟨rfl, below_then (below_then (below_new _ _) hb1) hb2⟩
        · have e1 : (a0.toList == a1.toList) = false := toList_ne heq
          have e2 : ((pre a0).toList == (pre a1).toList) = false := toList_ne fun h => heq (pre_inj a0 a1 h)
          go_enter Try.func3, Try.ntmps3
          go_wp2_with fail
          refine Hf.out.mono ?_
          rintro e w' ⟨rfl, rfl⟩
          go_wp2_with fail
          refine (prefix_any a0 (by omega) _).mono ?_
          rintro e w1 ⟨rfl, hb1⟩
          go_wp2_with fail
          refine (prefix_any a1 (by omega) _).mono ?_
          rintro e w2 ⟨rfl, hb2⟩
          go_wp2_with fail
          go_ret
          exact ⟨rfl, below_then (below_then (below_new _ _) hb1) hb2⟩
    · go_enter Try.func3, Try.ntmps3
      go_wp2
      go_ret
      exact ⟨rfl, Below.refl _ _⟩
  · go_enter Try.func3, Try.ntmps3
    go_wp2
    go_ret
    exact ⟨rfl, Below.refl _ _⟩

end Go.Proofs.Ytnlebcllloceoaa

/- The walk of FnClean: it returns true. -/
import Derived.Test.YtnlebcllloceoaaCls
namespace Go.Proofs.Ytnlebcllloceoaa
open Go.RowKit

theorem fnClean_walk (a0 : ByteArray) (w0 : a0.size ≤ maxLen) (w : World) :
    Calls Try.prog 4 #[.string a0] w fun e w' => e = .returned (.bool true) ∧ Below w.heap.size w w' := by
  unfold maxLen at w0
  by_cases h0 : a0.size ≤ 2147483647
  · have hf := far1 a0 w h0
    by_cases hb : (65536 : Int) < (a0.size : Int)
    · rw [decide_eq_true hb] at hf
      have Hf := Lib.hid hf
      clear hf
      go_enter Try.func4, Try.ntmps4
      go_wp2_with fail
      refine Hf.out.mono ?_
      rintro e w' ⟨rfl, rfl⟩
      go_wp2_with fail
      go_ret
      exact ⟨rfl, (Below.refl _ _).alloc (Nat.le_refl _) _⟩
    · rw [decide_eq_false hb] at hf
      have Hf := Lib.hid hf
      clear hf
      have hl := pre_le a0
      have hc := fun w => clean_any (pre a0) (by unfold maxLen; omega) w
      rw [pre_clean a0] at hc
      have Hc := Lib.hid hc
      clear hc
      go_enter Try.func4, Try.ntmps4
      go_wp2_with fail
      refine Hf.out.mono ?_
      rintro e w' ⟨rfl, rfl⟩
      go_wp2_with fail
      refine (prefix_any a0 (by omega) _).mono ?_
      rintro e w1 ⟨rfl, hb1⟩
      go_wp2_with fail
      refine (Hc.out _).mono ?_
      rintro e w2 ⟨rfl, rfl⟩
      go_wp2_with fail
      go_ret
      exact ⟨rfl, below_then (below_new _ _) hb1⟩
  · go_enter Try.func4, Try.ntmps4
    go_wp2
    go_ret
    exact ⟨rfl, Below.refl _ _⟩

end Go.Proofs.Ytnlebcllloceoaa

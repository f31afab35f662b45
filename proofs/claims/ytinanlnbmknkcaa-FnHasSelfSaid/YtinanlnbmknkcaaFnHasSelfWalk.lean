/- The walk of FnHasSelf: it returns true. -/
import Derived.Test.YtinanlnbmknkcaaTwo
import Derived.WalkKit
namespace Go.Proofs.Ytinanlnbmknkcaa
open Go.RowKit

theorem fnHasSelf_walk (a0 : ByteArray) (a1 : ByteArray) (w0 : a0.size ≤ maxLen) (w1 : a1.size ≤ maxLen) (w : World) :
    Calls Try.prog 4 #[.string a0, .string a1] w fun e w' => e = .returned (.bool true) ∧ Grown w w' := by
  unfold maxLen at w0 w1
  by_cases h0 : a0.size ≤ 2147483647
  · by_cases h1 : a1.size ≤ 2147483647
    · have hf := far2 a0 a1 w h0 h1
      by_cases hb : (65536 : Int) < ((a0.size + a1.size : Nat) : Int)
      · rw [decide_eq_true hb] at hf
        have hf := Lib.hid hf
        go_enter Try.func4, Try.ntmps4
        go_wp2_with fail
        refine hf.out.mono ?_
        rintro e w' ⟨rfl, rfl⟩
        go_wp2_with fail
        go_ret
        exact ⟨rfl, (Grown.refl _).alloc _ _⟩
      · rw [decide_eq_false hb] at hf
        have Hf := Lib.hid hf
        clear hf
        have c1 := fun w => has_any a0 a0 w (by unfold maxLen; omega)
        have c2 := fun w => has_any (a0 ++ ⟨#[47]⟩ ++ a1) a0 w (by unfold maxLen; have : (ByteArray.mk #[47]).size = 1 := rfl; simp only [ByteArray.size_append]; omega)
        have c3 := fun w => has_any (a0 ++ ⟨#[120]⟩ ++ a1) a0 w (by unfold maxLen; have : (ByteArray.mk #[120]).size = 1 := rfl; simp only [ByteArray.size_append]; omega)
        rw [elems_self] at c1
        rw [elems_slash] at c2
        rw [elems_x] at c3
        have C1 := Lib.hid c1
        have C2 := Lib.hid c2
        have C3 := Lib.hid c3
        clear c1 c2 c3
        go_enter Try.func4, Try.ntmps4
        go_wp2_with fail
        refine Hf.out.mono ?_
        rintro e w' ⟨rfl, rfl⟩
        go_wp2_with fail
        refine (C1.out _).mono ?_
        rintro e w' ⟨rfl, rfl⟩
        go_wp2_with fail
        refine (C2.out _).mono ?_
        rintro e w' ⟨rfl, rfl⟩
        go_wp2_with fail
        refine (C3.out _).mono ?_
        rintro e w' ⟨rfl, rfl⟩
        go_wp2_with fail
        go_ret
        exact ⟨rfl, (Grown.refl _).alloc _ _⟩
    · go_enter Try.func4, Try.ntmps4
      go_wp2
      go_ret
      exact ⟨rfl, Grown.refl _⟩
  · go_enter Try.func4, Try.ntmps4
    go_wp2
    go_ret
    exact ⟨rfl, Grown.refl _⟩

end Go.Proofs.Ytinanlnbmknkcaa

/- The walk of FnRemoved: it returns true. -/
import Derived.Test.YtinanlnbmknkcaaNames
namespace Go.Proofs.Ytinanlnbmknkcaa
open Go.RowKit

set_option maxHeartbeats 1000000 in
theorem fnRemoved_walk (a0 : ByteArray) (a1 : ByteArray) (w0 : a0.size ≤ maxLen) (w1 : a1.size ≤ maxLen) (w : World) :
    Calls Try.prog 7 #[.string a0, .string a1] w fun e w' => e = .returned (.bool true) ∧ Below w.heap.size w w' := by
  unfold maxLen at w0 w1
  by_cases h0 : a0.size ≤ 2147483647
  · by_cases h1 : a1.size ≤ 2147483647
    · have hf := far2 a0 a1 w h0 h1
      by_cases hb : (65536 : Int) < ((a0.size + a1.size : Nat) : Int)
      · rw [decide_eq_true hb] at hf
        have Hf := Lib.hid hf
        clear hf
        go_enter Try.func7, Try.ntmps7
        go_wp2_with fail
        refine Hf.out.mono ?_
        rintro e w' ⟨rfl, rfl⟩
        go_wp2_with fail
        go_ret
        exact ⟨rfl, below_new _ _⟩
      · rw [decide_eq_false hb] at hf
        have Hf := Lib.hid hf
        clear hf
        have hn := fun W => named_any a0 W (by omega)
        cases hp : namedB a0 with
        | false =>
          rw [hp] at hn
          have Hn := Lib.hid hn
          clear hn hp
          go_enter Try.func7, Try.ntmps7
          go_wp2_with fail
          refine Hf.out.mono ?_
          rintro e w' ⟨rfl, rfl⟩
          go_wp2_with fail
          refine (Hn.out _).mono ?_
          rintro e w' ⟨rfl, rfl⟩
          go_wp2_with fail
          go_ret
          exact ⟨rfl, below_new _ _⟩
        | true =>
          rw [hp] at hn
          have Hn := Lib.hid hn
          have hr := fun W => rewrite_any (a0 ++ ⟨#[47]⟩ ++ a1) a0 W (by simp only [ByteArray.size_append, slash_size]; omega) (by omega) (semiless hp)
          rw [oneB_gone hp] at hr
          have Hr := Lib.hid hr
          clear hn hp hr
          by_cases hz : a1.size = 0
          · have e0 := isEmpty_of hz
            go_enter Try.func7, Try.ntmps7
            go_wp2_with fail
            refine Hf.out.mono ?_
            rintro e w' ⟨rfl, rfl⟩
            go_wp2_with fail
            refine (Hn.out _).mono ?_
            rintro e w' ⟨rfl, rfl⟩
            go_wp2_with fail
            go_ret
            exact ⟨rfl, below_new _ _⟩
          · have e0 := not_empty (s := a1) (by omega)
            have e0' := not_empty2 (s := a1) (by omega)
            have e1 := (by8_at a1 0 (by omega)).symm
            have hpos : 0 < a1.size := by omega
            by_cases h47 : by8 a1 0 = 47
            · have h47' : (by8 a1 0 == 47) = true := by simpa using h47
              clear h47
              go_enter Try.func7, Try.ntmps7
              go_wp2_with fail
              refine Hf.out.mono ?_
              rintro e w' ⟨rfl, rfl⟩
              go_wp2_with fail
              refine (Hn.out _).mono ?_
              rintro e w' ⟨rfl, rfl⟩
              go_wp2_with fail
              go_ret
              exact ⟨rfl, below_new _ _⟩
            · have h47' : (by8 a1 0 == 47) = false := by simpa using h47
              clear h47
              go_enter Try.func7, Try.ntmps7
              go_wp2_with fail
              refine Hf.out.mono ?_
              rintro e w' ⟨rfl, rfl⟩
              go_wp2_with fail
              refine (Hn.out _).mono ?_
              rintro e w' ⟨rfl, rfl⟩
              go_wp2_with fail
              refine (Hr.out _).mono ?_
              rintro e w2 ⟨rfl, hw2⟩
              have Hw2 := Lib.hid hw2
              clear hw2
              go_wp2_with fail
              go_ret
              exact ⟨rfl, below_drawn (below_new _ _) Hw2.out⟩
    · go_enter Try.func7, Try.ntmps7
      go_wp2
      go_ret
      exact ⟨rfl, Below.refl _ _⟩
  · go_enter Try.func7, Try.ntmps7
    go_wp2
    go_ret
    exact ⟨rfl, Below.refl _ _⟩

end Go.Proofs.Ytinanlnbmknkcaa

/- The walk of FnRewrite: it returns true. -/
import Derived.Test.YtinanlnbmknkcaaNames
namespace Go.Proofs.Ytinanlnbmknkcaa
open Go.RowKit

set_option maxHeartbeats 2000000 in
theorem fnRewrite_walk (a0 : ByteArray) (a1 : ByteArray) (a2 : ByteArray) (w0 : a0.size ≤ maxLen) (w1 : a1.size ≤ maxLen) (w2 : a2.size ≤ maxLen) (w : World) :
    Calls Try.prog 8 #[.string a0, .string a1, .string a2] w fun e w' => e = .returned (.bool true) ∧ Below w.heap.size w w' := by
  unfold maxLen at w0 w1 w2
  by_cases h0 : a0.size ≤ 2147483647
  ·
    by_cases h1 : a1.size ≤ 2147483647
    ·
      by_cases h2 : a2.size ≤ 2147483647
      ·
        have hf := far3 a0 a1 a2 w h0 h1 h2
        by_cases hb : (65536 : Int) < ((a0.size + a1.size + a2.size : Nat) : Int)
        ·
          rw [decide_eq_true hb] at hf
          have Hf := Lib.hid hf
          clear hf
          go_enter Try.func8, Try.ntmps8
          go_wp2_with fail
          refine Hf.out.mono ?_
          rintro e w' ⟨rfl, rfl⟩
          go_wp2_with fail
          go_ret
          exact ⟨rfl, below_new _ _⟩
        ·
          rw [decide_eq_false hb] at hf
          have Hf := Lib.hid hf
          clear hf
          have hn := fun W => named_any a0 W (by omega)
          have hm := fun W => named_any a1 W (by omega)
          cases hp : namedB a0 with
          | false =>
            rw [hp] at hn
            have Hn := Lib.hid hn
            clear hn hm hp
            go_enter Try.func8, Try.ntmps8
            go_wp2_with fail
            refine Hf.out.mono ?_
            rintro e w' ⟨rfl, rfl⟩
            go_wp2_with fail
            refine (Hn.out _).mono ?_
            rintro e w' ⟨rfl, rfl⟩
            go_wp2_with fail
            go_ret
            exact ⟨rfl, below_new _ _⟩
          | true =>
            rw [hp] at hn
            have Hn := Lib.hid hn
            clear hn
            cases hq : namedB a1 with
            | false =>
              rw [hq] at hm
              have Hm := Lib.hid hm
              clear hm hp hq
              go_enter Try.func8, Try.ntmps8
              go_wp2_with fail
              refine Hf.out.mono ?_
              rintro e w' ⟨rfl, rfl⟩
              go_wp2_with fail
              refine (Hn.out _).mono ?_
              rintro e w' ⟨rfl, rfl⟩
              go_wp2_with fail
              refine (Hm.out _).mono ?_
              rintro e w' ⟨rfl, rfl⟩
              go_wp2_with fail
              go_ret
              exact ⟨rfl, below_new _ _⟩
            | true =>
              rw [hq] at hm
              have Hm := Lib.hid hm
              have hr := fun W => rewrite_any (a0 ++ ⟨#[47]⟩ ++ a2) (a0 ++ ⟨#[61, 62]⟩ ++ a1) W (by simp only [ByteArray.size_append, slash_size]; omega) (by simp only [ByteArray.size_append, arrow_size]; omega) (semiless_arrow hp hq)
              rw [oneB_by hp hq] at hr
              have Hr := Lib.hid hr
              clear hm hp hq hr
              by_cases hz : a2.size = 0
              ·
                have e0 := isEmpty_of hz
                go_enter Try.func8, Try.ntmps8
                go_wp2_with fail
                refine Hf.out.mono ?_
                rintro e w' ⟨rfl, rfl⟩
                go_wp2_with fail
                refine (Hn.out _).mono ?_
                rintro e w' ⟨rfl, rfl⟩
                go_wp2_with fail
                refine (Hm.out _).mono ?_
                rintro e w' ⟨rfl, rfl⟩
                go_wp2_with fail
                go_ret
                exact ⟨rfl, below_new _ _⟩
              ·
                have e0 := not_empty (s := a2) (by omega)
                have e0' := not_empty2 (s := a2) (by omega)
                go_enter Try.func8, Try.ntmps8
                go_wp2_with fail
                refine Hf.out.mono ?_
                rintro e w' ⟨rfl, rfl⟩
                go_wp2_with fail
                refine (Hn.out _).mono ?_
                rintro e w' ⟨rfl, rfl⟩
                go_wp2_with fail
                refine (Hm.out _).mono ?_
                rintro e w' ⟨rfl, rfl⟩
                go_wp2_with fail
                refine (Hr.out _).mono ?_
                rintro e wHr ⟨rfl, kHr⟩
                have KHr := Lib.hid kHr
                clear kHr
                go_wp2_with fail
                go_ret
                exact ⟨rfl, below_drawn (below_new _ _) KHr.out⟩
      ·
        go_enter Try.func8, Try.ntmps8
        go_wp2
        go_ret
        exact ⟨rfl, Below.refl _ _⟩
    ·
      go_enter Try.func8, Try.ntmps8
      go_wp2
      go_ret
      exact ⟨rfl, Below.refl _ _⟩
  ·
    go_enter Try.func8, Try.ntmps8
    go_wp2
    go_ret
    exact ⟨rfl, Below.refl _ _⟩

end Go.Proofs.Ytinanlnbmknkcaa

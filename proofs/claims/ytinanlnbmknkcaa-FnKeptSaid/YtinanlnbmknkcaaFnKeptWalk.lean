/- The walk of FnKept: it returns true. -/
import Derived.Test.YtinanlnbmknkcaaNames
namespace Go.Proofs.Ytinanlnbmknkcaa
open Go.RowKit

set_option maxHeartbeats 2000000 in
theorem fnKept_walk (a0 : ByteArray) (a1 : ByteArray) (a2 : ByteArray) (w0 : a0.size ≤ maxLen) (w1 : a1.size ≤ maxLen) (w2 : a2.size ≤ maxLen) (w : World) :
    Calls Try.prog 6 #[.string a0, .string a1, .string a2] w fun e w' => e = .returned (.bool true) ∧ Below w.heap.size w w' := by
  unfold maxLen at w0 w1 w2
  by_cases h0 : a0.size ≤ 2147483647
  ·
    by_cases h1 : a1.size ≤ 2147483647
    ·
      by_cases h2 : a2.size ≤ 2147483647
      ·
        have hf := far3 a0 a1 a2 w h0 h1 h2
        by_cases hb : (65536 : Int) < ((a0.size + a1.size + a2.size : Nat) : Int)
        ·
          rw [decide_eq_true hb] at hf
          have Hf := Lib.hid hf
          clear hf
          go_enter Try.func6, Try.ntmps6
          go_wp2_with fail
          refine Hf.out.mono ?_
          rintro e w' ⟨rfl, rfl⟩
          go_wp2_with fail
          go_ret
          exact ⟨rfl, below_new _ _⟩
        ·
          rw [decide_eq_false hb] at hf
          have Hf := Lib.hid hf
          clear hf
          have hn := fun W => named_any a0 W (by omega)
          have hm := fun W => named_any a1 W (by omega)
          have hg := fun W => elements_any a2 a0 W (by unfold maxLen; omega)
          cases hp : namedB a0 with
          | false =>
            rw [hp] at hn
            have Hn := Lib.hid hn
            clear hn hm hp hg
            go_enter Try.func6, Try.ntmps6
            go_wp2_with fail
            refine Hf.out.mono ?_
            rintro e w' ⟨rfl, rfl⟩
            go_wp2_with fail
            refine (Hn.out _).mono ?_
            rintro e w' ⟨rfl, rfl⟩
            go_wp2_with fail
            go_ret
            exact ⟨rfl, below_new _ _⟩
          | true =>
            rw [hp] at hn
            have Hn := Lib.hid hn
            clear hn
            cases hq : namedB a1 with
            | false =>
              rw [hq] at hm
              have Hm := Lib.hid hm
              clear hm hp hq hg
              go_enter Try.func6, Try.ntmps6
              go_wp2_with fail
              refine Hf.out.mono ?_
              rintro e w' ⟨rfl, rfl⟩
              go_wp2_with fail
              refine (Hn.out _).mono ?_
              rintro e w' ⟨rfl, rfl⟩
              go_wp2_with fail
              refine (Hm.out _).mono ?_
              rintro e w' ⟨rfl, rfl⟩
              go_wp2_with fail
              go_ret
              exact ⟨rfl, below_new _ _⟩
            | true =>
              rw [hq] at hm
              have Hm := Lib.hid hm
              clear hm
              cases he : elems a2 a0 with
              | true =>
                rw [he] at hg
                have Hg := Lib.hid hg
                clear hg hp hq he
                go_enter Try.func6, Try.ntmps6
                go_wp2_with fail
                refine Hf.out.mono ?_
                rintro e w' ⟨rfl, rfl⟩
                go_wp2_with fail
                refine (Hn.out _).mono ?_
                rintro e w' ⟨rfl, rfl⟩
                go_wp2_with fail
                refine (Hm.out _).mono ?_
                rintro e w' ⟨rfl, rfl⟩
                go_wp2_with fail
                refine (Hg.out _).mono ?_
                rintro e wHg ⟨rfl, kHg⟩
                have KHg := Lib.hid kHg
                clear kHg
                go_wp2_with fail
                go_ret
                exact ⟨rfl, below_drawn (below_new _ _) KHg.out⟩
              | false =>
                rw [he] at hg
                have Hg := Lib.hid hg
                have hx : (ByteArray.mk #[47, 120]).size = 2 := rfl
                have hr := fun W => rewrite_any a2 (a0 ++ ⟨#[61, 62]⟩ ++ a1) W (by omega) (by simp only [ByteArray.size_append, arrow_size]; omega) (semiless_arrow hp hq)
                have hs := fun W => rewrite_any a2 a0 W (by omega) (by omega) (semiless hp)
                have ht := fun W => rewrite_any (a0 ++ ⟨#[47, 120]⟩) a0 W (by rw [ByteArray.size_append, hx]; omega) (by omega) (semiless hp)
                rw [oneB_kept_by hq he] at hr
                rw [oneB_kept hp he] at hs
                rw [show a0 ++ (⟨#[47, 120]⟩ : ByteArray) = a0 ++ ⟨#[47]⟩ ++ ⟨#[120]⟩ from by rw [ByteArray.append_assoc]; rfl, oneB_gone hp, show a0 ++ (⟨#[47]⟩ : ByteArray) ++ ⟨#[120]⟩ = a0 ++ ⟨#[47, 120]⟩ from by rw [ByteArray.append_assoc]; rfl] at ht
                have Hr := Lib.hid hr
                have Hs := Lib.hid hs
                have Ht := Lib.hid ht
                clear hg hp hq he hr hs ht hx
                go_enter Try.func6, Try.ntmps6
                go_wp2_with fail
                refine Hf.out.mono ?_
                rintro e w' ⟨rfl, rfl⟩
                go_wp2_with fail
                refine (Hn.out _).mono ?_
                rintro e w' ⟨rfl, rfl⟩
                go_wp2_with fail
                refine (Hm.out _).mono ?_
                rintro e w' ⟨rfl, rfl⟩
                go_wp2_with fail
                refine (Hg.out _).mono ?_
                rintro e wHg ⟨rfl, kHg⟩
                have KHg := Lib.hid kHg
                clear kHg
                go_wp2_with fail
                refine (Hr.out _).mono ?_
                rintro e wHr ⟨rfl, kHr⟩
                have KHr := Lib.hid kHr
                clear kHr
                go_wp2_with fail
                refine (Hs.out _).mono ?_
                rintro e wHs ⟨rfl, kHs⟩
                have KHs := Lib.hid kHs
                clear kHs
                go_wp2_with fail
                refine (Ht.out _).mono ?_
                rintro e wHt ⟨rfl, kHt⟩
                have KHt := Lib.hid kHt
                clear kHt
                go_wp2_with fail
                go_ret
                exact ⟨rfl, below_drawn (below_drawn (below_drawn (below_drawn (below_new _ _) KHg.out) KHr.out) KHs.out) KHt.out⟩
      ·
        go_enter Try.func6, Try.ntmps6
        go_wp2
        go_ret
        exact ⟨rfl, Below.refl _ _⟩
    ·
      go_enter Try.func6, Try.ntmps6
      go_wp2
      go_ret
      exact ⟨rfl, Below.refl _ _⟩
  ·
    go_enter Try.func6, Try.ntmps6
    go_wp2
    go_ret
    exact ⟨rfl, Below.refl _ _⟩

end Go.Proofs.Ytinanlnbmknkcaa

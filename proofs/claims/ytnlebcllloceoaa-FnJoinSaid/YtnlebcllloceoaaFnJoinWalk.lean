/- The walk of FnJoin: it returns true. -/
import Derived.Test.YtnlebcllloceoaaCls
import Derived.Test.YtnlebcllloceoaaJoin
import Derived.Deep.RegionHeld3
namespace Go.Proofs.Ytnlebcllloceoaa
open Go.RowKit

set_option maxHeartbeats 400000 in
theorem fnJoin_walk (a0 : ByteArray) (a1 : ByteArray) (w0 : a0.size ≤ maxLen) (w1 : a1.size ≤ maxLen) (w : World) :
    Calls Try.prog 5 #[.string a0, .string a1] w fun e w' => e = .returned (.bool true) ∧ Below w.heap.size w w' := by
  unfold maxLen at w0 w1
  by_cases h0 : a0.size ≤ 2147483647
  · by_cases h1 : a1.size ≤ 2147483647
    · have hf := far2 a0 a1 w h0 h1
      by_cases hb : (65536 : Int) < ((a0.size + a1.size : Nat) : Int)
      · rw [decide_eq_true hb] at hf
        have Hf := Lib.hid hf
        clear hf
        go_enter Try.func5, Try.ntmps5
        go_wp2_with fail
        refine Hf.out.mono ?_
        rintro e w' ⟨rfl, rfl⟩
        go_wp2_with fail
        go_ret
        exact ⟨rfl, below_new _ _⟩
      · rw [decide_eq_false hb] at hf
        have Hf := Lib.hid hf
        clear hf
        have hh := fun w => hasB_any a1 47 (by unfold maxLen; omega) w
        have hsx : (ByteArray.mk #[47, 120]).size = 2 := rfl
        have hs1 : (ByteArray.mk #[47]).size = 1 := rfl
        have hc1 := fun w => prefix_any (a0 ++ ⟨#[47, 120]⟩) (by rw [ByteArray.size_append]; omega) w
        have hc2 := fun w => prefix_any (a0 ++ ⟨#[47]⟩ ++ a1) (by rw [ByteArray.size_append, ByteArray.size_append]; omega) w
        have hc3 := fun w => prefix_any a1 (by omega) w
        cases hn : hasTo a1 47 a1.size with
        | true =>
          rw [hn] at hh
          have Hh := Lib.hid hh
          clear hh hsx hs1 hc1 hc2 hc3
          go_enter Try.func5, Try.ntmps5
          go_wp2_with fail
          refine Hf.out.mono ?_
          rintro e w' ⟨rfl, rfl⟩
          go_wp2_with fail
          refine (Hh.out _).mono ?_
          rintro e w' ⟨rfl, rfl⟩
          go_wp2_with fail
          go_ret
          exact ⟨rfl, below_new _ _⟩
        | false =>
          have hfr := front_pos a0
          have hl := (pre_le (a0 ++ ⟨#[47, 120]⟩)).2
          have hl1 := (pre_le a1).2
          rw [ByteArray.size_append, hsx] at hl
          have hj := pre_join a0 a1 hn
          rw [hn] at hh
          have Hh := Lib.hid hh
          have H1 := Lib.hid hc1
          have H2 := Lib.hid hc2
          have H3 := Lib.hid hc3
          have Hj := Lib.hid hj
          clear hh hsx hs1 hc1 hc2 hc3 hn hj
          go_enter Try.func5, Try.ntmps5
          go_wp2_with fail
          refine Hf.out.mono ?_
          rintro e w' ⟨rfl, rfl⟩
          go_wp2_with fail
          refine (Hh.out _).mono ?_
          rintro e w' ⟨rfl, rfl⟩
          go_wp2_with fail
          refine (H1.out _).mono ?_
          rintro e w1 ⟨rfl, hb1⟩
          generalize pre (a0 ++ ⟨#[47, 120]⟩) = fr at *
          generalize pre (a0 ++ ⟨#[47]⟩ ++ a1) = jn at *
          generalize pre a1 = sg at *
          have hg : decide ((0 : Int) < (fr.size : Int)) = true := by simp; omega
          have hje : (jn.toList == (fr.extract 0 (fr.size - 1) ++ sg).toList) = true := by rw [Hj.out]; simp
          have hs47 : (ByteArray.mk #[47]).size = 1 := rfl
          have r1 := fun W => run_string_add_sum (P := Try.prog) W a0 ⟨#[47]⟩ (by omega)
          have r2 := fun W => run_string_add_sum (P := Try.prog) W (a0 ++ ⟨#[47]⟩) a1 (by rw [ByteArray.size_append]; omega)
          have r3 := fun W => run_string_add_sum (P := Try.prog) W (fr.extract 0 (fr.size - 1)) sg (by rw [ByteArray.size_extract]; omega)
          have n1 : IntKind.i64.wrap ((fr.size : Int) - 1) = (fr.size : Int) - 1 := IntWalk.i64_in _ (by omega)
          have n2 : (0 : Int) ≤ (fr.size : Int) - 1 := by omega
          have n3 : (fr.size : Int) - 1 ≤ (fr.size : Int) := by omega
          have n4 : ((fr.size : Int) - 1).toNat = fr.size - 1 := by omega
          have n5 : (1 : Int) ≤ (fr.size : Int) := by omega
          have n6 : 1 ≤ fr.size := by omega
          clear hs47
          go_wp2_with fail
          go_region_held3 (fun _ => True) (exact trivial) (first | (go_at_call 8; (with_reducible refine (H3.out _).mono ?_); rintro e w3 ⟨rfl, hb3⟩) | (go_at_call 8; (with_reducible refine (H2.out _).mono ?_); rintro e w2 ⟨rfl, hb2⟩))
          all_goals
            go_wp2
            go_ret
            exact ⟨rfl, below_then (below_then (below_then (below_new _ _) hb1).drew hb2) hb3⟩
    · go_enter Try.func5, Try.ntmps5
      go_wp2
      go_ret
      exact ⟨rfl, Below.refl _ _⟩
  · go_enter Try.func5, Try.ntmps5
    go_wp2
    go_ret
    exact ⟨rfl, Below.refl _ _⟩

end Go.Proofs.Ytnlebcllloceoaa

/- The walk of FnOne: it returns true. -/
import Derived.Test.YtinanlnbmknkcaaNames
namespace Go.Proofs.Ytinanlnbmknkcaa
open Go.RowKit

theorem below_two (w : World) (o p : Obj) : Below w.heap.size w ((w.alloc o).alloc p) := (below_new w o).alloc (by simp) _
theorem heap_two (w : World) (o p : Obj) : ((w.alloc o).alloc p).heap[w.heap.size + 1]? = some p := by
  have h := (MapKept.heap_alloc (w.alloc o) p).1
  have e : (w.alloc o).heap.size = w.heap.size + 1 := by simp
  rwa [e] at h

set_option maxRecDepth 100000 in
set_option maxHeartbeats 8000000 in
theorem fnOne_walk (a0 : ByteArray) (a1 : ByteArray) (a2 : ByteArray) (a3 : ByteArray) (w0 : a0.size ≤ maxLen) (w1 : a1.size ≤ maxLen) (w2 : a2.size ≤ maxLen) (w3 : a3.size ≤ maxLen) (w : World) :
    Calls Try.prog 5 #[.string a0, .string a1, .string a2, .string a3] w fun e w' => e = .returned (.bool true) ∧ Below w.heap.size w w' := by
  unfold maxLen at w0 w1 w2 w3
  by_cases h0 : a0.size ≤ 2147483647
  ·
    by_cases h1 : a1.size ≤ 2147483647
    ·
      by_cases h2 : a2.size ≤ 2147483647
      ·
        by_cases h3 : a3.size ≤ 2147483647
        ·
          have hbb := beyond_any [(a0.size : Int), (a1.size : Int), (a2.size : Int), (a3.size : Int)] w.heap.size 4 4 (w.alloc (.cells #[.int .i64 a0.size, .int .i64 a1.size, .int .i64 a2.size, .int .i64 a3.size] 3)) (by omega)
            (fun i hi => by
              match i, hi with
              | 0, _ | 1, _ | 2, _ | 3, _ => simp [World.cell?_alloc_new])
          have hf := far4 a0 a1 a2 a3 (w.heap.size + 1) ((w.alloc (.cells #[.int .i64 a0.size, .int .i64 a1.size, .int .i64 a2.size, .int .i64 a3.size] 3)).alloc (.cells #[.string a0, .string a1, .string a2, .string a3] 9)) h0 h1 h2 h3 (heap_two _ _ _)
          cases hB : bigTo [(a0.size : Int), (a1.size : Int), (a2.size : Int), (a3.size : Int)] 4 with
          | true =>
            rw [hB] at hbb
            have Hbb := Lib.hid hbb
            clear hbb hB hf
            go_enter Try.func5, Try.ntmps5
            go_wp2_with fail
            refine Hbb.out.mono ?_
            rintro e w' ⟨rfl, rfl⟩
            go_wp2_with fail
            go_ret
            exact ⟨rfl, below_new _ _⟩
          | false =>
            rw [hB] at hbb
            have Hbb := Lib.hid hbb
            clear hbb hB
            by_cases hb : (65536 : Int) < ((a0.size + a1.size + a2.size + a3.size : Nat) : Int)
            ·
              rw [decide_eq_true hb] at hf
              have Hf := Lib.hid hf
              clear hf
              go_enter Try.func5, Try.ntmps5
              go_wp2_with fail
              refine Hbb.out.mono ?_
              rintro e w' ⟨rfl, rfl⟩
              go_wp2_with fail
              refine Hf.out.mono ?_
              rintro e w' ⟨rfl, rfl⟩
              go_wp2_with fail
              go_ret
              exact ⟨rfl, below_two _ _ _⟩
            ·
              rw [decide_eq_false hb] at hf
              have Hf := Lib.hid hf
              clear hf
              have hn := fun W => named_any a0 W (by omega)
              have hm := fun W => named_any a1 W (by omega)
              cases hp : namedB a0 with
              | false =>
                rw [hp] at hn
                have Hn := Lib.hid hn
                clear hn hm hp
                go_enter Try.func5, Try.ntmps5
                go_wp2_with fail
                refine Hbb.out.mono ?_
                rintro e w' ⟨rfl, rfl⟩
                go_wp2_with fail
                refine Hf.out.mono ?_
                rintro e w' ⟨rfl, rfl⟩
                go_wp2_with fail
                refine (Hn.out _).mono ?_
                rintro e w' ⟨rfl, rfl⟩
                go_wp2_with fail
                go_ret
                exact ⟨rfl, below_two _ _ _⟩
              | true =>
                rw [hp] at hn
                have Hn := Lib.hid hn
                clear hn
                cases hq : namedB a1 with
                | false =>
                  rw [hq] at hm
                  have Hm := Lib.hid hm
                  clear hm hp hq
                  go_enter Try.func5, Try.ntmps5
                  go_wp2_with fail
                  refine Hbb.out.mono ?_
                  rintro e w' ⟨rfl, rfl⟩
                  go_wp2_with fail
                  refine Hf.out.mono ?_
                  rintro e w' ⟨rfl, rfl⟩
                  go_wp2_with fail
                  refine (Hn.out _).mono ?_
                  rintro e w' ⟨rfl, rfl⟩
                  go_wp2_with fail
                  refine (Hm.out _).mono ?_
                  rintro e w' ⟨rfl, rfl⟩
                  go_wp2_with fail
                  go_ret
                  exact ⟨rfl, below_two _ _ _⟩
                | true =>
                  rw [hq] at hm
                  have Hm := Lib.hid hm
                  clear hm
                  by_cases hz : a2.size = 0
                  ·
                    have e0 := isEmpty_of hz
                    clear hp hq hz
                    go_enter Try.func5, Try.ntmps5
                    go_wp2_with fail
                    refine Hbb.out.mono ?_
                    rintro e w' ⟨rfl, rfl⟩
                    go_wp2_with fail
                    refine Hf.out.mono ?_
                    rintro e w' ⟨rfl, rfl⟩
                    go_wp2_with fail
                    refine (Hn.out _).mono ?_
                    rintro e w' ⟨rfl, rfl⟩
                    go_wp2_with fail
                    refine (Hm.out _).mono ?_
                    rintro e w' ⟨rfl, rfl⟩
                    go_wp2_with fail
                    go_ret
                    exact ⟨rfl, below_two _ _ _⟩
                  ·
                    have e0 := not_empty (s := a2) (by omega)
                    have e0' := not_empty2 (s := a2) (by omega)
                    have e1 := (by8_at a2 0 (by omega)).symm
                    have hpos : 0 < a2.size := by omega
                    cases h47 : (by8 a2 0 == 47) with
                    | true =>
                      clear hp hq
                      go_enter Try.func5, Try.ntmps5
                      go_wp2_with fail
                      refine Hbb.out.mono ?_
                      rintro e w' ⟨rfl, rfl⟩
                      go_wp2_with fail
                      refine Hf.out.mono ?_
                      rintro e w' ⟨rfl, rfl⟩
                      go_wp2_with fail
                      refine (Hn.out _).mono ?_
                      rintro e w' ⟨rfl, rfl⟩
                      go_wp2_with fail
                      refine (Hm.out _).mono ?_
                      rintro e w' ⟨rfl, rfl⟩
                      go_wp2_with fail
                      go_ret
                      exact ⟨rfl, below_two _ _ _⟩
                    | false =>
                      cases h92 : (by8 a2 0 == 92) with
                      | true =>
                        clear hp hq
                        go_enter Try.func5, Try.ntmps5
                        go_wp2_with fail
                        refine Hbb.out.mono ?_
                        rintro e w' ⟨rfl, rfl⟩
                        go_wp2_with fail
                        refine Hf.out.mono ?_
                        rintro e w' ⟨rfl, rfl⟩
                        go_wp2_with fail
                        refine (Hn.out _).mono ?_
                        rintro e w' ⟨rfl, rfl⟩
                        go_wp2_with fail
                        refine (Hm.out _).mono ?_
                        rintro e w' ⟨rfl, rfl⟩
                        go_wp2_with fail
                        go_ret
                        exact ⟨rfl, below_two _ _ _⟩
                      | false =>
                        have hr := fun W => one_any (a0 ++ ⟨#[47]⟩ ++ a2) (a0 ++ ⟨#[61, 62]⟩ ++ a1) W (by simp only [ByteArray.size_append, slash_size]; omega) (by simp only [ByteArray.size_append, arrow_size]; omega)
                        have hs := fun W => one_any (a0 ++ ⟨#[47]⟩ ++ a2) a0 W (by simp only [ByteArray.size_append, slash_size]; omega) (by omega)
                        have ht := fun W => one_any a3 a0 W (by omega) (by omega)
                        have hg := fun W => elements_any a3 a0 W (by unfold maxLen; omega)
                        rw [oneB_by hp hq] at hr
                        rw [oneB_gone hp] at hs
                        have Hr := Lib.hid hr
                        have Hs := Lib.hid hs
                        clear hr hs
                        cases he : elems a3 a0 with
                        | true =>
                          rw [he] at hg
                          have Hg := Lib.hid hg
                          clear hg ht hp hq he
                          go_enter Try.func5, Try.ntmps5
                          go_wp2_with fail
                          refine Hbb.out.mono ?_
                          rintro e w' ⟨rfl, rfl⟩
                          go_wp2_with fail
                          refine Hf.out.mono ?_
                          rintro e w' ⟨rfl, rfl⟩
                          go_wp2_with fail
                          refine (Hn.out _).mono ?_
                          rintro e w' ⟨rfl, rfl⟩
                          go_wp2_with fail
                          refine (Hm.out _).mono ?_
                          rintro e w' ⟨rfl, rfl⟩
                          go_wp2_with fail
                          refine (Hr.out _).mono ?_
                          rintro e wHr ⟨rfl, kHr⟩
                          have KHr := Lib.hid kHr
                          clear kHr
                          go_wp2_with fail
                          refine (Hs.out _).mono ?_
                          rintro e wHs ⟨rfl, kHs⟩
                          have KHs := Lib.hid kHs
                          clear kHs
                          go_wp2_with fail
                          refine (Hg.out _).mono ?_
                          rintro e wHg ⟨rfl, kHg⟩
                          have KHg := Lib.hid kHg
                          clear kHg
                          go_wp2_with fail
                          go_ret
                          exact ⟨rfl, below_drawn (below_drawn (below_drawn (below_two _ _ _) KHr.out) KHs.out) KHg.out⟩
                        | false =>
                          rw [he] at hg
                          rw [oneB_kept hp he] at ht
                          have Hg := Lib.hid hg
                          have Ht := Lib.hid ht
                          clear hg ht hp hq he
                          go_enter Try.func5, Try.ntmps5
                          go_wp2_with fail
                          refine Hbb.out.mono ?_
                          rintro e w' ⟨rfl, rfl⟩
                          go_wp2_with fail
                          refine Hf.out.mono ?_
                          rintro e w' ⟨rfl, rfl⟩
                          go_wp2_with fail
                          refine (Hn.out _).mono ?_
                          rintro e w' ⟨rfl, rfl⟩
                          go_wp2_with fail
                          refine (Hm.out _).mono ?_
                          rintro e w' ⟨rfl, rfl⟩
                          go_wp2_with fail
                          refine (Hr.out _).mono ?_
                          rintro e wHr ⟨rfl, kHr⟩
                          have KHr := Lib.hid kHr
                          clear kHr
                          go_wp2_with fail
                          refine (Hs.out _).mono ?_
                          rintro e wHs ⟨rfl, kHs⟩
                          have KHs := Lib.hid kHs
                          clear kHs
                          go_wp2_with fail
                          refine (Hg.out _).mono ?_
                          rintro e wHg ⟨rfl, kHg⟩
                          have KHg := Lib.hid kHg
                          clear kHg
                          go_wp2_with fail
                          refine (Ht.out _).mono ?_
                          rintro e wHt ⟨rfl, kHt⟩
                          have KHt := Lib.hid kHt
                          clear kHt
                          go_wp2_with fail
                          go_ret
                          exact ⟨rfl, below_drawn (below_drawn (below_drawn (below_drawn (below_two _ _ _) KHr.out) KHs.out) KHg.out) KHt.out⟩
        ·
          go_enter Try.func5, Try.ntmps5
          go_wp2
          go_ret
          exact ⟨rfl, Below.refl _ _⟩
      ·
        go_enter Try.func5, Try.ntmps5
        go_wp2
        go_ret
        exact ⟨rfl, Below.refl _ _⟩
    ·
      go_enter Try.func5, Try.ntmps5
      go_wp2
      go_ret
      exact ⟨rfl, Below.refl _ _⟩
  ·
    go_enter Try.func5, Try.ntmps5
    go_wp2
    go_ret
    exact ⟨rfl, Below.refl _ _⟩

end Go.Proofs.Ytinanlnbmknkcaa

/- The walk of FnArgsLines: it returns true. -/
import Derived.Test.YtiklnckoimeimaaFnArgsWalk
import Derived.Test.YtiklnckoimeimaaHasB
import Derived.Test.YtiklnckoimeimaaCat
namespace Go.Proofs.Ytiklnckoimeimaa
open Go.RowKit

theorem list_app (a b : ByteArray) : (a ++ b).data.toList = a.data.toList ++ b.data.toList := by simp [ByteArray.data_append]

theorem two_le {a b : Nat} {r : Bool} (hr : r = true ↔ ∃ i, i < 2 ∧ 1048576 < ([a, b] : List Nat).getD i 0) (h : r = false) : a ≤ 1048576 ∧ b ≤ 1048576 := by
  subst h
  have h1 : ¬ 1048576 < a := fun h => by have := hr.2 ⟨0, by omega, h⟩; simp at this
  have h2 : ¬ 1048576 < b := fun h => by have := hr.2 ⟨1, by omega, h⟩; simp at this
  omega

theorem cell_two {w : World} {u v : Value} {t : TypeId} (k : Nat) (hk : k < 2) : (w.alloc (.cells #[u, v] t)).cell? ⟨w.heap.size, 0 + k, none⟩ = some ([u, v].getD k undef) := by
  have h := heap_alloc_new w (.cells #[u, v] t)
  rcases (by omega : k = 0 ∨ k = 1) with rfl | rfl
  · exact Lib.cell_of_heap h 0
  · exact Lib.cell_of_heap h 1

set_option maxHeartbeats 4000000 in
theorem fnArgsLines_walk (a0 : ByteArray) (a1 : ByteArray) (a2 : Bool) (w0 : a0.size ≤ maxLen) (w1 : a1.size ≤ maxLen) (w : World) :
    Calls Try.prog 7 #[.string a0, .string a1, .bool a2] w fun e w' => e = .returned (.bool true) ∧ Below w.heap.size w w' := by
  unfold maxLen at w0 w1
  by_cases h0 : a0.size ≤ 2147483647
  · by_cases h1 : a1.size ≤ 2147483647
    · have g0 : decide ((2147483647 : Int) < (a0.size : Int)) = false := decide_eq_false (by omega)
      have g1 : decide ((2147483647 : Int) < (a1.size : Int)) = false := decide_eq_false (by omega)
      have hbey := beyond_any [a0.size, a1.size] w.heap.size 0 2 2 (w.alloc (.cells #[.int .i64 a0.size, .int .i64 a1.size] 3)) (by decide) (fun i hi => by
        rw [cell_two i hi]
        rcases (by omega : i = 0 ∨ i = 1) with rfl | rfl <;> rfl)
      have Hbey := Lib.hid hbey
      clear hbey
      have hb0 := Lib.hid (below_new w (.cells #[.int .i64 a0.size, .int .i64 a1.size] 3))
      go_enter Try.func7, Try.ntmps7
      go_wp2_with fail
      refine Hbey.out.mono ?_
      rintro e wx ⟨r, rfl, hr, rfl⟩
      clear Hbey g0 g1
      cases r with
      | true =>
        clear hr
        go_wp2_with fail
        go_ret
        exact ⟨rfl, hb0.out⟩
      | false =>
        obtain ⟨q0, q1⟩ := two_le hr rfl
        clear hr h0 h1 w0 w1
        generalize w.alloc (.cells #[.int .i64 a0.size, .int .i64 a1.size] 3) = wa at *
        have hcl := fun k hk => cell_two (w := wa) (u := .string a0) (v := .string a1) (t := 9) k hk
        have HC := Lib.hid hcl
        clear hcl
        have HB1 := Lib.hid (below_then hb0.out (below_new wa (.cells #[.string a0, .string a1] 9)) (Nat.le_refl _))
        clear hb0
        go_wp2_with fail
        go_loop [30] (fun i => ∃ k : Nat, k ≤ 2 ∧ i = .int .i64 k ∧ Hid (∀ j, j < k → ∀ c ∈ (([a0, a1] : List ByteArray).getD j ByteArray.empty).data.toList, isPlain c)) (fun i => 2 - (intOf i).toNat)
        case atStart => exact ⟨0, by omega, rfl, Lib.hid fun j hj => by omega⟩
        case round =>
          obtain ⟨k, hk, rfl, hf⟩ := hrel
          by_cases hlt : k < 2
          · obtain ⟨x, hx⟩ : ∃ x, x = ([a0, a1] : List ByteArray).getD k ByteArray.empty := ⟨_, rfl⟩
            have hc0 : (wa.alloc (.cells #[.string a0, .string a1] 9)).cell? ⟨wa.heap.size, 0 + k, none⟩ = some (.string x) := by
              rw [HC.out k hlt, hx]
              rcases (by omega : k = 0 ∨ k = 1) with rfl | rfl <;> rfl
            have hxs : x.size ≤ 68719476736 := by
              rw [hx]
              rcases (by omega : k = 0 ∨ k = 1) with rfl | rfl
              · show a0.size ≤ _; omega
              · show a1.size ≤ _; omega
            have Hx := Lib.hid hx
            have Ha := Lib.hid (fun wz => hasB_any x 39 39 rfl hxs wz)
            have Hb := Lib.hid (fun wz => hasB_any x 34 34 rfl hxs wz)
            have Hc := Lib.hid (fun wz => hasB_any x 92 92 rfl hxs wz)
            have Hd := Lib.hid (fun wz => hasB_any x 13 13 rfl hxs wz)
            clear hx
            have hoff : (0 + k) = k := by omega
            rw [hoff] at hc0
            generalize wa.alloc (.cells #[.string a0, .string a1] 9) = wb at *
            go_wp2_with fail
            refine (Ha.out _).mono ?_
            rintro e wx ⟨rfl, rfl⟩
            by_cases m1 : (39 : UInt8) ∈ x.data.toList
            · rw [decide_eq_true m1]
              clear m1
              go_wp2_with fail
              go_ret
              exact ⟨rfl, HB1.out⟩
            · rw [decide_eq_false m1]
              have M1 := Lib.hid m1
              clear m1
              go_wp2_with fail
              refine (Hb.out _).mono ?_
              rintro e wx ⟨rfl, rfl⟩
              by_cases m2 : (34 : UInt8) ∈ x.data.toList
              · rw [decide_eq_true m2]
                clear m2
                go_wp2_with fail
                go_ret
                exact ⟨rfl, HB1.out⟩
              · rw [decide_eq_false m2]
                have M2 := Lib.hid m2
                clear m2
                go_wp2_with fail
                refine (Hc.out _).mono ?_
                rintro e wx ⟨rfl, rfl⟩
                by_cases m3 : (92 : UInt8) ∈ x.data.toList
                · rw [decide_eq_true m3]
                  clear m3
                  go_wp2_with fail
                  go_ret
                  exact ⟨rfl, HB1.out⟩
                · rw [decide_eq_false m3]
                  have M3 := Lib.hid m3
                  clear m3
                  go_wp2_with fail
                  refine (Hd.out _).mono ?_
                  rintro e wx ⟨rfl, rfl⟩
                  by_cases m4 : (13 : UInt8) ∈ x.data.toList
                  · rw [decide_eq_true m4]
                    clear m4
                    go_wp2_with fail
                    go_ret
                    exact ⟨rfl, HB1.out⟩
                  · rw [decide_eq_false m4]
                    have M4 := Lib.hid m4
                    clear m4
                    go_wp2_with fail
                    go_round
                    case rel => exact ⟨k + 1, by omega, by go_num, Lib.hid fun j hj => by
                      by_cases e : j = k
                      · subst e
                        rw [← Hx.out]
                        exact fun c hc => ⟨fun e => M1.out (e ▸ hc), fun e => M2.out (e ▸ hc), fun e => M3.out (e ▸ hc), fun e => M4.out (e ▸ hc)⟩
                      · exact hf.out j (by omega)⟩
                    case measure => simp [intOf]; omega
          · obtain rfl : k = 2 := by omega
            have hpl := hf.out 0 (by omega)
            clear hf HC
            generalize wa.alloc (.cells #[.string a0, .string a1] 9) = wb at *
            cases a2 with
            | false =>
              have hs := fun wz => spec_any (a0 ++ a1) wz (by rw [ByteArray.size_append]; omega)
              have ha := fun wz => args_any (a0 ++ ⟨#[92, 10]⟩ ++ a1) wz (by rw [ByteArray.size_append, ByteArray.size_append, show (ByteArray.mk #[92, 10]).size = 2 from rfl]; omega)
              have hp := fun L (h : sa (a0 ++ a1).data.toList 0 ss0 = some L) => And.intro (show pa (a0 ++ ⟨#[92, 10]⟩ ++ a1).data.toList st0 = L from by
                rw [list_app] at h
                rw [list_app, list_app, List.append_assoc]
                exact lines_plain _ _ _ L hpl h (.inl rfl)) (show L.length ≤ 9223372036854775807 from by
                have h1 := sa_len _ _ _ _ L (Nat.le_refl _) h
                have h2 : (a0 ++ a1).data.toList.length = a0.size + a1.size := by rw [list_app]; simp
                rw [h2] at h1
                simp only [ss0, List.length_nil] at h1
                omega)
              generalize sa (a0 ++ a1).data.toList 0 ss0 = R at *
              have hf2 := fun (wz : World) => far_any [a0, a1] wz.heap.size 0 2 2 (wz.alloc (.cells #[.string a0, .string a1] 9)) (by decide) (fun i hi => by
                rw [cell_two i hi]
                rcases (by omega : i = 0 ∨ i = 1) with rfl | rfl <;> rfl) (by simp [tot]; omega)
              generalize decide ((65536 : Int) < (tot [a0, a1] 2 : Int)) = bf at hf2
              have Hs := Lib.hid hs
              have Ha := Lib.hid ha
              have Hp := Lib.hid hp
              have Hf := Lib.hid hf2
              clear hs ha hp hf2 hpl
              go_wp2_with fail
              refine (Hs.out _).mono ?_
              rintro e wc ⟨v, rfl, hown, hb1⟩
              have HO := Lib.hid hown
              have HB := Lib.hid (below_then HB1.out hb1 (Nat.le_refl _))
              clear hown hb1 Hs
              cases bf with
              | true =>
                go_wp2_with fail
                refine (Hf.out _).mono ?_
                rintro e w2 ⟨rfl, rfl⟩
                go_wp2_with fail
                go_ret
                exact ⟨rfl, below_then HB.out (below_new _ _) (Nat.le_refl _)⟩
              | false =>
                cases R with
                | none =>
                  go_wp2_with fail
                  refine (Hf.out _).mono ?_
                  rintro e w2 ⟨rfl, rfl⟩
                  go_wp2_with fail
                  go_ret
                  exact ⟨rfl, below_then HB.out (below_new _ _) (Nat.le_refl _)⟩
                | some L =>
                  have hlen := (Hp.out L rfl).2
                  have HL := Lib.hid (Hp.out L rfl).1
                  clear Hp
                  go_wp2_with fail
                  refine (Hf.out _).mono ?_
                  rintro e w2 ⟨rfl, rfl⟩
                  go_wp2_with fail
                  refine (Ha.out _).mono ?_
                  rintro e w2 ⟨v2, rfl, hown2, hb2⟩
                  rw [HL.out] at hown2
                  have HE := Lib.hid (equal_rows L L v2 v w2 (own_row hown2) (own_row (own_below (own_below HO.out (below_new _ _)) hb2)) hlen hlen)
                  have HB2 := Lib.hid (below_then (below_then HB.out (below_new _ _) (Nat.le_refl _)) hb2 (Nat.le_refl _))
                  clear hown2 hb2
                  go_wp2_with fail
                  refine HE.out.mono ?_
                  rintro e w3 ⟨rfl, q, rfl⟩
                  go_wp2_with fail
                  go_ret
                  exact ⟨ret_bool (by simp), below_drewN HB2.out q⟩
            | true =>
              have hs := fun wz => spec_any (a0 ++ a1) wz (by rw [ByteArray.size_append]; omega)
              have ha := fun wz => args_any (a0 ++ ⟨#[92, 13, 10]⟩ ++ a1) wz (by rw [ByteArray.size_append, ByteArray.size_append, show (ByteArray.mk #[92, 13, 10]).size = 3 from rfl]; omega)
              have hp := fun L (h : sa (a0 ++ a1).data.toList 0 ss0 = some L) => And.intro (show pa (a0 ++ ⟨#[92, 13, 10]⟩ ++ a1).data.toList st0 = L from by
                rw [list_app] at h
                rw [list_app, list_app, List.append_assoc]
                exact lines_plain _ _ _ L hpl h (.inr rfl)) (show L.length ≤ 9223372036854775807 from by
                have h1 := sa_len _ _ _ _ L (Nat.le_refl _) h
                have h2 : (a0 ++ a1).data.toList.length = a0.size + a1.size := by rw [list_app]; simp
                rw [h2] at h1
                simp only [ss0, List.length_nil] at h1
                omega)
              generalize sa (a0 ++ a1).data.toList 0 ss0 = R at *
              have hf2 := fun (wz : World) => far_any [a0, a1] wz.heap.size 0 2 2 (wz.alloc (.cells #[.string a0, .string a1] 9)) (by decide) (fun i hi => by
                rw [cell_two i hi]
                rcases (by omega : i = 0 ∨ i = 1) with rfl | rfl <;> rfl) (by simp [tot]; omega)
              generalize decide ((65536 : Int) < (tot [a0, a1] 2 : Int)) = bf at hf2
              have Hs := Lib.hid hs
              have Ha := Lib.hid ha
              have Hp := Lib.hid hp
              have Hf := Lib.hid hf2
              clear hs ha hp hf2 hpl
              go_wp2_with fail
              refine (Hs.out _).mono ?_
              rintro e wc ⟨v, rfl, hown, hb1⟩
              have HO := Lib.hid hown
              have HB := Lib.hid (below_then HB1.out hb1 (Nat.le_refl _))
              clear hown hb1 Hs
              cases bf with
              | true =>
                go_wp2_with fail
                refine (Hf.out _).mono ?_
                rintro e w2 ⟨rfl, rfl⟩
                go_wp2_with fail
                go_ret
                exact ⟨rfl, below_then HB.out (below_new _ _) (Nat.le_refl _)⟩
              | false =>
                cases R with
                | none =>
                  go_wp2_with fail
                  refine (Hf.out _).mono ?_
                  rintro e w2 ⟨rfl, rfl⟩
                  go_wp2_with fail
                  go_ret
                  exact ⟨rfl, below_then HB.out (below_new _ _) (Nat.le_refl _)⟩
                | some L =>
                  have hlen := (Hp.out L rfl).2
                  have HL := Lib.hid (Hp.out L rfl).1
                  clear Hp
                  go_wp2_with fail
                  refine (Hf.out _).mono ?_
                  rintro e w2 ⟨rfl, rfl⟩
                  go_wp2_with fail
                  refine (Ha.out _).mono ?_
                  rintro e w2 ⟨v2, rfl, hown2, hb2⟩
                  rw [HL.out] at hown2
                  have HE := Lib.hid (equal_rows L L v2 v w2 (own_row hown2) (own_row (own_below (own_below HO.out (below_new _ _)) hb2)) hlen hlen)
                  have HB2 := Lib.hid (below_then (below_then HB.out (below_new _ _) (Nat.le_refl _)) hb2 (Nat.le_refl _))
                  clear hown2 hb2
                  go_wp2_with fail
                  refine HE.out.mono ?_
                  rintro e w3 ⟨rfl, q, rfl⟩
                  go_wp2_with fail
                  go_ret
                  exact ⟨ret_bool (by simp), below_drewN HB2.out q⟩
    · have g0 : decide ((2147483647 : Int) < (a0.size : Int)) = false := decide_eq_false (by omega)
      have g1 : decide ((2147483647 : Int) < (a1.size : Int)) = true := decide_eq_true (by omega)
      go_enter Try.func7, Try.ntmps7
      go_wp2
      go_ret
      exact ⟨rfl, Below.refl _ _⟩
  · have g0 : decide ((2147483647 : Int) < (a0.size : Int)) = true := decide_eq_true (by omega)
    go_enter Try.func7, Try.ntmps7
    go_wp2
    go_ret
    exact ⟨rfl, Below.refl _ _⟩
end Go.Proofs.Ytiklnckoimeimaa

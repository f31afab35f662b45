/- The walk of FnArgsBlanks: it returns true. -/
import Derived.Test.YtiklnckoimeimaaRows2
namespace Go.Proofs.Ytiklnckoimeimaa
open Go.RowKit

theorem three_le {a b c : Nat} {r : Bool} (hr : r = true ↔ ∃ i, i < 3 ∧ 1048576 < ([a, b, c] : List Nat).getD i 0) (h : r = false) : a ≤ 1048576 ∧ b ≤ 1048576 ∧ c ≤ 1048576 := by
  subst h
  have h1 : ¬ 1048576 < a := fun h => by have := hr.2 ⟨0, by omega, h⟩; simp at this
  have h2 : ¬ 1048576 < b := fun h => by have := hr.2 ⟨1, by omega, h⟩; simp at this
  have h3 : ¬ 1048576 < c := fun h => by have := hr.2 ⟨2, by omega, h⟩; simp at this
  omega

theorem cell_three {w : World} {u v x : Value} {t : TypeId} (k : Nat) (hk : k < 3) : (w.alloc (.cells #[u, v, x] t)).cell? ⟨w.heap.size, 0 + k, none⟩ = some ([u, v, x].getD k undef) := by
  have h := heap_alloc_new w (.cells #[u, v, x] t)
  rcases (by omega : k = 0 ∨ k = 1 ∨ k = 2) with rfl | rfl | rfl
  · exact Lib.cell_of_heap h 0
  · exact Lib.cell_of_heap h 1
  · exact Lib.cell_of_heap h 2

theorem last_byU (s : ByteArray) : s.data.toList.getLast? = if s.size = 0 then none else some (byU s (s.size - 1)) := by
  rw [List.getLast?_eq_getElem?]
  have hl : s.data.toList.length = s.size := by simp
  by_cases h : s.size = 0
  · rw [if_pos h, List.getElem?_eq_none (by omega)]
  · rw [if_neg h, byU, List.getD_eq_getElem?_getD, hl, List.getElem?_eq_getElem (by omega)]; rfl

theorem isEmpty_of {s : ByteArray} (h : s.size = 0) : s.toList = [] := by
  rw [ByteArray.toList_eq]
  exact List.length_eq_zero_iff.1 (by simpa using h)
theorem not_empty {s : ByteArray} (h : 0 < s.size) : ¬ s.toList = [] := by
  rw [ByteArray.toList_eq]
  intro e
  have h1 : s.data.toList.length = s.size := by simp
  rw [e] at h1
  simp at h1
  omega
theorem blank_text (a0 a1 a2 : ByteArray) : (a2 ++ a0 ++ ⟨#[32]⟩ ++ a2 ++ a1 ++ a2).data.toList = a2.data.toList ++ (a0.data.toList ++ (32 :: (a2.data.toList ++ (a1.data.toList ++ a2.data.toList)))) := by
  simp
theorem blank_size (a0 a1 a2 : ByteArray) : (a2 ++ a0 ++ ⟨#[32]⟩ ++ a2 ++ a1 ++ a2).size = a2.size + a0.size + 1 + a2.size + a1.size + a2.size := by
  simp only [ByteArray.size_append]
  rfl

set_option maxHeartbeats 4000000 in
theorem fnArgsBlanks_walk (a0 : ByteArray) (a1 : ByteArray) (a2 : ByteArray) (w0 : a0.size ≤ maxLen) (w1 : a1.size ≤ maxLen) (w2 : a2.size ≤ maxLen) (w : World) :
    Calls Try.prog 4 #[.string a0, .string a1, .string a2] w fun e w' => e = .returned (.bool true) ∧ Below w.heap.size w w' := by
  unfold maxLen at w0 w1 w2
  obtain ⟨i0, hi, hz0, hz1, hz2⟩ := info_parts Try.infoString
  by_cases h0 : a0.size ≤ 2147483647
  · have g0 : decide ((2147483647 : Int) < (a0.size : Int)) = false := decide_eq_false (by omega)
    by_cases h1 : a1.size ≤ 2147483647
    · have g1 : decide ((2147483647 : Int) < (a1.size : Int)) = false := decide_eq_false (by omega)
      by_cases h2 : a2.size ≤ 2147483647
      · have g2 : decide ((2147483647 : Int) < (a2.size : Int)) = false := decide_eq_false (by omega)
        have hbey := beyond_any [a0.size, a1.size, a2.size] w.heap.size 0 3 3 (w.alloc (.cells #[.int .i64 a0.size, .int .i64 a1.size, .int .i64 a2.size] 3)) (by decide) (fun i hi => by
          rw [cell_three i hi]
          rcases (by omega : i = 0 ∨ i = 1 ∨ i = 2) with rfl | rfl | rfl <;> rfl)
        have Hbey := Lib.hid hbey
        clear hbey
        have hb0 := Lib.hid (below_new w (.cells #[.int .i64 a0.size, .int .i64 a1.size, .int .i64 a2.size] 3))
        go_enter Try.func4, Try.ntmps4
        go_wp2_with fail
        refine Hbey.out.mono ?_
        rintro e wx ⟨r, rfl, hr, rfl⟩
        clear Hbey g0 g1 g2
        cases r with
        | true =>
          clear hr
          go_wp2_with fail
          go_ret
          exact ⟨rfl, hb0.out⟩
        | false =>
          obtain ⟨q0, q1, q2⟩ := three_le hr rfl
          clear hr h0 h1 h2 w0 w1 w2
          generalize w.alloc (.cells #[.int .i64 a0.size, .int .i64 a1.size, .int .i64 a2.size] 3) = wa at *
          have hs1 := fun wz => spec_any a0 wz (by omega)
          have hs2 := fun wz => spec_any a1 wz (by omega)
          have hlaw := fun x y hb hx hy hl => blanks_plain a0.data.toList a1.data.toList a2.data.toList x y hb hx hy hl
          have hn1 := fun L (h : sa a0.data.toList 0 ss0 = some L) => sa_len _ _ _ _ L (Nat.le_refl _) h
          have hn2 := fun L (h : sa a1.data.toList 0 ss0 = some L) => sa_len _ _ _ _ L (Nat.le_refl _) h
          generalize sa a0.data.toList 0 ss0 = R1 at *
          generalize sa a1.data.toList 0 ss0 = R2 at *
          have HL := Lib.hid hlaw
          have HN1 := Lib.hid hn1
          have HN2 := Lib.hid hn2
          have Hs1 := Lib.hid hs1
          have Hs2 := Lib.hid hs2
          clear hs1 hs2 hlaw hn1 hn2
          go_wp2_with fail
          refine (Hs1.out _).mono ?_
          rintro e wc ⟨v1, rfl, hown1, hb1⟩
          have HO1 := Lib.hid hown1
          have HB1 := Lib.hid (below_then hb0.out hb1 (Nat.le_refl _))
          clear hown1 hb1 Hs1 hb0
          go_wp2_with fail
          refine (Hs2.out _).mono ?_
          rintro e wd ⟨v2, rfl, hown2, hb2⟩
          have HO2 := Lib.hid hown2
          have HO1' := Lib.hid (own_below HO1.out hb2)
          have HB2 := Lib.hid (below_then HB1.out hb2 (Nat.le_refl _))
          clear hown2 hb2 Hs2 HB1 HO1
          go_wp2_with fail
          go_loop [11] (fun i => ∃ k : Nat, k ≤ a2.size ∧ i = .int .i64 k ∧ Hid (∀ j, j < k → isBlank (byU a2 j))) (fun i => a2.size - (intOf i).toNat)
          case atStart => exact ⟨0, by omega, rfl, Lib.hid fun j hj => by omega⟩
          case round =>
            obtain ⟨k, hk, rfl, hf⟩ := hrel
            by_cases hlt : k < a2.size
            · have e1 := byInt a2 k hlt
              by_cases hb : byU a2 k = 32 ∨ byU a2 k = 9 ∨ byU a2 k = 10
              · have tb : (((byU a2 k).toNat : Int) == 32 || ((byU a2 k).toNat : Int) == 9 || ((byU a2 k).toNat : Int) == 10) = true := (blank_eq _).trans (decide_eq_true hb)
                have Hb := Lib.hid hb
                clear hb
                go_wp2_with fail
                refine (blank_any _ _).mono ?_
                rintro e w1 ⟨rfl, rfl⟩
                go_wp2_with fail
                go_round
                case rel => exact ⟨k + 1, by omega, by go_num, Lib.hid fun j hj => by
                  by_cases e : j = k
                  · subst e; exact Hb.out
                  · exact hf.out j (by omega)⟩
                case measure => simp [intOf]; omega
              · have tb : (((byU a2 k).toNat : Int) == 32 || ((byU a2 k).toNat : Int) == 9 || ((byU a2 k).toNat : Int) == 10) = false := (blank_eq _).trans (decide_eq_false hb)
                clear hb
                go_wp2_with fail
                refine (blank_any _ _).mono ?_
                rintro e w1 ⟨rfl, rfl⟩
                go_wp2_with fail
                go_ret
                exact ⟨rfl, HB2.out⟩
            · obtain rfl : k = a2.size := by omega
              have HBl : Hid (∀ c ∈ a2.data.toList, isBlank c) := Lib.hid fun c hc => by
                obtain ⟨j, hj, rfl⟩ := (mem_byU a2 c).1 hc
                exact hf.out j hj
              clear hf
              have hf2 := fun (wz : World) => far_any [a0, a1, a2] wz.heap.size 0 3 3 (wz.alloc (.cells #[.string a0, .string a1, .string a2] 9)) (by decide) (fun i hi => by
                rw [cell_three i hi]
                rcases (by omega : i = 0 ∨ i = 1 ∨ i = 2) with rfl | rfl | rfl <;> rfl) (by simp [tot]; omega)
              generalize decide ((65536 : Int) < (tot [a0, a1, a2] 3 : Int)) = bf at hf2
              have Hf := Lib.hid hf2
              clear hf2
              have HB3 := Lib.hid (below_then HB2.out (below_new wd (.cells #[.string a0, .string a1, .string a2] 9)) (Nat.le_refl _))
              cases bf with
              | true =>
                go_wp2_with fail
                refine (Hf.out _).mono ?_
                rintro e w2 ⟨rfl, rfl⟩
                go_wp2_with fail
                go_ret
                exact ⟨rfl, HB3.out⟩
              | false =>
                cases R1 with
                | none =>
                  go_wp2_with fail
                  refine (Hf.out _).mono ?_
                  rintro e w2 ⟨rfl, rfl⟩
                  go_wp2_with fail
                  go_ret
                  exact ⟨rfl, HB3.out⟩
                | some L1 =>
                  cases R2 with
                  | none =>
                    go_wp2_with fail
                    refine (Hf.out _).mono ?_
                    rintro e w2 ⟨rfl, rfl⟩
                    go_wp2_with fail
                    go_ret
                    exact ⟨rfl, HB3.out⟩
                  | some L2 =>
                    by_cases hz : a1.size = 0
                    · have hE := isEmpty_of hz
                      have hl : a1.data.toList.getLast? ≠ some 13 := by rw [last_byU, if_pos hz]; simp
                      have hpl := HL.out L1 L2 HBl.out rfl rfl hl
                      have n1 : L1.length ≤ 400000000 := by
                        have h := HN1.out L1 rfl
                        have h2 : a0.data.toList.length = a0.size := by simp
                        simp only [ss0, List.length_nil] at h
                        omega
                      have n2 : L2.length ≤ 400000000 := by
                        have h := HN2.out L2 rfl
                        have h2 : a1.data.toList.length = a1.size := by simp
                        simp only [ss0, List.length_nil] at h
                        omega
                      have ha := fun wz => args_any (a2 ++ a0 ++ ⟨#[32]⟩ ++ a2 ++ a1 ++ a2) wz (by rw [blank_size]; omega)
                      rw [blank_text, hpl] at ha
                      have Ha := Lib.hid ha
                      clear ha hpl hl
                      go_wp2_with fail
                      refine (Hf.out _).mono ?_
                      rintro e w2 ⟨rfl, rfl⟩
                      go_wp2_with fail
                      refine (Ha.out _).mono ?_
                      rintro e we ⟨v3, rfl, hown3, hb3⟩
                      have P1 : we.ownsRow wa.heap.size 9 1 v1 L1.length (strC L1) := own_below (own_below HO1'.out (below_new _ _)) hb3
                      have P2 : we.ownsRow wc.heap.size 9 1 v2 L2.length (strC L2) := own_below (own_below HO2.out (below_new _ _)) hb3
                      have HB4 := Lib.hid (below_then HB3.out hb3 (Nat.le_refl _))
                      have HP1 := Lib.hid P1
                      have HP2 := Lib.hid P2
                      have HP3 := Lib.hid hown3
                      clear P1 P2 hown3 hb3
                      go_wp2_with (at_builtin; refine append_row rfl (.tmp 90) (.tmp 91) rfl hi hz0 hz1 hz2 we.heap.size _ 0 [] rfl (own_empty we) wa.heap.size v1 L1 rfl (own_below HP1.out (below_new we _)) (by omega) (by simp) ?_)
                      intro v4 wf hown4' hg4
                      have hown4 : wf.ownsRow we.heap.size 9 1 v4 L1.length (strC L1) := by simpa using hown4'
                      clear hown4'
                      have Q2 := own_grown HP2.out (own_below HP2.out (below_new we _)) (own_empty we) (Nat.le_refl _) hg4
                      have Q3 := own_grown HP3.out (own_below HP3.out (below_new we _)) (own_empty we) (Nat.le_refl _) hg4
                      have sz4 : we.heap.size ≤ wf.heap.size := by have := hg4.size; simp at this; omega
                      have HB5 := Lib.hid ((HB4.out.alloc (by have := HB4.out.size; omega) _).grown hg4 (by have := HB4.out.size; simp; omega) (fun k hk => by have := ((own_empty we).lt k hk).1; have := HB4.out.size; omega))
                      have HQ2 := Lib.hid Q2
                      have HQ3 := Lib.hid Q3
                      have HQ4 := Lib.hid hown4
                      clear Q2 Q3 hown4 hg4
                      go_wp2_with (at_builtin; refine append_row rfl (.tmp 92) (.tmp 93) rfl hi hz0 hz1 hz2 we.heap.size v4 L1.length (strC L1) rfl HQ4.out wc.heap.size v2 L2 rfl HQ2.out (by omega) sz4 ?_)
                      intro v5 wg hown5 hg5
                      have S3 := own_grown HP3.out HQ3.out HQ4.out (Nat.le_refl _) hg5
                      have S5 : wg.ownsRow we.heap.size 9 1 v5 (L1 ++ L2).length (strC (L1 ++ L2)) := by
                        rw [strC_append, List.length_append]
                        simpa using hown5
                      have HB6 := Lib.hid (HB5.out.grown hg5 (HB5.out.size) (fun k hk => by have := (HQ4.out.lt k hk).1; have := HB4.out.size; omega))
                      have HE := Lib.hid (equal_rows (L1 ++ L2) (L1 ++ L2) v3 v5 wg (own_row S3) (own_row S5) (by simp; omega) (by simp; omega))
                      clear S3 S5 hown5 hg5
                      go_wp2_with fail
                      refine HE.out.mono ?_
                      rintro e w3 ⟨rfl, q, rfl⟩
                      go_wp2_with fail
                      go_ret
                      exact ⟨ret_bool (by simp), below_drewN HB6.out q⟩
                    · have hE : a1.toList.isEmpty = false := List.isEmpty_eq_false_iff.2 (not_empty (s := a1) (by omega))
                      have e1 := byInt a1 (a1.size - 1) (by omega)
                      have i1 : (0 : Int) ≤ (a1.size : Int) - 1 := by omega
                      have i2 : (a1.size : Int) - 1 < (a1.size : Int) := by omega
                      have i3 : ((a1.size : Int) - 1).toNat = a1.size - 1 := by omega
                      have hl0 : a1.data.toList.getLast? = some (byU a1 (a1.size - 1)) := by rw [last_byU, if_neg hz]
                      by_cases h13 : byU a1 (a1.size - 1) = 13
                      · have t13 : (((byU a1 (a1.size - 1)).toNat : Int) == 13) = true := (b_eq _ 13 (by decide)).trans (decide_eq_true h13)
                        clear hl0 h13
                        go_wp2_with fail
                        refine (Hf.out _).mono ?_
                        rintro e w2 ⟨rfl, rfl⟩
                        go_wp2_with fail
                        go_ret
                        exact ⟨rfl, HB3.out⟩
                      · have t13 : (((byU a1 (a1.size - 1)).toNat : Int) == 13) = false := (b_eq _ 13 (by decide)).trans (decide_eq_false h13)
                        have hl : a1.data.toList.getLast? ≠ some 13 := by rw [hl0]; simpa using h13
                        clear hl0 h13
                        have hpl := HL.out L1 L2 HBl.out rfl rfl hl
                        have n1 : L1.length ≤ 400000000 := by
                          have h := HN1.out L1 rfl
                          have h2 : a0.data.toList.length = a0.size := by simp
                          simp only [ss0, List.length_nil] at h
                          omega
                        have n2 : L2.length ≤ 400000000 := by
                          have h := HN2.out L2 rfl
                          have h2 : a1.data.toList.length = a1.size := by simp
                          simp only [ss0, List.length_nil] at h
                          omega
                        have ha := fun wz => args_any (a2 ++ a0 ++ ⟨#[32]⟩ ++ a2 ++ a1 ++ a2) wz (by rw [blank_size]; omega)
                        rw [blank_text, hpl] at ha
                        have Ha := Lib.hid ha
                        clear ha hpl hl
                        go_wp2_with fail
                        refine (Hf.out _).mono ?_
                        rintro e w2 ⟨rfl, rfl⟩
                        go_wp2_with fail
                        refine (Ha.out _).mono ?_
                        rintro e we ⟨v3, rfl, hown3, hb3⟩
                        have P1 : we.ownsRow wa.heap.size 9 1 v1 L1.length (strC L1) := own_below (own_below HO1'.out (below_new _ _)) hb3
                        have P2 : we.ownsRow wc.heap.size 9 1 v2 L2.length (strC L2) := own_below (own_below HO2.out (below_new _ _)) hb3
                        have HB4 := Lib.hid (below_then HB3.out hb3 (Nat.le_refl _))
                        have HP1 := Lib.hid P1
                        have HP2 := Lib.hid P2
                        have HP3 := Lib.hid hown3
                        clear P1 P2 hown3 hb3
                        go_wp2_with (at_builtin; refine append_row rfl (.tmp 90) (.tmp 91) rfl hi hz0 hz1 hz2 we.heap.size _ 0 [] rfl (own_empty we) wa.heap.size v1 L1 rfl (own_below HP1.out (below_new we _)) (by omega) (by simp) ?_)
                        intro v4 wf hown4' hg4
                        have hown4 : wf.ownsRow we.heap.size 9 1 v4 L1.length (strC L1) := by simpa using hown4'
                        clear hown4'
                        have Q2 := own_grown HP2.out (own_below HP2.out (below_new we _)) (own_empty we) (Nat.le_refl _) hg4
                        have Q3 := own_grown HP3.out (own_below HP3.out (below_new we _)) (own_empty we) (Nat.le_refl _) hg4
                        have sz4 : we.heap.size ≤ wf.heap.size := by have := hg4.size; simp at this; omega
                        have HB5 := Lib.hid ((HB4.out.alloc (by have := HB4.out.size; omega) _).grown hg4 (by have := HB4.out.size; simp; omega) (fun k hk => by have := ((own_empty we).lt k hk).1; have := HB4.out.size; omega))
                        have HQ2 := Lib.hid Q2
                        have HQ3 := Lib.hid Q3
                        have HQ4 := Lib.hid hown4
                        clear Q2 Q3 hown4 hg4
                        go_wp2_with (at_builtin; refine append_row rfl (.tmp 92) (.tmp 93) rfl hi hz0 hz1 hz2 we.heap.size v4 L1.length (strC L1) rfl HQ4.out wc.heap.size v2 L2 rfl HQ2.out (by omega) sz4 ?_)
                        intro v5 wg hown5 hg5
                        have S3 := own_grown HP3.out HQ3.out HQ4.out (Nat.le_refl _) hg5
                        have S5 : wg.ownsRow we.heap.size 9 1 v5 (L1 ++ L2).length (strC (L1 ++ L2)) := by
                          rw [strC_append, List.length_append]
                          simpa using hown5
                        have HB6 := Lib.hid (HB5.out.grown hg5 (HB5.out.size) (fun k hk => by have := (HQ4.out.lt k hk).1; have := HB4.out.size; omega))
                        have HE := Lib.hid (equal_rows (L1 ++ L2) (L1 ++ L2) v3 v5 wg (own_row S3) (own_row S5) (by simp; omega) (by simp; omega))
                        clear S3 S5 hown5 hg5
                        go_wp2_with fail
                        refine HE.out.mono ?_
                        rintro e w3 ⟨rfl, q, rfl⟩
                        go_wp2_with fail
                        go_ret
                        exact ⟨ret_bool (by simp), below_drewN HB6.out q⟩
      · have g2 : decide ((2147483647 : Int) < (a2.size : Int)) = true := decide_eq_true (by omega)
        go_enter Try.func4, Try.ntmps4
        go_wp2
        go_ret
        exact ⟨rfl, Below.refl _ _⟩
    · have g1 : decide ((2147483647 : Int) < (a1.size : Int)) = true := decide_eq_true (by omega)
      go_enter Try.func4, Try.ntmps4
      go_wp2
      go_ret
      exact ⟨rfl, Below.refl _ _⟩
  · have g0 : decide ((2147483647 : Int) < (a0.size : Int)) = true := decide_eq_true (by omega)
    go_enter Try.func4, Try.ntmps4
    go_wp2
    go_ret
    exact ⟨rfl, Below.refl _ _⟩
end Go.Proofs.Ytiklnckoimeimaa

/- The walk of the reference's double. -/
import Derived.Test.YtiklnckoimeimaaSingle
import Derived.Test.YtiklnckoimeimaaBs
import Derived.Deep.QuietTactic
import Derived.IntWalk
import Derived.StillTailTactics
namespace Go.Proofs.Ytiklnckoimeimaa
open Go.RowKit

theorem index_fact (s : ByteArray) (k : Nat) (h : k < s.size) : (0 : Int) ≤ (k : Int) + 1 - 1 ∧ ((k : Int) < (s.size : Int)) := ⟨by omega, by omega⟩

set_option maxRecDepth 100000 in
set_option maxHeartbeats 8000000 in
theorem double_any (w : World) (B P : Nat) (s : ByteArray) (a : Nat) (word : List UInt8) (inn : Bool) (out : List (List UInt8)) (wr : World) (h : SW w B P s a word inn out wr) (hs : s.size ≤ 68719476736) (ha : a < s.size) (hl : word.length ≤ a) :
    Calls Try.prog 23 #[.pointer (some ⟨P, 0, none⟩)] wr (Quoted w B P s a word inn out 2) := by
  have h0 := h
  obtain ⟨vw, vo, hP, hw, ho, hBP, hB, hb⟩ := h0
  have c1 : wr.cell? ⟨P, 1, none⟩ = some (.int .i64 a) := Lib.cell_of_heap hP 1
  have z1 := Lib.frozen_of_heap hP 1
  have hsw := Lib.hid (h.at_ (a + 1) (i := (a : Int) + 1) (by omega))
  clear h hP hw ho hb
  obtain ⟨R, hR⟩ : ∃ R, R = sa (s.data.toList.drop (a + 1)) 2 ⟨out, word, inn⟩ := ⟨_, rfl⟩
  have HR := Lib.hid hR
  clear hR
  obtain ⟨i0, hi, hz0, hz1, hz2⟩ := info_parts Try.infoByte
  go_enter Try.func23, Try.ntmps23
  go_wp2_with fail
  go_loopg [] (s.size - (a + 1)) (fun n wx => ∃ (k : Nat) (word1 : List UInt8), n = s.size - k ∧ a < k ∧ k ≤ s.size ∧ word1.length ≤ k ∧ SW w B P s k word1 inn out wx ∧ Hid (R = sa (s.data.toList.drop k) 2 ⟨out, word1, inn⟩))
  case atStart => exact ⟨a + 1, word, rfl, by omega, by omega, by omega, hsw.out, HR⟩
  case round =>
    clear c1 z1 hsw
    obtain ⟨k, word1, hn, hak, hk, hwl, h, hR⟩ := hrel
    have Hn := Lib.hid hn
    clear hn
    have h0 := h
    obtain ⟨vw, vo, hP, hw, ho, hBP, hB, hb⟩ := h0
    have c0 : wr.cell? ⟨P, 0, none⟩ = some (.string s) := Lib.cell_of_heap hP 0
    have c1 : wr.cell? ⟨P, 1, none⟩ = some (.int .i64 k) := Lib.cell_of_heap hP 1
    have c2 : wr.cell? ⟨P, 2, none⟩ = some vw := Lib.cell_of_heap hP 2
    have z1 := Lib.frozen_of_heap hP 1
    have z2 := Lib.frozen_of_heap hP 2
    have hP' : P < wr.heap.size := (Array.getElem?_eq_some_iff.1 hP).1
    have hsz := hb.size
    have H := Lib.hid h
    have HP := Lib.hid hP
    have HW := Lib.hid hw
    have HO := Lib.hid ho
    have HB := Lib.hid hb
    clear h hP hw ho hb
    by_cases hlt : k < s.size
    · have e1 := byInt s k hlt
      have i1 : (0 : Int) ≤ (k : Int) := by omega
      have i2 : (k : Int) < (s.size : Int) := by omega
      have hst := hR.out
      rw [drop_byU s k hlt] at hst
      by_cases h34 : byU s k = 34
      · have t34 : (((byU s k).toNat : Int) == 34) = true := (b_eq _ 34 (by decide)).trans (decide_eq_true h34)
        have HN := Lib.hid (hst.trans (sa_step (show nextS 2 (byU s k) (s.data.toList.drop (k + 1)) ⟨out, word1, inn⟩ = some (s.data.toList.drop (k + 1), 0, ⟨out, word1, inn⟩) from by simp [nextS, h34])))
        clear hst h34
        as_aux_lemma =>
          go_wp2_with fail
          go_quiet (fail)
          go_wp2_with fail
          go_quiet (fail)
          go_wp2_with fail
          go_ret
          exact ⟨true, k + 1, word1, rfl, (H.out.at_ (k + 1) (by omega)).drewN _, by omega, by omega, by omega, HR.out.symm.trans HN.out⟩
      · have t34 : (((byU s k).toNat : Int) == 34) = false := (b_eq _ 34 (by decide)).trans (decide_eq_false h34)
        by_cases h92 : byU s k = 92
        · have t92 : (((byU s k).toNat : Int) == 92) = true := (b_eq _ 92 (by decide)).trans (decide_eq_true h92)
          have hst := hst.trans (show sa (byU s k :: s.data.toList.drop (k + 1)) 2 ⟨out, word1, inn⟩ = match escS2 (s.data.toList.drop (k + 1)) ⟨out, word1, inn⟩ with | none => none | some (l', m', σ') => sa l' m' σ' from by
            cases e : escS2 (s.data.toList.drop (k + 1)) ⟨out, word1, inn⟩ with
            | none => exact sa_stop (by simp [nextS, h92, e])
            | some x => exact sa_step (by simp [nextS, h92, e]))
          have C := fun wz => line_nat s (k + 1) hs (by omega) wz
          have hn2 := lineN_le s (k + 1)
          have hnf := lineN_fits s (k + 1)
          have hel := fun h => (esc_line s (k + 1) h ⟨out, word1, inn⟩).1
          have heo := fun h h' => (esc_other s (k + 1) h h' ⟨out, word1, inn⟩).1
          have hee := fun h => (esc_end s (k + 1) h ⟨out, word1, inn⟩).1
          generalize lineN s (k + 1) = n at *
          have C2 : ∀ wz, Calls Try.prog 26 #[.string s, .int .i64 ((k : Int) + 1)] wz fun e w' => e = .returned (.int .i64 n) ∧ wz = w' := fun wz => C wz
          have HC := Lib.hid C2
          clear C C2 h34 h92
          have k1 : (0 : Int) ≤ (k : Int) + 1 := by omega
          have k3 : ((k : Int) + 1).toNat = k + 1 := by omega
          by_cases hn : 0 < n
          · have HN := Lib.hid (hst.trans (by rw [hel hn]))
            have hnf := hnf hn
            clear hst hel heo hee
            have np : decide ((0 : Int) < (n : Int)) = true := decide_eq_true (by omega)
            have v1 : IntKind.i64.wrap ((k : Int) + 1) = (k : Int) + 1 := IntWalk.i64_in _ (by omega)
            have v2 : IntKind.i64.wrap (1 + (n : Int)) = 1 + (n : Int) := IntWalk.i64_in _ (by omega)
            have v3 : IntKind.i64.wrap ((k : Int) + (1 + (n : Int))) = (k : Int) + (1 + (n : Int)) := IntWalk.i64_in _ (by omega)
            as_aux_lemma =>
              go_wp2_with fail
              go_quiet (fail)
              have H1 := Lib.hid (H.out.drewN nq)
              clear c0 c1 c2 z1 z2 hP' hsz HP HW HO HB H
              generalize wr.drewN nq = wr1 at H1 ⊢
              obtain ⟨vw, vo, ⟨c0, c1, c2, _, _⟩, ⟨z1, z2, _⟩, hP', hsz, _, _, HP, HW, HO, HB⟩ := sw_facts H1.out
              go_wp2_with fail
              go_quiet (fail)
              have H2 := Lib.hid (H1.out.drewN nq)
              clear c0 c1 c2 z1 z2 hP' hsz HP HW HO HB H1
              generalize wr1.drewN nq = wr2 at H2 ⊢
              obtain ⟨vw, vo, ⟨c0, c1, c2, _, _⟩, ⟨z1, z2, _⟩, hP', hsz, _, _, HP, HW, HO, HB⟩ := sw_facts H2.out
              go_wp2_with fail
              go_quiet ((go_at_call 26; exact quiet_left (HC.out _)))
              have H3 := Lib.hid (H2.out.drewN nq)
              clear c0 c1 c2 z1 z2 hP' hsz HP HW HO HB H2
              generalize wr2.drewN nq = wr3 at H3 ⊢
              obtain ⟨vw, vo, ⟨c0, c1, c2, _, _⟩, ⟨z1, z2, _⟩, hP', hsz, _, _, HP, HW, HO, HB⟩ := sw_facts H3.out
              go_wp2_with fail
              refine wp_region_still_tail 18 (by kernel_rfl) (by kernel_rfl) ?_
              simp only [List.take_succ_cons, List.take_zero, List.drop_succ_cons, List.drop_zero]
              repeat still_step
              still_call ((HC.out _).mono fun _ _ h => ⟨h.1, h.2.symm⟩)
              repeat still_step
              refine wpStill_nil ?_
              change wpList _ _ _ _ _ wr3.drew
              clear v1 v2 v3
              have H4 : Hid (SW w B P s k word1 inn out wr3.drew) := Lib.hid (H3.out.drewN 1)
              generalize wr3.drew = wr4 at H4 ⊢
              obtain ⟨vw, vo, ⟨c0, c1, c2, _, _⟩, ⟨z1, z2, _⟩, hP', hsz, _, _, HP, HW, HO, HB⟩ := sw_facts H4.out
              go_wp2_with fail
              go_roundg (s.size - (k + 1 + n))
              case measure => rw [Hn.out]; omega
              case rel => exact ⟨k + 1 + n, word1, rfl, by omega, by omega, by omega, H4.out.at_ (k + 1 + n) (by omega), Lib.hid HN.out⟩
          · obtain rfl : n = 0 := by omega
            clear hel hnf hn2 hn
            have np : decide ((0 : Int) < ((0 : Nat) : Int)) = false := by decide
            have v1 : IntKind.i64.wrap ((k : Int) + 1) = (k : Int) + 1 := IntWalk.i64_in _ (by omega)
            by_cases h2 : k + 1 < s.size
            · have e2 := byInt s (k + 1) h2
              have kz2 : (k : Int) + 1 < (s.size : Int) := by omega
              have ho := heo rfl h2
              rw [ho] at hst
              clear heo hee ho
              obtain ⟨c2', hc2⟩ : ∃ u, u = byU s (k + 1) := ⟨_, rfl⟩
              rw [← hc2] at e2 hst
              have HST := Lib.hid hst
              clear hst hc2
              go_wp2_with fail
              go_quiet (fail)
              have H1 := Lib.hid (H.out.drewN nq)
              clear c0 c1 c2 z1 z2 hP' hsz HP HW HO HB H
              generalize wr.drewN nq = wr1 at H1 ⊢
              obtain ⟨vw, vo, ⟨c0, c1, c2, _, _⟩, ⟨z1, z2, _⟩, hP', hsz, _, _, HP, HW, HO, HB⟩ := sw_facts H1.out
              go_wp2_with fail
              go_quiet (fail)
              have H2 := Lib.hid (H1.out.drewN nq)
              clear c0 c1 c2 z1 z2 hP' hsz HP HW HO HB H1
              generalize wr1.drewN nq = wr2 at H2 ⊢
              obtain ⟨vw, vo, ⟨c0, c1, c2, _, _⟩, ⟨z1, z2, _⟩, hP', hsz, _, _, HP, HW, HO, HB⟩ := sw_facts H2.out
              go_wp2_with fail
              go_quiet ((go_at_call 26; exact quiet_left (HC.out _)))
              have H3 := Lib.hid (H2.out.drewN nq)
              clear c0 c1 c2 z1 z2 hP' hsz HP HW HO HB H2
              generalize wr2.drewN nq = wr3 at H3 ⊢
              obtain ⟨vw, vo, ⟨c0, c1, c2, _, _⟩, ⟨z1, z2, _⟩, hP', hsz, _, _, HP, HW, HO, HB⟩ := sw_facts H3.out

              go_upto_region 13 with (fail)
              go_cut [90] from 11 to 179 (fun b wx => b = .bool (spec4 c2') ∧ SW w B P s k word1 inn out wx)
              case first =>
                by_cases m1 : c2' = 92
                · subst m1
                  as_aux_lemma =>
                    go_quiet (fail)
                    go_wp2_with fail
                    go_meet
                    case rel => exact ⟨rfl, H3.out.drewN _⟩
                · have n1 : (((c2').toNat : Int) == 92) = false := (b_eq _ 92 (by decide)).trans (decide_eq_false m1)
                  by_cases m2 : c2' = 34
                  · subst m2
                    clear n1
                    as_aux_lemma =>
                      go_quiet (fail)
                      go_wp2_with fail
                      go_meet
                      case rel => exact ⟨rfl, H3.out.drewN _⟩
                  · have n2 : (((c2').toNat : Int) == 34) = false := (b_eq _ 34 (by decide)).trans (decide_eq_false m2)
                    by_cases m3 : c2' = 36
                    · subst m3
                      clear n1 n2
                      as_aux_lemma =>
                        go_quiet (fail)
                        go_wp2_with fail
                        go_meet
                        case rel => exact ⟨rfl, H3.out.drewN _⟩
                    · have n3 : (((c2').toNat : Int) == 36) = false := (b_eq _ 36 (by decide)).trans (decide_eq_false m3)
                      by_cases m4 : c2' = 96
                      · subst m4
                        clear n1 n2 n3
                        as_aux_lemma =>
                          go_quiet (fail)
                          go_wp2_with fail
                          go_meet
                          case rel => exact ⟨rfl, H3.out.drewN _⟩
                      · have n4 : (((c2').toNat : Int) == 96) = false := (b_eq _ 96 (by decide)).trans (decide_eq_false m4)
                        have sp := Lib.hid (show spec4 c2' = false by simp [spec4, m1, m2, m3, m4])
                        clear m1 m2 m3 m4
                        as_aux_lemma =>
                          go_quiet (fail)
                          go_wp2_with fail
                          go_meet
                          case rel => exact ⟨by rw [sp.out], H3.out.drewN _⟩
              case rest =>
                obtain ⟨rfl, hcut⟩ := hcut
                have H4 := Lib.hid hcut
                clear c0 c1 c2 z1 z2 hP' hsz HP HW HO HB H3 hcut
                obtain ⟨vw, vo, ⟨c0, c1, c2, _, _⟩, ⟨z1, z2, _⟩, hP', hsz, _, _, HP, HW, HO, HB⟩ := sw_facts H4.out
                have hst := HST.out
                clear HST
                cases hsp : spec4 c2' with
                | false =>
                  rw [hsp] at hst
                  have HN := Lib.hid hst
                  clear hst hsp
                  as_aux_lemma =>
                    go_wp2_with fail
                    go_ret
                    exact ⟨false, k, word1, rfl, H4.out, by omega, by omega, by omega, HR.out.symm.trans HN.out⟩
                | true =>
                  rw [hsp] at hst
                  have HN : Hid (R = sa (s.data.toList.drop (k + 1 + 1)) 2 ⟨out, word1 ++ [c2'], inn⟩) := Lib.hid hst
                  clear hst hsp
                  go_wp2_with fail
                  go_region_law (refine step_append_lies _ (by rfl) _ _ _ (by rfl) B 5 i0 _ 1 1 Try.underlying39 hi hz0 hz1 hz2 rfl (by omega) vw word1.length (Lib.byteCells word1) (by rfl) ((HW.out.alloc _).drew) ⟨wc.heap.size, 0, none⟩ 1 1 [.int .u8 ((c2').toNat : Int)] (by rfl) (by rfl) (World.news_of_block (cs := #[.int .u8 ((c2').toNat : Int)]) (t := 5) (fr := (0, 0)) (heap_alloc_new wc _)) (by simp [Value.oneCell']) (by omega) (by unfold maxLen; omega) (by omega) (by simp; omega) (wc.heap.size + 1) (by simp) ?_; intro gg cap w1 hown1 hgrow hat hlt1; have k2 : w1.cell? ⟨P, 2, none⟩ = some vw := Lib.cell_of_heap (kept_of HW.out (undrew hgrow) P _ HP.out (by intro c fz e; simp at e)) 2; have f2 := Lib.frozen_of_heap (kept_of HW.out (undrew hgrow) P _ HP.out (by intro c fz e; simp at e)) 2)
                  all_goals as_aux_lemma =>
                    have q := sw_put HP.out HW.out HO.out (by omega) (by omega) HB.out hown1 rfl (undrew hgrow)
                    have g1 : w1.cell? ⟨P, 1, none⟩ = some (.int .i64 k) := Lib.cell_of_heap q.1 1
                    have f1 := Lib.frozen_of_heap q.1 1
                    have Q := Lib.hid q.2
                    clear q hown1 hgrow v1
                    go_wp2
                    go_roundg (s.size - (k + 2))
                    case measure => rw [Hn.out]; omega
                    case rel => exact ⟨k + 2, word1 ++ [c2'], rfl, by omega, by omega, by simp; omega, Q.out.at_ (k + 2) (by omega), Lib.hid HN.out⟩
            · have e4 : decide ((k : Int) + 1 < (s.size : Int)) = false := decide_eq_false (by omega)
              rw [hee (by omega)] at hst
              have HN := Lib.hid hst
              clear hst hee heo h2
              go_wp2_with fail
              go_quiet (fail)
              have H1 := Lib.hid (H.out.drewN nq)
              clear c0 c1 c2 z1 z2 hP' hsz HP HW HO HB H
              generalize wr.drewN nq = wr1 at H1 ⊢
              obtain ⟨vw, vo, ⟨c0, c1, c2, _, _⟩, ⟨z1, z2, _⟩, hP', hsz, _, _, HP, HW, HO, HB⟩ := sw_facts H1.out
              go_wp2_with fail
              go_quiet (fail)
              have H2 := Lib.hid (H1.out.drewN nq)
              clear c0 c1 c2 z1 z2 hP' hsz HP HW HO HB H1
              generalize wr1.drewN nq = wr2 at H2 ⊢
              obtain ⟨vw, vo, ⟨c0, c1, c2, _, _⟩, ⟨z1, z2, _⟩, hP', hsz, _, _, HP, HW, HO, HB⟩ := sw_facts H2.out
              go_wp2_with fail
              go_quiet ((go_at_call 26; exact quiet_left (HC.out _)))
              have H3 := Lib.hid (H2.out.drewN nq)
              clear c0 c1 c2 z1 z2 hP' hsz HP HW HO HB H2
              generalize wr2.drewN nq = wr3 at H3 ⊢
              obtain ⟨vw, vo, ⟨c0, c1, c2, _, _⟩, ⟨z1, z2, _⟩, hP', hsz, _, _, HP, HW, HO, HB⟩ := sw_facts H3.out
              go_wp2_with fail
              go_quiet (fail)
              have H4 := Lib.hid (H3.out.drewN nq)
              go_wp2_with fail
              go_ret
              exact ⟨false, k, word1, rfl, H4.out, by omega, by omega, by omega, HR.out.symm.trans HN.out⟩
        · have t92 : (((byU s k).toNat : Int) == 92) = false := (b_eq _ 92 (by decide)).trans (decide_eq_false h92)
          have HN := Lib.hid (hst.trans (sa_step (show nextS 2 (byU s k) (s.data.toList.drop (k + 1)) ⟨out, word1, inn⟩ = some (s.data.toList.drop (k + 1), 2, ⟨out, word1 ++ [byU s k], inn⟩) from by simp [nextS, h34, h92, SSt.put])))
          clear hst h34 h92
          go_wp2_with fail
          go_quiet (fail)
          have H1 := Lib.hid (H.out.drewN nq)
          clear c0 c1 c2 z1 z2 hP' hsz HP HW HO HB H
          generalize wr.drewN nq = wr1 at H1 ⊢
          obtain ⟨vw, vo, ⟨c0, c1, c2, _, _⟩, ⟨z1, z2, _⟩, hP', hsz, _, _, HP, HW, HO, HB⟩ := sw_facts H1.out
          go_wp2_with fail
          go_quiet (fail)
          have H2 := Lib.hid (H1.out.drewN nq)
          clear c0 c1 c2 z1 z2 hP' hsz HP HW HO HB H1
          generalize wr1.drewN nq = wr2 at H2 ⊢
          obtain ⟨vw, vo, ⟨c0, c1, c2, _, _⟩, ⟨z1, z2, _⟩, hP', hsz, _, _, HP, HW, HO, HB⟩ := sw_facts H2.out
          go_wp2_with (at_builtin; refine wpList_append_own _ rfl (.tmp 47) (.tmp 49) 39 rfl B 5 i0 (.int .u8 0) 1 1 Try.underlying39 hi hz0 hz1 hz2 rfl (by decide) _ _ _ rfl (HW.out.alloc _) ⟨wr2.heap.size, 0, none⟩ 1 1 [.int .u8 ((byU s k).toNat : Int)] rfl rfl (cell_one_new _ _ _) (by intro u hu; simp at hu; subst hu; rfl) (by unfold maxLen; omega) (by omega) (by simp; omega) ?_)
          as_aux_lemma =>
            intro v' w1 hown1 hgrow _
            obtain ⟨gg, cap, rfl⟩ := own_slice hown1 (by omega)
            have q := sw_put HP.out HW.out HO.out (by omega) (by omega) HB.out hown1 rfl hgrow
            have g1 : w1.cell? ⟨P, 1, none⟩ = some (.int .i64 k) := Lib.cell_of_heap q.1 1
            have f1 := Lib.frozen_of_heap q.1 1
            have g2 : w1.cell? ⟨P, 2, none⟩ = some vw := Lib.cell_of_heap q.1 2
            have f2 := Lib.frozen_of_heap q.1 2
            have Q := Lib.hid q.2
            clear q hown1 hgrow c0 c1 c2 z1 z2
            go_wp2_with fail
            go_roundg (s.size - (k + 1))
            case measure => rw [Hn.out]; omega
            case rel => exact ⟨k + 1, word1 ++ [byU s k], rfl, by omega, by omega, by simp; omega, Q.out.at_ (k + 1) (by omega), Lib.hid HN.out⟩
    · have hd := drop_end s k (by omega)
      have hst := hR.out
      rw [hd] at hst
      have HN := Lib.hid (hst.trans (sa_nil 2 ⟨out, word1, inn⟩))
      clear hst hd
      have i2 : decide ((k : Int) < (s.size : Int)) = false := decide_eq_false (by omega)
      go_wp2_with fail
      go_quiet (fail)
      go_wp2_with fail
      go_ret
      exact ⟨false, k, word1, rfl, H.out.drewN _, by omega, by omega, by omega, HR.out.symm.trans HN.out⟩

end Go.Proofs.Ytiklnckoimeimaa

/- The walk of the reference's Args. -/
import Derived.Test.YtiklnckoimeimaaEscape
import Derived.Test.YtiklnckoimeimaaDouble
namespace Go.Proofs.Ytiklnckoimeimaa
open Go.RowKit

/-- What the reference leaves. -/
def SpecArgs (w : World) (R : Option (List (List UInt8))) (e : Ending) (w' : World) : Prop :=
  ∃ v, e = .returned (.tuple #[v, .bool R.isSome]) ∧ w'.ownsRow w.heap.size 9 1 v (R.getD []).length (strC (R.getD [])) ∧ Below w.heap.size w w'

theorem blank_eq (u : UInt8) : ((u.toNat : Int) == 32 || (u.toNat : Int) == 9 || (u.toNat : Int) == 10) = decide (u = 32 ∨ u = 9 ∨ u = 10) := by
  have h1 : ((u.toNat : Int) == 32) = decide (u = 32) := b_eq u 32 (by decide)
  have h2 : ((u.toNat : Int) == 9) = decide (u = 9) := b_eq u 9 (by decide)
  have h3 : ((u.toNat : Int) == 10) = decide (u = 10) := b_eq u 10 (by decide)
  rw [h1, h2, h3, Bool.decide_or, Bool.decide_or, Bool.or_assoc]

theorem spec_none (w : World) (P : Nat) (s : ByteArray) (a : Nat) (word : List UInt8) (inn : Bool) (out : List (List UInt8)) (w' : World) (h : SW w w.heap.size P s a word inn out w') (R : Option (List (List UInt8))) (hR : R = none) :
    SpecArgs w R (.returned (.tuple #[.slice none 0 0, .bool false])) w' := by
  subst hR
  obtain ⟨vw, vo, h1, h2, h3, h4, h5, h6⟩ := h
  exact ⟨_, rfl, ⟨rfl, .inl ⟨rfl, rfl⟩⟩, h6⟩

theorem spec_start (w : World) (s : ByteArray) : SW w w.heap.size (w.heap.size + 1) s 0 [] false [] ((w.alloc (Obj.cells #[] 9)).alloc (Obj.cells #[.string s, .int .i64 0, .slice none 0 0, .bool false, .slice (some ⟨w.heap.size, 0, none⟩) 0 0] 41)) := by
  refine ⟨.slice none 0 0, .slice (some ⟨w.heap.size, 0, none⟩) 0 0, ?_, ⟨rfl, .inl ⟨rfl, rfl⟩⟩, ?_, by omega, Nat.le_refl _, ((Below.refl _ _).alloc (Nat.le_refl _) _).alloc (by simp) _⟩
  · have := heap_alloc_new (w.alloc (Obj.cells #[] 9)) (Obj.cells #[.string s, .int .i64 0, .slice none 0 0, .bool false, .slice (some ⟨w.heap.size, 0, none⟩) 0 0] 41)
    simpa using this
  · refine ⟨rfl, .inr ⟨w.heap.size, 0, #[], rfl, Nat.le_refl _, ?_, ?_⟩⟩
    · rw [Below.heap_alloc _ _ _ (by simp)]
      exact heap_alloc_new w _
    · simp [strC]

set_option maxRecDepth 100000 in
set_option maxHeartbeats 8000000 in
theorem spec_any (s : ByteArray) (w : World) (hs : s.size ≤ 68719476736) :
    Calls Try.prog 10 #[.string s] w (SpecArgs w (sa s.data.toList 0 ss0)) := by
  obtain ⟨i0, hi, hz0, hz1, hz2⟩ := info_parts Try.infoByte
  obtain ⟨R, hR⟩ : ∃ R, R = sa s.data.toList 0 ss0 := ⟨_, rfl⟩
  rw [← hR]
  have HR := Lib.hid hR
  clear hR
  go_enter Try.func10, Try.ntmps10
  go_wp2_with fail
  go_loopg [] s.size (fun n wx => ∃ (k : Nat) (word : List UInt8) (inn : Bool) (out : List (List UInt8)), n = s.size - k ∧ k ≤ s.size ∧ word.length ≤ k ∧ out.length ≤ k ∧ SW w w.heap.size (w.heap.size + 1) s k word inn out wx ∧ Hid (R = sa (s.data.toList.drop k) 0 ⟨out, word, inn⟩))
  case atStart => exact ⟨0, [], false, [], rfl, by omega, by simp, by simp, spec_start w s, HR⟩
  case round =>
    clear HR
    obtain ⟨k, word, inn, out, hn, hk, hwl, hol, h, hR⟩ := hrel
    have Hn := Lib.hid hn
    clear hn
    have H := Lib.hid h
    obtain ⟨vw, vo, ⟨c0, c1, c2, c3, c4⟩, ⟨z1, z2, z3⟩, hP', hsz, hBP, _, HP, HW, HO, HB⟩ := sw_facts h
    clear h
    by_cases hlt : k < s.size
    · have e1 := byInt s k hlt
      have i1 : (0 : Int) ≤ (k : Int) := by omega
      have i2 : (k : Int) < (s.size : Int) := by omega
      have hst := hR.out
      rw [drop_byU s k hlt] at hst
      by_cases hb : byU s k = 32 ∨ byU s k = 9 ∨ byU s k = 10
      · have HN := Lib.hid (hst.trans (sa_step (show nextS 0 (byU s k) (s.data.toList.drop (k + 1)) ⟨out, word, inn⟩ = some (s.data.toList.drop (k + 1), 0, ⟨if inn then out ++ [word] else out, [], false⟩) from by simp [nextS, hb, SSt.endd])))
        have tb : (((byU s k).toNat : Int) == 32 || ((byU s k).toNat : Int) == 9 || ((byU s k).toNat : Int) == 10) = true := (blank_eq _).trans (decide_eq_true hb)
        have hlen : (if inn then out ++ [word] else out).length ≤ k + 1 := by cases inn <;> simp <;> omega
        clear hst hb
        as_aux_lemma =>
          go_wp2_with fail
          refine (blank_any _ _).mono ?_
          rintro e w1 ⟨rfl, rfl⟩
          go_wp2_with fail
          refine (end_any w _ _ s k word inn out _ H.out (by omega)).mono ?_
          rintro e w1 ⟨rfl, h1⟩
          clear c0 c1 c2 c3 c4 z1 z2 z3 hP' hsz HP HW HO HB
          obtain ⟨vw, vo, ⟨c0, c1, c2, c3, c4⟩, ⟨z1, z2, z3⟩, hP', hsz, _, _, HP, HW, HO, HB⟩ := sw_facts h1
          have H1 := Lib.hid h1
          clear h1
          go_wp2_with fail
          go_roundg (s.size - (k + 1))
          case measure => rw [Hn.out]; omega
          case rel => exact ⟨k + 1, [], false, _, rfl, by omega, by simp, hlen, H1.out.at_ (k + 1) (by omega), Lib.hid HN.out⟩
      · have tb : (((byU s k).toNat : Int) == 32 || ((byU s k).toNat : Int) == 9 || ((byU s k).toNat : Int) == 10) = false := (blank_eq _).trans (decide_eq_false hb)
        by_cases h39 : byU s k = 39
        · have t39 : (((byU s k).toNat : Int) == 39) = true := (b_eq _ 39 (by decide)).trans (decide_eq_true h39)
          have hst := hst.trans (sa_step (show nextS 0 (byU s k) (s.data.toList.drop (k + 1)) ⟨out, word, inn⟩ = some (s.data.toList.drop (k + 1), 1, ⟨out, word, true⟩) from by rw [h39]; rfl))
          have HS := Lib.hid hst
          clear hst hb h39
          as_aux_lemma =>
            go_wp2_with fail
            refine (blank_any _ _).mono ?_
            rintro e w1 ⟨rfl, rfl⟩
            go_wp2_with fail
            refine (single_any w _ _ s k word true out _ (H.out.in_ true) hs hlt hwl).mono ?_
            rintro e w1 ⟨b, a', word', rfl, h1, h2, h3, h4, h5⟩
            clear c0 c1 c2 c3 c4 z1 z2 z3 hP' hsz HP HW HO HB
            obtain ⟨vw, vo, ⟨c0, c1, c2, c3, c4⟩, ⟨z1, z2, z3⟩, hP', hsz, _, _, HP, HW, HO, HB⟩ := sw_facts h1
            have HN := HS.out.trans h5
            cases b with
            | true =>
              have H1 := Lib.hid h1
              have HN := Lib.hid HN
              clear h1 h5
              go_wp2_with fail
              go_roundg (s.size - a')
              case measure => rw [Hn.out]; omega
              case rel => exact ⟨a', word', true, out, rfl, h3, h4, by omega, H1.out, Lib.hid HN.out⟩
            | false =>
              have H1 := Lib.hid h1
              have HN := Lib.hid HN
              clear h1 h5
              go_wp2_with fail
              go_ret2
              exact spec_none w _ s a' word' true out w1 H1.out R HN.out
        · have t39 : (((byU s k).toNat : Int) == 39) = false := (b_eq _ 39 (by decide)).trans (decide_eq_false h39)
          by_cases h34 : byU s k = 34
          · have t34 : (((byU s k).toNat : Int) == 34) = true := (b_eq _ 34 (by decide)).trans (decide_eq_true h34)
            have hst := hst.trans (sa_step (show nextS 0 (byU s k) (s.data.toList.drop (k + 1)) ⟨out, word, inn⟩ = some (s.data.toList.drop (k + 1), 2, ⟨out, word, true⟩) from by rw [h34]; rfl))
            have HS := Lib.hid hst
            clear hst hb h34
            as_aux_lemma =>
              go_wp2_with fail
              refine (blank_any _ _).mono ?_
              rintro e w1 ⟨rfl, rfl⟩
              go_wp2_with fail
              refine (double_any w _ _ s k word true out _ (H.out.in_ true) hs hlt hwl).mono ?_
              rintro e w1 ⟨b, a', word', rfl, h1, h2, h3, h4, h5⟩
              clear c0 c1 c2 c3 c4 z1 z2 z3 hP' hsz HP HW HO HB
              obtain ⟨vw, vo, ⟨c0, c1, c2, c3, c4⟩, ⟨z1, z2, z3⟩, hP', hsz, _, _, HP, HW, HO, HB⟩ := sw_facts h1
              have HN := HS.out.trans h5
              cases b with
              | true =>
                have H1 := Lib.hid h1
                have HN := Lib.hid HN
                clear h1 h5
                go_wp2_with fail
                go_roundg (s.size - a')
                case measure => rw [Hn.out]; omega
                case rel => exact ⟨a', word', true, out, rfl, h3, h4, by omega, H1.out, Lib.hid HN.out⟩
              | false =>
                have H1 := Lib.hid h1
                have HN := Lib.hid HN
                clear h1 h5
                go_wp2_with fail
                go_ret2
                exact spec_none w _ s a' word' true out w1 H1.out R HN.out
          · have t34 : (((byU s k).toNat : Int) == 34) = false := (b_eq _ 34 (by decide)).trans (decide_eq_false h34)
            by_cases h92 : byU s k = 92
            · have t92 : (((byU s k).toNat : Int) == 92) = true := (b_eq _ 92 (by decide)).trans (decide_eq_true h92)
              have hnx : nextS 0 (byU s k) (s.data.toList.drop (k + 1)) ⟨out, word, inn⟩ = escS0 (s.data.toList.drop (k + 1)) ⟨out, word, inn⟩ := by rw [h92]; rfl
              have HS := Lib.hid hst
              have HX := Lib.hid hnx
              clear hst hnx hb h39 h34 h92
              as_aux_lemma =>
                go_wp2_with fail
                refine (blank_any _ _).mono ?_
                rintro e w1 ⟨rfl, rfl⟩
                go_wp2_with fail
                refine (escape_any w _ _ s k word inn out _ H.out hs hlt hwl).mono ?_
                rintro e w1 ⟨b, a', word', inn', rfl, h1, h2, h3, h4, h5⟩
                clear c0 c1 c2 c3 c4 z1 z2 z3 hP' hsz HP HW HO HB
                obtain ⟨vw, vo, ⟨c0, c1, c2, c3, c4⟩, ⟨z1, z2, z3⟩, hP', hsz, _, _, HP, HW, HO, HB⟩ := sw_facts h1
                cases b with
                | true =>
                  have H1 := Lib.hid h1
                  obtain ⟨h6, h7⟩ := h5
                  have HN := Lib.hid (HS.out.trans (sa_step (HX.out.trans h7)))
                  clear h1 h7
                  go_wp2_with fail
                  go_roundg (s.size - a')
                  case measure => rw [Hn.out]; omega
                  case rel => exact ⟨a', word', inn', out, rfl, h3, h4, by omega, H1.out, Lib.hid HN.out⟩
                | false =>
                  have H1 := Lib.hid h1
                  have HN := Lib.hid (HS.out.trans (sa_stop (HX.out.trans h5)))
                  clear h1 h5
                  go_wp2_with fail
                  go_ret2
                  exact spec_none w _ s a' word' inn' out w1 H1.out R HN.out
            · have t92 : (((byU s k).toNat : Int) == 92) = false := (b_eq _ 92 (by decide)).trans (decide_eq_false h92)
              by_cases h13 : byU s k = 13
              · have t13 : (((byU s k).toNat : Int) == 13) = true := (b_eq _ 13 (by decide)).trans (decide_eq_true h13)
                have HN := Lib.hid (hst.trans (sa_stop (show nextS 0 (byU s k) (s.data.toList.drop (k + 1)) ⟨out, word, inn⟩ = none from by rw [h13]; rfl)))
                clear hst hb h39 h34 h92 h13
                as_aux_lemma =>
                  go_wp2_with fail
                  refine (blank_any _ _).mono ?_
                  rintro e w1 ⟨rfl, rfl⟩
                  go_wp2_with fail
                  go_ret2
                  exact spec_none w _ s k word inn out _ H.out R HN.out
              · have t13 : (((byU s k).toNat : Int) == 13) = false := (b_eq _ 13 (by decide)).trans (decide_eq_false h13)
                have HN := Lib.hid (hst.trans (sa_step (show nextS 0 (byU s k) (s.data.toList.drop (k + 1)) ⟨out, word, inn⟩ = some (s.data.toList.drop (k + 1), 0, ⟨out, word ++ [byU s k], true⟩) from by rw [nextS, if_neg (by decide), if_neg (by decide), if_neg hb, if_neg h39, if_neg h34, if_neg h92, if_neg h13])))
                clear hst hb h39 h34 h92 h13
                as_aux_lemma =>
                  go_wp2_with fail
                  refine (blank_any _ _).mono ?_
                  rintro e w1 ⟨rfl, rfl⟩
                  go_wp2_with (at_builtin; refine wpList_append_own _ rfl (.tmp 29) (.tmp 31) 39 rfl w.heap.size 5 i0 (.int .u8 0) 1 1 Try.underlying39 hi hz0 hz1 hz2 rfl (by decide) _ _ _ rfl (HW.out.alloc _) ⟨wr.heap.size, 0, none⟩ 1 1 [.int .u8 ((byU s k).toNat : Int)] rfl rfl (cell_one_new _ _ _) (by intro u hu; simp at hu; subst hu; rfl) (by unfold maxLen; omega) (by omega) (by simp; omega) ?_)
                  intro v' w1 hown1 hgrow _
                  obtain ⟨gg, cap, rfl⟩ := own_slice hown1 (by omega)
                  have q := sw_put HP.out HW.out HO.out (by omega) (by omega) HB.out hown1 rfl hgrow
                  have g1 : w1.cell? ⟨w.heap.size + 1, 1, none⟩ = some (.int .i64 k) := Lib.cell_of_heap q.1 1
                  have f1 := Lib.frozen_of_heap q.1 1
                  have g2 : w1.cell? ⟨w.heap.size + 1, 2, none⟩ = some (vw) := Lib.cell_of_heap q.1 2
                  have f2 := Lib.frozen_of_heap q.1 2
                  have g3 : w1.cell? ⟨w.heap.size + 1, 3, none⟩ = some (.bool inn) := Lib.cell_of_heap q.1 3
                  have f3 := Lib.frozen_of_heap q.1 3
                  have Q := Lib.hid q.2
                  clear q hown1 hgrow c0 c1 c2 c3 c4 z1 z2 z3
                  go_wp2_with fail
                  go_roundg (s.size - (k + 1))
                  case measure => rw [Hn.out]; omega
                  case rel => exact ⟨k + 1, word ++ [byU s k], true, out, rfl, by omega, by simp; omega, by omega, (Q.out.in_ true).at_ (k + 1) (by omega), Lib.hid HN.out⟩
    · have i2 : decide ((k : Int) < (s.size : Int)) = false := decide_eq_false (by omega)
      have hd := drop_end s k (by omega)
      have hst := hR.out
      rw [hd] at hst
      have HN := Lib.hid (hst.trans (show sa [] 0 ⟨out, word, inn⟩ = some (if inn then out ++ [word] else out) from rfl))
      clear hst hd
      as_aux_lemma =>
        go_wp2_with fail
        refine (end_any w _ _ s k word inn out _ H.out (by omega)).mono ?_
        rintro e w1 ⟨rfl, h1⟩
        clear c0 c1 c2 c3 c4 z1 z2 z3 hP' hsz HP HW HO HB
        obtain ⟨vw, vo, ⟨c0, c1, c2, c3, c4⟩, ⟨z1, z2, z3⟩, hP', hsz, _, _, HP, HW, HO, HB⟩ := sw_facts h1
        clear h1
        go_wp2_with fail
        go_ret2
        rw [HN.out]
        exact ⟨vo, rfl, HO.out, HB.out⟩

end Go.Proofs.Ytiklnckoimeimaa

/- The walk of ParseArgs. -/
import Derived.Test.YtiklnckoimeimaaPw
namespace Go.Proofs.Ytiklnckoimeimaa
open Go.RowKit

/-- What ParseArgs leaves: the arguments R in a row of its own. -/
def Parsed (w : World) (R : List (List UInt8)) (e : Ending) (w' : World) : Prop :=
  ∃ v, e = .returned v ∧ w'.ownsRow w.heap.size 9 1 v R.length (strC R) ∧ Below w.heap.size w w'

theorem pw_cell {w : World} {a : Value} {args : List (List UInt8)} {arg : List UInt8} {wr : World} (h : PW w a args arg wr) {bs o : Nat} (hbs : bs < w.heap.size) {v : Value} (hc : w.cell? ⟨bs, o, none⟩ = some v) :
    wr.cell? ⟨bs, o, none⟩ = some v := (h.2.2.cell (p := ⟨bs, o, none⟩) hbs).trans hc

theorem pw_start (w : World) : PW w (.slice none 0 0) [] [] (w.alloc (.cells #[.pointer none, .slice none 0 0] 47)) := by
  refine ⟨World.ownsRow_nil _ _ _ _, .inl ⟨Nat.le_refl _, .slice none 0 0, (MapKept.heap_alloc w _).1, ⟨rfl, .inl ⟨rfl, rfl⟩⟩, by simp [Value.ownBlock]⟩, (Below.refl _ _).alloc (Nat.le_refl _) _⟩

theorem Try.infoString : (Try.prog.info? 9).map (fun i => (i.zero, i.size, i.bytes)) = some (some (.string ⟨#[]⟩), 1, 16) := by kernel_rfl

set_option maxRecDepth 100000 in
set_option maxHeartbeats 40000000 in
theorem parse_any (s : ByteArray) (bs cap : Nat) (w : World) (hs : s.size ≤ 68719476736) (hbs : bs < w.heap.size)
    (hc : ∀ i, i < s.size → w.cell? ⟨bs, i, none⟩ = some (.int .u8 ((byU s i).toNat : Int))) :
    Calls Try.prog 25 #[.slice (some ⟨bs, 0, none⟩) s.size cap] w (Parsed w (pa s.data.toList st0)) := by
  have HC := Lib.hid hc
  clear hc
  obtain ⟨i0, hi, hz0, hz1, hz2⟩ := info_parts Try.infoString
  obtain ⟨R, hR⟩ : ∃ R, R = pa s.data.toList st0 := ⟨_, rfl⟩
  rw [← hR]
  have hR0 := Lib.hid (show pa (s.data.toList.drop 0) ⟨[], [], false, false, false⟩ = R by rw [hR]; rfl)
  clear hR
  go_enter Try.func25, Try.ntmps25
  go_wp2_with fail
  go_loopw [3, 5, 6, 7, 8, 9, 10, 11] (fun a h q d i _ _ _ wr => ∃ (k : Nat) (args : List (List UInt8)) (arg : List UInt8) (has sq dq : Bool), k ≤ s.size ∧ i = .int .i64 k ∧ h = .bool has ∧ q = .bool sq ∧ d = .bool dq ∧ arg.length ≤ k ∧ args.length ≤ k ∧ PW w a args arg wr ∧ Hid (pa (s.data.toList.drop k) ⟨args, arg, has, sq, dq⟩ = R)) (fun _ _ _ _ i _ _ _ _ => s.size - (intOf i).toNat)
  case atStart => exact ⟨0, [], [], false, false, false, Nat.zero_le _, rfl, rfl, rfl, rfl, Nat.le_refl _, Nat.le_refl _, pw_start w, hR0⟩
  case round =>
    clear hR0
    obtain ⟨k, args, arg, has, sq, dq, hk, rfl, rfl, rfl, rfl, hal, hrl, hpw, hpa⟩ := hrel
    by_cases hlt : k < s.size
    · have hc0 := pw_cell hpw hbs (HC.out k hlt)
      have hst := hpa.out
      rw [drop_byU s k hlt] at hst
      cases sq with
      | true =>
        by_cases h39 : byU s k = 39
        ·
          have hc : wr.cell? ⟨bs, k, none⟩ = some (.int .u8 39) := by rw [hc0, h39]; rfl
          clear hc0
          as_aux_lemma =>
            have HN := Lib.hid ((pa_at (show nextP (byU s k) (s.data.toList.drop (k + 1)) ⟨args, arg, has, true, dq⟩ = (s.data.toList.drop (k + 1), ⟨args, arg, has, false, dq⟩) from by simp [nextP, h39])).symm.trans hst)
            clear hst
            clear h39
            go_wp2_with fail
            go_roundw
            case rel => exact ⟨k + 1, args, arg, has, false, dq, by omega, by go_num, rfl, rfl, rfl, by omega, by omega, hpw, HN⟩
            case measure => simp [intOf]; omega
        ·
          have hc := hc0
          clear hc0
          have t39h : (((byU s k).toNat : Int) == 39) = false := (b_eq _ 39 (by decide)).trans (decide_eq_false h39)
          as_aux_lemma =>
            have HN := Lib.hid ((pa_at (show nextP (byU s k) (s.data.toList.drop (k + 1)) ⟨args, arg, has, true, dq⟩ = (s.data.toList.drop (k + 1), ⟨args, arg ++ [byU s k], has, true, dq⟩) from by simp [nextP, h39, PSt.put])).symm.trans hst)
            clear hst
            clear h39
            go_wp2_with fail
            refine (put_any w _ args arg _ hpw _ (byU s k) rfl (by omega)).mono ?_
            rintro e w1 ⟨rfl, hpw1⟩
            go_wp2_with fail
            go_roundw
            case rel => exact ⟨k + 1, args, (arg ++ [byU s k]), has, true, dq, by omega, by go_num, rfl, rfl, rfl, by simp; omega, by omega, hpw1, HN⟩
            case measure => simp [intOf]; omega
      | false =>
        cases dq with
        | true =>
          by_cases h92 : byU s k = 92
          ·
            have hc : wr.cell? ⟨bs, k, none⟩ = some (.int .u8 92) := by rw [hc0, h92]; rfl
            clear hc0
            by_cases hk1 : k + 1 < s.size
            ·
              have hn0 := pw_cell hpw hbs (HC.out (k + 1) hk1)
              have hd1 := drop_byU s (k + 1) hk1
              have hki : (k : Int) + 1 < (s.size : Int) := by omega
              by_cases n92 : byU s (k + 1) = 92
              ·
                have hn : wr.cell? ⟨bs, (k + 1), none⟩ = some (.int .u8 92) := by rw [hn0, n92]; rfl
                clear hn0
                as_aux_lemma =>
                  have HN := Lib.hid ((pa_at (show nextP (byU s k) (s.data.toList.drop (k + 1)) ⟨args, arg, has, false, true⟩ = (s.data.toList.drop (k + 1 + 1), ⟨args, arg ++ [92], has, false, true⟩) from by rw [hd1]; simp [nextP, escD, h92, n92, PSt.put])).symm.trans hst)
                  clear hst
                  clear h92 hd1 n92
                  go_wp2_with fail
                  refine (put_any w _ args arg _ hpw 92 92 rfl (by omega)).mono ?_
                  rintro e w1 ⟨rfl, hpw1⟩
                  go_wp2_with fail
                  go_roundw
                  case rel => exact ⟨k + 1 + 1, args, (arg ++ [92]), has, false, true, by omega, by go_num, rfl, rfl, rfl, by simp; omega, by omega, hpw1, HN⟩
                  case measure => simp [intOf]; omega
              ·
                by_cases n34 : byU s (k + 1) = 34
                ·
                  have hn : wr.cell? ⟨bs, (k + 1), none⟩ = some (.int .u8 34) := by rw [hn0, n34]; rfl
                  clear hn0
                  as_aux_lemma =>
                    have HN := Lib.hid ((pa_at (show nextP (byU s k) (s.data.toList.drop (k + 1)) ⟨args, arg, has, false, true⟩ = (s.data.toList.drop (k + 1 + 1), ⟨args, arg ++ [34], has, false, true⟩) from by rw [hd1]; simp [nextP, escD, h92, n34, PSt.put])).symm.trans hst)
                    clear hst
                    clear h92 hd1 n34
                    go_wp2_with fail
                    refine (put_any w _ args arg _ hpw 34 34 rfl (by omega)).mono ?_
                    rintro e w1 ⟨rfl, hpw1⟩
                    go_wp2_with fail
                    go_roundw
                    case rel => exact ⟨k + 1 + 1, args, (arg ++ [34]), has, false, true, by omega, by go_num, rfl, rfl, rfl, by simp; omega, by omega, hpw1, HN⟩
                    case measure => simp [intOf]; omega
                ·
                  by_cases n36 : byU s (k + 1) = 36
                  ·
                    have hn : wr.cell? ⟨bs, (k + 1), none⟩ = some (.int .u8 36) := by rw [hn0, n36]; rfl
                    clear hn0
                    as_aux_lemma =>
                      have HN := Lib.hid ((pa_at (show nextP (byU s k) (s.data.toList.drop (k + 1)) ⟨args, arg, has, false, true⟩ = (s.data.toList.drop (k + 1 + 1), ⟨args, arg ++ [36], has, false, true⟩) from by rw [hd1]; simp [nextP, escD, h92, n36, PSt.put])).symm.trans hst)
                      clear hst
                      clear h92 hd1 n36
                      go_wp2_with fail
                      refine (put_any w _ args arg _ hpw 36 36 rfl (by omega)).mono ?_
                      rintro e w1 ⟨rfl, hpw1⟩
                      go_wp2_with fail
                      go_roundw
                      case rel => exact ⟨k + 1 + 1, args, (arg ++ [36]), has, false, true, by omega, by go_num, rfl, rfl, rfl, by simp; omega, by omega, hpw1, HN⟩
                      case measure => simp [intOf]; omega
                  ·
                    by_cases n96 : byU s (k + 1) = 96
                    ·
                      have hn : wr.cell? ⟨bs, (k + 1), none⟩ = some (.int .u8 96) := by rw [hn0, n96]; rfl
                      clear hn0
                      as_aux_lemma =>
                        have HN := Lib.hid ((pa_at (show nextP (byU s k) (s.data.toList.drop (k + 1)) ⟨args, arg, has, false, true⟩ = (s.data.toList.drop (k + 1 + 1), ⟨args, arg ++ [96], has, false, true⟩) from by rw [hd1]; simp [nextP, escD, h92, n96, PSt.put])).symm.trans hst)
                        clear hst
                        clear h92 hd1 n96
                        go_wp2_with fail
                        refine (put_any w _ args arg _ hpw 96 96 rfl (by omega)).mono ?_
                        rintro e w1 ⟨rfl, hpw1⟩
                        go_wp2_with fail
                        go_roundw
                        case rel => exact ⟨k + 1 + 1, args, (arg ++ [96]), has, false, true, by omega, by go_num, rfl, rfl, rfl, by simp; omega, by omega, hpw1, HN⟩
                        case measure => simp [intOf]; omega
                    ·
                      by_cases n10 : byU s (k + 1) = 10
                      ·
                        have hn : wr.cell? ⟨bs, (k + 1), none⟩ = some (.int .u8 10) := by rw [hn0, n10]; rfl
                        clear hn0
                        as_aux_lemma =>
                          have HN := Lib.hid ((pa_at (show nextP (byU s k) (s.data.toList.drop (k + 1)) ⟨args, arg, has, false, true⟩ = (s.data.toList.drop (k + 1 + 1), ⟨args, arg, has, false, true⟩) from by rw [hd1]; simp [nextP, escD, h92, n10])).symm.trans hst)
                          clear hst
                          clear h92 hd1 n10
                          go_wp2_with fail
                          go_roundw
                          case rel => exact ⟨k + 1 + 1, args, arg, has, false, true, by omega, by go_num, rfl, rfl, rfl, by omega, by omega, hpw, HN⟩
                          case measure => simp [intOf]; omega
                      ·
                        by_cases n13 : byU s (k + 1) = 13
                        ·
                          have hn : wr.cell? ⟨bs, (k + 1), none⟩ = some (.int .u8 13) := by rw [hn0, n13]; rfl
                          clear hn0
                          by_cases hk2 : k + 1 + 1 < s.size
                          ·
                            have hm0 := pw_cell hpw hbs (HC.out (k + 1 + 1) hk2)
                            have hd2 := drop_byU s (k + 1 + 1) hk2
                            have hkj : (k : Int) + 2 < (s.size : Int) := by omega
                            have hka : ((k : Int) + 2).toNat = k + 1 + 1 := by omega
                            by_cases m10 : byU s (k + 1 + 1) = 10
                            ·
                              have hm : wr.cell? ⟨bs, (k + 1 + 1), none⟩ = some (.int .u8 10) := by rw [hm0, m10]; rfl
                              clear hm0
                              as_aux_lemma =>
                                have HN := Lib.hid ((pa_at (show nextP (byU s k) (s.data.toList.drop (k + 1)) ⟨args, arg, has, false, true⟩ = (s.data.toList.drop (k + 1 + 1 + 1), ⟨args, arg, has, false, true⟩) from by rw [hd1, hd2]; simp [nextP, escD, h92, n13, m10])).symm.trans hst)
                                clear hst
                                clear h92 hd1 hd2 n13 m10
                                go_wp2_with fail
                                go_roundw
                                case rel => exact ⟨k + 1 + 1 + 1, args, arg, has, false, true, by omega, by go_num, rfl, rfl, rfl, by omega, by omega, hpw, HN⟩
                                case measure => simp [intOf]; omega
                            ·
                              have hm := hm0
                              clear hm0
                              have t10m : (((byU s (k + 1 + 1)).toNat : Int) == 10) = false := (b_eq _ 10 (by decide)).trans (decide_eq_false m10)
                              as_aux_lemma =>
                                have HN := Lib.hid ((pa_at (show nextP (byU s k) (s.data.toList.drop (k + 1)) ⟨args, arg, has, false, true⟩ = (s.data.toList.drop (k + 1), ⟨args, arg ++ [92], has, false, true⟩) from by rw [hd1, hd2]; simp [nextP, escD, h92, n13, m10, PSt.put])).symm.trans hst)
                                clear hst
                                clear h92 hd1 hd2 n13 m10
                                go_wp2_with fail
                                refine (put_any w _ args arg _ hpw 92 92 rfl (by omega)).mono ?_
                                rintro e w1 ⟨rfl, hpw1⟩
                                go_wp2_with fail
                                go_roundw
                                case rel => exact ⟨k + 1, args, (arg ++ [92]), has, false, true, by omega, by go_num, rfl, rfl, rfl, by simp; omega, by omega, hpw1, HN⟩
                                case measure => simp [intOf]; omega
                          ·
                            have hkj : (s.size : Int) ≤ (k : Int) + 2 := by omega
                            have hd2 := drop_end s (k + 1 + 1) (by omega)
                            as_aux_lemma =>
                              have HN := Lib.hid ((pa_at (show nextP (byU s k) (s.data.toList.drop (k + 1)) ⟨args, arg, has, false, true⟩ = (s.data.toList.drop (k + 1), ⟨args, arg ++ [92], has, false, true⟩) from by rw [hd1, hd2]; simp [nextP, escD, h92, n13, PSt.put])).symm.trans hst)
                              clear hst
                              clear h92 hd1 hd2 n13
                              go_wp2_with fail
                              refine (put_any w _ args arg _ hpw 92 92 rfl (by omega)).mono ?_
                              rintro e w1 ⟨rfl, hpw1⟩
                              go_wp2_with fail
                              go_roundw
                              case rel => exact ⟨k + 1, args, (arg ++ [92]), has, false, true, by omega, by go_num, rfl, rfl, rfl, by simp; omega, by omega, hpw1, HN⟩
                              case measure => simp [intOf]; omega
                        ·
                          have hn := hn0
                          clear hn0
                          have t92n : (((byU s (k + 1)).toNat : Int) == 92) = false := (b_eq _ 92 (by decide)).trans (decide_eq_false n92)
                          have t34n : (((byU s (k + 1)).toNat : Int) == 34) = false := (b_eq _ 34 (by decide)).trans (decide_eq_false n34)
                          have t36n : (((byU s (k + 1)).toNat : Int) == 36) = false := (b_eq _ 36 (by decide)).trans (decide_eq_false n36)
                          have t96n : (((byU s (k + 1)).toNat : Int) == 96) = false := (b_eq _ 96 (by decide)).trans (decide_eq_false n96)
                          have t10n : (((byU s (k + 1)).toNat : Int) == 10) = false := (b_eq _ 10 (by decide)).trans (decide_eq_false n10)
                          have t13n : (((byU s (k + 1)).toNat : Int) == 13) = false := (b_eq _ 13 (by decide)).trans (decide_eq_false n13)
                          as_aux_lemma =>
                            have HN := Lib.hid ((pa_at (show nextP (byU s k) (s.data.toList.drop (k + 1)) ⟨args, arg, has, false, true⟩ = (s.data.toList.drop (k + 1), ⟨args, arg ++ [92], has, false, true⟩) from by rw [hd1]; simp [nextP, escD, h92, n92, n34, n36, n96, n10, n13, PSt.put])).symm.trans hst)
                            clear hst
                            clear h92 hd1 n92 n34 n36 n96 n10 n13
                            go_wp2_with fail
                            refine (put_any w _ args arg _ hpw 92 92 rfl (by omega)).mono ?_
                            rintro e w1 ⟨rfl, hpw1⟩
                            go_wp2_with fail
                            go_roundw
                            case rel => exact ⟨k + 1, args, (arg ++ [92]), has, false, true, by omega, by go_num, rfl, rfl, rfl, by simp; omega, by omega, hpw1, HN⟩
                            case measure => simp [intOf]; omega
            ·
              have hki : (s.size : Int) ≤ (k : Int) + 1 := by omega
              have hd1 := drop_end s (k + 1) (by omega)
              as_aux_lemma =>
                have HN := Lib.hid ((pa_at (show nextP (byU s k) (s.data.toList.drop (k + 1)) ⟨args, arg, has, false, true⟩ = (s.data.toList.drop (k + 1), ⟨args, arg ++ [92], has, false, true⟩) from by rw [hd1]; simp [nextP, escD, h92, PSt.put])).symm.trans hst)
                clear hst
                clear h92 hd1
                go_wp2_with fail
                refine (put_any w _ args arg _ hpw 92 92 rfl (by omega)).mono ?_
                rintro e w1 ⟨rfl, hpw1⟩
                go_wp2_with fail
                go_roundw
                case rel => exact ⟨k + 1, args, (arg ++ [92]), has, false, true, by omega, by go_num, rfl, rfl, rfl, by simp; omega, by omega, hpw1, HN⟩
                case measure => simp [intOf]; omega
          ·
            by_cases h34 : byU s k = 34
            ·
              have hc : wr.cell? ⟨bs, k, none⟩ = some (.int .u8 34) := by rw [hc0, h34]; rfl
              clear hc0
              as_aux_lemma =>
                have HN := Lib.hid ((pa_at (show nextP (byU s k) (s.data.toList.drop (k + 1)) ⟨args, arg, has, false, true⟩ = (s.data.toList.drop (k + 1), ⟨args, arg, has, false, false⟩) from by simp [nextP, h34])).symm.trans hst)
                clear hst
                clear h34 h92
                go_wp2_with fail
                go_roundw
                case rel => exact ⟨k + 1, args, arg, has, false, false, by omega, by go_num, rfl, rfl, rfl, by omega, by omega, hpw, HN⟩
                case measure => simp [intOf]; omega
            ·
              have hc := hc0
              clear hc0
              have t92h : (((byU s k).toNat : Int) == 92) = false := (b_eq _ 92 (by decide)).trans (decide_eq_false h92)
              have t34h : (((byU s k).toNat : Int) == 34) = false := (b_eq _ 34 (by decide)).trans (decide_eq_false h34)
              as_aux_lemma =>
                have HN := Lib.hid ((pa_at (show nextP (byU s k) (s.data.toList.drop (k + 1)) ⟨args, arg, has, false, true⟩ = (s.data.toList.drop (k + 1), ⟨args, arg ++ [byU s k], has, false, true⟩) from by simp [nextP, h92, h34, PSt.put])).symm.trans hst)
                clear hst
                clear h92 h34
                go_wp2_with fail
                refine (put_any w _ args arg _ hpw _ (byU s k) rfl (by omega)).mono ?_
                rintro e w1 ⟨rfl, hpw1⟩
                go_wp2_with fail
                go_roundw
                case rel => exact ⟨k + 1, args, (arg ++ [byU s k]), has, false, true, by omega, by go_num, rfl, rfl, rfl, by simp; omega, by omega, hpw1, HN⟩
                case measure => simp [intOf]; omega
        | false =>
          by_cases h32 : byU s k = 32
          ·
            have hc : wr.cell? ⟨bs, k, none⟩ = some (.int .u8 32) := by rw [hc0, h32]; rfl
            clear hc0
            by_cases hlen : 0 < arg.length
            ·
              as_aux_lemma =>
                have HN := Lib.hid ((pa_at (show nextP (byU s k) (s.data.toList.drop (k + 1)) ⟨args, arg, has, false, false⟩ = (s.data.toList.drop (k + 1), ⟨args ++ [arg], [], false, false, false⟩) from by simp [nextP, h32, cutoff_yes (Or.inl hlen)])).symm.trans hst)
                clear hst
                clear h32
                have hle : (0 : Int) < (arg.length : Int) := by omega
                go_wp2_with fail
                refine (len_any w _ args arg _ hpw).mono ?_
                rintro e w1 ⟨rfl, rfl⟩
                go_wp2_with fail
                refine (str_any w _ args arg _ hpw).mono ?_
                rintro e w1 ⟨rfl, hpw1⟩
                go_wp2_with (at_builtin; refine wpList_append_own _ rfl (.tmp 113) (.tmp 115) 23 rfl w.heap.size 9 i0 (.string ⟨#[]⟩) 1 16 Try.underlying23 hi hz0 hz1 hz2 rfl (by decide) _ _ _ rfl (hpw1.1.alloc _) ⟨w1.heap.size, 0, none⟩ 1 1 [.string ⟨arg.toArray⟩] rfl rfl (cell_one_new _ _ _) (by intro u hu; simp at hu; subst hu; rfl) (by unfold maxLen; omega) (by omega) (by have := hpw1.2.2.size; simp; omega) ?_)
                intro v' w2 hown' hg' _
                have hq := pw_append hpw1 hown' hg'
                clear hown' hg'
                have hpw2 : PW w v' (args ++ [arg]) arg w2 := ⟨by rw [strC_append, List.length_append]; exact hq.1, hq.2.1, hq.2.2⟩
                clear hq hpw1
                go_wp2_with fail
                refine (reset_any w _ _ _ _ hpw2).mono ?_
                rintro e w3 ⟨rfl, hpw3⟩
                go_wp2_with fail
                go_roundw
                case rel => exact ⟨k + 1, (args ++ [arg]), [], false, false, false, by omega, by go_num, rfl, rfl, rfl, by simp, by simp; omega, hpw3, HN⟩
                case measure => simp [intOf]; omega
            ·
              have hle : decide ((0 : Int) < (arg.length : Int)) = false := decide_eq_false (by omega)
              have hl0 : arg = [] := List.length_eq_zero_iff.1 (by omega)
              cases has with
              | true =>
                as_aux_lemma =>
                  have HN := Lib.hid ((pa_at (show nextP (byU s k) (s.data.toList.drop (k + 1)) ⟨args, arg, true, false, false⟩ = (s.data.toList.drop (k + 1), ⟨args ++ [arg], [], false, false, false⟩) from by simp [nextP, h32, cutoff_yes (Or.inr rfl)])).symm.trans hst)
                  clear hst
                  clear h32 hl0
                  go_wp2_with fail
                  refine (len_any w _ args arg _ hpw).mono ?_
                  rintro e w1 ⟨rfl, rfl⟩
                  go_wp2_with fail
                  refine (str_any w _ args arg _ hpw).mono ?_
                  rintro e w1 ⟨rfl, hpw1⟩
                  go_wp2_with (at_builtin; refine wpList_append_own _ rfl (.tmp 113) (.tmp 115) 23 rfl w.heap.size 9 i0 (.string ⟨#[]⟩) 1 16 Try.underlying23 hi hz0 hz1 hz2 rfl (by decide) _ _ _ rfl (hpw1.1.alloc _) ⟨w1.heap.size, 0, none⟩ 1 1 [.string ⟨arg.toArray⟩] rfl rfl (cell_one_new _ _ _) (by intro u hu; simp at hu; subst hu; rfl) (by unfold maxLen; omega) (by omega) (by have := hpw1.2.2.size; simp; omega) ?_)
                  intro v' w2 hown' hg' _
                  have hq := pw_append hpw1 hown' hg'
                  clear hown' hg'
                  have hpw2 : PW w v' (args ++ [arg]) arg w2 := ⟨by rw [strC_append, List.length_append]; exact hq.1, hq.2.1, hq.2.2⟩
                  clear hq hpw1
                  go_wp2_with fail
                  refine (reset_any w _ _ _ _ hpw2).mono ?_
                  rintro e w3 ⟨rfl, hpw3⟩
                  go_wp2_with fail
                  go_roundw
                  case rel => exact ⟨k + 1, (args ++ [arg]), [], false, false, false, by omega, by go_num, rfl, rfl, rfl, by simp, by simp; omega, hpw3, HN⟩
                  case measure => simp [intOf]; omega
              | false =>
                as_aux_lemma =>
                  have HN := Lib.hid ((pa_at (show nextP (byU s k) (s.data.toList.drop (k + 1)) ⟨args, arg, false, false, false⟩ = (s.data.toList.drop (k + 1), ⟨args, arg, false, false, false⟩) from by simp [nextP, h32, hl0, cutoff_no])).symm.trans hst)
                  clear hst
                  clear h32 hl0
                  go_wp2_with fail
                  refine (len_any w _ args arg _ hpw).mono ?_
                  rintro e w1 ⟨rfl, rfl⟩
                  go_wp2_with fail
                  go_roundw
                  case rel => exact ⟨k + 1, args, arg, false, false, false, by omega, by go_num, rfl, rfl, rfl, by omega, by omega, hpw, HN⟩
                  case measure => simp [intOf]; omega
          ·
            by_cases h9 : byU s k = 9
            ·
              have hc : wr.cell? ⟨bs, k, none⟩ = some (.int .u8 9) := by rw [hc0, h9]; rfl
              clear hc0
              by_cases hlen : 0 < arg.length
              ·
                as_aux_lemma =>
                  have HN := Lib.hid ((pa_at (show nextP (byU s k) (s.data.toList.drop (k + 1)) ⟨args, arg, has, false, false⟩ = (s.data.toList.drop (k + 1), ⟨args ++ [arg], [], false, false, false⟩) from by simp [nextP, h9, cutoff_yes (Or.inl hlen)])).symm.trans hst)
                  clear hst
                  clear h9
                  have hle : (0 : Int) < (arg.length : Int) := by omega
                  go_wp2_with fail
                  refine (len_any w _ args arg _ hpw).mono ?_
                  rintro e w1 ⟨rfl, rfl⟩
                  go_wp2_with fail
                  refine (str_any w _ args arg _ hpw).mono ?_
                  rintro e w1 ⟨rfl, hpw1⟩
                  go_wp2_with (at_builtin; refine wpList_append_own _ rfl (.tmp 113) (.tmp 115) 23 rfl w.heap.size 9 i0 (.string ⟨#[]⟩) 1 16 Try.underlying23 hi hz0 hz1 hz2 rfl (by decide) _ _ _ rfl (hpw1.1.alloc _) ⟨w1.heap.size, 0, none⟩ 1 1 [.string ⟨arg.toArray⟩] rfl rfl (cell_one_new _ _ _) (by intro u hu; simp at hu; subst hu; rfl) (by unfold maxLen; omega) (by omega) (by have := hpw1.2.2.size; simp; omega) ?_)
                  intro v' w2 hown' hg' _
                  have hq := pw_append hpw1 hown' hg'
                  clear hown' hg'
                  have hpw2 : PW w v' (args ++ [arg]) arg w2 := ⟨by rw [strC_append, List.length_append]; exact hq.1, hq.2.1, hq.2.2⟩
                  clear hq hpw1
                  go_wp2_with fail
                  refine (reset_any w _ _ _ _ hpw2).mono ?_
                  rintro e w3 ⟨rfl, hpw3⟩
                  go_wp2_with fail
                  go_roundw
                  case rel => exact ⟨k + 1, (args ++ [arg]), [], false, false, false, by omega, by go_num, rfl, rfl, rfl, by simp, by simp; omega, hpw3, HN⟩
                  case measure => simp [intOf]; omega
              ·
                have hle : decide ((0 : Int) < (arg.length : Int)) = false := decide_eq_false (by omega)
                have hl0 : arg = [] := List.length_eq_zero_iff.1 (by omega)
                cases has with
                | true =>
                  as_aux_lemma =>
                    have HN := Lib.hid ((pa_at (show nextP (byU s k) (s.data.toList.drop (k + 1)) ⟨args, arg, true, false, false⟩ = (s.data.toList.drop (k + 1), ⟨args ++ [arg], [], false, false, false⟩) from by simp [nextP, h9, cutoff_yes (Or.inr rfl)])).symm.trans hst)
                    clear hst
                    clear h9 hl0
                    go_wp2_with fail
                    refine (len_any w _ args arg _ hpw).mono ?_
                    rintro e w1 ⟨rfl, rfl⟩
                    go_wp2_with fail
                    refine (str_any w _ args arg _ hpw).mono ?_
                    rintro e w1 ⟨rfl, hpw1⟩
                    go_wp2_with (at_builtin; refine wpList_append_own _ rfl (.tmp 113) (.tmp 115) 23 rfl w.heap.size 9 i0 (.string ⟨#[]⟩) 1 16 Try.underlying23 hi hz0 hz1 hz2 rfl (by decide) _ _ _ rfl (hpw1.1.alloc _) ⟨w1.heap.size, 0, none⟩ 1 1 [.string ⟨arg.toArray⟩] rfl rfl (cell_one_new _ _ _) (by intro u hu; simp at hu; subst hu; rfl) (by unfold maxLen; omega) (by omega) (by have := hpw1.2.2.size; simp; omega) ?_)
                    intro v' w2 hown' hg' _
                    have hq := pw_append hpw1 hown' hg'
                    clear hown' hg'
                    have hpw2 : PW w v' (args ++ [arg]) arg w2 := ⟨by rw [strC_append, List.length_append]; exact hq.1, hq.2.1, hq.2.2⟩
                    clear hq hpw1
                    go_wp2_with fail
                    refine (reset_any w _ _ _ _ hpw2).mono ?_
                    rintro e w3 ⟨rfl, hpw3⟩
                    go_wp2_with fail
                    go_roundw
                    case rel => exact ⟨k + 1, (args ++ [arg]), [], false, false, false, by omega, by go_num, rfl, rfl, rfl, by simp, by simp; omega, hpw3, HN⟩
                    case measure => simp [intOf]; omega
                | false =>
                  as_aux_lemma =>
                    have HN := Lib.hid ((pa_at (show nextP (byU s k) (s.data.toList.drop (k + 1)) ⟨args, arg, false, false, false⟩ = (s.data.toList.drop (k + 1), ⟨args, arg, false, false, false⟩) from by simp [nextP, h9, hl0, cutoff_no])).symm.trans hst)
                    clear hst
                    clear h9 hl0
                    go_wp2_with fail
                    refine (len_any w _ args arg _ hpw).mono ?_
                    rintro e w1 ⟨rfl, rfl⟩
                    go_wp2_with fail
                    go_roundw
                    case rel => exact ⟨k + 1, args, arg, false, false, false, by omega, by go_num, rfl, rfl, rfl, by omega, by omega, hpw, HN⟩
                    case measure => simp [intOf]; omega
            ·
              by_cases h10 : byU s k = 10
              ·
                have hc : wr.cell? ⟨bs, k, none⟩ = some (.int .u8 10) := by rw [hc0, h10]; rfl
                clear hc0
                by_cases hlen : 0 < arg.length
                ·
                  as_aux_lemma =>
                    have HN := Lib.hid ((pa_at (show nextP (byU s k) (s.data.toList.drop (k + 1)) ⟨args, arg, has, false, false⟩ = (s.data.toList.drop (k + 1), ⟨args ++ [arg], [], false, false, false⟩) from by simp [nextP, h10, cutoff_yes (Or.inl hlen)])).symm.trans hst)
                    clear hst
                    clear h10
                    have hle : (0 : Int) < (arg.length : Int) := by omega
                    go_wp2_with fail
                    refine (len_any w _ args arg _ hpw).mono ?_
                    rintro e w1 ⟨rfl, rfl⟩
                    go_wp2_with fail
                    refine (str_any w _ args arg _ hpw).mono ?_
                    rintro e w1 ⟨rfl, hpw1⟩
                    go_wp2_with (at_builtin; refine wpList_append_own _ rfl (.tmp 113) (.tmp 115) 23 rfl w.heap.size 9 i0 (.string ⟨#[]⟩) 1 16 Try.underlying23 hi hz0 hz1 hz2 rfl (by decide) _ _ _ rfl (hpw1.1.alloc _) ⟨w1.heap.size, 0, none⟩ 1 1 [.string ⟨arg.toArray⟩] rfl rfl (cell_one_new _ _ _) (by intro u hu; simp at hu; subst hu; rfl) (by unfold maxLen; omega) (by omega) (by have := hpw1.2.2.size; simp; omega) ?_)
                    intro v' w2 hown' hg' _
                    have hq := pw_append hpw1 hown' hg'
                    clear hown' hg'
                    have hpw2 : PW w v' (args ++ [arg]) arg w2 := ⟨by rw [strC_append, List.length_append]; exact hq.1, hq.2.1, hq.2.2⟩
                    clear hq hpw1
                    go_wp2_with fail
                    refine (reset_any w _ _ _ _ hpw2).mono ?_
                    rintro e w3 ⟨rfl, hpw3⟩
                    go_wp2_with fail
                    go_roundw
                    case rel => exact ⟨k + 1, (args ++ [arg]), [], false, false, false, by omega, by go_num, rfl, rfl, rfl, by simp, by simp; omega, hpw3, HN⟩
                    case measure => simp [intOf]; omega
                ·
                  have hle : decide ((0 : Int) < (arg.length : Int)) = false := decide_eq_false (by omega)
                  have hl0 : arg = [] := List.length_eq_zero_iff.1 (by omega)
                  cases has with
                  | true =>
                    as_aux_lemma =>
                      have HN := Lib.hid ((pa_at (show nextP (byU s k) (s.data.toList.drop (k + 1)) ⟨args, arg, true, false, false⟩ = (s.data.toList.drop (k + 1), ⟨args ++ [arg], [], false, false, false⟩) from by simp [nextP, h10, cutoff_yes (Or.inr rfl)])).symm.trans hst)
                      clear hst
                      clear h10 hl0
                      go_wp2_with fail
                      refine (len_any w _ args arg _ hpw).mono ?_
                      rintro e w1 ⟨rfl, rfl⟩
                      go_wp2_with fail
                      refine (str_any w _ args arg _ hpw).mono ?_
                      rintro e w1 ⟨rfl, hpw1⟩
                      go_wp2_with (at_builtin; refine wpList_append_own _ rfl (.tmp 113) (.tmp 115) 23 rfl w.heap.size 9 i0 (.string ⟨#[]⟩) 1 16 Try.underlying23 hi hz0 hz1 hz2 rfl (by decide) _ _ _ rfl (hpw1.1.alloc _) ⟨w1.heap.size, 0, none⟩ 1 1 [.string ⟨arg.toArray⟩] rfl rfl (cell_one_new _ _ _) (by intro u hu; simp at hu; subst hu; rfl) (by unfold maxLen; omega) (by omega) (by have := hpw1.2.2.size; simp; omega) ?_)
                      intro v' w2 hown' hg' _
                      have hq := pw_append hpw1 hown' hg'
                      clear hown' hg'
                      have hpw2 : PW w v' (args ++ [arg]) arg w2 := ⟨by rw [strC_append, List.length_append]; exact hq.1, hq.2.1, hq.2.2⟩
                      clear hq hpw1
                      go_wp2_with fail
                      refine (reset_any w _ _ _ _ hpw2).mono ?_
                      rintro e w3 ⟨rfl, hpw3⟩
                      go_wp2_with fail
                      go_roundw
                      case rel => exact ⟨k + 1, (args ++ [arg]), [], false, false, false, by omega, by go_num, rfl, rfl, rfl, by simp, by simp; omega, hpw3, HN⟩
                      case measure => simp [intOf]; omega
                  | false =>
                    as_aux_lemma =>
                      have HN := Lib.hid ((pa_at (show nextP (byU s k) (s.data.toList.drop (k + 1)) ⟨args, arg, false, false, false⟩ = (s.data.toList.drop (k + 1), ⟨args, arg, false, false, false⟩) from by simp [nextP, h10, hl0, cutoff_no])).symm.trans hst)
                      clear hst
                      clear h10 hl0
                      go_wp2_with fail
                      refine (len_any w _ args arg _ hpw).mono ?_
                      rintro e w1 ⟨rfl, rfl⟩
                      go_wp2_with fail
                      go_roundw
                      case rel => exact ⟨k + 1, args, arg, false, false, false, by omega, by go_num, rfl, rfl, rfl, by omega, by omega, hpw, HN⟩
                      case measure => simp [intOf]; omega
              ·
                by_cases h13 : byU s k = 13
                ·
                  have hc : wr.cell? ⟨bs, k, none⟩ = some (.int .u8 13) := by rw [hc0, h13]; rfl
                  clear hc0
                  by_cases hlen : 0 < arg.length
                  ·
                    as_aux_lemma =>
                      have HN := Lib.hid ((pa_at (show nextP (byU s k) (s.data.toList.drop (k + 1)) ⟨args, arg, has, false, false⟩ = (s.data.toList.drop (k + 1), ⟨args ++ [arg], [], false, false, false⟩) from by simp [nextP, h13, cutoff_yes (Or.inl hlen)])).symm.trans hst)
                      clear hst
                      clear h13
                      have hle : (0 : Int) < (arg.length : Int) := by omega
                      go_wp2_with fail
                      refine (len_any w _ args arg _ hpw).mono ?_
                      rintro e w1 ⟨rfl, rfl⟩
                      go_wp2_with fail
                      refine (str_any w _ args arg _ hpw).mono ?_
                      rintro e w1 ⟨rfl, hpw1⟩
                      go_wp2_with (at_builtin; refine wpList_append_own _ rfl (.tmp 113) (.tmp 115) 23 rfl w.heap.size 9 i0 (.string ⟨#[]⟩) 1 16 Try.underlying23 hi hz0 hz1 hz2 rfl (by decide) _ _ _ rfl (hpw1.1.alloc _) ⟨w1.heap.size, 0, none⟩ 1 1 [.string ⟨arg.toArray⟩] rfl rfl (cell_one_new _ _ _) (by intro u hu; simp at hu; subst hu; rfl) (by unfold maxLen; omega) (by omega) (by have := hpw1.2.2.size; simp; omega) ?_)
                      intro v' w2 hown' hg' _
                      have hq := pw_append hpw1 hown' hg'
                      clear hown' hg'
                      have hpw2 : PW w v' (args ++ [arg]) arg w2 := ⟨by rw [strC_append, List.length_append]; exact hq.1, hq.2.1, hq.2.2⟩
                      clear hq hpw1
                      go_wp2_with fail
                      refine (reset_any w _ _ _ _ hpw2).mono ?_
                      rintro e w3 ⟨rfl, hpw3⟩
                      go_wp2_with fail
                      go_roundw
                      case rel => exact ⟨k + 1, (args ++ [arg]), [], false, false, false, by omega, by go_num, rfl, rfl, rfl, by simp, by simp; omega, hpw3, HN⟩
                      case measure => simp [intOf]; omega
                  ·
                    have hle : decide ((0 : Int) < (arg.length : Int)) = false := decide_eq_false (by omega)
                    have hl0 : arg = [] := List.length_eq_zero_iff.1 (by omega)
                    cases has with
                    | true =>
                      as_aux_lemma =>
                        have HN := Lib.hid ((pa_at (show nextP (byU s k) (s.data.toList.drop (k + 1)) ⟨args, arg, true, false, false⟩ = (s.data.toList.drop (k + 1), ⟨args ++ [arg], [], false, false, false⟩) from by simp [nextP, h13, cutoff_yes (Or.inr rfl)])).symm.trans hst)
                        clear hst
                        clear h13 hl0
                        go_wp2_with fail
                        refine (len_any w _ args arg _ hpw).mono ?_
                        rintro e w1 ⟨rfl, rfl⟩
                        go_wp2_with fail
                        refine (str_any w _ args arg _ hpw).mono ?_
                        rintro e w1 ⟨rfl, hpw1⟩
                        go_wp2_with (at_builtin; refine wpList_append_own _ rfl (.tmp 113) (.tmp 115) 23 rfl w.heap.size 9 i0 (.string ⟨#[]⟩) 1 16 Try.underlying23 hi hz0 hz1 hz2 rfl (by decide) _ _ _ rfl (hpw1.1.alloc _) ⟨w1.heap.size, 0, none⟩ 1 1 [.string ⟨arg.toArray⟩] rfl rfl (cell_one_new _ _ _) (by intro u hu; simp at hu; subst hu; rfl) (by unfold maxLen; omega) (by omega) (by have := hpw1.2.2.size; simp; omega) ?_)
                        intro v' w2 hown' hg' _
                        have hq := pw_append hpw1 hown' hg'
                        clear hown' hg'
                        have hpw2 : PW w v' (args ++ [arg]) arg w2 := ⟨by rw [strC_append, List.length_append]; exact hq.1, hq.2.1, hq.2.2⟩
                        clear hq hpw1
                        go_wp2_with fail
                        refine (reset_any w _ _ _ _ hpw2).mono ?_
                        rintro e w3 ⟨rfl, hpw3⟩
                        go_wp2_with fail
                        go_roundw
                        case rel => exact ⟨k + 1, (args ++ [arg]), [], false, false, false, by omega, by go_num, rfl, rfl, rfl, by simp, by simp; omega, hpw3, HN⟩
                        case measure => simp [intOf]; omega
                    | false =>
                      as_aux_lemma =>
                        have HN := Lib.hid ((pa_at (show nextP (byU s k) (s.data.toList.drop (k + 1)) ⟨args, arg, false, false, false⟩ = (s.data.toList.drop (k + 1), ⟨args, arg, false, false, false⟩) from by simp [nextP, h13, hl0, cutoff_no])).symm.trans hst)
                        clear hst
                        clear h13 hl0
                        go_wp2_with fail
                        refine (len_any w _ args arg _ hpw).mono ?_
                        rintro e w1 ⟨rfl, rfl⟩
                        go_wp2_with fail
                        go_roundw
                        case rel => exact ⟨k + 1, args, arg, false, false, false, by omega, by go_num, rfl, rfl, rfl, by omega, by omega, hpw, HN⟩
                        case measure => simp [intOf]; omega
                ·
                  by_cases h39 : byU s k = 39
                  ·
                    have hc : wr.cell? ⟨bs, k, none⟩ = some (.int .u8 39) := by rw [hc0, h39]; rfl
                    clear hc0
                    as_aux_lemma =>
                      have HN := Lib.hid ((pa_at (show nextP (byU s k) (s.data.toList.drop (k + 1)) ⟨args, arg, has, false, false⟩ = (s.data.toList.drop (k + 1), ⟨args, arg, true, true, false⟩) from by simp [nextP, h39])).symm.trans hst)
                      clear hst
                      clear h39
                      go_wp2_with fail
                      go_roundw
                      case rel => exact ⟨k + 1, args, arg, true, true, false, by omega, by go_num, rfl, rfl, rfl, by omega, by omega, hpw, HN⟩
                      case measure => simp [intOf]; omega
                  ·
                    by_cases h34 : byU s k = 34
                    ·
                      have hc : wr.cell? ⟨bs, k, none⟩ = some (.int .u8 34) := by rw [hc0, h34]; rfl
                      clear hc0
                      as_aux_lemma =>
                        have HN := Lib.hid ((pa_at (show nextP (byU s k) (s.data.toList.drop (k + 1)) ⟨args, arg, has, false, false⟩ = (s.data.toList.drop (k + 1), ⟨args, arg, true, false, true⟩) from by simp [nextP, h34])).symm.trans hst)
                        clear hst
                        clear h34
                        go_wp2_with fail
                        go_roundw
                        case rel => exact ⟨k + 1, args, arg, true, false, true, by omega, by go_num, rfl, rfl, rfl, by omega, by omega, hpw, HN⟩
                        case measure => simp [intOf]; omega
                    ·
                      by_cases h92 : byU s k = 92
                      ·
                        have hc : wr.cell? ⟨bs, k, none⟩ = some (.int .u8 92) := by rw [hc0, h92]; rfl
                        clear hc0
                        by_cases hk1 : k + 1 < s.size
                        ·
                          have hn0 := pw_cell hpw hbs (HC.out (k + 1) hk1)
                          have hd1 := drop_byU s (k + 1) hk1
                          have hki : (k : Int) + 1 < (s.size : Int) := by omega
                          by_cases n10 : byU s (k + 1) = 10
                          ·
                            have hn : wr.cell? ⟨bs, (k + 1), none⟩ = some (.int .u8 10) := by rw [hn0, n10]; rfl
                            clear hn0
                            as_aux_lemma =>
                              have HN := Lib.hid ((pa_at (show nextP (byU s k) (s.data.toList.drop (k + 1)) ⟨args, arg, has, false, false⟩ = (s.data.toList.drop (k + 1 + 1), ⟨args, arg, has, false, false⟩) from by rw [hd1]; simp [nextP, escN, h92, n10])).symm.trans hst)
                              clear hst
                              clear h92 hd1 n10
                              go_wp2_with fail
                              go_roundw
                              case rel => exact ⟨k + 1 + 1, args, arg, has, false, false, by omega, by go_num, rfl, rfl, rfl, by omega, by omega, hpw, HN⟩
                              case measure => simp [intOf]; omega
                          ·
                            by_cases n13 : byU s (k + 1) = 13
                            ·
                              have hn : wr.cell? ⟨bs, (k + 1), none⟩ = some (.int .u8 13) := by rw [hn0, n13]; rfl
                              clear hn0
                              by_cases hk2 : k + 1 + 1 < s.size
                              ·
                                have hm0 := pw_cell hpw hbs (HC.out (k + 1 + 1) hk2)
                                have hd2 := drop_byU s (k + 1 + 1) hk2
                                have hkj : (k : Int) + 2 < (s.size : Int) := by omega
                                have hka : ((k : Int) + 2).toNat = k + 1 + 1 := by omega
                                by_cases m10 : byU s (k + 1 + 1) = 10
                                ·
                                  have hm : wr.cell? ⟨bs, (k + 1 + 1), none⟩ = some (.int .u8 10) := by rw [hm0, m10]; rfl
                                  clear hm0
                                  as_aux_lemma =>
                                    have HN := Lib.hid ((pa_at (show nextP (byU s k) (s.data.toList.drop (k + 1)) ⟨args, arg, has, false, false⟩ = (s.data.toList.drop (k + 1 + 1 + 1), ⟨args, arg, has, false, false⟩) from by rw [hd1, hd2]; simp [nextP, escN, h92, n13, m10])).symm.trans hst)
                                    clear hst
                                    clear h92 hd1 hd2 n13 m10
                                    go_wp2_with fail
                                    go_roundw
                                    case rel => exact ⟨k + 1 + 1 + 1, args, arg, has, false, false, by omega, by go_num, rfl, rfl, rfl, by omega, by omega, hpw, HN⟩
                                    case measure => simp [intOf]; omega
                                ·
                                  have hm := hm0
                                  clear hm0
                                  have t10m : (((byU s (k + 1 + 1)).toNat : Int) == 10) = false := (b_eq _ 10 (by decide)).trans (decide_eq_false m10)
                                  as_aux_lemma =>
                                    have HN := Lib.hid ((pa_at (show nextP (byU s k) (s.data.toList.drop (k + 1)) ⟨args, arg, has, false, false⟩ = (s.data.toList.drop (k + 1 + 1), ⟨args, arg ++ [13], true, false, false⟩) from by rw [hd1, hd2]; simp [nextP, escN, h92, n13, m10])).symm.trans hst)
                                    clear hst
                                    clear h92 hd1 hd2 n13 m10
                                    go_wp2_with fail
                                    refine (put_any w _ args arg _ hpw 13 13 rfl (by omega)).mono ?_
                                    rintro e w1 ⟨rfl, hpw1⟩
                                    go_wp2_with fail
                                    go_roundw
                                    case rel => exact ⟨k + 1 + 1, args, (arg ++ [13]), true, false, false, by omega, by go_num, rfl, rfl, rfl, by simp; omega, by omega, hpw1, HN⟩
                                    case measure => simp [intOf]; omega
                              ·
                                have hkj : (s.size : Int) ≤ (k : Int) + 2 := by omega
                                have hkd : decide ((k : Int) + 2 < (s.size : Int)) = false := by simp; omega
                                have hd2 := drop_end s (k + 1 + 1) (by omega)
                                as_aux_lemma =>
                                  have HN := Lib.hid ((pa_at (show nextP (byU s k) (s.data.toList.drop (k + 1)) ⟨args, arg, has, false, false⟩ = (s.data.toList.drop (k + 1 + 1), ⟨args, arg ++ [13], true, false, false⟩) from by rw [hd1, hd2]; simp [nextP, escN, h92, n13])).symm.trans hst)
                                  clear hst
                                  clear h92 hd1 hd2 n13
                                  go_wp2_with fail
                                  refine (put_any w _ args arg _ hpw 13 13 rfl (by omega)).mono ?_
                                  rintro e w1 ⟨rfl, hpw1⟩
                                  go_wp2_with fail
                                  go_roundw
                                  case rel => exact ⟨k + 1 + 1, args, (arg ++ [13]), true, false, false, by omega, by go_num, rfl, rfl, rfl, by simp; omega, by omega, hpw1, HN⟩
                                  case measure => simp [intOf]; omega
                            ·
                              have hn := hn0
                              clear hn0
                              have t10n : (((byU s (k + 1)).toNat : Int) == 10) = false := (b_eq _ 10 (by decide)).trans (decide_eq_false n10)
                              have t13n : (((byU s (k + 1)).toNat : Int) == 13) = false := (b_eq _ 13 (by decide)).trans (decide_eq_false n13)
                              as_aux_lemma =>
                                have HN := Lib.hid ((pa_at (show nextP (byU s k) (s.data.toList.drop (k + 1)) ⟨args, arg, has, false, false⟩ = (s.data.toList.drop (k + 1 + 1), ⟨args, arg ++ [byU s (k + 1)], true, false, false⟩) from by rw [hd1]; simp [nextP, escN, h92, n10, n13])).symm.trans hst)
                                clear hst
                                clear h92 hd1 n10 n13
                                go_wp2_with fail
                                refine (put_any w _ args arg _ hpw _ (byU s (k + 1)) rfl (by omega)).mono ?_
                                rintro e w1 ⟨rfl, hpw1⟩
                                go_wp2_with fail
                                go_roundw
                                case rel => exact ⟨k + 1 + 1, args, (arg ++ [byU s (k + 1)]), true, false, false, by omega, by go_num, rfl, rfl, rfl, by simp; omega, by omega, hpw1, HN⟩
                                case measure => simp [intOf]; omega
                        ·
                          have hki : (s.size : Int) ≤ (k : Int) + 1 := by omega
                          have hd1 := drop_end s (k + 1) (by omega)
                          as_aux_lemma =>
                            have HN := Lib.hid ((pa_at (show nextP (byU s k) (s.data.toList.drop (k + 1)) ⟨args, arg, has, false, false⟩ = (s.data.toList.drop (k + 1), ⟨args, arg, has, false, false⟩) from by rw [hd1]; simp [nextP, escN, h92])).symm.trans hst)
                            clear hst
                            clear h92 hd1
                            go_wp2_with fail
                            go_roundw
                            case rel => exact ⟨k + 1, args, arg, has, false, false, by omega, by go_num, rfl, rfl, rfl, by omega, by omega, hpw, HN⟩
                            case measure => simp [intOf]; omega
                      ·
                        have hc := hc0
                        clear hc0
                        have t32h : (((byU s k).toNat : Int) == 32) = false := (b_eq _ 32 (by decide)).trans (decide_eq_false h32)
                        have t9h : (((byU s k).toNat : Int) == 9) = false := (b_eq _ 9 (by decide)).trans (decide_eq_false h9)
                        have t10h : (((byU s k).toNat : Int) == 10) = false := (b_eq _ 10 (by decide)).trans (decide_eq_false h10)
                        have t13h : (((byU s k).toNat : Int) == 13) = false := (b_eq _ 13 (by decide)).trans (decide_eq_false h13)
                        have t39h : (((byU s k).toNat : Int) == 39) = false := (b_eq _ 39 (by decide)).trans (decide_eq_false h39)
                        have t34h : (((byU s k).toNat : Int) == 34) = false := (b_eq _ 34 (by decide)).trans (decide_eq_false h34)
                        have t92h : (((byU s k).toNat : Int) == 92) = false := (b_eq _ 92 (by decide)).trans (decide_eq_false h92)
                        as_aux_lemma =>
                          have HN := Lib.hid ((pa_at (show nextP (byU s k) (s.data.toList.drop (k + 1)) ⟨args, arg, has, false, false⟩ = (s.data.toList.drop (k + 1), ⟨args, arg ++ [byU s k], has, false, false⟩) from by simp [nextP, h32, h9, h10, h13, h39, h34, h92, PSt.put])).symm.trans hst)
                          clear hst
                          clear h32 h9 h10 h13 h39 h34 h92
                          go_wp2_with fail
                          refine (put_any w _ args arg _ hpw _ (byU s k) rfl (by omega)).mono ?_
                          rintro e w1 ⟨rfl, hpw1⟩
                          go_wp2_with fail
                          go_roundw
                          case rel => exact ⟨k + 1, args, (arg ++ [byU s k]), has, false, false, by omega, by go_num, rfl, rfl, rfl, by simp; omega, by omega, hpw1, HN⟩
                          case measure => simp [intOf]; omega
    ·
      have hd0 := drop_end s k (by omega)
      have hst : PSt.fin ⟨args, arg, has, sq, dq⟩ = R := by rw [← hpa.out, hd0]; rfl
      obtain rfl : k = s.size := by omega
      clear hd0 hpa
      by_cases hlen : 0 < arg.length
      ·
        as_aux_lemma =>
          have HN := Lib.hid ((show PSt.fin ⟨args, arg, has, sq, dq⟩ = args ++ [arg] from fin_yes (Or.inl hlen)).symm.trans hst)
          clear hst
          have hle : (0 : Int) < (arg.length : Int) := by omega
          go_wp2_with fail
          refine (len_any w _ args arg _ hpw).mono ?_
          rintro e w1 ⟨rfl, rfl⟩
          go_wp2_with fail
          refine (str_any w _ args arg _ hpw).mono ?_
          rintro e w1 ⟨rfl, hpw1⟩
          go_wp2_with (at_builtin; refine wpList_append_own _ rfl (.tmp 170) (.tmp 172) 23 rfl w.heap.size 9 i0 (.string ⟨#[]⟩) 1 16 Try.underlying23 hi hz0 hz1 hz2 rfl (by decide) _ _ _ rfl (hpw1.1.alloc _) ⟨w1.heap.size, 0, none⟩ 1 1 [.string ⟨arg.toArray⟩] rfl rfl (cell_one_new _ _ _) (by intro u hu; simp at hu; subst hu; rfl) (by unfold maxLen; omega) (by omega) (by have := hpw1.2.2.size; simp; omega) ?_)
          intro v' w2 hown' hg' _
          have hq := pw_append hpw1 hown' hg'
          clear hown' hg'
          have hpw2 : PW w v' (args ++ [arg]) arg w2 := ⟨by rw [strC_append, List.length_append]; exact hq.1, hq.2.1, hq.2.2⟩
          clear hq hpw1
          go_wp2_with fail
          go_ret
          exact ⟨_, rfl, by rw [← HN.out]; exact hpw2.1, hpw2.2.2⟩
      ·
        have hle : decide ((0 : Int) < (arg.length : Int)) = false := decide_eq_false (by omega)
        have hl0 : arg = [] := List.length_eq_zero_iff.1 (by omega)
        cases has with
        | true =>
          as_aux_lemma =>
            have HN := Lib.hid ((show PSt.fin ⟨args, arg, true, sq, dq⟩ = args ++ [arg] from fin_yes (Or.inr rfl)).symm.trans hst)
            clear hst hl0
            go_wp2_with fail
            refine (len_any w _ args arg _ hpw).mono ?_
            rintro e w1 ⟨rfl, rfl⟩
            go_wp2_with fail
            refine (str_any w _ args arg _ hpw).mono ?_
            rintro e w1 ⟨rfl, hpw1⟩
            go_wp2_with (at_builtin; refine wpList_append_own _ rfl (.tmp 170) (.tmp 172) 23 rfl w.heap.size 9 i0 (.string ⟨#[]⟩) 1 16 Try.underlying23 hi hz0 hz1 hz2 rfl (by decide) _ _ _ rfl (hpw1.1.alloc _) ⟨w1.heap.size, 0, none⟩ 1 1 [.string ⟨arg.toArray⟩] rfl rfl (cell_one_new _ _ _) (by intro u hu; simp at hu; subst hu; rfl) (by unfold maxLen; omega) (by omega) (by have := hpw1.2.2.size; simp; omega) ?_)
            intro v' w2 hown' hg' _
            have hq := pw_append hpw1 hown' hg'
            clear hown' hg'
            have hpw2 : PW w v' (args ++ [arg]) arg w2 := ⟨by rw [strC_append, List.length_append]; exact hq.1, hq.2.1, hq.2.2⟩
            clear hq hpw1
            go_wp2_with fail
            go_ret
            exact ⟨_, rfl, by rw [← HN.out]; exact hpw2.1, hpw2.2.2⟩
        | false =>
          as_aux_lemma =>
            have HN := Lib.hid ((show PSt.fin ⟨args, arg, false, sq, dq⟩ = args from by rw [hl0]; exact fin_no).symm.trans hst)
            clear hst hl0
            go_wp2_with fail
            refine (len_any w _ args arg _ hpw).mono ?_
            rintro e w1 ⟨rfl, rfl⟩
            go_wp2_with fail
            go_ret
            exact ⟨_, rfl, by rw [← HN.out]; exact hpw.1, hpw.2.2⟩

end Go.Proofs.Ytiklnckoimeimaa

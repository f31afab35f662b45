/- The walks of fold, Begins, Elements and hasPathPrefix. -/
import Derived.Test.YtinanlnbmknkcaaRows
import Derived.Test.YtinanlnbmknkcaaPlain
import Derived.WalkKit
import Derived.WalkSpells
import Derived.WalkLawsBesides
import Derived.Deep.QuietTactic
import Derived.BigQuiet
import Derived.Lib.Hide
import Derived.Deep.CutRange
namespace Go.Proofs.Ytinanlnbmknkcaa
open Go.RowKit

theorem quiet_left {P : Program} {f : FuncId} {args : Array Value} {w : World} {n : Nat} {v : Value}
    (h : Calls P f args (w.drewN n) fun e w' => e = .returned v ∧ w.drewN n = w') : Calls P f args (w.drewN n) fun e w'' => e = .returned v ∧ ∃ m, w'' = w.drewN m :=
  h.mono fun _ _ ⟨he, hm⟩ => ⟨he, n, hm.symm⟩
theorem drawn_more {w a b : World} (h : ∃ n, a = w.drewN n) (m : Nat) (hb : b = a.drewN m) : ∃ n, b = w.drewN n := by
  obtain ⟨n, rfl⟩ := h
  exact ⟨n + m, by rw [hb, World.drewN_drewN]⟩
theorem ret_int {k : IntKind} {a b : Int} (h : a = b) : Ending.returned (.int k a) = .returned (.int k b) := by rw [h]
theorem ret_bool {a b : Bool} (h : a = b) : Ending.returned (.bool a) = .returned (.bool b) := by rw [h]

set_option maxHeartbeats 400000 in
theorem fold_any (c : Int) (h0 : 0 ≤ c) (h1 : c ≤ 255) (w : World) :
    Calls Try.prog 18 #[.int .u8 c] w fun e w' => e = .returned (.int .u8 (foldI c)) ∧ w = w' := by
  go_enter Try.func18, Try.ntmps18
  go_wp2
  all_goals
    go_ret
    refine ⟨ret_int ?_, rfl⟩
    simp_all [foldI]
  all_goals omega

set_option maxHeartbeats 400000 in
theorem hpp_any (s t : ByteArray) (w : World) (hs : s.size ≤ maxLen) :
    Calls Try.prog 21 #[.string s, .string t] w fun e w' => e = .returned (.bool (elems s t)) ∧ w = w' := by
  unfold maxLen at hs
  by_cases hle : t.size ≤ s.size
  · have hb : decide (s.size < t.size) = false := by simpa using hle
    go_enter Try.func21, Try.ntmps21
    go_wp2
    go_loop [5, 6, 7] (fun i _ _ => ∃ k : Nat, k ≤ t.size ∧ i = .int .i64 k ∧ Hid (agree s t k = true)) (fun i _ _ => t.size - (intOf i).toNat)
    case atStart => exact ⟨0, Nat.zero_le _, rfl, Lib.hid rfl⟩
    case round =>
      obtain ⟨k, hk, rfl, hag⟩ := hrel
      by_cases hlt : k < t.size
      · have hlt' : k < s.size := by omega
        have b1 := by8_bd s k
        have b2 := by8_bd t k
        have b3 := upI_bd (by8 s k) b1.1 b1.2
        have b4 := upI_bd (by8 t k) b2.1 b2.2
        have e1 := (by8_at s k hlt').symm
        have e2 := (by8_at t k hlt).symm
        have HA0 : agree s t (k + 1) = true ↔ slI (upI (by8 s k)) = slI (upI (by8 t k)) := by simp [agree, hag.out, foldI_eq]
        have HA := Lib.hid HA0
        clear HA0
        go_upto_region 9 with (fail)
        go_cut [32] from 13 to 49 (fun a wx => a = .bool (isUp (by8 s k)) ∧ w = wx)
        case first =>
          by_cases hg : 65 ≤ by8 s k
          all_goals
            go_wp2
            go_meet
            case rel => exact ⟨by first | (rw [isUp_no ‹_›]) | (rw [isUp_yes ‹_›]) | (rw [upI_yes ‹_›]) | (rw [upI_no ‹_›]) | (rw [slI_yes ‹_›]) | (rw [slI_no ‹_›]), rfl⟩
        case rest =>
        obtain ⟨rfl, rfl⟩ := hcut
        go_upto_if 32 with (fail)
        go_cut [6] from 13 to 49 (fun a wx => a = .int .i64 (upI (by8 s k)) ∧ w = wx)
        case first =>
          go_wp2
          all_goals
            go_meet
            case rel => exact ⟨by first | (rw [isUp_no ‹_›]) | (rw [isUp_yes ‹_›]) | (rw [upI_yes ‹_›]) | (rw [upI_no ‹_›]) | (rw [slI_yes ‹_›]) | (rw [slI_no ‹_›]), rfl⟩
        case rest =>
        obtain ⟨rfl, rfl⟩ := hcut
        go_upto_region 11 with (fail)
        go_cut [40] from 13 to 49 (fun a wx => a = .bool (isUp (by8 t k)) ∧ w = wx)
        case first =>
          by_cases hg : 65 ≤ by8 t k
          all_goals
            go_wp2
            go_meet
            case rel => exact ⟨by first | (rw [isUp_no ‹_›]) | (rw [isUp_yes ‹_›]) | (rw [upI_yes ‹_›]) | (rw [upI_no ‹_›]) | (rw [slI_yes ‹_›]) | (rw [slI_no ‹_›]), rfl⟩
        case rest =>
        obtain ⟨rfl, rfl⟩ := hcut
        go_upto_if 40 with (fail)
        go_cut [7] from 13 to 49 (fun a wx => a = .int .i64 (upI (by8 t k)) ∧ w = wx)
        case first =>
          go_wp2
          all_goals
            go_meet
            case rel => exact ⟨by first | (rw [isUp_no ‹_›]) | (rw [isUp_yes ‹_›]) | (rw [upI_yes ‹_›]) | (rw [upI_no ‹_›]) | (rw [slI_yes ‹_›]) | (rw [slI_no ‹_›]), rfl⟩
        case rest =>
        obtain ⟨rfl, rfl⟩ := hcut
        go_upto_if 44 with (fail)
        go_cut [6] from 13 to 49 (fun a wx => a = .int .i64 (slI (upI (by8 s k))) ∧ w = wx)
        case first =>
          go_wp2
          all_goals
            go_meet
            case rel => exact ⟨by first | (rw [isUp_no ‹_›]) | (rw [isUp_yes ‹_›]) | (rw [upI_yes ‹_›]) | (rw [upI_no ‹_›]) | (rw [slI_yes ‹_›]) | (rw [slI_no ‹_›]), rfl⟩
        case rest =>
        obtain ⟨rfl, rfl⟩ := hcut
        go_upto_if 46 with (fail)
        go_cut [7] from 13 to 49 (fun a wx => a = .int .i64 (slI (upI (by8 t k))) ∧ w = wx)
        case first =>
          go_wp2
          all_goals
            go_meet
            case rel => exact ⟨by first | (rw [isUp_no ‹_›]) | (rw [isUp_yes ‹_›]) | (rw [upI_yes ‹_›]) | (rw [upI_no ‹_›]) | (rw [slI_yes ‹_›]) | (rw [slI_no ‹_›]), rfl⟩
        case rest =>
        obtain ⟨rfl, rfl⟩ := hcut
        go_wp2
        · go_ret
          exact ⟨ret_bool (elems_part s t k hlt ‹_›).symm, rfl⟩
        · go_round
          case rel => exact ⟨k + 1, by omega, by go_num, Lib.hid (HA.out.2 (by simpa using ‹(slI (upI (by8 s k)) != slI (upI (by8 t k))) = false›))⟩
          case measure => simp [intOf]; omega
      · obtain rfl : k = t.size := by omega
        have he := Lib.hid (elems_end s t hle hag.out)
        by_cases hls : t.size < s.size
        · have e1 := (by8_at s t.size hls).symm
          go_wp2
          all_goals
            go_ret
            refine ⟨ret_bool ?_, rfl⟩
            rw [he.out]
            first | done | simp_all
        · go_wp2
          go_ret
          refine ⟨ret_bool ?_, rfl⟩
          rw [he.out, decide_eq_true (by omega)]
          rfl
  · go_enter Try.func21, Try.ntmps21
    go_wp2
    go_ret
    exact ⟨ret_bool (by simp [elems, begins, hle]), rfl⟩

set_option maxHeartbeats 400000 in
theorem begins_any (s t : ByteArray) (w : World) (hs : s.size ≤ maxLen) :
    Calls Try.prog 17 #[.string s, .string t] w fun e w' => e = .returned (.bool (begins s t)) ∧ ∃ n, w' = w.drewN n := by
  unfold maxLen at hs
  by_cases hle : t.size ≤ s.size
  · have hb : decide (s.size < t.size) = false := by simpa using hle
    go_enter Try.func17, Try.ntmps17
    go_wp2
    go_loopw [5] (fun i wx => ∃ k : Nat, k ≤ t.size ∧ i = .int .i64 k ∧ Hid (agree s t k = true) ∧ ∃ n, wx = w.drewN n) (fun i _ => t.size - (intOf i).toNat)
    case atStart => exact ⟨0, Nat.zero_le _, rfl, Lib.hid rfl, 0, rfl⟩
    case round =>
      obtain ⟨k, hk, rfl, hag, hn⟩ := hrel
      have hw := Lib.hid hn
      clear hn
      by_cases hlt : k < t.size
      · have hlt' : k < s.size := by omega
        have b1 := by8_bd s k
        have b2 := by8_bd t k
        have e1 := (by8_at s k hlt').symm
        have e2 := (by8_at t k hlt).symm
        go_wp2
        go_quiet ((go_at_call 18; exact quiet_left (fold_any _ (by omega) (by omega) _)))
        go_wp2
        · go_ret
          have hne : foldI (by8 s k) ≠ foldI (by8 t k) := by simpa using ‹(foldI (by8 s k) != foldI (by8 t k)) = true›
          exact ⟨ret_bool (by simp [begins, agree_false s t t.size k hlt hne]), drawn_more hw.out _ rfl⟩
        · go_roundw
          case rel =>
            have heq : foldI (by8 s k) = foldI (by8 t k) := by simpa using ‹(foldI (by8 s k) != foldI (by8 t k)) = false›
            exact ⟨k + 1, by omega, by go_num, Lib.hid (by simp [agree, hag.out, heq]), drawn_more hw.out _ rfl⟩
          case measure => simp [intOf]; omega
      · obtain rfl : k = t.size := by omega
        go_wp2
        go_ret
        exact ⟨ret_bool (by simp [begins, hag.out, hle]), hw.out⟩
  · go_enter Try.func17, Try.ntmps17
    go_wp2
    go_ret
    exact ⟨ret_bool (by simp [begins, hle]), 0, rfl⟩

set_option maxHeartbeats 400000 in
theorem elements_any (s t : ByteArray) (w : World) (hs : s.size ≤ maxLen) :
    Calls Try.prog 11 #[.string s, .string t] w fun e w' => e = .returned (.bool (elems s t)) ∧ ∃ n, w' = w.drewN n := by
  have hb := Lib.hid (begins_any s t w hs)
  unfold maxLen at hs
  by_cases hbe : begins s t = true
  · have hle : t.size ≤ s.size := by simp [begins] at hbe; exact hbe.1
    have b1 := by8_bd s t.size
    have hel : elems s t = (decide (s.size = t.size) || decide (foldI (by8 s t.size) = 47)) := by simp [elems, hbe]
    have hel := Lib.hid hel
    rw [hbe] at hb
    clear hbe
    by_cases hz : s.size = t.size
    · have hz1 : ((s.size : Int) == (t.size : Int)) = true := by simp [hz]
      have Hz := Lib.hid hz
      clear hz
      go_enter Try.func11, Try.ntmps11
      go_wp2_with fail
      refine hb.out.mono ?_
      rintro e w' ⟨rfl, n, rfl⟩
      go_wp2_with fail
      go_ret
      exact ⟨ret_bool (by rw [hel.out]; simp [Hz.out]), n, rfl⟩
    · have hz1 : ((s.size : Int) == (t.size : Int)) = false := by simp; omega
      have hlt : t.size < s.size := by omega
      have e1 := (by8_at s t.size hlt).symm
      go_enter Try.func11, Try.ntmps11
      go_wp2_with fail
      refine hb.out.mono ?_
      rintro e w' ⟨rfl, n, rfl⟩
      go_wp2_with (go_at_call 18; refine (fold_any _ (by omega) (by omega) _).mono ?_; rintro e w' ⟨rfl, rfl⟩)
      go_ret
      exact ⟨ret_bool (by rw [hel.out, decide_eq_false hz, Bool.false_or]; rfl), n, rfl⟩
  · have hbe : begins s t = false := by simpa using hbe
    rw [hbe] at hb
    go_enter Try.func11, Try.ntmps11
    go_wp2_with fail
    refine hb.out.mono ?_
    rintro e w' ⟨rfl, n, rfl⟩
    go_wp2_with fail
    go_ret
    exact ⟨ret_bool (by simp [elems, hbe]), n, rfl⟩

end Go.Proofs.Ytinanlnbmknkcaa

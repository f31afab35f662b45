/- named: a text may be a leading part of names or a replacement. -/
import Derived.Test.YtinanlnbmknkcaaTwo
import Derived.Deep.CutRange
namespace Go.Proofs.Ytinanlnbmknkcaa
open Go.RowKit

theorem isEmpty_of {s : ByteArray} (h : s.size = 0) : s.toList = [] := by
  rw [ByteArray.toList_eq]
  exact List.length_eq_zero_iff.1 (by simpa using h)
theorem toList_ne {a b : ByteArray} (h : a ≠ b) : (a.toList == b.toList) = false := by
  rw [beq_eq_false_iff_ne]
  intro e
  rw [ByteArray.toList_eq, ByteArray.toList_eq] at e
  exact h (ByteArray.ext (Array.toList_inj.mp e))
theorem not_empty {s : ByteArray} (h : 0 < s.size) : ¬ s.toList = [] := by
  rw [ByteArray.toList_eq]
  intro e
  have h1 : s.data.toList.length = s.size := by simp
  rw [e] at h1
  simp at h1
  omega

/-- What may not stand at place k. -/
def badAt (s : ByteArray) (k : Nat) : Bool := by8 s k == 59 || (by8 s k == 61 && decide (k + 1 < s.size) && by8 s (k + 1) == 62) || by8 s k == 92
def fineTo (s : ByteArray) : Nat → Bool
  | 0 => true
  | k + 1 => fineTo s k && !badAt s k
def namedB (s : ByteArray) : Bool := fineTo s s.size && (decide (0 < s.size) && (!(by8 s (s.size - 1) == 47) && !(by8 s (s.size - 1) == 61)))

theorem fineTo_false (s : ByteArray) (n k : Nat) (hk : k < n) (h : badAt s k = true) : fineTo s n = false := by
  induction n with
  | zero => omega
  | succ n ih =>
    by_cases e : k = n
    · subst e; simp [fineTo, h]
    · simp only [fineTo, ih (by omega), Bool.false_and]
theorem fineTo_at (s : ByteArray) (n : Nat) (h : fineTo s n = true) : ∀ k, k < n → badAt s k = false := by
  induction n with
  | zero => intro k hk; omega
  | succ n ih =>
    intro k hk
    simp only [fineTo, Bool.and_eq_true] at h
    by_cases e : k = n
    · subst e; simpa using h.2
    · exact ih h.1 k (by omega)

set_option maxHeartbeats 1000000 in
theorem named_any (s : ByteArray) (w : World) (hs : s.size ≤ 1099511627776) :
    Calls Try.prog 13 #[.string s] w fun e w' => e = .returned (.bool (namedB s)) ∧ w = w' := by
  go_enter Try.func13, Try.ntmps13
  go_wp2
  go_loop [3] (fun i => ∃ k : Nat, k ≤ s.size ∧ i = .int .i64 k ∧ Hid (fineTo s k = true)) (fun i => s.size - (intOf i).toNat)
  case atStart => exact ⟨0, Nat.zero_le _, rfl, Lib.hid rfl⟩
  case round =>
    obtain ⟨k, hk, rfl, hf⟩ := hrel
    by_cases hlt : k < s.size
    · have e1 := (by8_at s k hlt).symm
      go_upto_region 4 with (fail)
      go_cut [39] from 4 to 39 (fun c wx => c = .bool (badAt s k) ∧ w = wx)
      case first =>
        by_cases h1 : k + 1 < s.size
        · have e2 := (by8_at s (k + 1) h1).symm
          have e3 : ((k : Int) + 1).toNat = k + 1 := by omega
          have hd : decide ((k : Int) + 1 < (s.size : Int)) = true := by simp; omega
          go_wp2
          all_goals
            go_meet
            case rel => exact ⟨congrArg Value.bool (by rw [Bool.eq_iff_iff]; simp [badAt, *]), rfl⟩
        · have hd : decide ((k : Int) + 1 < (s.size : Int)) = false := by simp; omega
          go_wp2
          all_goals
            go_meet
            case rel => exact ⟨congrArg Value.bool (by rw [Bool.eq_iff_iff]; simp [badAt, *]), rfl⟩
      case rest =>
        obtain ⟨rfl, rfl⟩ := hcut
        go_wp2
        · go_ret
          exact ⟨ret_bool (by simp [namedB, fineTo_false s s.size k hlt ‹badAt s k = true›]), rfl⟩
        · go_round
          case rel => exact ⟨k + 1, by omega, by go_num, Lib.hid (by simp [fineTo, hf.out, ‹badAt s k = false›])⟩
          case measure => simp [intOf]; omega
    · obtain rfl : k = s.size := by omega
      by_cases h0 : 0 < s.size
      · have hne := not_empty h0
        have e1 := (by8_at s (s.size - 1) (by omega)).symm
        have e3 : ((s.size : Int) - 1).toNat = s.size - 1 := by omega
        have hf' : namedB s = (!(by8 s (s.size - 1) == 47) && !(by8 s (s.size - 1) == 61)) := by simp [namedB, hf.out, h0]
        have HF := Lib.hid hf'
        clear hf'
        go_wp2
        all_goals
          go_ret
          exact ⟨ret_bool (by rw [HF.out, Bool.eq_iff_iff]; simp [*]), rfl⟩
      · have hem := isEmpty_of (s := s) (by omega)
        go_wp2
        go_ret
        exact ⟨ret_bool (by simp [namedB, h0]), rfl⟩

end Go.Proofs.Ytinanlnbmknkcaa

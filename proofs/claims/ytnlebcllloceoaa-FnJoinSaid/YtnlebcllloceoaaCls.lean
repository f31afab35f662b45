/- The walks of impl.Prefix, Clean and Has; far on one and on two texts. -/
import Derived.Test.YtnlebcllloceoaaP2p
import Derived.Test.YtnlebcllloceoaaFar
namespace Go.Proofs.Ytnlebcllloceoaa
open Go.RowKit

theorem toList_ne {a b : ByteArray} (h : a ≠ b) : (a.toList == b.toList) = false := by
  rw [beq_eq_false_iff_ne]
  intro e
  rw [ByteArray.toList_eq, ByteArray.toList_eq] at e
  exact h (ByteArray.ext (Array.toList_inj.mp e))

theorem prefix_any (s : ByteArray) (hs : s.size ≤ 1099511627776) (w : World) :
    Calls Try.prog 8 #[.string s] w fun e w' => e = .returned (.string (pre s)) ∧ Below w.heap.size w w' := by
  have hp := Lib.hid (p2p_any s hs w)
  go_enter Try.func8, Try.ntmps8
  go_wp2_with fail
  refine hp.out.mono ?_
  rintro e w' ⟨rfl, hb⟩
  go_wp2_with fail
  go_ret
  exact ⟨rfl, hb⟩

set_option maxHeartbeats 400000 in
theorem clean_any (s : ByteArray) (hs : s.size ≤ maxLen) (w : World) :
    Calls Try.prog 9 #[.string s] w fun e w' => e = .returned (.bool (cleanTo s s.size)) ∧ w = w' := by
  unfold maxLen at hs
  go_enter Try.func9, Try.ntmps9
  go_wp2
  go_loop [3] (fun i => ∃ k : Nat, k ≤ s.size ∧ i = .int .i64 k ∧ Hid (cleanTo s k = true)) (fun i => s.size - (intOf i).toNat)
  case atStart => exact ⟨0, Nat.zero_le _, rfl, Lib.hid rfl⟩
  case round =>
    obtain ⟨k, hk, rfl, hc⟩ := hrel
    by_cases hlt : k < s.size
    · have e1 := (by8_at s k hlt).symm
      have b1 := by8_bd s k
      cases hp : plainI (by8 s k) with
      | true =>
        go_wp2_with (go_at_call 13; refine (plain_any _ _).mono ?_; rintro e w' ⟨rfl, rfl⟩)
        go_round
        case rel => exact ⟨k + 1, by omega, by go_num, Lib.hid (by simp [cleanTo, hc.out, hp])⟩
        case measure => simp [intOf]; omega
      | false =>
        go_wp2_with (go_at_call 13; refine (plain_any _ _).mono ?_; rintro e w' ⟨rfl, rfl⟩)
        · go_ret
          have h37 : (by8 s k == 37) = false := by simpa using ‹(by8 s k != 37) = true›
          exact ⟨ret_bool (cleanTo_false s s.size k hlt (by rw [hp, h37]; rfl)).symm, rfl⟩
        · go_round
          case rel =>
            have h37 : (by8 s k == 37) = true := by simpa using ‹(by8 s k != 37) = false›
            exact ⟨k + 1, by omega, by go_num, Lib.hid (by simp only [cleanTo, hc.out, h37, Bool.or_true, Bool.and_self])⟩
          case measure => simp [intOf]; omega
    · obtain rfl : k = s.size := by omega
      go_wp2
      go_ret
      exact ⟨ret_bool hc.out.symm, rfl⟩

set_option maxHeartbeats 400000 in
theorem hasB_any (s : ByteArray) (c : Int) (hs : s.size ≤ maxLen) (w : World) :
    Calls Try.prog 10 #[.string s, .int .u8 c] w fun e w' => e = .returned (.bool (hasTo s c s.size)) ∧ w = w' := by
  unfold maxLen at hs
  go_enter Try.func10, Try.ntmps10
  go_wp2
  go_loop [5] (fun i => ∃ k : Nat, k ≤ s.size ∧ i = .int .i64 k ∧ Hid (hasTo s c k = false)) (fun i => s.size - (intOf i).toNat)
  case atStart => exact ⟨0, Nat.zero_le _, rfl, Lib.hid rfl⟩
  case round =>
    obtain ⟨k, hk, rfl, hc⟩ := hrel
    by_cases hlt : k < s.size
    · have e1 := (by8_at s k hlt).symm
      go_wp2
      · go_ret
        have hh : by8 s k = c := by simpa using ‹(by8 s k == c) = true›
        exact ⟨ret_bool (hasTo_true s c s.size k hlt hh).symm, rfl⟩
      · go_round
        case rel => exact ⟨k + 1, by omega, by go_num, Lib.hid (by simp only [hasTo, hc.out, Bool.false_or]; exact ‹(by8 s k == c) = false›)⟩
        case measure => simp [intOf]; omega
    · obtain rfl : k = s.size := by omega
      go_wp2
      go_ret
      exact ⟨ret_bool hc.out.symm, rfl⟩

/-- The list of one text, of two texts, in its new block. -/
theorem far1 (s : ByteArray) (w : World) (hs : s.size ≤ 2147483647) :
    Calls Try.prog 7 #[.slice (some ⟨w.heap.size, 0, none⟩) 1 1] (w.alloc (.cells #[.string s] 9)) fun e w' =>
      e = .returned (.bool (decide ((65536 : Int) < (s.size : Int)))) ∧ (w.alloc (.cells #[.string s] 9)) = w' := by
  have e : tot [s] 1 = s.size := by simp [tot]
  have h := far_any [s] w.heap.size 0 1 1 (w.alloc (.cells #[.string s] 9)) (by omega)
    (fun i hi => by
      match i, hi with
      | 0, _ => simp [World.cell?_alloc_new]) (by rw [e]; omega)
  rwa [e] at h

theorem far2 (s t : ByteArray) (w : World) (hs : s.size ≤ 2147483647) (ht : t.size ≤ 2147483647) :
    Calls Try.prog 7 #[.slice (some ⟨w.heap.size, 0, none⟩) 2 2] (w.alloc (.cells #[.string s, .string t] 9)) fun e w' =>
      e = .returned (.bool (decide ((65536 : Int) < ((s.size + t.size : Nat) : Int)))) ∧ (w.alloc (.cells #[.string s, .string t] 9)) = w' := by
  have e : tot [s, t] 2 = s.size + t.size := by simp [tot]
  have h := far_any [s, t] w.heap.size 0 2 2 (w.alloc (.cells #[.string s, .string t] 9)) (by omega)
    (fun i hi => by
      match i, hi with
      | 0, _ => simp [World.cell?_alloc_new]
      | 1, _ => simp [World.cell?_alloc_new]) (by rw [e]; omega)
  rwa [e] at h

end Go.Proofs.Ytnlebcllloceoaa

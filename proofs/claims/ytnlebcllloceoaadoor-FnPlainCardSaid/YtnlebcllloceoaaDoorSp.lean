/- The walks of impl.Path, of the reference's value, Path and Simple. -/
import Derived.Test.YtnlebcllloceoaaDoorP2r
import Derived.IntWalk
namespace Go.Proofs.YtnlebcllloceoaaDoor
open Go.RowKit

/-- What impl.Path and the reference's Path answer. -/
def pathTuple : Option (List UInt8) → Value
  | some l => .tuple #[.string ⟨l.toArray⟩, .bool true]
  | none => .tuple #[.string ⟨#[]⟩, .bool false]

theorem path_any (s : ByteArray) (hs : s.size ≤ 1099511627776) (w : World) (te : TypeId) (pe : Value) (hv : w.cell? ⟨1, 0, none⟩ = some (.iface te pe)) :
    Calls Tryd.prog 7 #[.string s] w fun e w' => e = .returned (pathTuple (dec s.data.toList)) ∧ Below w.heap.size w w' := by
  have HP := Lib.hid (p2r_any s hs w te pe hv)
  clear hv
  cases hd : dec s.data.toList with
  | some l =>
    rw [hd] at HP
    have H2 : Hid (Calls Tryd.prog 11 #[.string s] w fun e w' => e = .returned (.tuple #[.string ⟨l.toArray⟩, .nilIface]) ∧ Below w.heap.size w w') := Lib.hid (HP.out.mono fun _ _ h => ⟨h.2, h.1⟩)
    clear HP hd
    go_enter Tryd.func7, Tryd.ntmps7
    go_wp2_with fail
    refine H2.out.mono ?_
    rintro e w1 ⟨rfl, hb⟩
    go_wp2_with fail
    go_ret2
    exact ⟨rfl, hb⟩
  | none =>
    rw [hd] at HP
    have H2 : Hid (Calls Tryd.prog 11 #[.string s] w fun e w' => ∃ N, e = .returned (.tuple #[.string ⟨#[]⟩, .iface 43 (.pointer (some ⟨N, 0, none⟩))]) ∧ Below w.heap.size w w') := Lib.hid (HP.out.mono fun _ _ h => by
      obtain ⟨hb, N, he⟩ := h
      exact ⟨N, he, hb⟩)
    clear HP hd
    go_enter Tryd.func7, Tryd.ntmps7
    go_wp2_with fail
    refine H2.out.mono ?_
    rintro e w1 ⟨N, rfl, hb⟩
    go_wp2_with fail
    go_ret2
    exact ⟨rfl, hb⟩

/-- The value of a digit of base 16, or -1. -/
def valZ (c : UInt8) : Int := if valH c < 16 then (valH c : Int) else -1

theorem value_any (c : UInt8) (w : World) : Calls Tryd.prog 12 #[.int .u8 (c.toNat : Int)] w fun e w' => e = .returned (.int .i64 (valZ c)) ∧ w = w' := by
  have hc := c.toNat_lt
  by_cases h1 : 48 ≤ c.toNat ∧ c.toNat ≤ 57
  · have hz : valZ c = (c.toNat : Int) - 48 := by unfold valZ valH; rw [if_pos h1, if_pos (by omega)]; omega
    have HZ := Lib.hid hz
    obtain ⟨h1, h2⟩ := h1
    clear hz
    go_enter Tryd.func12, Tryd.ntmps12
    go_wp2
    go_ret
    exact ⟨ret_int (by rw [HZ.out]), rfl⟩
  · by_cases h2 : 97 ≤ c.toNat ∧ c.toNat ≤ 102
    · have hz : valZ c = (c.toNat : Int) - 97 + 10 := by unfold valZ valH; rw [if_neg h1, if_pos h2, if_pos (by omega)]; omega
      have HZ := Lib.hid hz
      obtain ⟨h2, h3⟩ := h2
      clear hz h1
      go_enter Tryd.func12, Tryd.ntmps12
      go_wp2
      go_ret
      exact ⟨ret_int (by rw [HZ.out]), rfl⟩
    · by_cases h3 : 65 ≤ c.toNat ∧ c.toNat ≤ 70
      · have hz : valZ c = (c.toNat : Int) - 65 + 10 := by unfold valZ valH; rw [if_neg h1, if_neg h2, if_pos h3, if_pos (by omega)]; omega
        have HZ := Lib.hid hz
        obtain ⟨h3, h4⟩ := h3
        clear hz h1 h2
        go_enter Tryd.func12, Tryd.ntmps12
        go_wp2
        go_ret
        exact ⟨ret_int (by rw [HZ.out]), rfl⟩
      · have hz : valZ c = -1 := by unfold valZ valH; rw [if_neg h1, if_neg h2, if_neg h3, if_neg (by omega)]
        have HZ := Lib.hid hz
        clear hz
        go_enter Tryd.func12, Tryd.ntmps12
        go_wp2
        all_goals go_ret
        all_goals exact ⟨ret_int (by rw [HZ.out]), rfl⟩

/-- The first n bytes stay as they are. -/
def staysTo (s : ByteArray) (f : Nat) : Nat → Bool
  | 0 => true
  | k + 1 => staysTo s f k && stays s f k

theorem staysTo_false (s : ByteArray) (f n k : Nat) (hk : k < n) (h : stays s f k = false) : staysTo s f n = false := by
  induction n with
  | zero => omega
  | succ n ih =>
    by_cases e : k = n
    · subst e; simp [staysTo, h]
    · simp [staysTo, ih (by omega)]

theorem staysTo_escs (s : ByteArray) (f n : Nat) (h : staysTo s f n = true) : escs s f n = 0 := by
  induction n with
  | zero => rfl
  | succ n ih =>
    simp only [staysTo, Bool.and_eq_true] at h
    rw [escs_yes h.2, ih h.1]

set_option maxHeartbeats 1000000 in
theorem simple_any (s : ByteArray) (hs : s.size ≤ 1099511627776) (w : World) :
    Calls Tryd.prog 10 #[.string s] w fun e w' => e = .returned (.bool (staysTo s (lastTo s s.size) s.size)) ∧ w = w' := by
  have hL := Lib.hid (last_any s (by unfold maxLen; omega))
  have hf := lastTo_le s s.size
  generalize lastTo s s.size = f at hL hf ⊢
  go_enter Tryd.func10, Tryd.ntmps10
  go_wp2
  go_loop [3] (fun i => ∃ k : Nat, k ≤ s.size ∧ i = .int .i64 k ∧ Hid (staysTo s f k = true)) (fun i => s.size - (intOf i).toNat)
  case atStart => exact ⟨0, Nat.zero_le _, rfl, Lib.hid rfl⟩
  case round =>
    obtain ⟨k, hk, rfl, hc⟩ := hrel
    by_cases hlt : k < s.size
    · have e1 := (by8_at s k hlt).symm
      have b1 := by8_bd s k
      cases hst : stays s f k with
      | true =>
        have HN : Hid (staysTo s f (k + 1) = true) := Lib.hid (by simp only [staysTo, hc.out, hst, Bool.and_self])
        have hp : plainI (by8 s k) = true := by simp only [stays, Bool.and_eq_true] at hst; exact hst.1
        have hq : (by8 s k == 46) = false ∨ k < f := by
          simp only [stays, Bool.and_eq_true, Bool.or_eq_true, Bool.not_eq_true', decide_eq_true_eq] at hst
          exact hst.2
        clear hst hc
        rcases hq with hq | hq
        · go_wp2_with (go_at_call 14; refine (plain_any _ _).mono ?_; rintro e w' ⟨rfl, rfl⟩)
          go_round
          case rel => exact ⟨k + 1, by omega, by go_num, HN⟩
          case measure => simp [intOf]; omega
        · cases h46 : (by8 s k == 46) with
          | false =>
            go_wp2_with (go_at_call 14; refine (plain_any _ _).mono ?_; rintro e w' ⟨rfl, rfl⟩)
            go_round
            case rel => exact ⟨k + 1, by omega, by go_num, HN⟩
            case measure => simp [intOf]; omega
          | true =>
            go_wp2_with (first | (go_at_call 14; refine (plain_any _ _).mono ?_; rintro e w' ⟨rfl, rfl⟩) | (go_at_call 15; refine (hL.out _).mono ?_; rintro e w' ⟨rfl, rfl⟩))
            go_round
            case rel => exact ⟨k + 1, by omega, by go_num, HN⟩
            case measure => simp [intOf]; omega
      | false =>
        have HF := Lib.hid (staysTo_false s f s.size k hlt hst)
        cases hp : plainI (by8 s k) with
        | false =>
          clear hst
          go_wp2_with (go_at_call 14; refine (plain_any _ _).mono ?_; rintro e w' ⟨rfl, rfl⟩)
          go_ret
          exact ⟨ret_bool HF.out.symm, rfl⟩
        | true =>
          have h46 : (by8 s k == 46) = true := by
            cases h : (by8 s k == 46) with
            | true => rfl
            | false => simp [stays, hp, h] at hst
          have hkf : f ≤ k := by
            rw [stays, hp, h46] at hst
            simpa using hst
          clear hst
          go_wp2_with (first | (go_at_call 14; refine (plain_any _ _).mono ?_; rintro e w' ⟨rfl, rfl⟩) | (go_at_call 15; refine (hL.out _).mono ?_; rintro e w' ⟨rfl, rfl⟩))
          go_ret
          exact ⟨ret_bool HF.out.symm, rfl⟩
    · obtain rfl : k = s.size := by omega
      go_wp2
      go_ret
      exact ⟨ret_bool hc.out.symm, rfl⟩

end Go.Proofs.YtnlebcllloceoaaDoor

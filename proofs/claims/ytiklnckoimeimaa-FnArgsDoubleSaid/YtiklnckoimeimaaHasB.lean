/- The walk of the reference's Has. -/
import Derived.Test.YtiklnckoimeimaaSw
namespace Go.Proofs.Ytiklnckoimeimaa
open Go.RowKit

theorem mem_byU (s : ByteArray) (c : UInt8) : c ∈ s.data.toList ↔ ∃ k, k < s.size ∧ byU s k = c := by
  rw [List.mem_iff_getElem]
  constructor
  · rintro ⟨k, hk, rfl⟩
    have hk' : k < s.size := by simpa using hk
    exact ⟨k, hk', by rw [byU, List.getD_eq_getElem?_getD, List.getElem?_eq_getElem hk]; rfl⟩
  · rintro ⟨k, hk, rfl⟩
    have hk' : k < s.data.toList.length := by simpa using hk
    exact ⟨k, hk', by rw [byU, List.getD_eq_getElem?_getD, List.getElem?_eq_getElem hk']; rfl⟩

theorem u_eq (a b : UInt8) : (((a.toNat : Int)) == (b.toNat : Int)) = decide (a = b) := by
  rw [Bool.eq_iff_iff]
  simp only [beq_iff_eq, decide_eq_true_eq]
  constructor
  · intro e
    exact UInt8.toNat_inj.1 (by omega)
  · rintro rfl; rfl

/-- What Has answers. -/
def HasB (s : ByteArray) (c : UInt8) (w : World) (e : Ending) (w' : World) : Prop := e = .returned (.bool (decide (c ∈ s.data.toList))) ∧ w = w'

set_option maxHeartbeats 400000 in
theorem hasB_any (s : ByteArray) (c : UInt8) (ci : Int) (hci : ci = (c.toNat : Int)) (hs : s.size ≤ 68719476736) (w : World) :
    Calls Try.prog 18 #[.string s, .int .u8 ci] w (HasB s c w) := by
  subst hci
  go_enter Try.func18, Try.ntmps18
  go_wp2
  go_loop [5] (fun i => ∃ k : Nat, k ≤ s.size ∧ i = .int .i64 k ∧ Hid (∀ j, j < k → byU s j ≠ c)) (fun i => s.size - (intOf i).toNat)
  case atStart => exact ⟨0, Nat.zero_le _, rfl, Lib.hid fun j hj => by omega⟩
  case round =>
    obtain ⟨k, hk, rfl, hf⟩ := hrel
    by_cases hlt : k < s.size
    · have e1 := byInt s k hlt
      by_cases hc : byU s k = c
      · have t : (((byU s k).toNat : Int) == (c.toNat : Int)) = true := (u_eq _ _).trans (decide_eq_true hc)
        have Hc := Lib.hid hc
        clear hc
        go_wp2
        go_ret
        exact ⟨ret_bool (decide_eq_true ((mem_byU s c).2 ⟨k, hlt, Hc.out⟩)).symm, rfl⟩
      · have t : (((byU s k).toNat : Int) == (c.toNat : Int)) = false := (u_eq _ _).trans (decide_eq_false hc)
        have Hc := Lib.hid hc
        clear hc
        go_wp2
        go_round
        case rel => exact ⟨k + 1, by omega, by go_num, Lib.hid fun j hj => by
          by_cases e : j = k
          · subst e; exact Hc.out
          · exact hf.out j (by omega)⟩
        case measure => simp [intOf]; omega
    · obtain rfl : k = s.size := by omega
      go_wp2
      go_ret
      refine ⟨ret_bool (decide_eq_false ?_).symm, rfl⟩
      rw [mem_byU]
      rintro ⟨j, hj, e⟩
      exact hf.out j hj e
end Go.Proofs.Ytiklnckoimeimaa

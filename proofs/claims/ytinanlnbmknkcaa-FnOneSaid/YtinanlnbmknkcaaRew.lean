/- The walks of impl.One, ApplyRewrites at one rewrite, and impl.Rewrite. -/
import Derived.Test.YtinanlnbmknkcaaApply
namespace Go.Proofs.Ytinanlnbmknkcaa
open Go.RowKit

theorem drawn_then {w a b : World} (h : ∃ n, a = w.drewN n) (k : ∃ n, b = a.drewN n) : ∃ n, b = w.drewN n := by
  obtain ⟨n, rfl⟩ := h
  obtain ⟨m, rfl⟩ := k
  exact ⟨n + m, World.drewN_drewN ..⟩

theorem oneB_false (path r : ByteArray) (h : (oneB path r).2 = false) : (oneB path r).1 = path := by
  unfold oneB aprB at *
  split at h
  · rename_i hc; rw [if_pos hc]
  · split at h
    · exact absurd h (by simp)
    · split at h <;> exact absurd h (by simp)

set_option maxHeartbeats 400000 in
theorem one_any (path r : ByteArray) (w : World) (hp : path.size ≤ 1099511627776) (hr : r.size ≤ 1099511627776) :
    Calls Try.prog 14 #[.string path, .string r] w fun e w' => e = .returned (.tuple #[.string (oneB path r).1, .bool (oneB path r).2]) ∧ ∃ n, w' = w.drewN n := by
  have ha := Lib.hid (apply_any path r w hp hr)
  go_enter Try.func14, Try.ntmps14
  go_wp2_with (first | (go_at_call 22; refine ha.out.mono ?_; rintro e w' ⟨rfl, hw⟩) | go_in)
  go_ret2
  exact ⟨rfl, hw⟩

set_option maxHeartbeats 1000000 in
theorem rewrites_any (path r : ByteArray) (w : World) (hp : path.size ≤ 1099511627776) (hr : r.size ≤ 1099511627776) (hs : ∀ i, i < r.size → by8 r i ≠ 59) :
    Calls Try.prog 20 #[.string path, .string r] w fun e w' => e = .returned (.tuple #[.string (oneB path r).1, .bool (oneB path r).2]) ∧ ∃ n, w' = w.drewN n := by
  have hS := Lib.hid hs
  clear hs
  have hA := Lib.hid (fun W => apply_any path r W hp hr)
  go_enter Try.func20, Try.ntmps20
  go_wp2
  go_loopw [6, 7] (fun a i wx => ∃ k : Nat, k ≤ r.size + 1 ∧ i = .int .i64 k ∧ (k ≤ r.size → a = .int .i64 0) ∧ (k = r.size + 1 → Hid ((oneB path r).2 = false)) ∧ ∃ n, wx = w.drewN n) (fun _ i _ => r.size + 1 - (intOf i).toNat)
  case atStart => exact ⟨0, Nat.zero_le _, rfl, fun _ => rfl, fun h => by omega, 0, rfl⟩
  case round =>
    obtain ⟨k, hk, rfl, hz, hd, hn⟩ := hrel
    have hw := Lib.hid hn
    clear hn
    rcases (by omega : k < r.size ∨ k = r.size ∨ k = r.size + 1) with hlt | hlt | hlt
    · obtain rfl := hz (by omega)
      have e1 := (by8_at r k hlt).symm
      have h59 : (by8 r k == 59) = false := by simpa using hS.out k hlt
      have hkk : ((k : Int) == (r.size : Int)) = false := by simp; omega
      clear hd hz
      go_wp2_with fail
      go_roundw
      case rel => exact ⟨k + 1, by omega, by go_num, fun _ => rfl, fun h => by omega, hw.out⟩
      case measure => simp [intOf]; omega
    · subst hlt
      obtain rfl := hz (by omega)
      clear hd hz
      have hA1 := fun W => hA.out W
      cases hb : (oneB path r).2 with
      | true =>
        rw [hb] at hA1
        have HA := Lib.hid hA1
        have Hb := Lib.hid hb
        clear hA1 hA hb
        go_wp2_with fail
        refine (HA.out _).mono ?_
        rintro e w1 ⟨rfl, hw1⟩
        have Hw1 := Lib.hid hw1
        clear hw1
        go_wp2_with fail
        go_ret2
        exact ⟨ret_two rfl Hb.out.symm, drawn_then hw.out Hw1.out⟩
      | false =>
        rw [hb] at hA1
        have HA := Lib.hid hA1
        have Hb := Lib.hid hb
        clear hA1 hA hb
        go_wp2_with fail
        refine (HA.out _).mono ?_
        rintro e w1 ⟨rfl, hw1⟩
        have Hw1 := Lib.hid hw1
        clear hw1
        go_wp2_with fail
        go_roundw
        case rel => exact ⟨r.size + 1, Nat.le_refl _, by go_num, fun h => by omega, fun _ => Lib.hid trivial, drawn_then hw.out Hw1.out⟩
        case measure => simp [intOf]
    · subst hlt
      have hd' := hd rfl
      clear hd hz
      go_wp2_with fail
      go_ret2
      exact ⟨ret_two (oneB_false path r hd'.out).symm hd'.out.symm, hw.out⟩

set_option maxHeartbeats 400000 in
theorem rewrite_any (path r : ByteArray) (w : World) (hp : path.size ≤ 1099511627776) (hr : r.size ≤ 1099511627776) (hs : ∀ i, i < r.size → by8 r i ≠ 59) :
    Calls Try.prog 15 #[.string path, .string r] w fun e w' => e = .returned (.tuple #[.string (oneB path r).1, .bool (oneB path r).2]) ∧ ∃ n, w' = w.drewN n := by
  have ha := Lib.hid (rewrites_any path r w hp hr hs)
  clear hs
  go_enter Try.func15, Try.ntmps15
  go_wp2_with (go_at_call 20; refine ha.out.mono ?_; rintro e w' ⟨rfl, hw⟩)
  go_ret2
  exact ⟨rfl, hw⟩

end Go.Proofs.Ytinanlnbmknkcaa

/- The walks of applyRewrite, ApplyRewrites, impl.One and impl.Rewrite. -/
import Derived.Test.YtinanlnbmknkcaaCut
import Derived.Test.YtinanlnbmknkcaaShelf
namespace Go.Proofs.Ytinanlnbmknkcaa
open Go.RowKit

theorem ret_two {a a' : ByteArray} {b b' : Bool} (h : a = a') (k : b = b') : Ending.returned (.tuple #[.string a, .bool b]) = .returned (.tuple #[.string a', .bool b']) := by rw [h, k]

theorem not_empty2 {s : ByteArray} (h : 0 < s.size) : s.toList.isEmpty = false := by
  have := not_empty h
  cases e : s.toList.isEmpty with
  | false => rfl
  | true => exact absurd (List.isEmpty_iff.1 e) this
theorem leftOf_size (r : ByteArray) : (leftOf r).size ≤ r.size := by
  unfold leftOf; split
  · exact Nat.le_refl _
  · rw [ByteArray.size_extract]; omega
theorem rightOf_size (r : ByteArray) : (rightOf r).size ≤ r.size := by
  unfold rightOf; split
  · exact Nat.zero_le _
  · rw [ByteArray.size_extract]; omega
theorem elems_le {s t : ByteArray} (h : elems s t = true) : t.size ≤ s.size := by
  simp only [elems, begins, Bool.and_eq_true] at h
  simpa using h.1.1

set_option maxHeartbeats 1000000 in
theorem apply_any (path r : ByteArray) (w : World) (hp : path.size ≤ 1099511627776) (hr : r.size ≤ 1099511627776) :
    Calls Try.prog 22 #[.string path, .string r] w fun e w' => e = .returned (.tuple #[.string (oneB path r).1, .bool (oneB path r).2]) ∧ ∃ n, w' = w.drewN n := by
  have hL : Calls Try.prog 23 #[.string r, .string ⟨#[61, 62]⟩] w fun e w' => e = .returned (.int .i64 (cut r)) ∧ w = w' :=
    (Try.strings_LastIndex r ⟨#[61, 62]⟩ (by omega) w).mono fun _ _ ⟨he, hw⟩ => ⟨he, hw.symm⟩
  have HL := Lib.hid hL
  clear hL
  have hps := leftOf_size r
  have hrs := rightOf_size r
  have ho : oneB path r = aprB path (leftOf r) (rightOf r) := rfl
  rw [ho]
  clear ho
  obtain ⟨p, hpp⟩ : ∃ p, p = leftOf r := ⟨_, rfl⟩
  obtain ⟨rep, hrep⟩ : ∃ x, x = rightOf r := ⟨_, rfl⟩
  rw [← hpp, ← hrep]
  rw [← hpp] at hps
  rw [← hrep] at hrs
  have HP := Lib.hid hpp
  have HR := Lib.hid hrep
  clear hpp hrep
  go_enter Try.func22, Try.ntmps22
  go_upto_if 13 with (go_at_call 23; refine HL.out.mono ?_; rintro e w' ⟨rfl, rfl⟩)
  clear HL
  go_cut [6, 7, 8, 11, 12, 13] from 9 to 48 (fun a b _ _ _ _ wx => a = .string p ∧ b = .string rep ∧ ∃ n, wx = w.drewN n)
  case first =>
    rcases cut_bounds r with hc | ⟨j, hc, hj⟩
    · have h1 : leftOf r = r := by rw [leftOf, hc]; rfl
      have h2 : rightOf r = ⟨#[]⟩ := by rw [rightOf, hc]; rfl
      have H1 := Lib.hid (HP.out.trans h1)
      have H2 := Lib.hid (HR.out.trans h2)
      clear h1 h2
      go_wp2
      go_meet
      case rel => exact ⟨by rw [H1.out], by rw [H2.out], 0, rfl⟩
    · have h1 : leftOf r = r.extract 0 j := by rw [leftOf, hc, if_neg (by omega), Int.toNat_natCast]
      have h2 : rightOf r = r.extract (j + 2) r.size := by rw [rightOf, hc, if_neg (by omega), Int.toNat_natCast]
      have H1 := Lib.hid (HP.out.trans h1)
      have H2 := Lib.hid (HR.out.trans h2)
      clear h1 h2
      have j1 : (0 : Int) ≤ (j : Int) := by omega
      have j2 : (j : Int) ≤ (r.size : Int) := by omega
      have j3 : IntKind.i64.wrap ((j : Int) + 2) = (j : Int) + 2 := IntWalk.i64_in _ (by omega)
      have j4 : (0 : Int) ≤ (j : Int) + 2 := by omega
      have j5 : (j : Int) + 2 ≤ (r.size : Int) := by omega
      have j6 : ((j : Int) + 2).toNat = j + 2 := by omega
      have j7 : j ≤ r.size := by omega
      go_wp2
      go_quiet (fail)
      go_wp2
      go_meet
      case rel => exact ⟨by rw [H1.out], by rw [H2.out], _, rfl⟩
  case rest =>
    obtain ⟨rfl, rfl, hw⟩ := hcut
    have Hw := Lib.hid hw
    clear hw
    by_cases h0 : p.size = 0
    · have e0 := isEmpty_of h0
      have ha : aprB path p rep = (path, false) := by rw [aprB, if_pos (.inl h0)]
      have Ha := Lib.hid ha
      clear ha h0
      go_wp2
      go_ret2
      exact ⟨ret_two (by rw [Ha.out]) (by rw [Ha.out]), Hw.out⟩
    · have e0 := not_empty (s := p) (by omega)
      have e0' := not_empty2 (s := p) (by omega)
      have hh := fun W => hpp_any path p W (by unfold maxLen; omega)
      cases he : elems path p with
      | false =>
        have ha : aprB path p rep = (path, false) := by rw [aprB, if_pos (.inr he)]
        have Ha := Lib.hid ha
        rw [he] at hh
        have Hh := Lib.hid hh
        clear ha he hh
        go_wp2_with (go_at_call 21; refine (Hh.out _).mono ?_; rintro e w' ⟨rfl, rfl⟩)
        go_ret2
        exact ⟨ret_two (by rw [Ha.out]) (by rw [Ha.out]), Hw.out⟩
      | true =>
        have hle := elems_le he
        rw [he] at hh
        have Hh := Lib.hid hh
        clear hh
        by_cases hz : path.size = p.size
        · have ha : aprB path p rep = (rep, true) := by rw [aprB, if_neg (by simp [h0, he]), if_pos hz]
          have Ha := Lib.hid ha
          have hb : ((path.size : Int) == (p.size : Int)) = true := by simp [hz]
          clear ha hz he
          go_wp2_with (go_at_call 21; refine (Hh.out _).mono ?_; rintro e w' ⟨rfl, rfl⟩)
          go_ret2
          exact ⟨ret_two (by rw [Ha.out]) (by rw [Ha.out]), Hw.out⟩
        · have hb : ((path.size : Int) == (p.size : Int)) = false := by simp; omega
          by_cases hr0 : rep.size = 0
          · have e1 := isEmpty_of hr0
            have ha : aprB path p rep = (path.extract (p.size + 1) path.size, true) := by rw [aprB, if_neg (by simp [h0, he]), if_neg hz, if_pos hr0]
            have Ha := Lib.hid ha
            have k1 : (p.size : Int) + 1 ≤ (path.size : Int) := by omega
            clear ha he hr0
            go_wp2_with (go_at_call 21; refine (Hh.out _).mono ?_; rintro e w' ⟨rfl, rfl⟩)
            go_ret2
            exact ⟨ret_two (by rw [Ha.out]) (by rw [Ha.out]), Hw.out⟩
          · have e1 := not_empty (s := rep) (by omega)
            have e1' := not_empty2 (s := rep) (by omega)
            have ha : aprB path p rep = (rep ++ path.extract p.size path.size, true) := by rw [aprB, if_neg (by simp [h0, he]), if_neg hz, if_neg hr0]
            have Ha := Lib.hid ha
            clear ha he
            go_wp2_with (go_at_call 21; refine (Hh.out _).mono ?_; rintro e w' ⟨rfl, rfl⟩)
            go_ret2
            exact ⟨ret_two (by rw [Ha.out]) (by rw [Ha.out]), Hw.out⟩

end Go.Proofs.Ytinanlnbmknkcaa

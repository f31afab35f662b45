/- impl.Has by contract; far on two texts; the worlds that a law leaves. -/
import Derived.Test.YtinanlnbmknkcaaHas
import Derived.Test.YtinanlnbmknkcaaFar
import Derived.RowKit3
namespace Go.Proofs.Ytinanlnbmknkcaa
open Go.RowKit

theorem grown_drewN {a w : World} (h : Grown a w) (n : Nat) : Grown a (w.drewN n) := h

set_option maxHeartbeats 400000 in
theorem has_any (s t : ByteArray) (w : World) (hs : s.size ≤ maxLen) :
    Calls Try.prog 10 #[.string s, .string t] w fun e w' => e = .returned (.bool (elems s t)) ∧ w = w' := by
  go_enter Try.func10, Try.ntmps10
  go_wp2_with (first | (go_at_call 21; refine (hpp_any _ _ _ hs).mono ?_; rintro e w' ⟨rfl, rfl⟩) | go_in)
  go_ret
  exact ⟨rfl, rfl⟩

/-- The list of two texts, in its new block. -/
theorem far2 (s t : ByteArray) (w : World) (hs : s.size ≤ 2147483647) (ht : t.size ≤ 2147483647) :
    Calls Try.prog 9 #[.slice (some ⟨w.heap.size, 0, none⟩) 2 2] (w.alloc (.cells #[.string s, .string t] 9)) fun e w' =>
      e = .returned (.bool (decide ((65536 : Int) < ((s.size + t.size : Nat) : Int)))) ∧ (w.alloc (.cells #[.string s, .string t] 9)) = w' := by
  have e : tot [s, t] 2 = s.size + t.size := by simp [tot]
  have h := far_any [s, t] w.heap.size 0 2 2 (w.alloc (.cells #[.string s, .string t] 9)) (by omega)
    (fun i hi => by
      match i, hi with
      | 0, _ => simp [World.cell?_alloc_new]
      | 1, _ => simp [World.cell?_alloc_new]) (by rw [e]; omega)
  rwa [e] at h

/-! ### Texts put together -/
theorem by8_append_left (s u : ByteArray) (k : Nat) (h : k < s.size) : by8 (s ++ u) k = by8 s k := by
  have h' : k < s.data.toList.length := by simpa using h
  simp only [by8, List.getD_eq_getElem?_getD, ByteArray.data_append, Array.toList_append]
  rw [List.getElem?_append_left h']

theorem by8_append_at (s u : ByteArray) (k : Nat) : by8 (s ++ u) (s.size + k) = by8 u k := by
  have h' : s.data.toList.length = s.size := by simp
  simp only [by8, List.getD_eq_getElem?_getD, ByteArray.data_append, Array.toList_append]
  rw [List.getElem?_append_right (by omega), h', Nat.add_sub_cancel_left]

theorem agree_append (s u : ByteArray) (n : Nat) (h : n ≤ s.size) : agree (s ++ u) s n = true := by
  induction n with
  | zero => rfl
  | succ n ih => simp [agree, ih (by omega), by8_append_left s u n (by omega)]

theorem elems_append (s u : ByteArray) : elems (s ++ u) s = (decide (u.size = 0) || decide (foldI (by8 u 0) = 47)) := by
  have h1 : begins (s ++ u) s = true := by simp [begins, agree_append s u s.size (Nat.le_refl _), ByteArray.size_append]
  have h2 : by8 (s ++ u) s.size = by8 u 0 := by simpa using by8_append_at s u 0
  have h3 : decide ((s ++ u).size = s.size) = decide (u.size = 0) := by
    rw [ByteArray.size_append, Bool.eq_iff_iff]; simp
  rw [elems, h1, h2, h3, Bool.true_and]

theorem agree_self (s : ByteArray) (n : Nat) : agree s s n = true := by
  induction n with
  | zero => rfl
  | succ n ih => simp [agree, ih]
theorem elems_self (s : ByteArray) : elems s s = true := by simp [elems, begins, agree_self]

theorem elems_slash (s t : ByteArray) : elems (s ++ ⟨#[47]⟩ ++ t) s = true := by
  rw [ByteArray.append_assoc, elems_append]
  have : by8 (⟨#[47]⟩ ++ t) 0 = 47 := by rw [by8_append_left _ _ _ (by decide)]; decide
  rw [this]; simp [foldI]
theorem elems_x (s t : ByteArray) : elems (s ++ ⟨#[120]⟩ ++ t) s = false := by
  rw [ByteArray.append_assoc, elems_append]
  have : by8 (⟨#[120]⟩ ++ t) 0 = 120 := by rw [by8_append_left _ _ _ (by decide)]; decide
  have h1 : (ByteArray.mk #[120]).size = 1 := rfl
  rw [this, ByteArray.size_append, h1]; simp [foldI]

end Go.Proofs.Ytinanlnbmknkcaa

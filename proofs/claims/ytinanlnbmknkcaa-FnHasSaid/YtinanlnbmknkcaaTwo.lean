/- impl.Has by contract; far on two texts; the worlds that a law leaves. -/
import Derived.Test.YtinanlnbmknkcaaHas
import Derived.Test.YtinanlnbmknkcaaFar
import Derived.RowKit3
namespace Go.Proofs.Ytinanlnbmknkcaa
open Go.RowKit

theorem grown_drewN {a w : World} (h : Grown a w) (n : Nat) : Grown a (w.drewN n) := h

set_option maxHeartbeats 400000 in
theorem has_any (s t : ByteArray) (w : World) (hs : s.size ≤ maxLen) :
    Calls Try.prog 10 #[.string s, .string t] w fun e w' => e = .returned (.bool (elems s t)) ∧ w = w' := by
  go_enter Try.func10, Try.ntmps10
  go_wp2_with (first | (go_at_call 21; refine (hpp_any _ _ _ hs).mono ?_; rintro e w' ⟨rfl, rfl⟩) | go_in)
  go_ret
  exact ⟨rfl, rfl⟩

/-- The list of two texts, in its new block. -/
theorem far2 (s t : ByteArray) (w : World) (hs : s.size ≤ 2147483647) (ht : t.size ≤ 2147483647) :
    Calls Try.prog 9 #[.slice (some ⟨w.heap.size, 0, none⟩) 2 2] (w.alloc (.cells #[.string s, .string t] 9)) fun e w' =>
      e = .returned (.bool (decide ((65536 : Int) < ((s.size + t.size : Nat) : Int)))) ∧ (w.alloc (.cells #[.string s, .string t] 9)) = w' := by
  have e : tot [s, t] 2 = s.size + t.size := by simp [tot]
  have h := far_any [s, t] w.heap.size 0 2 2 (w.alloc (.cells #[.string s, .string t] 9)) (by omega)
    (fun i hi => by
      match i, hi with
      | 0, _ => simp [World.cell?_alloc_new]
      | 1, _ => simp [World.cell?_alloc_new]) (by rw [e]; omega)
  rwa [e] at h

end Go.Proofs.Ytinanlnbmknkcaa

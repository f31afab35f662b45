/- far on three and four texts; beyond; the worlds that a law leaves. -/
import Derived.Test.YtinanlnbmknkcaaRew
namespace Go.Proofs.Ytinanlnbmknkcaa
open Go.RowKit

theorem semiless_arrow {p b : ByteArray} (hp : namedB p = true) (hb : namedB b = true) : ∀ i, i < (p ++ (⟨#[61, 62]⟩ : ByteArray) ++ b).size → by8 (p ++ ⟨#[61, 62]⟩ ++ b) i ≠ 59 := by
  intro i hi
  rw [ByteArray.size_append, ByteArray.size_append, arrow_size] at hi
  rw [by8_arrow]
  split
  · exact semiless hp i ‹_›
  · split
    · decide
    · split
      · decide
      · exact semiless hb _ (by omega)

theorem below_new (w : World) (o : Obj) : Below w.heap.size w (w.alloc o) := (Below.refl _ _).alloc (Nat.le_refl _) _
theorem below_drawn {B : Nat} {a w b : World} (h : Below B a w) (k : ∃ n, b = w.drewN n) : Below B a b := by
  obtain ⟨n, rfl⟩ := k
  exact ⟨h.os, h.tape, h.output, h.size, h.block⟩

theorem far3 (s t u : ByteArray) (w : World) (hs : s.size ≤ 2147483647) (ht : t.size ≤ 2147483647) (hu : u.size ≤ 2147483647) :
    Calls Try.prog 9 #[.slice (some ⟨w.heap.size, 0, none⟩) 3 3] (w.alloc (.cells #[.string s, .string t, .string u] 9)) fun e w' =>
      e = .returned (.bool (decide ((65536 : Int) < ((s.size + t.size + u.size : Nat) : Int)))) ∧ (w.alloc (.cells #[.string s, .string t, .string u] 9)) = w' := by
  have e : tot [s, t, u] 3 = s.size + t.size + u.size := by simp [tot]
  have h := far_any [s, t, u] w.heap.size 0 3 3 (w.alloc (.cells #[.string s, .string t, .string u] 9)) (by omega)
    (fun i hi => by
      match i, hi with
      | 0, _ | 1, _ | 2, _ => simp [World.cell?_alloc_new]) (by rw [e]; omega)
  rwa [e] at h

/-- far and beyond on lists that lie in a block of some world. -/
theorem far4 (s t u v : ByteArray) (b : Nat) (w : World) (hs : s.size ≤ 2147483647) (ht : t.size ≤ 2147483647) (hu : u.size ≤ 2147483647) (hv : v.size ≤ 2147483647)
    (hc : w.heap[b]? = some (.cells #[.string s, .string t, .string u, .string v] 9)) :
    Calls Try.prog 9 #[.slice (some ⟨b, 0, none⟩) 4 4] w fun e w' =>
      e = .returned (.bool (decide ((65536 : Int) < ((s.size + t.size + u.size + v.size : Nat) : Int)))) ∧ w = w' := by
  have e : tot [s, t, u, v] 4 = s.size + t.size + u.size + v.size := by simp [tot]
  have h := far_any [s, t, u, v] b 0 4 4 w (by omega)
    (fun i hi => by
      match i, hi with
      | 0, _ | 1, _ | 2, _ | 3, _ => simp [World.cell?, hc]) (by rw [e]; omega)
  rwa [e] at h

/-- One of the first k numbers of a list is above 1048576. -/
def bigTo (ns : List Int) : Nat → Bool
  | 0 => false
  | k + 1 => bigTo ns k || decide (1048576 < ns.getD k 0)
theorem bigTo_mono (ns : List Int) (k n : Nat) (h : k ≤ n) (hb : bigTo ns k = true) : bigTo ns n = true := by
  induction n with
  | zero => obtain rfl : k = 0 := by omega
            exact hb
  | succ n ih =>
    by_cases e : k = n + 1
    · subst e; exact hb
    · simp [bigTo, ih (by omega)]

set_option maxHeartbeats 400000 in
theorem beyond_any (ns : List Int) (b len cap : Nat) (w : World) (hl : len ≤ 9223372036854775807)
    (hc : ∀ i, i < len → w.cell? ⟨b, i, none⟩ = some (.int .i64 (ns.getD i 0))) :
    Calls Try.prog 12 #[.slice (some ⟨b, 0, none⟩) len cap] w fun e w' => e = .returned (.bool (bigTo ns len)) ∧ w = w' := by
  have hc' := Lib.hid hc
  clear hc
  go_enter Try.func12, Try.ntmps12
  go_wp2
  go_loop [4, 7] (fun _ i => ∃ k : Nat, k ≤ len ∧ i = .int .i64 k ∧ Hid (bigTo ns k = false)) (fun _ i => len - (intOf i).toNat)
  case atStart => exact ⟨0, Nat.zero_le _, rfl, Lib.hid rfl⟩
  case round =>
    obtain ⟨k, hk, rfl, hf⟩ := hrel
    by_cases hlt : k < len
    · have hcx := hc'.out k hlt
      have hs : bigTo ns (k + 1) = decide (1048576 < ns.getD k 0) := by rw [bigTo, hf.out, Bool.false_or]
      obtain ⟨x, hx⟩ : ∃ x, x = ns.getD k 0 := ⟨_, rfl⟩
      rw [← hx] at hcx hs
      have Hs := Lib.hid hs
      clear hs hx
      by_cases hbig : 1048576 < x
      · have hfin : bigTo ns len = true := bigTo_mono ns (k + 1) len (by omega) (by rw [Hs.out, decide_eq_true hbig])
        have Hfin := Lib.hid hfin
        clear hfin
        go_wp2
        go_ret
        exact ⟨ret_bool Hfin.out.symm, rfl⟩
      · go_wp2
        go_round
        case rel => exact ⟨k + 1, by omega, by go_num, Lib.hid (by rw [Hs.out, decide_eq_false hbig])⟩
        case measure => simp [intOf]; omega
    · obtain rfl : k = len := by omega
      go_wp2
      go_ret
      exact ⟨ret_bool hf.out.symm, rfl⟩

end Go.Proofs.Ytinanlnbmknkcaa

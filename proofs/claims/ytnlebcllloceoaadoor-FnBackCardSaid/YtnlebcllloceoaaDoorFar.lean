/- far: the texts of a list are together longer than 65536 bytes. -/
import Derived.Test.YtnlebcllloceoaaDoorRows
import Derived.WalkKit
import Derived.WalkSpells
import Derived.WalkLawsBesides
import Derived.Lib.Hide
namespace Go.Proofs.YtnlebcllloceoaaDoor
open Go.RowKit

/-- How many bytes the first k texts of a list have. -/
def tot (ss : List ByteArray) : Nat → Nat
  | 0 => 0
  | k + 1 => tot ss k + (ss.getD k ByteArray.empty).size

theorem tot_mono (ss : List ByteArray) (k n : Nat) (h : k ≤ n) : tot ss k ≤ tot ss n := by
  induction n with
  | zero => obtain rfl : k = 0 := by omega
            exact Nat.le_refl _
  | succ n ih =>
    by_cases e : k = n + 1
    · subst e; exact Nat.le_refl _
    · have := ih (by omega); simp only [tot]; omega

theorem tot_le (ss : List ByteArray) (n B : Nat) (h : ∀ i, i < n → (ss.getD i ByteArray.empty).size ≤ B) : tot ss n ≤ n * B := by
  induction n with
  | zero => simp [tot]
  | succ n ih =>
    have := ih (fun i hi => h i (by omega))
    have := h n (by omega)
    simp only [tot, Nat.succ_mul]; omega

set_option maxHeartbeats 400000 in
theorem far_any (ss : List ByteArray) (b off len cap : Nat) (w : World) (hl : len ≤ 9223372036854775807)
    (hc : ∀ i, i < len → w.cell? ⟨b, off + i, none⟩ = some (.string (ss.getD i ByteArray.empty))) (ht : tot ss len ≤ 4611686018427387904) :
    Calls Tryd.prog 6 #[.slice (some ⟨b, off, none⟩) len cap] w fun e w' => e = .returned (.bool (decide ((65536 : Int) < (tot ss len : Int)))) ∧ w = w' := by
  have hc' := Lib.hid hc
  clear hc
  go_enter Tryd.func6, Tryd.ntmps6
  go_wp2
  go_loop [3, 5, 8] (fun n _ i => ∃ k : Nat, k ≤ len ∧ i = .int .i64 k ∧ n = .int .i64 (tot ss k)) (fun _ _ i => len - (intOf i).toNat)
  case atStart => exact ⟨0, Nat.zero_le _, rfl, rfl⟩
  case round =>
    obtain ⟨k, hk, rfl, rfl⟩ := hrel
    by_cases hlt : k < len
    · have hcx := hc'.out k hlt
      have hm := tot_mono ss (k + 1) len (by omega)
      have hs : tot ss (k + 1) = tot ss k + (ss.getD k ByteArray.empty).size := rfl
      rw [hs] at hm
      obtain ⟨x, hx⟩ : ∃ x, x = ss.getD k ByteArray.empty := ⟨_, rfl⟩
      rw [← hx] at hcx hm hs
      have Hs := Lib.hid hs
      clear hs hx
      go_wp2
      go_round
      case rel => exact ⟨k + 1, by omega, by go_num, by rw [Hs.out]; go_num⟩
      case measure => simp [intOf]; omega
    · obtain rfl : k = len := by omega
      go_wp2
      go_ret
      exact ⟨rfl, rfl⟩

end Go.Proofs.YtnlebcllloceoaaDoor

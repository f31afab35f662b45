/- What stands behind a backslash. No program stands here. -/
import Derived.Test.YtiklnckoimeimaaSw
namespace Go.Proofs.Ytiklnckoimeimaa

theorem lineN_le (s : ByteArray) (k : Nat) : lineN s k ≤ 2 := by
  unfold lineN
  repeat' split
  all_goals omega
theorem lineN_fits (s : ByteArray) (k : Nat) (h : 0 < lineN s k) : k + lineN s k ≤ s.size := by
  unfold lineN at h ⊢
  split
  · omega
  · split
    · omega
    · split at h <;> simp_all

theorem head_byU (s : ByteArray) (k : Nat) : (s.data.toList.drop k).head? = some 10 ↔ k < s.size ∧ byU s k = 10 := by
  by_cases h : k < s.size
  · rw [drop_byU s k h]; simp [h]
  · rw [drop_end s k (by omega)]; simp [h]

/-- The end of a line behind a backslash. -/
theorem esc_line (s : ByteArray) (k : Nat) (h : 0 < lineN s k) (σ : SSt) :
    escS2 (s.data.toList.drop k) σ = some (s.data.toList.drop (k + lineN s k), 2, σ) ∧ escS0 (s.data.toList.drop k) σ = some (s.data.toList.drop (k + lineN s k), 0, σ) := by
  have hf := lineN_fits s k h
  have hk : k < s.size := by omega
  rw [drop_byU s k hk]
  by_cases h1 : byU s k = 10
  · have e : lineN s k = 1 := if_pos ⟨hk, h1⟩
    simp only [escS2, escS0, if_pos h1, e, and_self]
  · by_cases h2 : k + 1 < s.size ∧ byU s k = 13 ∧ byU s (k + 1) = 10
    · have e : lineN s k = 2 := by rw [lineN, if_neg (fun h => h1 h.2), if_pos h2]
      have hh : byU s k = 13 ∧ (s.data.toList.drop (k + 1)).head? = some 10 := ⟨h2.2.1, (head_byU s (k + 1)).2 ⟨h2.1, h2.2.2⟩⟩
      simp only [escS2, escS0, if_neg h1, if_pos hh, e, List.tail_drop, and_self]
    · have e : lineN s k = 0 := by rw [lineN, if_neg (fun h => h1 h.2), if_neg h2]
      omega

def spec4 (u : UInt8) : Bool := u == 92 || u == 34 || u == 36 || u == 96

theorem esc_other (s : ByteArray) (k : Nat) (h : lineN s k = 0) (hk : k < s.size) (σ : SSt) :
    escS2 (s.data.toList.drop k) σ = (if spec4 (byU s k) = true then some (s.data.toList.drop (k + 1), 2, σ.put (byU s k)) else none) ∧
      escS0 (s.data.toList.drop k) σ = some (s.data.toList.drop (k + 1), 0, ⟨σ.out, σ.word ++ [byU s k], true⟩) := by
  have h1 : byU s k ≠ 10 := fun h1 => by rw [lineN, if_pos ⟨hk, h1⟩] at h; omega
  have h2 : ¬(byU s k = 13 ∧ (s.data.toList.drop (k + 1)).head? = some 10) := by
    intro ⟨a, b⟩
    rw [head_byU] at b
    rw [lineN, if_neg (fun h => h1 h.2), if_pos ⟨b.1, a, b.2⟩] at h
    omega
  rw [drop_byU s k hk]
  simp only [escS2, escS0, if_neg h1, if_neg h2, and_true]
  by_cases h3 : spec4 (byU s k) = true
  · rw [if_pos h3, if_pos (by simpa [spec4, or_assoc] using h3)]
  · rw [if_neg h3, if_neg (by simpa [spec4, or_assoc] using h3)]

theorem esc_end (s : ByteArray) (k : Nat) (hk : s.size ≤ k) (σ : SSt) : escS2 (s.data.toList.drop k) σ = none ∧ escS0 (s.data.toList.drop k) σ = none ∧ lineN s k = 0 := by
  rw [drop_end s k hk]
  exact ⟨rfl, rfl, by rw [lineN, if_neg (fun h => by omega), if_neg (fun h => by omega)]⟩
/-- A row that has something is no nil. -/
theorem own_slice {w : World} {B e : Nat} {v : Value} {n : Nat} {xs : List Value} (h : w.ownsRow B e 1 v n xs) (hn : 0 < n) : ∃ g cap, v = .slice (some ⟨g, 0, none⟩) n cap := by
  rcases h.2 with ⟨_, h0⟩ | ⟨g, cap, cur, hv, _⟩
  · omega
  · exact ⟨g, cap, hv⟩
end Go.Proofs.Ytiklnckoimeimaa

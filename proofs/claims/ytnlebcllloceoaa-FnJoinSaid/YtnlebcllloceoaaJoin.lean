/- Plain facts about a path of two parts. No program stands here. -/
import Derived.Test.YtnlebcllloceoaaEnc
namespace Go.Proofs.Ytnlebcllloceoaa

theorem byU_append_left (s u : ByteArray) (k : Nat) (h : k < s.size) : byU (s ++ u) k = byU s k := by
  have h' : k < s.data.toList.length := by simpa using h
  simp only [byU, List.getD_eq_getElem?_getD, ByteArray.data_append, Array.toList_append]
  rw [List.getElem?_append_left h']
theorem byU_append_at (s u : ByteArray) (k : Nat) : byU (s ++ u) (s.size + k) = byU u k := by
  have h' : s.data.toList.length = s.size := by simp
  simp only [byU, List.getD_eq_getElem?_getD, ByteArray.data_append, Array.toList_append]
  rw [List.getElem?_append_right (by omega), h', Nat.add_sub_cancel_left]

/-- No stroke: the last segment is the whole. -/
theorem lastTo_none (u : ByteArray) (n : Nat) (h : ∀ k, k < n → by8 u k ≠ 47) : lastTo u n = 0 := by
  induction n with
  | zero => rfl
  | succ n ih => rw [lastTo, if_neg (h n (by omega)), ih (fun k hk => h k (by omega))]

theorem lastTo_append (p u : ByteArray) (h : ∀ k, k < u.size → by8 u k ≠ 47) (j : Nat) (hj : j ≤ u.size) : lastTo (p ++ u) (p.size + j) = lastTo (p ++ u) p.size := by
  induction j with
  | zero => rfl
  | succ j ih =>
    have e : by8 (p ++ u) (p.size + j) = by8 u j := by rw [by8, byU_append_at]; rfl
    rw [show p.size + (j + 1) = (p.size + j) + 1 by omega, lastTo, if_neg (by rw [e]; exact h j (by omega)), ih (by omega)]

theorem piece_left (p u : ByteArray) (f k : Nat) (h : k < p.size) : piece (p ++ u) f k = piece p f k := by
  have e : stays (p ++ u) f k = stays p f k := by simp only [stays, by8, byU_append_left p u k h]
  rw [piece, piece, e, byU_append_left p u k h]
theorem enc_left (p u : ByteArray) (f k : Nat) (h : k ≤ p.size) : enc (p ++ u) f k = enc p f k := by
  induction k with
  | zero => rfl
  | succ k ih => rw [enc, enc, ih (by omega), piece_left p u f k (by omega)]
theorem piece_right (p u : ByteArray) (k : Nat) : piece (p ++ u) p.size (p.size + k) = piece u 0 k := by
  have e : decide (p.size + k < p.size) = decide (k < 0) := by rw [Bool.eq_iff_iff]; simp
  have e2 : stays (p ++ u) p.size (p.size + k) = stays u 0 k := by simp only [stays, by8, byU_append_at p u k, e]
  rw [piece, piece, e2, byU_append_at p u k]
theorem enc_right (p u : ByteArray) (k : Nat) : enc (p ++ u) p.size (p.size + k) = enc p p.size p.size ++ enc u 0 k := by
  induction k with
  | zero => rw [Nat.add_zero, enc_left p u _ _ (Nat.le_refl _)]; simp [enc]
  | succ k ih => rw [show p.size + (k + 1) = (p.size + k) + 1 by omega, enc, enc, ih, piece_right, List.append_assoc]

/-- A path that ends with a stroke, and a segment behind it. -/
theorem preL_seg (p u : ByteArray) (hp : lastTo (p ++ u) p.size = p.size) (h : ∀ k, k < u.size → by8 u k ≠ 47) : preL (p ++ u) = enc p p.size p.size ++ preL u := by
  have e1 : lastTo (p ++ u) (p ++ u).size = p.size := by rw [ByteArray.size_append, lastTo_append p u h u.size (Nat.le_refl _), hp]
  rw [preL, e1, ByteArray.size_append, enc_right, preL, lastTo_none u u.size h]

theorem last_slash (a u : ByteArray) : lastTo ((a ++ ⟨#[47]⟩) ++ u) (a ++ ⟨#[47]⟩).size = (a ++ ⟨#[47]⟩).size := by
  have h1 : (ByteArray.mk #[47]).size = 1 := rfl
  have e : (a ++ ⟨#[47]⟩).size = a.size + 1 := by rw [ByteArray.size_append, h1]
  have e2 : by8 ((a ++ ⟨#[47]⟩) ++ u) a.size = 47 := by
    rw [by8, byU_append_left _ _ _ (by omega)]
    have := byU_append_at a ⟨#[47]⟩ 0
    rw [Nat.add_zero] at this
    rw [this]; decide
  rw [e, lastTo, if_pos e2]

theorem preL_x : preL ⟨#[120]⟩ = [120] := by decide

theorem pre_front (a : ByteArray) : preL (a ++ ⟨#[47, 120]⟩) = enc (a ++ ⟨#[47]⟩) (a ++ ⟨#[47]⟩).size (a ++ ⟨#[47]⟩).size ++ [120] := by
  have e : a ++ (⟨#[47, 120]⟩ : ByteArray) = (a ++ ⟨#[47]⟩) ++ ⟨#[120]⟩ := by rw [ByteArray.append_assoc]; rfl
  rw [e, preL_seg _ _ (last_slash a ⟨#[120]⟩) (by decide), preL_x]

theorem front_pos (a : ByteArray) : 0 < (pre (a ++ ⟨#[47, 120]⟩)).size := by
  have : (pre (a ++ ⟨#[47, 120]⟩)).size = (preL (a ++ ⟨#[47, 120]⟩)).length := by simp [pre, ByteArray.size]
  rw [this, pre_front]; simp

theorem pre_join (a u : ByteArray) (h : hasTo u 47 u.size = false) :
    (pre (a ++ ⟨#[47, 120]⟩)).extract 0 ((pre (a ++ ⟨#[47, 120]⟩)).size - 1) ++ pre u = pre (a ++ ⟨#[47]⟩ ++ u) := by
  have hs : (pre (a ++ ⟨#[47, 120]⟩)).size = (preL (a ++ ⟨#[47, 120]⟩)).length := by simp [pre, ByteArray.size]
  apply ByteArray.ext
  apply Array.toList_inj.1
  rw [hs, ByteArray.data_append, Array.toList_append, ByteArray.data_extract, Array.toList_extract]
  simp only [pre]
  rw [preL_seg _ u (last_slash a u) (hasTo_false u 47 u.size h), pre_front]
  simp

end Go.Proofs.Ytnlebcllloceoaa

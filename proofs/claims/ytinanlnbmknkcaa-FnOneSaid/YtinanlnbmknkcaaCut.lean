/- Plain facts about rewrites: where the arrow stands, what a rewrite does. No program stands here. -/
import Derived.Test.YtinanlnbmknkcaaNamed
import Derived.Lib.LastIndexLaws
namespace Go.Proofs.Ytinanlnbmknkcaa

/-- Where the last arrow of a text stands, or -1. -/
def cut (r : ByteArray) : Int := Lib.lastIndex r.data.toList [61, 62]

theorem occ_at (s : ByteArray) (i : Nat) (h : i + 1 < s.size) : Lib.occAt s.data.toList [61, 62] i = (by8 s i == 61 && by8 s (i + 1) == 62) := by
  have h1 : i < s.data.toList.length := by simp; omega
  have h2 : i + 1 < s.data.toList.length := by simpa using h
  have e1 : by8 s i = ((s.data.toList[i]).toNat : Int) := by simp only [by8, List.getD_eq_getElem?_getD, List.getElem?_eq_getElem h1]; rfl
  have e2 : by8 s (i + 1) = ((s.data.toList[i + 1]).toNat : Int) := by simp only [by8, List.getD_eq_getElem?_getD, List.getElem?_eq_getElem h2]; rfl
  have b : ∀ (x : UInt8) (n : Nat), n < 256 → ((UInt8.ofNat n == x) = ((x.toNat : Int) == (n : Int))) := by
    intro x n hn
    rw [Bool.eq_iff_iff]
    simp only [beq_iff_eq]
    constructor
    · intro e; subst e; simp; omega
    · intro e
      have : x.toNat = n := by omega
      rw [← this]; simp
  unfold Lib.occAt
  rw [List.drop_eq_getElem_cons h1, List.drop_eq_getElem_cons h2, e1, e2]
  have b1 := b (s.data.toList[i]) 61 (by decide)
  have b2 := b (s.data.toList[i + 1]) 62 (by decide)
  simp only [List.isPrefixOf, Bool.and_true]
  rw [show (61 : UInt8) = UInt8.ofNat 61 from rfl, show (62 : UInt8) = UInt8.ofNat 62 from rfl, b1, b2]
  rfl

theorem cut_bounds (r : ByteArray) : cut r = -1 ∨ ∃ j : Nat, cut r = j ∧ j + 2 ≤ r.size := by
  unfold cut Lib.lastIndex
  split
  · rename_i h
    have hl : r.data.toList.length = r.size := by simp
    have h2 : ([61, 62] : List UInt8).length = 2 := rfl
    rw [h2] at h
    rcases Lib.lastOcc_spec r.data.toList [61, 62] (r.data.toList.length - 2 + 1) with ⟨e, _⟩ | ⟨i, hi, e, _⟩
    · exact .inl e
    · exact .inr ⟨i, e, by omega⟩
  · exact .inl rfl

theorem cut_none (r : ByteArray) (h : ∀ i, i + 1 < r.size → (by8 r i == 61 && by8 r (i + 1) == 62) = false) : cut r = -1 := by
  unfold cut Lib.lastIndex
  split
  · rename_i hl
    have hs : r.data.toList.length = r.size := by simp
    have h2 : ([61, 62] : List UInt8).length = 2 := rfl
    rw [h2] at hl
    rcases Lib.lastOcc_spec r.data.toList [61, 62] (r.data.toList.length - 2 + 1) with ⟨e, _⟩ | ⟨i, hi, e, hc, _⟩
    · exact e
    · rw [occ_at r i (by omega), h i (by omega)] at hc
      exact absurd hc (by decide)
  · rfl

theorem cut_at (r : ByteArray) (j : Nat) (hj : j + 2 ≤ r.size) (h : (by8 r j == 61 && by8 r (j + 1) == 62) = true)
    (hn : ∀ i, j < i → i + 1 < r.size → (by8 r i == 61 && by8 r (i + 1) == 62) = false) : cut r = j := by
  unfold cut Lib.lastIndex
  have hs : r.data.toList.length = r.size := by simp
  have h2 : ([61, 62] : List UInt8).length = 2 := rfl
  rw [if_pos (by rw [h2]; omega), h2]
  rcases Lib.lastOcc_spec r.data.toList [61, 62] (r.data.toList.length - 2 + 1) with ⟨_, hz⟩ | ⟨i, hi, e, hc, hz⟩
  · have := hz j (by omega)
    rw [occ_at r j (by omega), h] at this
    exact absurd this (by decide)
  · rcases Nat.lt_trichotomy i j with hlt | rfl | hgt
    · have := hz j hlt (by omega)
      rw [occ_at r j (by omega), h] at this
      exact absurd this (by decide)
    · exact e
    · rw [occ_at r i (by omega), hn i hgt (by omega)] at hc
      exact absurd hc (by decide)

/-- What a rewrite of one part by another does to a name. -/
def aprB (path p rep : ByteArray) : ByteArray × Bool :=
  if p.size = 0 ∨ elems path p = false then (path, false)
  else if path.size = p.size then (rep, true)
  else if rep.size = 0 then (path.extract (p.size + 1) path.size, true)
  else (rep ++ path.extract p.size path.size, true)

/-- The two parts of a rewrite. -/
def leftOf (r : ByteArray) : ByteArray := if cut r < 0 then r else r.extract 0 (cut r).toNat
def rightOf (r : ByteArray) : ByteArray := if cut r < 0 then ByteArray.empty else r.extract ((cut r).toNat + 2) r.size

theorem arrowless {p : ByteArray} (h : namedB p = true) : ∀ i, i + 1 < p.size → (by8 p i == 61 && by8 p (i + 1) == 62) = false := by
  intro i hi
  simp only [namedB, Bool.and_eq_true] at h
  have := fineTo_at p p.size h.1 i (by omega)
  simp only [badAt, Bool.or_eq_false_iff] at this
  have h2 := this.1.2
  rw [decide_eq_true hi, Bool.and_true] at h2
  exact h2
theorem semiless {p : ByteArray} (h : namedB p = true) : ∀ i, i < p.size → by8 p i ≠ 59 := by
  intro i hi
  simp only [namedB, Bool.and_eq_true] at h
  have := fineTo_at p p.size h.1 i hi
  simp only [badAt, Bool.or_eq_false_iff] at this
  simpa using this.1.1
theorem named_pos {p : ByteArray} (h : namedB p = true) : 0 < p.size := by
  simp only [namedB, Bool.and_eq_true] at h
  simpa using h.2.1

theorem cut_alone {p : ByteArray} (h : namedB p = true) : cut p = -1 := cut_none p (arrowless h)

theorem arrow_size : (ByteArray.mk #[61, 62]).size = 2 := rfl
theorem slash_size : (ByteArray.mk #[47]).size = 1 := rfl

theorem by8_arrow (p by_ : ByteArray) (i : Nat) : by8 (p ++ ⟨#[61, 62]⟩ ++ by_) i = if i < p.size then by8 p i else if i = p.size then 61 else if i = p.size + 1 then 62 else by8 by_ (i - p.size - 2) := by
  have hs : (p ++ (⟨#[61, 62]⟩ : ByteArray)).size = p.size + 2 := by rw [ByteArray.size_append, arrow_size]
  by_cases h1 : i < p.size
  · rw [if_pos h1, by8_append_left _ _ _ (by omega), by8_append_left _ _ _ h1]
  · rw [if_neg h1]
    by_cases h2 : i = p.size
    · subst h2
      rw [if_pos rfl, by8_append_left _ _ _ (by omega)]
      have := by8_append_at p ⟨#[61, 62]⟩ 0
      rw [Nat.add_zero] at this
      rw [this]; decide
    · rw [if_neg h2]
      by_cases h3 : i = p.size + 1
      · subst h3
        rw [if_pos rfl, by8_append_left _ _ _ (by omega), by8_append_at p ⟨#[61, 62]⟩ 1]; decide
      · rw [if_neg h3]
        have := by8_append_at (p ++ (⟨#[61, 62]⟩ : ByteArray)) by_ (i - p.size - 2)
        rw [hs, show p.size + 2 + (i - p.size - 2) = i by omega] at this
        exact this

theorem cut_arrow {p b : ByteArray} (hb : namedB b = true) : cut (p ++ ⟨#[61, 62]⟩ ++ b) = (p.size : Int) := by
  have hs : (p ++ (⟨#[61, 62]⟩ : ByteArray) ++ b).size = p.size + 2 + b.size := by rw [ByteArray.size_append, ByteArray.size_append, arrow_size]
  refine cut_at _ p.size (by omega) ?_ ?_
  · rw [by8_arrow, by8_arrow, if_neg (by omega), if_pos rfl, if_neg (by omega), if_neg (by omega), if_pos rfl]; rfl
  · intro i hi hlt
    have a1 : by8 (p ++ ⟨#[61, 62]⟩ ++ b) i = if i = p.size + 1 then 62 else by8 b (i - p.size - 2) := by rw [by8_arrow, if_neg (by omega), if_neg (by omega)]
    have a2 : by8 (p ++ ⟨#[61, 62]⟩ ++ b) (i + 1) = by8 b (i + 1 - p.size - 2) := by rw [by8_arrow, if_neg (by omega), if_neg (by omega), if_neg (by omega)]
    rw [a1, a2]
    by_cases h1 : i = p.size + 1
    · rw [if_pos h1]; rfl
    · rw [if_neg h1]
      have := arrowless hb (i - p.size - 2) (by omega)
      rwa [show i - p.size - 2 + 1 = i + 1 - p.size - 2 by omega] at this

theorem extract_left (a b : ByteArray) : (a ++ b).extract 0 a.size = a := by
  apply ByteArray.ext; apply Array.toList_inj.1
  have h : a.data.toList.length = a.size := by simp
  simp [ByteArray.data_extract, ByteArray.data_append]
  exact List.take_of_length_le (by omega)
theorem extract_right (a b : ByteArray) (n : Nat) (h : n = (a ++ b).size) : (a ++ b).extract a.size n = b := by
  subst h
  apply ByteArray.ext; apply Array.toList_inj.1
  have h1 : a.data.toList.length = a.size := by simp
  have h2 : b.data.toList.length = b.size := by simp
  simp [ByteArray.data_extract, ByteArray.data_append, ByteArray.size_append]
  rw [List.drop_of_length_le (by omega), List.take_nil, List.nil_append, List.take_of_length_le (by omega)]

theorem leftOf_arrow {p b : ByteArray} (hb : namedB b = true) : leftOf (p ++ ⟨#[61, 62]⟩ ++ b) = p := by
  rw [leftOf, cut_arrow hb, if_neg (by omega), ByteArray.append_assoc, Int.toNat_natCast, extract_left]
theorem rightOf_arrow {p b : ByteArray} (hb : namedB b = true) : rightOf (p ++ ⟨#[61, 62]⟩ ++ b) = b := by
  have hs : (p ++ (⟨#[61, 62]⟩ : ByteArray)).size = p.size + 2 := by rw [ByteArray.size_append, arrow_size]
  rw [rightOf, cut_arrow hb, if_neg (by omega), Int.toNat_natCast, ← hs, extract_right _ _ _ rfl]
theorem leftOf_alone {p : ByteArray} (h : namedB p = true) : leftOf p = p := by rw [leftOf, cut_alone h]; rfl
theorem rightOf_alone {p : ByteArray} (h : namedB p = true) : rightOf p = ByteArray.empty := by rw [rightOf, cut_alone h]; rfl

/-- What one rewrite does to a name. -/
def oneB (path r : ByteArray) : ByteArray × Bool := aprB path (leftOf r) (rightOf r)

theorem oneB_by {p b rest : ByteArray} (hp : namedB p = true) (hb : namedB b = true) : oneB (p ++ ⟨#[47]⟩ ++ rest) (p ++ ⟨#[61, 62]⟩ ++ b) = (b ++ ⟨#[47]⟩ ++ rest, true) := by
  have h1 := named_pos hp
  have h2 := named_pos hb
  have hs : (p ++ (⟨#[47]⟩ : ByteArray) ++ rest).size = p.size + 1 + rest.size := by rw [ByteArray.size_append, ByteArray.size_append, slash_size]
  have c1 : ¬ (p.size = 0 ∨ elems (p ++ ⟨#[47]⟩ ++ rest) p = false) := fun h => h.elim (fun h => by omega) (fun h => by rw [elems_slash] at h; exact absurd h (by decide))
  have c2 : ¬ (p ++ (⟨#[47]⟩ : ByteArray) ++ rest).size = p.size := by omega
  have c3 : ¬ b.size = 0 := by omega
  rw [oneB, leftOf_arrow hb, rightOf_arrow hb, aprB, if_neg c1, if_neg c2, if_neg c3]
  rw [@ByteArray.append_assoc p, extract_right _ _ _ rfl, @ByteArray.append_assoc b]
theorem oneB_gone {p rest : ByteArray} (hp : namedB p = true) : oneB (p ++ ⟨#[47]⟩ ++ rest) p = (rest, true) := by
  have h1 := named_pos hp
  have hs : (p ++ (⟨#[47]⟩ : ByteArray) ++ rest).size = p.size + 1 + rest.size := by rw [ByteArray.size_append, ByteArray.size_append, slash_size]
  have hs2 : (p ++ (⟨#[47]⟩ : ByteArray)).size = p.size + 1 := by rw [ByteArray.size_append, slash_size]
  have c1 : ¬ (p.size = 0 ∨ elems (p ++ ⟨#[47]⟩ ++ rest) p = false) := fun h => h.elim (fun h => by omega) (fun h => by rw [elems_slash] at h; exact absurd h (by decide))
  have c2 : ¬ (p ++ (⟨#[47]⟩ : ByteArray) ++ rest).size = p.size := by omega
  have c3 : ByteArray.empty.size = 0 := rfl
  rw [oneB, leftOf_alone hp, rightOf_alone hp, aprB, if_neg c1, if_neg c2, if_pos c3, ← hs2, extract_right _ _ _ rfl]
theorem oneB_kept_by {p b file : ByteArray} (hb : namedB b = true) (hf : elems file p = false) : oneB file (p ++ ⟨#[61, 62]⟩ ++ b) = (file, false) := by
  rw [oneB, leftOf_arrow hb, aprB, if_pos (.inr hf)]
theorem oneB_kept {p file : ByteArray} (hp : namedB p = true) (hf : elems file p = false) : oneB file p = (file, false) := by
  rw [oneB, leftOf_alone hp, aprB, if_pos (.inr hf)]

end Go.Proofs.Ytinanlnbmknkcaa

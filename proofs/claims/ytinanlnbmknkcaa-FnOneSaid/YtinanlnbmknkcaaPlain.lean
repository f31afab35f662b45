/- Plain facts about names: folding of bytes, leading elements. No program stands here. -/
namespace Go.Proofs.Ytinanlnbmknkcaa

/-- A byte of a name, folded. -/
def foldI (n : Int) : Int := if 65 ≤ n ∧ n ≤ 90 then n + 32 else if n = 92 then 47 else n

theorem foldI_bd (n : Int) (h0 : 0 ≤ n) (h1 : n ≤ 255) : 0 ≤ foldI n ∧ foldI n ≤ 255 := by
  unfold foldI; split
  · omega
  · split <;> omega

def isUp (n : Int) : Bool := decide (65 ≤ n ∧ n ≤ 90)
/-- The two steps of the fold: great letters, then strokes. -/
def upI (n : Int) : Int := if isUp n then n + 32 else n
def slI (n : Int) : Int := if n = 92 then 47 else n
theorem foldI_eq (n : Int) : foldI n = slI (upI n) := by
  unfold foldI slI upI isUp
  by_cases h : 65 ≤ n ∧ n ≤ 90
  · rw [if_pos h, decide_eq_true h, if_pos rfl, if_neg (by omega)]
  · rw [if_neg h, decide_eq_false h]; rfl
theorem isUp_no {n : Int} (h : n < 65) : isUp n = false := decide_eq_false (by omega)
theorem isUp_yes {n : Int} (h : 65 ≤ n) : isUp n = decide (n ≤ 90) := by simp [isUp, h]
theorem upI_yes {n : Int} (h : isUp n = true) : upI n = n + 32 := by simp [upI, h]
theorem upI_no {n : Int} (h : isUp n = false) : upI n = n := by simp [upI, h]
theorem slI_yes {n : Int} (h : (n == 92) = true) : slI n = 47 := by simp at h; simp [slI, h]
theorem slI_no {n : Int} (h : (n == 92) = false) : slI n = n := by simp at h; simp [slI, h]
theorem upI_bd (n : Int) (h0 : 0 ≤ n) (h1 : n ≤ 255) : 0 ≤ upI n ∧ upI n ≤ 255 := by
  unfold upI isUp; split
  · rename_i h; simp at h; omega
  · omega

/-- Byte k of a text. -/
def by8 (s : ByteArray) (k : Nat) : Int := ((s.data.toList.getD k 0).toNat : Int)

theorem by8_bd (s : ByteArray) (k : Nat) : 0 ≤ by8 s k ∧ by8 s k ≤ 255 := by
  have := UInt8.toNat_lt (s.data.toList.getD k 0)
  unfold by8; omega

theorem by8_at (s : ByteArray) (k : Nat) (h : k < s.size) : by8 s k = ((s[k]'h).toNat : Int) := by
  have h' : k < s.data.toList.length := by simpa using h
  unfold by8
  rw [List.getD_eq_getElem?_getD, List.getElem?_eq_getElem h']; rfl

/-- The first k bytes of two texts agree, folded. -/
def agree (s t : ByteArray) : Nat → Bool
  | 0 => true
  | k + 1 => agree s t k && decide (foldI (by8 s k) = foldI (by8 t k))

theorem agree_le (s t : ByteArray) (n : Nat) (h : agree s t n = true) : ∀ k, k ≤ n → agree s t k = true := by
  induction n with
  | zero => intro k hk; obtain rfl : k = 0 := by omega
            exact h
  | succ n ih =>
    intro k hk
    by_cases e : k = n + 1
    · subst e; exact h
    · simp only [agree, Bool.and_eq_true] at h
      exact ih h.1 k (by omega)

theorem agree_false (s t : ByteArray) (n k : Nat) (hk : k < n) (h : foldI (by8 s k) ≠ foldI (by8 t k)) : agree s t n = false := by
  cases hb : agree s t n with
  | false => rfl
  | true =>
    have := agree_le s t n hb (k + 1) (by omega)
    simp only [agree, Bool.and_eq_true, decide_eq_true_eq] at this
    exact absurd this.2 h

def begins (s t : ByteArray) : Bool := decide (t.size ≤ s.size) && agree s t t.size

/-- A name begins with the elements of another one. -/
def elems (s t : ByteArray) : Bool := begins s t && (decide (s.size = t.size) || decide (foldI (by8 s t.size) = 47))

theorem foldI_47 (n : Int) : foldI n = 47 ↔ n = 47 ∨ n = 92 := by
  unfold foldI
  split
  · omega
  · split <;> omega

theorem elems_part (s t : ByteArray) (k : Nat) (hk : k < t.size) (h : (slI (upI (by8 s k)) != slI (upI (by8 t k))) = true) : elems s t = false := by
  have h' : foldI (by8 s k) ≠ foldI (by8 t k) := by rw [foldI_eq, foldI_eq]; simpa using h
  simp [elems, begins, agree_false s t t.size k hk h']

theorem elems_end (s t : ByteArray) (hle : t.size ≤ s.size) (h : agree s t t.size = true) :
    elems s t = (decide (s.size ≤ t.size) || by8 s t.size == 47 || by8 s t.size == 92) := by
  have e : decide (foldI (by8 s t.size) = 47) = (by8 s t.size == 47 || by8 s t.size == 92) := by
    rw [Bool.eq_iff_iff]; simp [foldI_47]
  have e2 : decide (s.size = t.size) = decide (s.size ≤ t.size) := by
    rw [Bool.eq_iff_iff]; simp; omega
  simp only [elems, begins, h, hle, e, e2, decide_true, Bool.true_and, Bool.or_assoc]

end Go.Proofs.Ytinanlnbmknkcaa

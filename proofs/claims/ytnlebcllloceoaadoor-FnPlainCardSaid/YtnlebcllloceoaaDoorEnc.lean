/- Plain facts about paths as symbols have them. No program stands here. -/
import Derived.Lib.LastIndexByte
namespace Go.Proofs.YtnlebcllloceoaaDoor

/-- Byte k of a text. -/
def byU (s : ByteArray) (k : Nat) : UInt8 := s.data.toList.getD k 0
def by8 (s : ByteArray) (k : Nat) : Int := ((byU s k).toNat : Int)

theorem by8_bd (s : ByteArray) (k : Nat) : 0 ≤ by8 s k ∧ by8 s k ≤ 255 := by
  have := UInt8.toNat_lt (byU s k)
  unfold by8; omega

theorem byU_at (s : ByteArray) (k : Nat) (h : k < s.size) : byU s k = s[k]'h := by
  have h' : k < s.data.toList.length := by simpa using h
  unfold byU
  rw [List.getD_eq_getElem?_getD, List.getElem?_eq_getElem h']; rfl
theorem by8_at (s : ByteArray) (k : Nat) (h : k < s.size) : by8 s k = ((s[k]'h).toNat : Int) := by
  rw [by8, byU_at s k h]

/-- A byte of a path that may stand in a symbol. -/
def plainI (n : Int) : Bool := decide (32 < n) && (decide (n < 127) && (!(n == 37) && !(n == 34)))
/-- Byte k of a path stays as it is, the last segment beginning at f. -/
def stays (s : ByteArray) (f : Nat) (k : Nat) : Bool := plainI (by8 s k) && (!(by8 s k == 46) || decide (k < f))

/-- A digit of base 16. -/
def hexB (n : Nat) : UInt8 := if n < 10 then UInt8.ofNat (48 + n) else UInt8.ofNat (87 + n)
theorem hexB_nat (n : Nat) (h : n < 16) : (hexB n).toNat = if n < 10 then 48 + n else 87 + n := by
  unfold hexB
  split
  · simp; omega
  · simp; omega

/-- What byte k becomes. -/
def piece (s : ByteArray) (f k : Nat) : List UInt8 :=
  if stays s f k then [byU s k] else [37, hexB ((byU s k).toNat / 16), hexB ((byU s k).toNat % 16)]
def enc (s : ByteArray) (f : Nat) : Nat → List UInt8
  | 0 => []
  | k + 1 => enc s f k ++ piece s f k
/-- How many of the first k bytes are escaped. -/
def escs (s : ByteArray) (f : Nat) : Nat → Nat
  | 0 => 0
  | k + 1 => escs s f k + if stays s f k then 0 else 1

theorem enc_yes {s : ByteArray} {f k : Nat} (h : stays s f k = true) : enc s f (k + 1) = enc s f k ++ [byU s k] := by simp [enc, piece, h]
theorem enc_no {s : ByteArray} {f k : Nat} (h : stays s f k = false) : enc s f (k + 1) = enc s f k ++ [37, hexB ((byU s k).toNat / 16), hexB ((byU s k).toNat % 16)] := by simp [enc, piece, h]
theorem escs_yes {s : ByteArray} {f k : Nat} (h : stays s f k = true) : escs s f (k + 1) = escs s f k := by simp [escs, h]
theorem escs_no {s : ByteArray} {f k : Nat} (h : stays s f k = false) : escs s f (k + 1) = escs s f k + 1 := by simp [escs, h]

theorem enc_length (s : ByteArray) (f k : Nat) : (enc s f k).length = k + 2 * escs s f k := by
  induction k with
  | zero => rfl
  | succ k ih =>
    cases h : stays s f k with
    | true => rw [enc_yes h, escs_yes h, List.length_append, ih]; simp; omega
    | false => rw [enc_no h, escs_no h, List.length_append, ih]; simp; omega

theorem escs_le (s : ByteArray) (f k : Nat) : escs s f k ≤ k := by
  induction k with
  | zero => exact Nat.le_refl _
  | succ k ih => simp only [escs]; split <;> omega
theorem escs_mono (s : ByteArray) (f k n : Nat) (h : k ≤ n) : escs s f k ≤ escs s f n := by
  induction n with
  | zero => obtain rfl : k = 0 := by omega
            exact Nat.le_refl _
  | succ n ih =>
    by_cases e : k = n + 1
    · subst e; exact Nat.le_refl _
    · have := ih (by omega); simp only [escs]; omega
theorem enc_length_mono (s : ByteArray) (f k n : Nat) (h : k ≤ n) : (enc s f k).length ≤ (enc s f n).length := by
  have := escs_mono s f k n h
  rw [enc_length, enc_length]; omega

theorem take_byU (s : ByteArray) (k : Nat) (h : k < s.size) : s.data.toList.take (k + 1) = s.data.toList.take k ++ [byU s k] := by
  have h' : k < s.data.toList.length := by simpa using h
  rw [List.take_succ_eq_append_getElem h', byU, List.getD_eq_getElem?_getD, List.getElem?_eq_getElem h']; rfl

theorem enc_none (s : ByteArray) (f n : Nat) (hn : n ≤ s.size) (h : escs s f n = 0) : ∀ k, k ≤ n → enc s f k = s.data.toList.take k := by
  intro k
  induction k with
  | zero => intro _; simp [enc]
  | succ k ih =>
    intro hk
    have h1 := escs_mono s f (k + 1) n hk
    have h2 : stays s f k = true := by
      cases e : stays s f k with
      | true => rfl
      | false => rw [escs_no e] at h1; omega
    rw [enc_yes h2, ih (by omega), take_byU s k (by omega)]

/-- Where the last segment of the first k bytes begins. -/
def lastTo (s : ByteArray) : Nat → Nat
  | 0 => 0
  | k + 1 => if by8 s k = 47 then k + 1 else lastTo s k
theorem lastTo_le (s : ByteArray) (k : Nat) : lastTo s k ≤ k := by
  induction k with
  | zero => exact Nat.le_refl _
  | succ k ih => simp only [lastTo]; split <;> omega

theorem lastIdx_lastTo (s : ByteArray) (k : Nat) (h : k ≤ s.size) : Lib.lastIdx s 47 k = (lastTo s k : Int) - 1 := by
  induction k with
  | zero => rfl
  | succ k ih =>
    have e : (((s.data[k]!).toNat : Nat) : Int) = by8 s k := by
      rw [by8_at s k (by omega)]
      have hk : k < s.data.size := by have : s.data.size = s.size := rfl
                                      omega
      rw [getElem!_pos s.data k hk]; rfl
    simp only [Lib.lastIdx, lastTo, e]
    split
    · omega
    · exact ih (by omega)
theorem lastIndex_slash (s : ByteArray) : Lib.lastIndexByte s 47 = (lastTo s s.size : Int) - 1 := lastIdx_lastTo s s.size (Nat.le_refl _)

/-- A path as symbols have it. -/
def preL (s : ByteArray) : List UInt8 := enc s (lastTo s s.size) s.size
def pre (s : ByteArray) : ByteArray := ⟨(preL s).toArray⟩

theorem pre_size (s : ByteArray) : (pre s).size = s.size + 2 * escs s (lastTo s s.size) s.size := by
  have : (pre s).size = (preL s).length := by simp [pre, ByteArray.size]
  rw [this, preL, enc_length]
theorem pre_le (s : ByteArray) : s.size ≤ (pre s).size ∧ (pre s).size ≤ 3 * s.size := by
  have := pre_size s
  have := escs_le s (lastTo s s.size) s.size
  omega

theorem pre_none (s : ByteArray) (h : escs s (lastTo s s.size) s.size = 0) : pre s = s := by
  have e := enc_none s (lastTo s s.size) s.size (Nat.le_refl _) h s.size (Nat.le_refl _)
  rw [pre, preL, e, List.take_of_length_le (by simp)]

/-! ### Clean texts -/
/-- The first k bytes may stand in a symbol, or are percent signs. -/
def cleanTo (s : ByteArray) : Nat → Bool
  | 0 => true
  | k + 1 => cleanTo s k && (plainI (by8 s k) || by8 s k == 37)
def hasTo (s : ByteArray) (c : Int) : Nat → Bool
  | 0 => false
  | k + 1 => hasTo s c k || by8 s k == c

theorem cleanTo_false (s : ByteArray) (n k : Nat) (hk : k < n) (h : (plainI (by8 s k) || by8 s k == 37) = false) : cleanTo s n = false := by
  induction n with
  | zero => omega
  | succ n ih =>
    by_cases e : k = n
    · subst e; simp only [cleanTo, h, Bool.and_false]
    · simp only [cleanTo, ih (by omega), Bool.false_and]
theorem hasTo_true (s : ByteArray) (c : Int) (n k : Nat) (hk : k < n) (h : by8 s k = c) : hasTo s c n = true := by
  induction n with
  | zero => omega
  | succ n ih =>
    by_cases e : k = n
    · subst e; simp [hasTo, h]
    · simp only [hasTo, ih (by omega), Bool.true_or]
theorem hasTo_false (s : ByteArray) (c : Int) (n : Nat) (h : hasTo s c n = false) : ∀ k, k < n → by8 s k ≠ c := by
  induction n with
  | zero => intro k hk; omega
  | succ n ih =>
    intro k hk
    simp only [hasTo, Bool.or_eq_false_iff] at h
    by_cases e : k = n
    · subst e; simpa using h.2
    · exact ih h.1 k (by omega)
theorem cleanTo_all (s : ByteArray) (n : Nat) (h : ∀ k, k < n → (plainI (by8 s k) || by8 s k == 37) = true) : cleanTo s n = true := by
  induction n with
  | zero => rfl
  | succ n ih => simp only [cleanTo, ih (fun k hk => h k (by omega)), h n (by omega), Bool.and_self]

def okB (b : UInt8) : Bool := plainI (b.toNat : Int) || (b.toNat : Int) == 37

theorem hexB_ok (n : Nat) (h : n < 16) : okB (hexB n) = true := by
  have := hexB_nat n h
  unfold okB plainI
  rw [this]
  split <;> simp <;> omega

theorem piece_ok (s : ByteArray) (f k : Nat) : ∀ b ∈ piece s f k, okB b = true := by
  intro b hb
  unfold piece at hb
  have hlt := UInt8.toNat_lt (byU s k)
  split at hb
  · rename_i h
    simp only [List.mem_singleton] at hb
    subst hb
    have : plainI (by8 s k) = true := by simp only [stays, Bool.and_eq_true] at h; exact h.1
    simp only [okB]
    rw [show (((byU s k).toNat : Nat) : Int) = by8 s k from rfl, this, Bool.true_or]
  · simp only [List.mem_cons, List.not_mem_nil, or_false] at hb
    rcases hb with rfl | rfl | rfl
    · decide
    · exact hexB_ok _ (by omega)
    · exact hexB_ok _ (by omega)

theorem enc_ok (s : ByteArray) (f k : Nat) : ∀ b ∈ enc s f k, okB b = true := by
  induction k with
  | zero => intro b hb; simp [enc] at hb
  | succ k ih =>
    intro b hb
    simp only [enc, List.mem_append] at hb
    rcases hb with hb | hb
    · exact ih b hb
    · exact piece_ok s f k b hb

theorem pre_clean (s : ByteArray) : cleanTo (pre s) (pre s).size = true := by
  apply cleanTo_all
  intro k hk
  have h' : k < (preL s).length := by simpa [pre, ByteArray.size] using hk
  have e : byU (pre s) k = (preL s)[k] := by
    simp only [byU, pre, List.getD_eq_getElem?_getD]
    rw [List.getElem?_eq_getElem h']; rfl
  have := enc_ok s (lastTo s s.size) s.size _ (List.getElem_mem h')
  unfold by8
  rw [e]
  exact this

/-! ### Reading it back -/
/-- The value of a digit of base 16, or 16. -/
def valH (b : UInt8) : Nat :=
  if 48 ≤ b.toNat ∧ b.toNat ≤ 57 then b.toNat - 48 else if 97 ≤ b.toNat ∧ b.toNat ≤ 102 then b.toNat - 87 else if 65 ≤ b.toNat ∧ b.toNat ≤ 70 then b.toNat - 55 else 16

/-- What a prefixed text stands for. -/
def dec : List UInt8 → Option (List UInt8)
  | [] => some []
  | [c] => if c = 37 then none else some [c]
  | [c, a] => if c = 37 then none else (dec [a]).map (c :: ·)
  | c :: a :: b :: r => if c = 37 then (if valH a < 16 ∧ valH b < 16 then (dec r).map (UInt8.ofNat (16 * valH a + valH b) :: ·) else none) else (dec (a :: b :: r)).map (c :: ·)

theorem dec_other (c : UInt8) (r : List UInt8) (h : c ≠ 37) : dec (c :: r) = (dec r).map (c :: ·) := by
  match r with
  | [] => simp [dec, h]
  | [a] => simp [dec, h]
  | a :: b :: r => rw [dec, if_neg h]
theorem dec_esc (a b : UInt8) (r : List UInt8) (ha : valH a < 16) (hb : valH b < 16) : dec (37 :: a :: b :: r) = (dec r).map (UInt8.ofNat (16 * valH a + valH b) :: ·) := by
  rw [dec, if_pos rfl, if_pos ⟨ha, hb⟩]

theorem valH_hexB (n : Nat) (h : n < 16) : valH (hexB n) = n := by
  have := hexB_nat n h
  unfold valH
  by_cases h10 : n < 10
  · rw [if_pos h10] at this; rw [this, if_pos (by omega)]; omega
  · rw [if_neg h10] at this; rw [this, if_neg (by omega), if_pos (by omega)]; omega

theorem dec_piece (s : ByteArray) (f k : Nat) (r : List UInt8) : dec (piece s f k ++ r) = (dec r).map (byU s k :: ·) := by
  have hlt := UInt8.toNat_lt (byU s k)
  unfold piece
  split
  · rename_i h
    have hne : byU s k ≠ 37 := by
      intro e
      have h1 : plainI (by8 s k) = true := by simp only [stays, Bool.and_eq_true] at h; exact h.1
      rw [by8, e] at h1
      exact absurd h1 (by decide)
    exact dec_other _ _ hne
  · show dec (37 :: hexB _ :: hexB _ :: r) = _
    have h1 := valH_hexB ((byU s k).toNat / 16) (by omega)
    have h2 := valH_hexB ((byU s k).toNat % 16) (by omega)
    rw [dec_esc _ _ _ (by omega) (by omega), h1, h2]
    have e : UInt8.ofNat (16 * ((byU s k).toNat / 16) + (byU s k).toNat % 16) = byU s k := by
      rw [Nat.div_add_mod]; simp
    rw [e]

def tailE (s : ByteArray) (f : Nat) : Nat → Nat → List UInt8
  | _, 0 => []
  | k, m + 1 => piece s f k ++ tailE s f (k + 1) m

theorem enc_tail (s : ByteArray) (f : Nat) (m : Nat) : ∀ k, enc s f (k + m) = enc s f k ++ tailE s f k m := by
  induction m with
  | zero => intro k; simp [tailE]
  | succ m ih =>
    intro k
    rw [show k + (m + 1) = (k + 1) + m by omega, ih (k + 1)]
    simp [enc, tailE]

theorem dec_tail (s : ByteArray) (f : Nat) (m : Nat) : ∀ k, k + m = s.size → dec (tailE s f k m) = some (s.data.toList.drop k) := by
  induction m with
  | zero => intro k hk; rw [List.drop_of_length_le (by simp; omega)]; rfl
  | succ m ih =>
    intro k hk
    have h' : k < s.data.toList.length := by simp; omega
    rw [tailE, dec_piece, ih (k + 1) (by omega), Option.map_some, List.drop_eq_getElem_cons h']
    congr 2
    rw [byU, List.getD_eq_getElem?_getD, List.getElem?_eq_getElem h']; rfl

theorem dec_pre (s : ByteArray) : dec (preL s) = some s.data.toList := by
  have := enc_tail s (lastTo s s.size) s.size 0
  rw [preL]
  rw [Nat.zero_add] at this
  rw [this]
  simp only [enc, List.nil_append]
  rw [dec_tail s _ s.size 0 (by omega), List.drop_zero]

theorem pre_inj (a b : ByteArray) (h : pre a = pre b) : a = b := by
  have h1 : preL a = preL b := by
    have h2 := congrArg (fun x : ByteArray => x.data.toList) h
    simpa [pre] using h2
  have := dec_pre a
  rw [h1, dec_pre b] at this
  have h3 : b.data.toList = a.data.toList := Option.some.inj this
  have h4 : b.data = a.data := Array.toList_inj.1 h3
  cases a; cases b; simp_all

end Go.Proofs.YtnlebcllloceoaaDoor

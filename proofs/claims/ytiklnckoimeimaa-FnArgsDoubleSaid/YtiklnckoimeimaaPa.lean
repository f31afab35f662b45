/- What reading arguments comes to, in plain words. No program stands here. -/
namespace Go.Proofs.Ytiklnckoimeimaa

/-- Byte k of a text. -/
def byU (s : ByteArray) (k : Nat) : UInt8 := s.data.toList.getD k 0
theorem byU_at (s : ByteArray) (k : Nat) (h : k < s.size) : byU s k = s[k]'h := by
  have h' : k < s.data.toList.length := by simpa using h
  unfold byU
  rw [List.getD_eq_getElem?_getD, List.getElem?_eq_getElem h']; rfl
theorem drop_byU (s : ByteArray) (k : Nat) (h : k < s.size) : s.data.toList.drop k = byU s k :: s.data.toList.drop (k + 1) := by
  have h' : k < s.data.toList.length := by simpa using h
  rw [List.drop_eq_getElem_cons h', byU, List.getD_eq_getElem?_getD, List.getElem?_eq_getElem h']; rfl
theorem drop_end (s : ByteArray) (k : Nat) (h : s.size ≤ k) : s.data.toList.drop k = [] := List.drop_of_length_le (by simpa using h)

/-- A byte held against a number. -/
theorem b_eq (u : UInt8) (n : Nat) (h : n < 256) : ((u.toNat : Int) == (n : Int)) = decide (u = UInt8.ofNat n) := by
  rw [Bool.eq_iff_iff]
  simp only [beq_iff_eq, decide_eq_true_eq]
  constructor
  · intro e
    have : u.toNat = n := by omega
    rw [← this]; simp
  · intro e; subst e; simp; omega

/-- Where the reader of arguments stands. -/
structure PSt where
  args : List (List UInt8)
  arg : List UInt8
  has : Bool
  sq : Bool
  dq : Bool

def st0 : PSt := ⟨[], [], false, false, false⟩
def PSt.put (σ : PSt) (c : UInt8) : PSt := ⟨σ.args, σ.arg ++ [c], σ.has, σ.sq, σ.dq⟩
def PSt.some (σ : PSt) : Bool := decide (0 < σ.arg.length) || σ.has
def PSt.cutoff (σ : PSt) : PSt := if σ.some then ⟨σ.args ++ [σ.arg], [], false, σ.sq, σ.dq⟩ else σ
def PSt.fin (σ : PSt) : List (List UInt8) := if σ.some then σ.args ++ [σ.arg] else σ.args

theorem cutoff_yes {args : List (List UInt8)} {arg : List UInt8} {has sq dq : Bool} (h : 0 < arg.length ∨ has = true) : PSt.cutoff ⟨args, arg, has, sq, dq⟩ = ⟨args ++ [arg], [], false, sq, dq⟩ := by
  have e : PSt.some ⟨args, arg, has, sq, dq⟩ = true := by
    unfold PSt.some
    rcases h with h | h
    · rw [decide_eq_true h]; rfl
    · rw [h, Bool.or_true]
  rw [PSt.cutoff, if_pos e]
theorem cutoff_no {args : List (List UInt8)} {sq dq : Bool} : PSt.cutoff ⟨args, [], false, sq, dq⟩ = ⟨args, [], false, sq, dq⟩ := rfl
theorem fin_yes {args : List (List UInt8)} {arg : List UInt8} {has sq dq : Bool} (h : 0 < arg.length ∨ has = true) : PSt.fin ⟨args, arg, has, sq, dq⟩ = args ++ [arg] := by
  have e : PSt.some ⟨args, arg, has, sq, dq⟩ = true := by
    unfold PSt.some
    rcases h with h | h
    · rw [decide_eq_true h]; rfl
    · rw [h, Bool.or_true]
  rw [PSt.fin, if_pos e]
theorem fin_no {args : List (List UInt8)} {sq dq : Bool} : PSt.fin ⟨args, [], false, sq, dq⟩ = args := rfl

/-- Behind a backslash, within double quotes and outside of quotes. -/
def escD : List UInt8 → PSt → List UInt8 × PSt
  | [], σ => ([], σ.put 92)
  | n :: r2, σ =>
    if n = 92 ∨ n = 34 ∨ n = 36 ∨ n = 96 then (r2, σ.put n)
    else if n = 10 then (r2, σ)
    else if n = 13 ∧ r2.head? = Option.some 10 then (r2.tail, σ)
    else (n :: r2, σ.put 92)
def escN : List UInt8 → PSt → List UInt8 × PSt
  | [], σ => ([], σ)
  | n :: r2, σ =>
    if n = 10 then (r2, σ)
    else if n = 13 ∧ r2.head? = Option.some 10 then (r2.tail, σ)
    else (r2, ⟨σ.args, σ.arg ++ [n], true, σ.sq, σ.dq⟩)

/-- One round, at byte c with r behind it: what is left, and where the reader stands. -/
def nextP (c : UInt8) (r : List UInt8) (σ : PSt) : List UInt8 × PSt :=
  if σ.sq then (if c = 39 then (r, ⟨σ.args, σ.arg, σ.has, false, σ.dq⟩) else (r, σ.put c))
  else if σ.dq then
    (if c = 92 then escD r σ
    else if c = 34 then (r, ⟨σ.args, σ.arg, σ.has, σ.sq, false⟩) else (r, σ.put c))
  else if c = 32 ∨ c = 9 ∨ c = 10 ∨ c = 13 then (r, σ.cutoff)
  else if c = 39 then (r, ⟨σ.args, σ.arg, true, true, σ.dq⟩)
  else if c = 34 then (r, ⟨σ.args, σ.arg, true, σ.sq, true⟩)
  else if c = 92 then escN r σ
  else (r, σ.put c)

def paF : Nat → List UInt8 → PSt → List (List UInt8)
  | _, [], σ => σ.fin
  | 0, _ :: _, σ => σ.fin
  | n + 1, c :: r, σ => paF n (nextP c r σ).1 (nextP c r σ).2
/-- The arguments that are read. -/
def pa (l : List UInt8) (σ : PSt) : List (List UInt8) := paF l.length l σ

theorem escD_le (r : List UInt8) (σ : PSt) : (escD r σ).1.length ≤ r.length := by
  cases r with
  | nil => simp [escD]
  | cons n r2 =>
    simp only [escD]
    repeat' split
    all_goals simp
    omega
theorem escN_le (r : List UInt8) (σ : PSt) : (escN r σ).1.length ≤ r.length := by
  cases r with
  | nil => simp [escN]
  | cons n r2 =>
    simp only [escN]
    repeat' split
    all_goals simp
    omega
theorem nextP_le (c : UInt8) (r : List UInt8) (σ : PSt) : (nextP c r σ).1.length ≤ r.length := by
  have h1 := escD_le r σ
  have h2 := escN_le r σ
  unfold nextP
  repeat' split
  all_goals first | exact h1 | exact h2 | exact Nat.le_refl _

theorem paF_more (n : Nat) : ∀ (m : Nat) (l : List UInt8) (σ : PSt), l.length ≤ n → l.length ≤ m → paF n l σ = paF m l σ := by
  induction n with
  | zero =>
    intro m l σ h1 _
    obtain rfl : l = [] := List.length_eq_zero_iff.1 (by omega)
    cases m <;> rfl
  | succ n ih =>
    intro m l σ h1 h2
    cases l with
    | nil => cases m <;> rfl
    | cons c r =>
      cases m with
      | zero => simp at h2
      | succ m =>
        have := nextP_le c r σ
        simp only [List.length_cons] at h1 h2
        rw [paF, paF]
        exact ih m _ _ (by omega) (by omega)

theorem pa_nil (σ : PSt) : pa [] σ = σ.fin := rfl
theorem pa_cons (c : UInt8) (r : List UInt8) (σ : PSt) : pa (c :: r) σ = pa (nextP c r σ).1 (nextP c r σ).2 := by
  have := nextP_le c r σ
  unfold pa
  rw [List.length_cons, paF]
  exact paF_more _ _ _ _ this (Nat.le_refl _)

theorem pa_at {c : UInt8} {r l' : List UInt8} {σ τ : PSt} (h : nextP c r σ = (l', τ)) : pa (c :: r) σ = pa l' τ := by
  rw [pa_cons, h]

end Go.Proofs.Ytiklnckoimeimaa

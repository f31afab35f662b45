/- What the reference reads, in plain words, and that the reader of arguments reads the same. No program stands here. -/
import Derived.Test.YtiklnckoimeimaaPa
namespace Go.Proofs.Ytiklnckoimeimaa

/-- Where the reference stands. -/
structure SSt where
  out : List (List UInt8)
  word : List UInt8
  inn : Bool

def SSt.put (σ : SSt) (c : UInt8) : SSt := ⟨σ.out, σ.word ++ [c], σ.inn⟩
def SSt.endd (σ : SSt) : SSt := ⟨if σ.inn then σ.out ++ [σ.word] else σ.out, [], false⟩

def escS2 : List UInt8 → SSt → Option (List UInt8 × Nat × SSt)
  | [], _ => none
  | n :: r2, σ =>
    if n = 10 then some (r2, 2, σ)
    else if n = 13 ∧ r2.head? = some 10 then some (r2.tail, 2, σ)
    else if n = 92 ∨ n = 34 ∨ n = 36 ∨ n = 96 then some (r2, 2, σ.put n)
    else none
def escS0 : List UInt8 → SSt → Option (List UInt8 × Nat × SSt)
  | [], _ => none
  | n :: r2, σ =>
    if n = 10 then some (r2, 0, σ)
    else if n = 13 ∧ r2.head? = some 10 then some (r2.tail, 0, σ)
    else some (r2, 0, ⟨σ.out, σ.word ++ [n], true⟩)

/-- One step outside of quotes (0), between single quotes (1), between double quotes (2). -/
def nextS (m : Nat) (c : UInt8) (r : List UInt8) (σ : SSt) : Option (List UInt8 × Nat × SSt) :=
  if m = 1 then (if c = 39 then some (r, 0, σ) else some (r, 1, σ.put c))
  else if m = 2 then (if c = 34 then some (r, 0, σ) else if c = 92 then escS2 r σ else some (r, 2, σ.put c))
  else if c = 32 ∨ c = 9 ∨ c = 10 then some (r, 0, σ.endd)
  else if c = 39 then some (r, 1, ⟨σ.out, σ.word, true⟩)
  else if c = 34 then some (r, 2, ⟨σ.out, σ.word, true⟩)
  else if c = 92 then escS0 r σ
  else if c = 13 then none
  else some (r, 0, ⟨σ.out, σ.word ++ [c], true⟩)

def saF : Nat → List UInt8 → Nat → SSt → Option (List (List UInt8))
  | _, [], m, σ => if m = 0 then some σ.endd.out else none
  | 0, _ :: _, _, _ => none
  | n + 1, c :: r, m, σ =>
    match nextS m c r σ with
    | none => none
    | some (l', m', σ') => saF n l' m' σ'
/-- What the reference reads; nothing of a text of which the page says nothing. -/
def sa (l : List UInt8) (m : Nat) (σ : SSt) : Option (List (List UInt8)) := saF l.length l m σ

theorem escS2_le {r l' : List UInt8} {σ σ' : SSt} {m' : Nat} (h : escS2 r σ = some (l', m', σ')) : l'.length ≤ r.length := by
  cases r with
  | nil => simp [escS2] at h
  | cons n r2 =>
    simp only [escS2] at h
    repeat' split at h
    all_goals simp at h
    all_goals obtain ⟨rfl, _⟩ := h
    all_goals simp
    omega
theorem escS0_le {r l' : List UInt8} {σ σ' : SSt} {m' : Nat} (h : escS0 r σ = some (l', m', σ')) : l'.length ≤ r.length := by
  cases r with
  | nil => simp [escS0] at h
  | cons n r2 =>
    simp only [escS0] at h
    repeat' split at h
    all_goals simp at h
    all_goals obtain ⟨rfl, _⟩ := h
    all_goals simp
    omega
theorem nextS_le {m m' : Nat} {c : UInt8} {r l' : List UInt8} {σ σ' : SSt} (h : nextS m c r σ = some (l', m', σ')) : l'.length ≤ r.length := by
  unfold nextS at h
  repeat' split at h
  all_goals first | exact escS2_le h | exact escS0_le h | skip
  all_goals simp at h
  all_goals obtain ⟨rfl, _⟩ := h
  all_goals exact Nat.le_refl _

theorem saF_more (n : Nat) : ∀ (k : Nat) (l : List UInt8) (m : Nat) (σ : SSt), l.length ≤ n → l.length ≤ k → saF n l m σ = saF k l m σ := by
  induction n with
  | zero =>
    intro k l m σ h1 _
    obtain rfl : l = [] := List.length_eq_zero_iff.1 (by omega)
    cases k <;> rfl
  | succ n ih =>
    intro k l m σ h1 h2
    cases l with
    | nil => cases k <;> rfl
    | cons c r =>
      cases k with
      | zero => simp at h2
      | succ k =>
        simp only [List.length_cons] at h1 h2
        rw [saF, saF]
        cases e : nextS m c r σ with
        | none => rfl
        | some x =>
          obtain ⟨l', m', σ'⟩ := x
          have := nextS_le e
          exact ih k l' m' σ' (by omega) (by omega)

theorem sa_nil (m : Nat) (σ : SSt) : sa [] m σ = if m = 0 then some σ.endd.out else none := rfl
theorem sa_step {m m' : Nat} {c : UInt8} {r l' : List UInt8} {σ σ' : SSt} (h : nextS m c r σ = some (l', m', σ')) : sa (c :: r) m σ = sa l' m' σ' := by
  have := nextS_le h
  unfold sa
  rw [List.length_cons, saF, h]
  exact saF_more _ _ _ _ _ this (Nat.le_refl _)
theorem sa_stop {m : Nat} {c : UInt8} {r : List UInt8} {σ : SSt} (h : nextS m c r σ = none) : sa (c :: r) m σ = none := by
  unfold sa
  rw [List.length_cons, saF, h]

/-! ### The reader reads the same -/
/-- The two stand at one place. -/
def Same (m : Nat) (σ : SSt) (τ : PSt) : Prop :=
  τ.args = σ.out ∧ τ.arg = σ.word ∧ σ.inn = τ.some ∧ ((m = 0 ∧ τ.sq = false ∧ τ.dq = false) ∨ (m = 1 ∧ τ.sq = true ∧ τ.has = true ∧ τ.dq = false) ∨ (m = 2 ∧ τ.sq = false ∧ τ.dq = true ∧ τ.has = true))

theorem some_put (a : List (List UInt8)) (w : List UInt8) (c : UInt8) (h q d : Bool) : PSt.some ⟨a, w ++ [c], h, q, d⟩ = true := by simp [PSt.some]
theorem some_has (a : List (List UInt8)) (w : List UInt8) (q d : Bool) : PSt.some ⟨a, w, true, q, d⟩ = true := by simp [PSt.some]

theorem Same.step {m m' : Nat} {c : UInt8} {r l' : List UInt8} {σ σ' : SSt} {τ : PSt} (h : nextS m c r σ = some (l', m', σ')) (hs : Same m σ τ) :
    ∃ τ', nextP c r τ = (l', τ') ∧ Same m' σ' τ' := by
  obtain ⟨out, word, inn⟩ := σ
  obtain ⟨args, arg, has, sq, dq⟩ := τ
  obtain ⟨h1, h2, h3, h4⟩ := hs
  simp only at h1 h2 h3 h4
  subst h1 h2
  rcases h4 with ⟨rfl, rfl, rfl⟩ | ⟨rfl, rfl, rfl, rfl⟩ | ⟨rfl, rfl, rfl, rfl⟩
  · -- outside of quotes
    have h3' : inn = PSt.some ⟨args, arg, has, false, false⟩ := h3
    simp only [nextS, Nat.zero_ne_one, if_false, show (0 : Nat) ≠ 2 from by decide] at h
    simp only [nextP, Bool.false_eq_true, if_false]
    by_cases hb : c = 32 ∨ c = 9 ∨ c = 10
    · rw [if_pos hb] at h
      simp only [Option.some.injEq, Prod.mk.injEq] at h
      obtain ⟨rfl, rfl, rfl⟩ := h
      rw [if_pos (by rcases hb with h | h | h <;> simp [h])]
      refine ⟨_, rfl, ?_⟩
      cases e : PSt.some ⟨args, arg, has, false, false⟩ with
      | true =>
        have e' : 0 < arg.length ∨ has = true := by simpa [PSt.some] using e
        rw [e] at h3'
        subst h3'
        rw [cutoff_yes e']
        exact ⟨rfl, rfl, rfl, .inl ⟨rfl, rfl, rfl⟩⟩
      | false =>
        have : arg = [] ∧ has = false := by simpa [PSt.some] using e
        obtain ⟨rfl, rfl⟩ := this
        simp [PSt.cutoff, SSt.endd, h3', Same, PSt.some]
    · rw [if_neg hb] at h
      by_cases h13 : c = 13
      · subst h13; simp at h
      · rw [if_neg (by simp only [not_or] at hb ⊢; exact ⟨hb.1, hb.2.1, hb.2.2, h13⟩)]
        by_cases h39 : c = 39
        · rw [if_pos h39] at h ⊢
          simp only [Option.some.injEq, Prod.mk.injEq] at h
          obtain ⟨rfl, rfl, rfl⟩ := h
          exact ⟨_, rfl, rfl, rfl, (some_has ..).symm, .inr (.inl ⟨rfl, rfl, rfl, rfl⟩)⟩
        · rw [if_neg h39] at h ⊢
          by_cases h34 : c = 34
          · rw [if_pos h34] at h ⊢
            simp only [Option.some.injEq, Prod.mk.injEq] at h
            obtain ⟨rfl, rfl, rfl⟩ := h
            exact ⟨_, rfl, rfl, rfl, (some_has ..).symm, .inr (.inr ⟨rfl, rfl, rfl, rfl⟩)⟩
          · rw [if_neg h34] at h ⊢
            by_cases h92 : c = 92
            · rw [if_pos h92] at h ⊢
              cases r with
              | nil => simp [escS0] at h
              | cons n r2 =>
                simp only [escS0] at h
                simp only [escN]
                by_cases n10 : n = 10
                · rw [if_pos n10] at h ⊢
                  simp only [Option.some.injEq, Prod.mk.injEq] at h
                  obtain ⟨rfl, rfl, rfl⟩ := h
                  exact ⟨_, rfl, rfl, rfl, h3', .inl ⟨rfl, rfl, rfl⟩⟩
                · rw [if_neg n10] at h ⊢
                  by_cases n13 : n = 13 ∧ r2.head? = some 10
                  · rw [if_pos n13] at h ⊢
                    simp only [Option.some.injEq, Prod.mk.injEq] at h
                    obtain ⟨rfl, rfl, rfl⟩ := h
                    exact ⟨_, rfl, rfl, rfl, h3', .inl ⟨rfl, rfl, rfl⟩⟩
                  · rw [if_neg n13] at h ⊢
                    simp only [Option.some.injEq, Prod.mk.injEq] at h
                    obtain ⟨rfl, rfl, rfl⟩ := h
                    exact ⟨_, rfl, rfl, rfl, (some_has ..).symm, .inl ⟨rfl, rfl, rfl⟩⟩
            · rw [if_neg h92] at h ⊢
              rw [if_neg h13] at h
              simp only [Option.some.injEq, Prod.mk.injEq] at h
              obtain ⟨rfl, rfl, rfl⟩ := h
              exact ⟨_, rfl, rfl, rfl, (some_put ..).symm, .inl ⟨rfl, rfl, rfl⟩⟩
  · -- between single quotes
    have hi : inn = true := by rw [h3]; exact some_has ..
    subst hi
    simp only [nextS, if_true] at h
    simp only [nextP, if_true]
    by_cases h39 : c = 39
    · rw [if_pos h39] at h ⊢
      simp only [Option.some.injEq, Prod.mk.injEq] at h
      obtain ⟨rfl, rfl, rfl⟩ := h
      exact ⟨_, rfl, rfl, rfl, (some_has ..).symm, .inl ⟨rfl, rfl, rfl⟩⟩
    · rw [if_neg h39] at h ⊢
      simp only [Option.some.injEq, Prod.mk.injEq] at h
      obtain ⟨rfl, rfl, rfl⟩ := h
      exact ⟨_, rfl, rfl, rfl, (some_has ..).symm, .inr (.inl ⟨rfl, rfl, rfl, rfl⟩)⟩
  · -- between double quotes
    have hi : inn = true := by rw [h3]; exact some_has ..
    subst hi
    simp only [nextS, show (2 : Nat) ≠ 1 from by decide, if_false, if_true] at h
    simp only [nextP, Bool.false_eq_true, if_false, if_true]
    by_cases h34 : c = 34
    · rw [if_pos h34] at h
      subst h34
      rw [if_neg (by decide), if_pos rfl]
      simp only [Option.some.injEq, Prod.mk.injEq] at h
      obtain ⟨rfl, rfl, rfl⟩ := h
      exact ⟨_, rfl, rfl, rfl, (some_has ..).symm, .inl ⟨rfl, rfl, rfl⟩⟩
    · rw [if_neg h34] at h
      by_cases h92 : c = 92
      · rw [if_pos h92] at h ⊢
        cases r with
        | nil => simp [escS2] at h
        | cons n r2 =>
          simp only [escS2] at h
          simp only [escD]
          by_cases n10 : n = 10
          · rw [if_pos n10] at h
            subst n10
            rw [if_neg (by decide), if_pos rfl]
            simp only [Option.some.injEq, Prod.mk.injEq] at h
            obtain ⟨rfl, rfl, rfl⟩ := h
            exact ⟨_, rfl, rfl, rfl, (some_has ..).symm, .inr (.inr ⟨rfl, rfl, rfl, rfl⟩)⟩
          · rw [if_neg n10] at h
            by_cases n13 : n = 13 ∧ r2.head? = some 10
            · rw [if_pos n13] at h
              rw [if_neg (by rw [n13.1]; decide), if_neg n10, if_pos n13]
              simp only [Option.some.injEq, Prod.mk.injEq] at h
              obtain ⟨rfl, rfl, rfl⟩ := h
              exact ⟨_, rfl, rfl, rfl, (some_has ..).symm, .inr (.inr ⟨rfl, rfl, rfl, rfl⟩)⟩
            · rw [if_neg n13] at h
              split at h
              · rename_i he
                rw [if_pos he]
                simp only [Option.some.injEq, Prod.mk.injEq] at h
                obtain ⟨rfl, rfl, rfl⟩ := h
                exact ⟨_, rfl, rfl, rfl, (some_has ..).symm, .inr (.inr ⟨rfl, rfl, rfl, rfl⟩)⟩
              · simp at h
      · rw [if_neg h92] at h ⊢
        rw [if_neg h34]
        simp only [Option.some.injEq, Prod.mk.injEq] at h
        obtain ⟨rfl, rfl, rfl⟩ := h
        exact ⟨_, rfl, rfl, rfl, (some_has ..).symm, .inr (.inr ⟨rfl, rfl, rfl, rfl⟩)⟩

theorem Same.fin {σ : SSt} {τ : PSt} (hs : Same 0 σ τ) : σ.endd.out = τ.fin := by
  obtain ⟨out, word, inn⟩ := σ
  obtain ⟨args, arg, has, sq, dq⟩ := τ
  obtain ⟨h1, h2, h3, _⟩ := hs
  simp only at h1 h2 h3
  subst h1 h2 h3
  rfl

/-- What is read of a text of which the page speaks. -/
theorem pa_of_sa (n : Nat) : ∀ (l : List UInt8) (m : Nat) (σ : SSt) (τ : PSt) (R : List (List UInt8)), l.length ≤ n → Same m σ τ → sa l m σ = some R → pa l τ = R := by
  induction n with
  | zero =>
    intro l m σ τ R hl hs h
    obtain rfl : l = [] := List.length_eq_zero_iff.1 (by omega)
    rw [sa_nil] at h
    split at h
    · subst_vars
      rw [pa_nil, ← Same.fin hs]
      exact Option.some.inj h
    · simp at h
  | succ n ih =>
    intro l m σ τ R hl hs h
    cases l with
    | nil =>
      rw [sa_nil] at h
      split at h
      · subst_vars
        rw [pa_nil, ← Same.fin hs]
        exact Option.some.inj h
      · simp at h
    | cons c r =>
      cases e : nextS m c r σ with
      | none => rw [sa_stop e] at h; simp at h
      | some x =>
        obtain ⟨l', m', σ'⟩ := x
        have hle := nextS_le e
        rw [sa_step e] at h
        obtain ⟨τ', e1, e2⟩ := Same.step e hs
        rw [pa_at e1]
        simp only [List.length_cons] at hl
        exact ih l' m' σ' τ' R (by omega) e2 h

def ss0 : SSt := ⟨[], [], false⟩
theorem pa_spec (l : List UInt8) (R : List (List UInt8)) (h : sa l 0 ss0 = some R) : pa l st0 = R :=
  pa_of_sa l.length l 0 ss0 st0 R (Nat.le_refl _) ⟨rfl, rfl, rfl, .inl ⟨rfl, rfl, rfl⟩⟩ h

end Go.Proofs.Ytiklnckoimeimaa

/- Reading one text behind another. No program stands here. -/
import Derived.Test.YtiklnckoimeimaaSa
namespace Go.Proofs.Ytiklnckoimeimaa

theorem last_tail {c : UInt8} {r : List UInt8} (h : (c :: r).getLast? ≠ some 13) : r.getLast? ≠ some 13 := by
  cases r with
  | nil => simp
  | cons d r => rwa [List.getLast?_cons_cons] at h

theorem escS0_cat {r l' t : List UInt8} {σ σ' : SSt} {m' : Nat} (h : escS0 r σ = some (l', m', σ')) (hc : t.head? = some 10 → r.getLast? ≠ some 13) :
    escS0 (r ++ t) σ = some (l' ++ t, m', σ') ∧ (t.head? = some 10 → l'.getLast? ≠ some 13) := by
  cases r with
  | nil => simp [escS0] at h
  | cons n r2 =>
    rw [List.cons_append]
    simp only [escS0] at h ⊢
    have ht : t.head? = some 10 → r2.getLast? ≠ some 13 := fun e => last_tail (hc e)
    by_cases n10 : n = 10
    · rw [if_pos n10] at h ⊢
      simp only [Option.some.injEq, Prod.mk.injEq] at h
      obtain ⟨rfl, rfl, rfl⟩ := h
      exact ⟨rfl, ht⟩
    · rw [if_neg n10] at h ⊢
      by_cases n13 : n = 13 ∧ r2.head? = some 10
      · rw [if_pos n13] at h
        cases r2 with
        | nil => simp at n13
        | cons d r3 =>
          rw [if_pos (by simpa using n13)]
          simp only [Option.some.injEq, Prod.mk.injEq, List.tail_cons] at h
          obtain ⟨rfl, rfl, rfl⟩ := h
          exact ⟨rfl, fun e => last_tail (ht e)⟩
      · rw [if_neg n13] at h
        simp only [Option.some.injEq, Prod.mk.injEq] at h
        obtain ⟨rfl, rfl, rfl⟩ := h
        refine ⟨?_, ht⟩
        rw [if_neg]
        intro ⟨a, b⟩
        cases r2 with
        | nil =>
          rw [List.nil_append] at b
          exact hc b (by simp [a])
        | cons d r3 => exact n13 ⟨a, by simpa using b⟩

theorem escS2_cat {r l' t : List UInt8} {σ σ' : SSt} {m' : Nat} (h : escS2 r σ = some (l', m', σ')) (hc : t.head? = some 10 → r.getLast? ≠ some 13) :
    escS2 (r ++ t) σ = some (l' ++ t, m', σ') ∧ (t.head? = some 10 → l'.getLast? ≠ some 13) := by
  cases r with
  | nil => simp [escS2] at h
  | cons n r2 =>
    rw [List.cons_append]
    simp only [escS2] at h ⊢
    have ht : t.head? = some 10 → r2.getLast? ≠ some 13 := fun e => last_tail (hc e)
    by_cases n10 : n = 10
    · rw [if_pos n10] at h ⊢
      simp only [Option.some.injEq, Prod.mk.injEq] at h
      obtain ⟨rfl, rfl, rfl⟩ := h
      exact ⟨rfl, ht⟩
    · rw [if_neg n10] at h ⊢
      by_cases n13 : n = 13 ∧ r2.head? = some 10
      · rw [if_pos n13] at h
        cases r2 with
        | nil => simp at n13
        | cons d r3 =>
          rw [if_pos (by simpa using n13)]
          simp only [Option.some.injEq, Prod.mk.injEq, List.tail_cons] at h
          obtain ⟨rfl, rfl, rfl⟩ := h
          exact ⟨rfl, fun e => last_tail (ht e)⟩
      · rw [if_neg n13] at h
        have hne : ¬(n = 13 ∧ (r2 ++ t).head? = some 10) := by
          intro ⟨a, b⟩
          cases r2 with
          | nil =>
            rw [List.nil_append] at b
            exact hc b (by simp [a])
          | cons d r3 => exact n13 ⟨a, by simpa using b⟩
        rw [if_neg hne]
        split at h
        · rename_i he
          simp only [Option.some.injEq, Prod.mk.injEq] at h
          obtain ⟨rfl, rfl, rfl⟩ := h
          rw [if_pos he]
          exact ⟨rfl, ht⟩
        · simp at h

theorem nextS_cat {m m' : Nat} {c : UInt8} {r l' t : List UInt8} {σ σ' : SSt} (h : nextS m c r σ = some (l', m', σ')) (hc : t.head? = some 10 → (c :: r).getLast? ≠ some 13) :
    nextS m c (r ++ t) σ = some (l' ++ t, m', σ') ∧ (t.head? = some 10 → l'.getLast? ≠ some 13) := by
  have ht : t.head? = some 10 → r.getLast? ≠ some 13 := fun e => last_tail (hc e)
  unfold nextS at h ⊢
  repeat' split at h
  all_goals simp only [*, if_true, if_false]
  all_goals first | exact escS2_cat h ht | exact escS0_cat h ht | skip
  all_goals first | (simp at h; done) | skip
  all_goals simp only [Option.some.injEq, Prod.mk.injEq] at h
  all_goals obtain ⟨rfl, rfl, rfl⟩ := h
  all_goals exact ⟨rfl, ht⟩

/-- A text that the page speaks of, read ahead of another. -/
theorem pa_cat (n : Nat) : ∀ (l : List UInt8) (m : Nat) (σ : SSt) (τ : PSt) (R : List (List UInt8)) (t : List UInt8), l.length ≤ n → Same m σ τ → sa l m σ = some R → (t.head? = some 10 → l.getLast? ≠ some 13) →
    ∃ σ' τ', Same 0 σ' τ' ∧ R = σ'.endd.out ∧ pa (l ++ t) τ = pa t τ' := by
  have base : ∀ (m : Nat) (σ : SSt) (τ : PSt) (R : List (List UInt8)) (t : List UInt8), Same m σ τ → sa [] m σ = some R → ∃ σ' τ', Same 0 σ' τ' ∧ R = σ'.endd.out ∧ pa ([] ++ t) τ = pa t τ' := by
    intro m σ τ R t hs h
    rw [sa_nil] at h
    split at h
    · subst_vars
      exact ⟨σ, τ, hs, (Option.some.inj h).symm, rfl⟩
    · simp at h
  induction n with
  | zero =>
    intro l m σ τ R t hl hs h _
    obtain rfl : l = [] := List.length_eq_zero_iff.1 (by omega)
    exact base m σ τ R t hs h
  | succ n ih =>
    intro l m σ τ R t hl hs h hc
    cases l with
    | nil => exact base m σ τ R t hs h
    | cons c r =>
      cases e : nextS m c r σ with
      | none => rw [sa_stop e] at h; simp at h
      | some x =>
        obtain ⟨l', m', σ'⟩ := x
        have hle := nextS_le e
        have ⟨e1, e2⟩ := nextS_cat e hc
        rw [sa_step e] at h
        obtain ⟨τ', f1, f2⟩ := Same.step e1 hs
        rw [List.cons_append, pa_at f1]
        simp only [List.length_cons] at hl
        exact ih l' m' σ' τ' R t (by omega) f2 h e2

/-- The arguments that are there already stay ahead. -/
def SSt.behind (A : List (List UInt8)) (σ : SSt) : SSt := ⟨A ++ σ.out, σ.word, σ.inn⟩
theorem endd_behind (A : List (List UInt8)) (σ : SSt) : (σ.behind A).endd = σ.endd.behind A := by
  unfold SSt.endd SSt.behind
  cases σ.inn <;> simp
theorem escS0_behind (A : List (List UInt8)) (r : List UInt8) (σ : SSt) : escS0 r (σ.behind A) = (escS0 r σ).map fun x => (x.1, x.2.1, x.2.2.behind A) := by
  cases r with
  | nil => rfl
  | cons n r2 =>
    simp only [escS0]
    repeat' split
    all_goals rfl
theorem escS2_behind (A : List (List UInt8)) (r : List UInt8) (σ : SSt) : escS2 r (σ.behind A) = (escS2 r σ).map fun x => (x.1, x.2.1, x.2.2.behind A) := by
  cases r with
  | nil => rfl
  | cons n r2 =>
    simp only [escS2]
    repeat' split
    all_goals rfl
theorem nextS_behind (A : List (List UInt8)) (m : Nat) (c : UInt8) (r : List UInt8) (σ : SSt) : nextS m c r (σ.behind A) = (nextS m c r σ).map fun x => (x.1, x.2.1, x.2.2.behind A) := by
  unfold nextS
  repeat' split
  all_goals first | exact escS0_behind A r σ | exact escS2_behind A r σ | (rw [endd_behind]; rfl) | rfl
theorem sa_behind (A : List (List UInt8)) (n : Nat) : ∀ (l : List UInt8) (m : Nat) (σ : SSt), l.length ≤ n → sa l m (σ.behind A) = (sa l m σ).map (A ++ ·) := by
  have base : ∀ (m : Nat) (σ : SSt), sa [] m (σ.behind A) = (sa [] m σ).map (A ++ ·) := by
    intro m σ
    rw [sa_nil, sa_nil]
    split
    · rw [endd_behind]; rfl
    · rfl
  induction n with
  | zero =>
    intro l m σ hl
    obtain rfl : l = [] := List.length_eq_zero_iff.1 (by omega)
    exact base m σ
  | succ n ih =>
    intro l m σ hl
    cases l with
    | nil => exact base m σ
    | cons c r =>
      have hb := nextS_behind A m c r σ
      cases e : nextS m c r σ with
      | none => rw [e] at hb; rw [sa_stop e, sa_stop hb]; rfl
      | some x =>
        obtain ⟨l', m', σ'⟩ := x
        rw [e] at hb
        have hle := nextS_le e
        simp only [List.length_cons] at hl
        rw [sa_step e, sa_step hb]
        exact ih l' m' σ' (by omega)

def isBlank (c : UInt8) : Prop := c = 32 ∨ c = 9 ∨ c = 10

theorem cutoff_eq (A : List (List UInt8)) (w : List UInt8) (h : Bool) : PSt.cutoff ⟨A, w, h, false, false⟩ = ⟨PSt.fin ⟨A, w, h, false, false⟩, [], false, false, false⟩ := by
  unfold PSt.cutoff PSt.fin
  cases e : PSt.some ⟨A, w, h, false, false⟩ with
  | true => rfl
  | false =>
    have : w = [] ∧ h = false := by simpa [PSt.some] using e
    obtain ⟨rfl, rfl⟩ := this
    rfl
theorem pa_blank (c : UInt8) (hc : isBlank c) (t : List UInt8) (A : List (List UInt8)) (w : List UInt8) (h : Bool) : pa (c :: t) ⟨A, w, h, false, false⟩ = pa t ⟨PSt.fin ⟨A, w, h, false, false⟩, [], false, false, false⟩ := by
  rw [← cutoff_eq]
  refine pa_at ?_
  have : c = 32 ∨ c = 9 ∨ c = 10 ∨ c = 13 := by rcases hc with h | h | h <;> simp [h]
  simp only [nextP, Bool.false_eq_true, if_false, if_pos this]
theorem pa_blanks (bl : List UInt8) (hb : ∀ c ∈ bl, isBlank c) (t : List UInt8) (A : List (List UInt8)) : pa (bl ++ t) ⟨A, [], false, false, false⟩ = pa t ⟨A, [], false, false, false⟩ := by
  induction bl with
  | nil => rfl
  | cons c bl ih =>
    rw [List.cons_append, pa_blank c (hb c (by simp))]
    exact ih (fun c hc => hb c (by simp [hc]))
theorem pa_fin (bl : List UInt8) (hb : ∀ c ∈ bl, isBlank c) (A : List (List UInt8)) (w : List UInt8) (h : Bool) : pa bl ⟨A, w, h, false, false⟩ = PSt.fin ⟨A, w, h, false, false⟩ := by
  cases bl with
  | nil => exact pa_nil _
  | cons c bl =>
    rw [pa_blank c (hb c (by simp))]
    have := pa_blanks bl (fun c hc => hb c (by simp [hc])) [] (PSt.fin ⟨A, w, h, false, false⟩)
    rw [List.append_nil] at this
    rw [this, pa_nil]
    rfl

/-- The plain law of FnArgsBlanks. -/
theorem blanks_plain (a b bl : List UInt8) (x y : List (List UInt8)) (hb : ∀ c ∈ bl, isBlank c) (hx : sa a 0 ss0 = some x) (hy : sa b 0 ss0 = some y) (hl : b.getLast? ≠ some 13) :
    pa (bl ++ (a ++ (32 :: (bl ++ (b ++ bl))))) st0 = x ++ y := by
  rw [show st0 = ⟨[], [], false, false, false⟩ from rfl, pa_blanks bl hb]
  obtain ⟨σ1, τ1, s1, rfl, e1⟩ := pa_cat a.length a 0 ss0 st0 x (32 :: (bl ++ (b ++ bl))) (Nat.le_refl _) ⟨rfl, rfl, rfl, .inl ⟨rfl, rfl, rfl⟩⟩ hx (by simp)
  rw [show (⟨[], [], false, false, false⟩ : PSt) = st0 from rfl, e1, Same.fin s1]
  have h1 : τ1.sq = false ∧ τ1.dq = false := by
    obtain ⟨_, _, _, h⟩ := s1
    rcases h with h | h | h
    · exact h.2
    · simp at h
    · simp at h
  obtain ⟨A, w, h, q, d⟩ := τ1
  obtain ⟨rfl, rfl⟩ := h1
  rw [pa_blank 32 (.inl rfl), pa_blanks bl hb]
  generalize PSt.fin ⟨A, w, h, false, false⟩ = X
  have hy2 : sa b 0 ⟨X, [], false⟩ = some (X ++ y) := by
    have := sa_behind X b.length b 0 ss0 (Nat.le_refl _)
    rw [hy] at this
    simpa [SSt.behind, ss0] using this
  obtain ⟨σ2, τ2, s2, e2, e3⟩ := pa_cat b.length b 0 ⟨X, [], false⟩ ⟨X, [], false, false, false⟩ (X ++ y) bl (Nat.le_refl _) ⟨rfl, rfl, rfl, .inl ⟨rfl, rfl, rfl⟩⟩ hy2 (fun _ => hl)
  rw [e3, e2, Same.fin s2]
  have h2 : τ2.sq = false ∧ τ2.dq = false := by
    obtain ⟨_, _, _, h⟩ := s2
    rcases h with h | h | h
    · exact h.2
    · simp at h
    · simp at h
  obtain ⟨A2, w2, h2', q2, d2⟩ := τ2
  obtain ⟨rfl, rfl⟩ := h2
  exact pa_fin bl hb _ _ _

/-! ### Lines -/
/-- A byte that is no quote, no backslash, no carriage return. -/
def isPlain (c : UInt8) : Prop := c ≠ 39 ∧ c ≠ 34 ∧ c ≠ 92 ∧ c ≠ 13

theorem plain_run (l : List UInt8) (hp : ∀ c ∈ l, isPlain c) : ∀ (σ : SSt) (τ : PSt), Same 0 σ τ → ∃ σ' τ', Same 0 σ' τ' ∧ ∀ t, sa (l ++ t) 0 σ = sa t 0 σ' ∧ pa (l ++ t) τ = pa t τ' := by
  induction l with
  | nil => intro σ τ hs; exact ⟨σ, τ, hs, fun t => ⟨rfl, rfl⟩⟩
  | cons c l ih =>
    intro σ τ hs
    obtain ⟨p1, p2, p3, p4⟩ := hp c (by simp)
    obtain ⟨σ1, h1⟩ : ∃ σ1, ∀ r, nextS 0 c r σ = some (r, 0, σ1) := by
      by_cases hb : c = 32 ∨ c = 9 ∨ c = 10
      · exact ⟨_, fun r => by rw [nextS, if_neg (by decide), if_neg (by decide), if_pos hb]⟩
      · exact ⟨_, fun r => by rw [nextS, if_neg (by decide), if_neg (by decide), if_neg hb, if_neg p1, if_neg p2, if_neg p3, if_neg p4]⟩
    obtain ⟨τ1, f1, f2⟩ := Same.step (h1 []) hs
    have hτ : ∀ r, nextP c r τ = (r, τ1) := by
      intro r
      obtain ⟨τ2, g1, g2⟩ := Same.step (h1 r) hs
      have : τ2 = τ1 := by
        obtain ⟨_, _, _, h⟩ := hs
        have hq : τ.sq = false ∧ τ.dq = false := by
          rcases h with h | h | h
          · exact h.2
          · simp at h
          · simp at h
        have k : ∀ r, (nextP c r τ).2 = (nextP c [] τ).2 := by
          intro r
          unfold nextP
          simp only [hq.1, hq.2, Bool.false_eq_true, if_false, if_neg p1, if_neg p2, if_neg p3]
          split <;> rfl
        have := k r
        rw [g1, f1] at this
        exact this
      rw [g1, this]
    obtain ⟨σ', τ', s', k'⟩ := ih (fun c hc => hp c (by simp [hc])) σ1 τ1 f2
    exact ⟨σ', τ', s', fun t => ⟨by rw [List.cons_append, sa_step (h1 (l ++ t))]; exact (k' t).1, by rw [List.cons_append, pa_at (hτ (l ++ t))]; exact (k' t).2⟩⟩

/-- The plain law of FnArgsLines. -/
theorem lines_plain (a b ln : List UInt8) (R : List (List UInt8)) (hp : ∀ c ∈ a, isPlain c) (hR : sa (a ++ b) 0 ss0 = some R) (hl : ln = [92, 10] ∨ ln = [92, 13, 10]) : pa (a ++ (ln ++ b)) st0 = R := by
  obtain ⟨σ', τ', s', k⟩ := plain_run a hp ss0 st0 ⟨rfl, rfl, rfl, .inl ⟨rfl, rfl, rfl⟩⟩
  rw [(k _).2]
  rw [(k b).1] at hR
  have hq : τ'.sq = false ∧ τ'.dq = false := by
    obtain ⟨_, _, _, h⟩ := s'
    rcases h with h | h | h
    · exact h.2
    · simp at h
    · simp at h
  have : pa (ln ++ b) τ' = pa b τ' := by
    rcases hl with rfl | rfl
    · refine pa_at ?_
      simp [nextP, hq, escN]
    · refine pa_at ?_
      simp [nextP, hq, escN]
  rw [this]
  exact pa_of_sa b.length b 0 σ' τ' R (Nat.le_refl _) s' hR
end Go.Proofs.Ytiklnckoimeimaa

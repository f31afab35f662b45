/- How many arguments are read. No program stands here. -/
import Derived.Test.YtiklnckoimeimaaSa
namespace Go.Proofs.Ytiklnckoimeimaa

theorem escS2_out {r l' : List UInt8} {σ σ' : SSt} {m' : Nat} (h : escS2 r σ = some (l', m', σ')) : σ'.out = σ.out := by
  cases r with
  | nil => simp [escS2] at h
  | cons n r2 =>
    simp only [escS2] at h
    repeat' split at h
    all_goals simp at h
    all_goals obtain ⟨_, _, rfl⟩ := h
    all_goals rfl
theorem escS0_out {r l' : List UInt8} {σ σ' : SSt} {m' : Nat} (h : escS0 r σ = some (l', m', σ')) : σ'.out = σ.out := by
  cases r with
  | nil => simp [escS0] at h
  | cons n r2 =>
    simp only [escS0] at h
    repeat' split at h
    all_goals simp at h
    all_goals obtain ⟨_, _, rfl⟩ := h
    all_goals rfl
theorem endd_out (σ : SSt) : σ.endd.out.length ≤ σ.out.length + 1 := by
  unfold SSt.endd
  cases σ.inn <;> simp
theorem nextS_out {m m' : Nat} {c : UInt8} {r l' : List UInt8} {σ σ' : SSt} (h : nextS m c r σ = some (l', m', σ')) : σ'.out.length ≤ σ.out.length + 1 := by
  unfold nextS at h
  repeat' split at h
  all_goals first | (rw [escS2_out h]; omega) | (rw [escS0_out h]; omega) | skip
  all_goals simp at h
  all_goals obtain ⟨_, _, rfl⟩ := h
  all_goals first | exact endd_out σ | simp [SSt.put]
theorem sa_len (n : Nat) : ∀ (l : List UInt8) (m : Nat) (σ : SSt) (R : List (List UInt8)), l.length ≤ n → sa l m σ = some R → R.length ≤ σ.out.length + l.length + 1 := by
  have base : ∀ (m : Nat) (σ : SSt) (R : List (List UInt8)), sa [] m σ = some R → R.length ≤ σ.out.length + 1 := by
    intro m σ R h
    rw [sa_nil] at h
    split at h
    · obtain rfl := Option.some.inj h
      exact endd_out σ
    · simp at h
  induction n with
  | zero =>
    intro l m σ R hl h
    obtain rfl : l = [] := List.length_eq_zero_iff.1 (by omega)
    exact base m σ R h
  | succ n ih =>
    intro l m σ R hl h
    cases l with
    | nil => exact base m σ R h
    | cons c r =>
      cases e : nextS m c r σ with
      | none => rw [sa_stop e] at h; simp at h
      | some x =>
        obtain ⟨l', m', σ'⟩ := x
        have h1 := nextS_le e
        have h2 := nextS_out e
        rw [sa_step e] at h
        simp only [List.length_cons] at hl ⊢
        have := ih l' m' σ' R (by omega) h
        omega
end Go.Proofs.Ytiklnckoimeimaa

/- Reading a list of quoted arguments. No program stands here. -/
import Derived.Test.YtiklnckoimeimaaCat
import Derived.Test.YtiklnckoimeimaaLs
namespace Go.Proofs.Ytiklnckoimeimaa

theorem getD_map (q : List UInt8 → List UInt8) (L : List (List UInt8)) (k : Nat) (h : k < L.length) : (L.map q).getD k [] = q (L.getD k []) := by
  simp [List.getD_eq_getElem?_getD, List.getElem?_eq_getElem h]
theorem take_getD (L : List (List UInt8)) (k : Nat) (h : k < L.length) : L.take k ++ [L.getD k []] = L.take (k + 1) := by
  rw [List.getD_eq_getElem?_getD, List.getElem?_eq_getElem h]
  simp

theorem join_plain (q : List UInt8 → List UInt8) (L : List (List UInt8)) (hq : ∀ x ∈ L, ∀ A t, pa (q x ++ t) ⟨A, [], false, false, false⟩ = pa t ⟨A, x, true, false, false⟩) :
    pa (jo (L.map q) L.length) st0 = L := by
  have hC : ∀ k, k < L.length → ∀ t, pa (jo (L.map q) (k + 1) ++ t) st0 = pa t ⟨L.take k, L.getD k [], true, false, false⟩ := by
    intro k
    induction k with
    | zero =>
      intro h t
      have hm : L.getD 0 [] ∈ L := by rw [List.getD_eq_getElem?_getD, List.getElem?_eq_getElem h]; simp
      have : jo (L.map q) 1 = q (L.getD 0 []) := by
        show [] ++ ((if 0 < 0 then [32] else []) ++ (L.map q).getD 0 []) = _
        rw [getD_map q L 0 h]; rfl
      rw [this]
      exact hq _ hm [] t
    | succ k ih =>
      intro h t
      have hm : L.getD (k + 1) [] ∈ L := by rw [List.getD_eq_getElem?_getD, List.getElem?_eq_getElem h]; simp
      have : jo (L.map q) (k + 1 + 1) ++ t = jo (L.map q) (k + 1) ++ (32 :: (q (L.getD (k + 1) []) ++ t)) := by
        show (jo (L.map q) (k + 1) ++ ((if 0 < k + 1 then [32] else []) ++ (L.map q).getD (k + 1) [])) ++ t = _
        rw [getD_map q L (k + 1) h, if_pos (by omega)]
        simp
      rw [this, ih (by omega), pa_blank 32 (.inl rfl), fin_yes (.inr rfl), take_getD L k (by omega)]
      exact hq _ hm _ t
  cases e : L.length with
  | zero =>
    obtain rfl : L = [] := List.length_eq_zero_iff.1 e
    rfl
  | succ m =>
    have := hC m (by omega) []
    rw [List.append_nil] at this
    rw [this, pa_nil, fin_yes (.inr rfl), take_getD L m (by omega), ← e, List.take_length]

/-! ### Between single quotes -/
def qS (x : List UInt8) : List UInt8 := 39 :: (x ++ [39])
theorem single_in (x : List UInt8) (hx : (39 : UInt8) ∉ x) (A : List (List UInt8)) (t : List UInt8) : ∀ w, pa (x ++ (39 :: t)) ⟨A, w, true, true, false⟩ = pa t ⟨A, w ++ x, true, false, false⟩ := by
  induction x with
  | nil => intro w; rw [List.append_nil]; exact pa_at (by simp [nextP])
  | cons c x ih =>
    intro w
    have hc : c ≠ 39 := fun e => hx (by simp [e])
    rw [List.cons_append, pa_at (show nextP c (x ++ 39 :: t) ⟨A, w, true, true, false⟩ = (x ++ 39 :: t, ⟨A, w ++ [c], true, true, false⟩) from by simp [nextP, hc, PSt.put])]
    rw [ih (fun h => hx (by simp [h])) (w ++ [c]), List.append_assoc]; rfl
theorem single_plain (L : List (List UInt8)) (hL : ∀ x ∈ L, (39 : UInt8) ∉ x) : pa (jo (L.map qS) L.length) st0 = L := by
  refine join_plain qS L fun x hx A t => ?_
  unfold qS
  rw [List.cons_append, List.append_assoc, pa_at (show nextP 39 (x ++ ([39] ++ t)) ⟨A, [], false, false, false⟩ = (x ++ ([39] ++ t), ⟨A, [], true, true, false⟩) from by simp [nextP])]
  exact single_in x (hL x hx) A t []

/-! ### Between double quotes -/
def escB (c : UInt8) : List UInt8 := if c = 92 ∨ c = 34 ∨ c = 36 ∨ c = 96 then [92, c] else [c]
def qD (x : List UInt8) : List UInt8 := 34 :: (x.flatMap escB ++ [34])
theorem double_in (x : List UInt8) (A : List (List UInt8)) (t : List UInt8) : ∀ w, pa (x.flatMap escB ++ (34 :: t)) ⟨A, w, true, false, true⟩ = pa t ⟨A, w ++ x, true, false, false⟩ := by
  induction x with
  | nil => intro w; rw [List.append_nil]; exact pa_at (by simp [nextP])
  | cons c x ih =>
    intro w
    rw [List.flatMap_cons, List.append_assoc]
    by_cases hc : c = 92 ∨ c = 34 ∨ c = 36 ∨ c = 96
    · rw [escB, if_pos hc]
      rw [show ([92, c] ++ (x.flatMap escB ++ 34 :: t) : List UInt8) = 92 :: (c :: (x.flatMap escB ++ 34 :: t)) from rfl]
      rw [pa_at (show nextP 92 (c :: (x.flatMap escB ++ 34 :: t)) ⟨A, w, true, false, true⟩ = (x.flatMap escB ++ 34 :: t, ⟨A, w ++ [c], true, false, true⟩) from by simp [nextP, escD, hc, PSt.put])]
      rw [ih (w ++ [c]), List.append_assoc]; rfl
    · rw [escB, if_neg hc]
      simp only [not_or] at hc
      rw [show ([c] ++ (x.flatMap escB ++ 34 :: t) : List UInt8) = c :: (x.flatMap escB ++ 34 :: t) from rfl]
      rw [pa_at (show nextP c (x.flatMap escB ++ 34 :: t) ⟨A, w, true, false, true⟩ = (x.flatMap escB ++ 34 :: t, ⟨A, w ++ [c], true, false, true⟩) from by simp [nextP, hc.1, hc.2.1, PSt.put])]
      rw [ih (w ++ [c]), List.append_assoc]; rfl
theorem double_plain (L : List (List UInt8)) : pa (jo (L.map qD) L.length) st0 = L := by
  refine join_plain qD L fun x hx A t => ?_
  unfold qD
  rw [List.cons_append, List.append_assoc, pa_at (show nextP 34 (x.flatMap escB ++ ([34] ++ t)) ⟨A, [], false, false, false⟩ = (x.flatMap escB ++ ([34] ++ t), ⟨A, [], true, false, true⟩) from by simp [nextP])]
  exact double_in x A t []

/-! ### A backslash ahead of each byte -/
def qE (x : List UInt8) : List UInt8 := x.flatMap fun c => [92, c]
theorem escaped_in (x : List UInt8) (hx : (10 : UInt8) ∉ x ∧ (13 : UInt8) ∉ x) (A : List (List UInt8)) (t : List UInt8) : ∀ w, pa (qE x ++ t) ⟨A, w, true, false, false⟩ = pa t ⟨A, w ++ x, true, false, false⟩ := by
  induction x with
  | nil => intro w; rw [List.append_nil]; rfl
  | cons c x ih =>
    intro w
    have h10 : c ≠ 10 := fun e => hx.1 (by simp [e])
    have h13 : c ≠ 13 := fun e => hx.2 (by simp [e])
    have hi := ih ⟨fun h => hx.1 (by simp [h]), fun h => hx.2 (by simp [h])⟩
    unfold qE at hi ⊢
    rw [List.flatMap_cons, List.append_assoc]
    rw [show ([92, c] ++ (x.flatMap (fun c => [92, c]) ++ t) : List UInt8) = 92 :: (c :: (x.flatMap (fun c => [92, c]) ++ t)) from rfl]
    rw [pa_at (show nextP 92 (c :: (x.flatMap (fun c => [92, c]) ++ t)) ⟨A, w, true, false, false⟩ = (x.flatMap (fun c => [92, c]) ++ t, ⟨A, w ++ [c], true, false, false⟩) from by simp [nextP, escN, h10, h13])]
    rw [hi (w ++ [c]), List.append_assoc]; rfl
theorem escaped_plain (L : List (List UInt8)) (hL : ∀ x ∈ L, x ≠ [] ∧ (10 : UInt8) ∉ x ∧ (13 : UInt8) ∉ x) : pa (jo (L.map qE) L.length) st0 = L := by
  refine join_plain qE L fun x hx A t => ?_
  obtain ⟨h0, h10, h13⟩ := hL x hx
  cases x with
  | nil => exact absurd rfl h0
  | cons c x =>
    have g10 : c ≠ 10 := fun e => h10 (by simp [e])
    have g13 : c ≠ 13 := fun e => h13 (by simp [e])
    have hi := escaped_in x ⟨fun h => h10 (by simp [h]), fun h => h13 (by simp [h])⟩ A t [c]
    unfold qE at hi ⊢
    rw [List.flatMap_cons, List.append_assoc]
    rw [show ([92, c] ++ (x.flatMap (fun c => [92, c]) ++ t) : List UInt8) = 92 :: (c :: (x.flatMap (fun c => [92, c]) ++ t)) from rfl]
    rw [pa_at (show nextP 92 (c :: (x.flatMap (fun c => [92, c]) ++ t)) ⟨A, [], false, false, false⟩ = (x.flatMap (fun c => [92, c]) ++ t, ⟨A, [c], true, false, false⟩) from by simp [nextP, escN, g10, g13])]
    rw [hi]; rfl
end Go.Proofs.Ytiklnckoimeimaa

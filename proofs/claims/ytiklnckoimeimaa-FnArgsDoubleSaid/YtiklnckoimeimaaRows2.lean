/- Rows of texts, one appended to the other. -/
import Derived.Test.YtiklnckoimeimaaFnArgsLinesWalk
import Derived.Laws.AppendOwnNone
namespace Go.Proofs.Ytiklnckoimeimaa
open Go.RowKit

theorem own_grown {wq w w' : World} {B base ny n : Nat} {vy v : Value} {ys xs : List Value} (hq : wq.ownsRow B 9 1 vy ny ys) (hy : w.ownsRow B 9 1 vy ny ys) (hv : w.ownsRow base 9 1 v n xs) (hb : wq.heap.size ≤ base) (hg : w.grownBy w' v.ownBlock) :
    w'.ownsRow B 9 1 vy ny ys := by
  refine hy.kept hg ?_
  cases e : vy.ownBlock with
  | none => exact .inl rfl
  | some k =>
    right
    intro e2
    have h1 := (hq.lt k e).2
    have h2 := (hv.lt k e2.symm).1
    omega

theorem append_row {ops : Array Oper} {rest : List Oper} {o : Oper} {a : Act} {Q : Exit → Act → World → Prop} {w : World} (hgd : o.guard = none) (s x : Operand)
    (ho : o.op = .call { callee := .builtin .append, args := #[s, x], argTypes := #[23, 23] }) {i0 : TypeInfo} (hi : Try.prog.info? 9 = some i0) (hz0 : i0.zero = some (.string ⟨#[]⟩)) (hz1 : i0.size = 1) (hz2 : i0.bytes = 16)
    (base : Nat) (v : Value) (n : Nat) (xs : List Value) (hs : a.eval s = v) (hown : w.ownsRow base 9 1 v n xs) (B : Nat) (vx : Value) (L : List (List UInt8)) (hx : a.eval x = vx) (hrow : w.ownsRow B 9 1 vx L.length (strC L))
    (h63 : n + L.length ≤ 1000000000) (hbase : base ≤ w.heap.size)
    (h : ∀ v' w', w'.ownsRow base 9 1 v' (n + L.length) (xs ++ strC L) → w.grownBy w' v.ownBlock → wpList Try.prog ops Q rest (a.put o.dst v') w') : wpList Try.prog ops Q (o :: rest) a w := by
  have hc := fun g hg => hrow.cells (g := g) hg
  rcases hrow.2 with ⟨rfl, h0⟩ | ⟨g, cap, cur, rfl, _⟩
  · obtain rfl : L = [] := List.length_eq_zero_iff.1 h0
    exact wpList_append_own_none hgd s x 23 ho base 9 i0 1 Try.underlying23 hi v n xs hs hown hx (h v w (by simpa [strC] using hown) ⟨rfl, rfl, rfl, Nat.le_refl _, fun _ _ _ => rfl⟩)
  · exact wpList_append_own w hgd s x 23 ho base 9 i0 (.string ⟨#[]⟩) 1 16 Try.underlying23 hi hz0 hz1 hz2 rfl (by decide) v n xs hs hown ⟨g, 0, none⟩ L.length cap (strC L) hx (by simp [strC]) (fun j u hu => hc g rfl j u hu)
      (by intro u hu; simp [strC] at hu; obtain ⟨_, _, rfl⟩ := hu; rfl) (by unfold maxLen; omega) (by omega) hbase fun v' w' h1 h2 _ => h v' w' h1 h2

theorem own_empty (w : World) : (w.alloc (.cells #[] 9)).ownsRow w.heap.size 9 1 (.slice (some ⟨w.heap.size, 0, none⟩) 0 0) 0 [] := by
  refine ⟨rfl, .inr ⟨w.heap.size, 0, #[], rfl, Nat.le_refl _, heap_alloc_new w _, ?_⟩⟩
  simp
end Go.Proofs.Ytiklnckoimeimaa

/- The Builder in ParseArgs, beside the arguments gathered so far: what each method leaves. -/
import Derived.Test.YtiklnckoimeimaaRows
import Derived.Test.YtiklnckoimeimaaBuild
import Derived.Test.YtiklnckoimeimaaPa
import Derived.WalkKit
import Derived.WalkSpells
import Derived.WalkLawsBesides
import Derived.Lib.Hide
namespace Go.Proofs.Ytiklnckoimeimaa
open Go.RowKit

def strC (ls : List (List UInt8)) : List Value := ls.map fun x => Value.string ⟨x.toArray⟩
theorem strC_append (a b : List (List UInt8)) : strC (a ++ b) = strC a ++ strC b := by simp [strC]
theorem byteC_append (a b : List UInt8) : Lib.byteCells (a ++ b) = Lib.byteCells a ++ Lib.byteCells b := by simp [Lib.byteCells]
theorem byteC_length (a : List UInt8) : (Lib.byteCells a).length = a.length := by simp [Lib.byteCells]

/-- The world of ParseArgs: a owns the arguments so far, the builder (the first block of the call) holds the bytes of the next one; what lay below stands. -/
def PW (w : World) (a : Value) (args : List (List UInt8)) (arg : List UInt8) (wr : World) : Prop :=
  wr.ownsRow w.heap.size 9 1 a args.length (strC args) ∧ Lib.IsBuilderF 47 5 w.heap.size w.heap.size (Lib.byteCells arg) wr ∧ Below w.heap.size w wr

theorem own_others {B b : Nat} {wr w1 : World} {v : Value} {n : Nat} {xs : List Value} (h : wr.ownsRow B 9 1 v n xs) (ho : Lib.OthersKept 5 (some b) wr w1)
    (hb : ∃ c fz, wr.heap[b]? = some (.cells c 47 fz)) : w1.ownsRow B 9 1 v n xs := by
  refine ⟨h.1, ?_⟩
  rcases h.2 with h2 | ⟨g, cap, cur, hv, hB, hg, h3, h4, h5, h6⟩
  · exact .inl h2
  · refine .inr ⟨g, cap, cur, hv, hB, ?_, h3, h4, h5, h6⟩
    refine ho g _ hg ?_ ?_
    · intro e
      obtain ⟨c, fz, hc⟩ := hb
      cases e
      rw [hg] at hc
      simp at hc
    · intro c fz e
      simp at e

theorem builder_block {B b : Nat} {bs : List Value} {w : World} (h : Lib.IsBuilderF 47 5 B b bs w) : ∃ c fz, w.heap[b]? = some (.cells c 47 fz) := by
  rcases h with ⟨_, v, hb, _⟩ | ⟨_, v, hb, _⟩ <;> exact ⟨_, _, hb⟩

theorem put_any (w : World) (a : Value) (args : List (List UInt8)) (arg : List UInt8) (wr : World) (h : PW w a args arg wr) (c : Int) (u : UInt8) (hc : c = (u.toNat : Int)) (hl : arg.length ≤ 70368744177664) :
    Calls Try.prog 27 #[.pointer (some ⟨w.heap.size, 0, none⟩), .int .u8 c] wr fun e w' => e = .returned .nilIface ∧ PW w a args (arg ++ [u]) w' := by
  obtain ⟨h1, h2, h3⟩ := h
  refine (Try.Builder_WriteByte_k w.heap.size w.heap.size (Lib.byteCells arg) c wr h2 (by rw [byteC_length]; omega) h3.size).mono ?_
  rintro e w' ⟨rfl, k1, k2, k3⟩
  refine ⟨rfl, own_others h1 k3 (builder_block h2), .inr ?_, h3.trans k2⟩
  have e1 : Lib.byteCells (arg ++ [u]) = Lib.byteCells arg ++ [.int .u8 c] := by rw [byteC_append, hc]; rfl
  rw [e1]; exact k1

theorem len_any (w : World) (a : Value) (args : List (List UInt8)) (arg : List UInt8) (wr : World) (h : PW w a args arg wr) :
    Calls Try.prog 28 #[.pointer (some ⟨w.heap.size, 0, none⟩)] wr fun e w' => e = .returned (.int .i64 arg.length) ∧ wr = w' := by
  have := Try.Builder_Len_f w.heap.size w.heap.size (Lib.byteCells arg) wr h.2.1
  rw [byteC_length] at this
  exact this.mono fun _ _ ⟨he, hw⟩ => ⟨he, hw.symm⟩

theorem str_any (w : World) (a : Value) (args : List (List UInt8)) (arg : List UInt8) (wr : World) (h : PW w a args arg wr) :
    Calls Try.prog 29 #[.pointer (some ⟨w.heap.size, 0, none⟩)] wr fun e w' => e = .returned (.string ⟨arg.toArray⟩) ∧ PW w a args arg w' := by
  obtain ⟨h1, h2, h3⟩ := h
  refine (Try.Builder_String_any_k w.heap.size w.heap.size arg wr h2 h3.size).mono ?_
  rintro e w' ⟨rfl, k1, k2, k3⟩
  exact ⟨rfl, own_others h1 k3 (builder_block h2), k1, h3.trans k2⟩

set_option maxHeartbeats 400000 in
theorem reset_any (w : World) (a : Value) (args : List (List UInt8)) (arg : List UInt8) (wr : World) (h : PW w a args arg wr) :
    Calls Try.prog 30 #[.pointer (some ⟨w.heap.size, 0, none⟩)] wr fun e w' => e = .returned (.tuple #[]) ∧ PW w a args [] w' := by
  obtain ⟨h1, h2, h3⟩ := h
  obtain ⟨p, v, hb⟩ : ∃ p v, wr.heap[w.heap.size]? = some (.cells #[p, v] 47 (0, 0)) := by
    rcases h2 with ⟨_, v, hb, _⟩ | ⟨_, v, hb, _⟩ <;> exact ⟨_, _, hb⟩
  have c0 : wr.cell? ⟨w.heap.size, 0, none⟩ = some p := by rw [Lib.cell_of_heap hb]; rfl
  have c1 : wr.cell? ⟨w.heap.size, 1, none⟩ = some v := by rw [Lib.cell_of_heap hb]; rfl
  have z0 := Lib.frozen_of_heap hb 0
  have z1 := Lib.frozen_of_heap hb 1
  go_enter Try.func30, Try.ntmps30
  go_wp2
  go_end0
  refine ⟨rfl, ?_, .inl ⟨Nat.le_refl _, .slice none 0 0, ?_, ⟨rfl, .inl ⟨rfl, rfl⟩⟩, by simp [Value.ownBlock]⟩, (h3.setCell (Nat.le_refl _) _).setCell (Nat.le_refl _) _⟩
  · have hne := Lib.ownBlock_ne h1 hb (by decide)
    have k1 := h1.kept (row := some w.heap.size) (w' := wr.setCell ⟨w.heap.size, 0, none⟩ (.pointer none)) ⟨rfl, rfl, rfl, by simp [World.setCell], fun k _ hk => Below.heap_setCell _ _ _ _ (fun e => hk (by simp [e]))⟩ (Or.inr hne)
    exact k1.kept (row := some w.heap.size) ⟨rfl, rfl, rfl, by simp [World.setCell], fun k _ hk => Below.heap_setCell _ _ _ _ (fun e => hk (by simp [e]))⟩ (Or.inr hne)
  · simp [World.setCell, Array.getElem?_modify, hb]

/-- An argument is laid behind the others. -/
theorem pw_append {w : World} {a a' : Value} {args : List (List UInt8)} {arg : List UInt8} {wr w1 : World} {x : Value} {n' : Nat} {xs : List Value} (h : PW w a args arg wr)
    (hown : w1.ownsRow w.heap.size 9 1 a' n' xs) (hg : (wr.alloc (.cells #[x] 9)).grownBy w1 a.ownBlock) :
    w1.ownsRow w.heap.size 9 1 a' n' xs ∧ Lib.IsBuilderF 47 5 w.heap.size w.heap.size (Lib.byteCells arg) w1 ∧ Below w.heap.size w w1 := by
  obtain ⟨h1, h2, h3⟩ := h
  have hsz : (wr.alloc (.cells #[x] 9)).heap.size = wr.heap.size + 1 := by simp
  have hlt := h1.lt
  have keep : ∀ (k : Nat) (o : Obj), wr.heap[k]? = some o → (∀ c fz, o ≠ Obj.cells c 9 fz) → w1.heap[k]? = some o := by
    intro k o hk ho
    have hkl : k < wr.heap.size := (Array.getElem?_eq_some_iff.1 hk).1
    rw [hg.block k (by omega) ?_]
    · rw [Below.heap_alloc _ _ _ hkl]; exact hk
    · intro e
      rcases h1.2 with ⟨rfl, _⟩ | ⟨g, cap, cur, hv, hB, hgg, _⟩
      · simp [Value.ownBlock] at e
      · subst hv
        simp [Value.ownBlock] at e
        subst e
        rw [hgg] at hk
        exact ho cur (0, 0) (Option.some.inj hk).symm
  refine ⟨hown, ?_, (h3.alloc h3.size _).grown hg (by rw [hsz]; have := h3.size; omega) (fun k hk => (hlt k hk).1)⟩
  have move : ∀ p, Lib.BuilderAtF 47 5 w.heap.size w.heap.size p (Lib.byteCells arg) wr → Lib.BuilderAtF 47 5 w.heap.size w.heap.size p (Lib.byteCells arg) w1 := by
    rintro p ⟨hB, v, hb, ho, hne⟩
    refine ⟨hB, v, keep _ _ hb (by intro c fz e; simp at e), ⟨ho.1, ?_⟩, hne⟩
    rcases ho.2 with h4 | ⟨g, cap, cur, fz, hv, hBg, hgg, r⟩
    · exact .inl h4
    · exact .inr ⟨g, cap, cur, fz, hv, hBg, keep _ _ hgg (by intro c fz e; simp at e), r⟩
  exact h2.elim (fun x => .inl (move _ x)) (fun x => .inr (move _ x))

end Go.Proofs.Ytiklnckoimeimaa

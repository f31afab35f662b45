/- The reference's reader as it lies in memory, and what its methods leave: end, Blank, line. -/
import Derived.Test.YtiklnckoimeimaaArgs
import Derived.Test.YtiklnckoimeimaaSa
import Derived.Deep.RegionHeld3
import Derived.Deep.AppendLies
import Derived.Deep.QuietTactic
import Derived.BigQuiet
import Derived.Deep.CutRange
import Derived.Lib.ConvBytes
import Derived.Laws.BytesArg
namespace Go.Proofs.Ytiklnckoimeimaa
open Go.RowKit

theorem ret_int {k : IntKind} {a b : Int} (h : a = b) : Ending.returned (.int k a) = .returned (.int k b) := by rw [h]
theorem ret_bool {a b : Bool} (h : a = b) : Ending.returned (.bool a) = .returned (.bool b) := by rw [h]
theorem quiet_left {P : Program} {f : FuncId} {args : Array Value} {w : World} {n : Nat} {v : Value}
    (h : Calls P f args (w.drewN n) fun e w' => e = .returned v ∧ w.drewN n = w') : Calls P f args (w.drewN n) fun e w'' => e = .returned v ∧ ∃ m, w'' = w.drewN m :=
  h.mono fun _ _ ⟨he, hm⟩ => ⟨he, n, hm.symm⟩

theorem byInt (s : ByteArray) (k : Nat) (h : k < s.size) : ((s[k]'h).toNat : Int) = ((byU s k).toNat : Int) := by rw [byU_at s k h]

/-- The reader stands in block P: the text, the place, the word so far (a row of the call's own), whether there is one, the arguments (a row of the call's own). -/
def SW (w : World) (B P : Nat) (s : ByteArray) (at_ : Nat) (word : List UInt8) (inn : Bool) (out : List (List UInt8)) (wr : World) : Prop :=
  ∃ vw vo, wr.heap[P]? = some (.cells #[.string s, .int .i64 at_, vw, .bool inn, vo] 41 (0, 0)) ∧ wr.ownsRow B 5 1 vw word.length (Lib.byteCells word) ∧ wr.ownsRow B 9 1 vo out.length (strC out) ∧ B ≤ P ∧ B ≤ w.heap.size ∧ Below B w wr

theorem SW.drewN {w : World} {B P : Nat} {s : ByteArray} {a : Nat} {word : List UInt8} {inn : Bool} {out : List (List UInt8)} {wr : World} (h : SW w B P s a word inn out wr) (n : Nat) : SW w B P s a word inn out (wr.drewN n) := by
  obtain ⟨vw, vo, h1, h2, h3, h4, h5, h6⟩ := h
  exact ⟨vw, vo, h1, h2, h3, h4, h5, ⟨h6.os, h6.tape, h6.output, h6.size, h6.block⟩⟩

set_option maxHeartbeats 400000 in
theorem blank_any (c : Int) (w : World) :
    Calls Try.prog 14 #[.int .u8 c] w fun e w' => e = .returned (.bool (c == 32 || c == 9 || c == 10)) ∧ w = w' := by
  go_enter Try.func14, Try.ntmps14
  go_wp2
  all_goals
    go_ret
    first | exact ⟨rfl, rfl⟩ | exact ⟨ret_bool (by simp [*]), rfl⟩

/-- How many bytes the end of a line has that stands at place k. -/
def lineN (s : ByteArray) (k : Nat) : Nat :=
  if k < s.size ∧ byU s k = 10 then 1 else if k + 1 < s.size ∧ byU s k = 13 ∧ byU s (k + 1) = 10 then 2 else 0

set_option maxHeartbeats 400000 in
theorem line_nat (s : ByteArray) (k : Nat) (hs : s.size ≤ 68719476736) (hk : k ≤ 68719476736) (w : World) :
    Calls Try.prog 26 #[.string s, .int .i64 k] w fun e w' => e = .returned (.int .i64 (lineN s k)) ∧ w = w' := by
  by_cases h1 : k < s.size
  · have e1 := byInt s k h1
    by_cases n10 : byU s k = 10
    · have t10 : (((byU s k).toNat : Int) == 10) = true := (b_eq _ 10 (by decide)).trans (decide_eq_true n10)
      have hl : lineN s k = 1 := if_pos ⟨h1, n10⟩
      have Hl := Lib.hid hl
      clear hl n10
      go_enter Try.func26, Try.ntmps26
      go_wp2
      go_ret
      exact ⟨ret_int (by rw [Hl.out]; rfl), rfl⟩
    · have t10 : (((byU s k).toNat : Int) == 10) = false := (b_eq _ 10 (by decide)).trans (decide_eq_false n10)
      by_cases h2 : k + 1 < s.size
      · have e2 := byInt s (k + 1) h2
        have e3 : ((k : Int) + 1).toNat = k + 1 := by omega
        have e4 : (k : Int) + 1 < (s.size : Int) := by omega
        by_cases n13 : byU s k = 13
        · have t13 : (((byU s k).toNat : Int) == 13) = true := (b_eq _ 13 (by decide)).trans (decide_eq_true n13)
          by_cases m10 : byU s (k + 1) = 10
          · have s10 : (((byU s (k + 1)).toNat : Int) == 10) = true := (b_eq _ 10 (by decide)).trans (decide_eq_true m10)
            have Hl := Lib.hid (show lineN s k = 2 by rw [lineN, if_neg (fun h => n10 h.2), if_pos ⟨h2, n13, m10⟩])
            clear n10 n13 m10
            go_enter Try.func26, Try.ntmps26
            go_wp2
            go_ret
            exact ⟨ret_int (by rw [Hl.out]; rfl), rfl⟩
          · have s10 : (((byU s (k + 1)).toNat : Int) == 10) = false := (b_eq _ 10 (by decide)).trans (decide_eq_false m10)
            have Hl := Lib.hid (show lineN s k = 0 by rw [lineN, if_neg (fun h => n10 h.2), if_neg (fun h => m10 h.2.2)])
            clear n10 n13 m10
            go_enter Try.func26, Try.ntmps26
            go_wp2
            go_ret
            exact ⟨ret_int (by rw [Hl.out]; rfl), rfl⟩
        · have t13 : (((byU s k).toNat : Int) == 13) = false := (b_eq _ 13 (by decide)).trans (decide_eq_false n13)
          have Hl := Lib.hid (show lineN s k = 0 by rw [lineN, if_neg (fun h => n10 h.2), if_neg (fun h => n13 h.2.1)])
          clear n10 n13
          go_enter Try.func26, Try.ntmps26
          go_wp2
          go_ret
          exact ⟨ret_int (by rw [Hl.out]; rfl), rfl⟩
      · have e4 : decide ((k : Int) + 1 < (s.size : Int)) = false := decide_eq_false (by omega)
        have Hl := Lib.hid (show lineN s k = 0 by rw [lineN, if_neg (fun h => n10 h.2), if_neg (fun h => h2 h.1)])
        clear n10
        go_enter Try.func26, Try.ntmps26
        go_wp2
        go_ret
        exact ⟨ret_int (by rw [Hl.out]; rfl), rfl⟩
  · have e4 : decide ((k : Int) + 1 < (s.size : Int)) = false := decide_eq_false (by omega)
    have e5 : decide (k < s.size) = false := decide_eq_false (by omega)
    have Hl := Lib.hid (show lineN s k = 0 by rw [lineN, if_neg (fun h => h1 h.1), if_neg (fun h => by omega)])
    go_enter Try.func26, Try.ntmps26
    go_wp2
    go_ret
    exact ⟨ret_int (by rw [Hl.out]; rfl), rfl⟩

/-! ### What a store, a draw, an append leave -/
theorem blk_set {w : World} {P : Nat} {cs : Array Value} {T : TypeId} (h : w.heap[P]? = some (.cells cs T (0, 0))) (j : Nat) (v : Value) : (w.setCell ⟨P, j, none⟩ v).heap[P]? = some (.cells (cs.setIfInBounds j v) T (0, 0)) := by
  simp [World.setCell, Array.getElem?_modify, h]
theorem own_set {w : World} {B P e : Nat} {cs : Array Value} {fz : Nat × Nat} {v : Value} {n : Nat} {xs : List Value} (h : w.ownsRow B e 1 v n xs) (hb : w.heap[P]? = some (.cells cs 41 fz)) (he : (41 : Nat) ≠ e) (j : Nat) (x : Value) :
    (w.setCell ⟨P, j, none⟩ x).ownsRow B e 1 v n xs :=
  h.kept (row := some P) ⟨rfl, rfl, rfl, by simp [World.setCell], fun k _ hk => Below.heap_setCell _ _ _ _ (fun e => hk (by simp [e]))⟩ (Or.inr (Lib.ownBlock_ne h hb he))

theorem kept_of {wr w1 : World} {B e : Nat} {v : Value} {n : Nat} {xs : List Value} {o : Obj} (hown : wr.ownsRow B e 1 v n xs) (hg : (wr.alloc o).grownBy w1 v.ownBlock) :
    ∀ (k : Nat) (x : Obj), wr.heap[k]? = some x → (∀ c fz, x ≠ Obj.cells c e fz) → w1.heap[k]? = some x := by
  intro k x hk ho
  have hkl : k < wr.heap.size := (Array.getElem?_eq_some_iff.1 hk).1
  have hsz : (wr.alloc o).heap.size = wr.heap.size + 1 := by simp
  rw [hg.block k (by omega) ?_]
  · rw [Below.heap_alloc _ _ _ hkl]; exact hk
  · intro e'
    rcases hown.2 with ⟨rfl, _⟩ | ⟨g, cap, cur, hv, hB, hgg, _⟩
    · simp [Value.ownBlock] at e'
    · subst hv
      simp [Value.ownBlock] at e'
      subst e'
      rw [hgg] at hk
      exact ho cur (0, 0) (Option.some.inj hk).symm
theorem undrew {w w1 : World} {row : Option Nat} (h : w.drew.grownBy w1 row) : w.grownBy w1 row := ⟨h.os, h.tape, h.output, h.size, h.block⟩
theorem own_of {wr w1 : World} {B e : Nat} {v : Value} {n : Nat} {xs : List Value} (h : wr.ownsRow B e 1 v n xs) (keep : ∀ (k : Nat) (c : Array Value), wr.heap[k]? = some (.cells c e (0, 0)) → w1.heap[k]? = some (.cells c e (0, 0))) : w1.ownsRow B e 1 v n xs := by
  refine ⟨h.1, ?_⟩
  rcases h.2 with h2 | ⟨g, cap, cur, hv, hb, hg, r⟩
  · exact .inl h2
  · exact .inr ⟨g, cap, cur, hv, hb, keep g cur hg, r⟩

/-- An owned row of bytes, turned to a text. -/
theorem conv_own {P : Program} {src e dst : TypeId} (hs : P.underlying src = some (.slice e)) (he : P.underlying e = some (.int .u8)) (hd : P.underlying dst = some .string)
    {w : World} {base n : Nat} {v : Value} {l : List UInt8} (hown : w.ownsRow base e 1 v n (Lib.byteCells l)) : (convert src dst v).run P w = .ok (.string ⟨l.toArray⟩) w := by
  have hlen := hown.1
  rw [byteC_length, Nat.mul_one] at hlen
  have hcells := fun g hg => hown.cells (g := g) hg
  rcases hown.2 with ⟨rfl, h0⟩ | ⟨g, cap, cur, rfl, _, hg, hn, _, hsz, htk⟩
  · obtain rfl : l = [] := List.length_eq_zero_iff.1 (by omega)
    exact run_convert_bytes_nil w src e hs he 0 0 dst hd
  · have hc : ∀ i, i < n → w.cell? ⟨g, 0 + i, none⟩ = some (.int .u8 ((l.map fun b => (b.toNat : Int)).getD i 0)) := by
      intro i hi
      have hil : i < l.length := by omega
      have := hcells g rfl i (Value.int .u8 ((l[i]).toNat : Int)) (by simp [Lib.byteCells, List.getElem?_eq_getElem hil])
      have e1 : (⟨g, 0, none⟩ : Addr).add i = ⟨g, 0 + i, none⟩ := by unfold Addr.add; split <;> simp_all
      rw [e1] at this
      rw [this, List.getD_eq_getElem?_getD, List.getElem?_map, List.getElem?_eq_getElem hil]; rfl
    have := run_convert_bytes_arg (P := P) w src e hs he g 0 n cap (l.map fun b => (b.toNat : Int)) (by simp; omega) hc dst hd
    rw [this]
    simp [strOfNums, Function.comp_def]

end Go.Proofs.Ytiklnckoimeimaa

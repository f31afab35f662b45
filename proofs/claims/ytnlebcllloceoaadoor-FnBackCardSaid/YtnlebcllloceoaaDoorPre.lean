/- The walks of plain, last, digit, the spec's Prefix, PathToPrefix. -/
import Derived.Test.YtnlebcllloceoaaDoorRows
import Derived.Test.YtnlebcllloceoaaDoorEnc
import Derived.Test.YtnlebcllloceoaaDoorShelf
import Derived.WalkKit
import Derived.WalkSpells
import Derived.WalkLawsBesides
import Derived.Deep.CutRange
import Derived.Deep.QuietTactic
import Derived.BigQuiet
import Derived.StillTailTactics
import Derived.Laws.BytesArg
import Derived.Lib.Hide
namespace Go.Proofs.YtnlebcllloceoaaDoor
open Go.RowKit

theorem ret_int {k : IntKind} {a b : Int} (h : a = b) : Ending.returned (.int k a) = .returned (.int k b) := by rw [h]
theorem ret_bool {a b : Bool} (h : a = b) : Ending.returned (.bool a) = .returned (.bool b) := by rw [h]
theorem ret_string {a b : ByteArray} (h : a = b) : Ending.returned (.string a) = .returned (.string b) := by rw [h]

theorem below_new (w : World) (o : Obj) : Below w.heap.size w (w.alloc o) := (Below.refl _ _).alloc (Nat.le_refl _) _
theorem below_then {a b c : World} (h : Below a.heap.size a b) (k : Below b.heap.size b c) : Below a.heap.size a c := h.trans (k.mono h.size)

/-- Bytes as cells. -/
def cellsB (l : List UInt8) : List Value := l.map fun b => Value.int .u8 (b.toNat : Int)
theorem cellsB_append (a b : List UInt8) : cellsB (a ++ b) = cellsB a ++ cellsB b := by simp [cellsB]
theorem cellsB_length (a : List UInt8) : (cellsB a).length = a.length := by simp [cellsB]

/-- An owned row of bytes, turned to a text. -/
theorem conv_own {P : Program} {src e dst : TypeId} (hs : P.underlying src = some (.slice e)) (he : P.underlying e = some (.int .u8)) (hd : P.underlying dst = some .string)
    {w : World} {base n : Nat} {v : Value} {l : List UInt8} (hown : w.ownsRow base e 1 v n (cellsB l)) : (convert src dst v).run P w = .ok (.string ⟨l.toArray⟩) w := by
  have hlen := hown.1
  rw [cellsB_length, Nat.mul_one] at hlen
  have hcells := fun g hg => hown.cells (g := g) hg
  rcases hown.2 with ⟨rfl, h0⟩ | ⟨g, cap, cur, rfl, _, hg, hn, _, hsz, htk⟩
  · obtain rfl : l = [] := List.length_eq_zero_iff.1 (by omega)
    exact run_convert_bytes_nil w src e hs he 0 0 dst hd
  · have hc : ∀ i, i < n → w.cell? ⟨g, 0 + i, none⟩ = some (.int .u8 ((l.map fun b => (b.toNat : Int)).getD i 0)) := by
      intro i hi
      have hil : i < l.length := by omega
      have := hcells g rfl i (Value.int .u8 ((l[i]).toNat : Int)) (by simp [cellsB, List.getElem?_eq_getElem hil])
      have e1 : (⟨g, 0, none⟩ : Addr).add i = ⟨g, 0 + i, none⟩ := by unfold Addr.add; split <;> simp_all
      rw [e1] at this
      rw [this, List.getD_eq_getElem?_getD, List.getElem?_map, List.getElem?_eq_getElem hil]; rfl
    have := run_convert_bytes_arg (P := P) w src e hs he g 0 n cap (l.map fun b => (b.toNat : Int)) (by simp; omega) hc dst hd
    rw [this]
    simp [strOfNums, Function.comp_def]

set_option maxHeartbeats 400000 in
theorem plain_any (c : Int) (w : World) :
    Calls Tryd.prog 14 #[.int .u8 c] w fun e w' => e = .returned (.bool (plainI c)) ∧ w = w' := by
  go_enter Tryd.func14, Tryd.ntmps14
  go_wp2
  all_goals
    go_ret
    refine ⟨ret_bool ?_, rfl⟩
    simp_all [plainI]
  all_goals first | done | omega | (rw [Bool.eq_iff_iff]; simp)

theorem hexs_at (n : Nat) (h : n < 16) : (((⟨#[48, 49, 50, 51, 52, 53, 54, 55, 56, 57, 97, 98, 99, 100, 101, 102]⟩ : ByteArray)[n]'h).toNat : Int) = ((hexB n).toNat : Int) := by
  have h16 : ∀ i : Fin 16, (((⟨#[48, 49, 50, 51, 52, 53, 54, 55, 56, 57, 97, 98, 99, 100, 101, 102]⟩ : ByteArray)[i.val]'i.isLt).toNat : Int) = ((hexB i.val).toNat : Int) := by decide
  exact h16 ⟨n, h⟩



set_option maxHeartbeats 400000 in
theorem last_any (s : ByteArray) (hs : s.size ≤ maxLen) (w : World) :
    Calls Tryd.prog 15 #[.string s] w fun e w' => e = .returned (.int .i64 (lastTo s s.size)) ∧ w = w' := by
  unfold maxLen at hs
  go_enter Tryd.func15, Tryd.ntmps15
  go_wp2
  go_loop [3, 4] (fun a i => ∃ k : Nat, k ≤ s.size ∧ i = .int .i64 k ∧ a = .int .i64 (lastTo s k)) (fun _ i => s.size - (intOf i).toNat)
  case atStart => exact ⟨0, Nat.zero_le _, rfl, rfl⟩
  case round =>
    obtain ⟨k, hk, rfl, rfl⟩ := hrel
    by_cases hlt : k < s.size
    · have e1 := (by8_at s k hlt).symm
      have hl := lastTo_le s k
      go_wp2
      · go_round
        case rel => exact ⟨k + 1, by omega, by go_num, by rw [lastTo, if_pos (by simpa using ‹(by8 s k == 47) = true›)]; go_num⟩
        case measure => simp [intOf]; omega
      · go_round
        case rel => exact ⟨k + 1, by omega, by go_num, by rw [lastTo, if_neg (by simpa using ‹(by8 s k == 47) = false›)]⟩
        case measure => simp [intOf]; omega
    · obtain rfl : k = s.size := by omega
      go_wp2
      go_ret
      exact ⟨rfl, rfl⟩

theorem Tryd.infoByte : (Tryd.prog.info? 5).map (fun i => (i.zero, i.size, i.bytes)) = some (some (.int .u8 0), 1, 1) := by kernel_rfl

theorem cells_esc (s : ByteArray) (k : Nat) : cellsB [37, hexB ((byU s k).toNat / 16), hexB ((byU s k).toNat % 16)] =
    [.int .u8 37, .int .u8 ((hexB (by8 s k / 16).toNat).toNat : Int), .int .u8 ((hexB (by8 s k % 16).toNat).toNat : Int)] := by
  have h1 : (by8 s k / 16).toNat = (byU s k).toNat / 16 := by unfold by8; omega
  have h2 : (by8 s k % 16).toNat = (byU s k).toNat % 16 := by unfold by8; omega
  rw [h1, h2]; rfl

theorem enc_step {w wr w1 : World} {o : Obj} {e : TypeId} {v v' : Value} {n n' : Nat} {xs ys : List Value}
    (hb : Below w.heap.size w wr) (hown : wr.ownsRow w.heap.size e 1 v n xs) (hown' : w1.ownsRow w.heap.size e 1 v' n' ys) (hgrow : (wr.alloc o).grownBy w1 v.ownBlock) :
    w1.ownsRow w.heap.size e 1 v' n' ys ∧ Below w.heap.size w w1 :=
  ⟨hown', (hb.alloc hb.size _).grown hgrow (by have := hb.size; simp; omega) (fun k hk => (hown.lt k hk).1)⟩


end Go.Proofs.YtnlebcllloceoaaDoor


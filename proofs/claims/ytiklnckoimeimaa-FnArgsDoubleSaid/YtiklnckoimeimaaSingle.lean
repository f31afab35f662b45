/- The walk of the reference's single. -/
import Derived.Test.YtiklnckoimeimaaEnd
import Derived.Deep.LoopGhost
import Derived.Deep.CutRange
namespace Go.Proofs.Ytiklnckoimeimaa
open Go.RowKit

/-- What reading quotes leaves: whether they end; the place behind them; the word with what they hold. -/
def Quoted (w : World) (B P : Nat) (s : ByteArray) (a : Nat) (word : List UInt8) (inn : Bool) (out : List (List UInt8)) (m : Nat) (e : Ending) (w' : World) : Prop :=
  ∃ (b : Bool) (a' : Nat) (word' : List UInt8), e = .returned (.bool b) ∧ SW w B P s a' word' inn out w' ∧ a < a' ∧ a' ≤ s.size ∧ word'.length ≤ a' ∧
    sa (s.data.toList.drop (a + 1)) m ⟨out, word, inn⟩ = if b then sa (s.data.toList.drop a') 0 ⟨out, word', inn⟩ else none

theorem SW.at_ {w : World} {B P : Nat} {s : ByteArray} {a : Nat} {word : List UInt8} {inn : Bool} {out : List (List UInt8)} {wr : World} (h : SW w B P s a word inn out wr) (a' : Nat) {i : Int} (hi : i = (a' : Int)) :
    SW w B P s a' word inn out (wr.setCell ⟨P, 1, none⟩ (.int .i64 i)) := by
  subst hi
  obtain ⟨vw, vo, hP, hw, ho, hBP, hB, hb⟩ := h
  exact ⟨vw, vo, blk_set hP 1 _, own_set hw hP (by decide) _ _, own_set ho hP (by decide) _ _, hBP, hB, hb.setCell hBP _⟩
theorem SW.in_ {w : World} {B P : Nat} {s : ByteArray} {a : Nat} {word : List UInt8} {inn : Bool} {out : List (List UInt8)} {wr : World} (h : SW w B P s a word inn out wr) (inn' : Bool) :
    SW w B P s a word inn' out (wr.setCell ⟨P, 3, none⟩ (.bool inn')) := by
  obtain ⟨vw, vo, hP, hw, ho, hBP, hB, hb⟩ := h
  exact ⟨vw, vo, blk_set hP 3 _, own_set hw hP (by decide) _ _, own_set ho hP (by decide) _ _, hBP, hB, hb.setCell hBP _⟩
/-- A byte is laid behind the word. -/
theorem sw_put {w : World} {B P : Nat} {s : ByteArray} {a : Nat} {word : List UInt8} {inn : Bool} {out : List (List UInt8)} {wr w1 : World} {vw vo v' : Value} {o : Obj} {n : Nat} {u : UInt8}
    (hP : wr.heap[P]? = some (.cells #[.string s, .int .i64 a, vw, .bool inn, vo] 41 (0, 0))) (hw : wr.ownsRow B 5 1 vw word.length (Lib.byteCells word)) (ho : wr.ownsRow B 9 1 vo out.length (strC out)) (hBP : B ≤ P) (hB : B ≤ w.heap.size) (hb : Below B w wr)
    (hown : w1.ownsRow B 5 1 v' n (Lib.byteCells word ++ [.int .u8 (u.toNat : Int)])) (hn : n = word.length + 1) (hg : (wr.alloc o).grownBy w1 vw.ownBlock) :
    w1.heap[P]? = some (.cells #[.string s, .int .i64 a, vw, .bool inn, vo] 41 (0, 0)) ∧ SW w B P s a (word ++ [u]) inn out (w1.setCell ⟨P, 2, none⟩ v') := by
  have q1 := kept_of hw hg P _ hP (by intro c fz e; simp at e)
  have q2 := own_of (w1 := w1) ho fun k c hk => kept_of hw hg k _ hk (by intro c fz e; simp at e)
  have q3 : Below B w w1 := (hb.alloc (by have := hb.size; omega) _).grown hg (by have := hb.size; simp; omega) (fun k hk => (hw.lt k hk).1)
  subst hn
  have e1 : (word ++ [u]).length = word.length + 1 := by simp
  have e2 : Lib.byteCells (word ++ [u]) = Lib.byteCells word ++ [.int .u8 (u.toNat : Int)] := by rw [byteC_append]; rfl
  refine ⟨q1, v', vo, blk_set q1 2 _, ?_, own_set q2 q1 (by decide) _ _, hBP, hB, q3.setCell hBP _⟩
  rw [e1, e2]
  exact own_set hown q1 (by decide) _ _

/-- What a walk wants to know of the reader's block. -/
theorem sw_facts {w : World} {B P : Nat} {s : ByteArray} {a : Nat} {word : List UInt8} {inn : Bool} {out : List (List UInt8)} {wr : World} (h : SW w B P s a word inn out wr) :
    ∃ vw vo, (wr.cell? ⟨P, 0, none⟩ = some (.string s) ∧ wr.cell? ⟨P, 1, none⟩ = some (.int .i64 a) ∧ wr.cell? ⟨P, 2, none⟩ = some vw ∧ wr.cell? ⟨P, 3, none⟩ = some (.bool inn) ∧ wr.cell? ⟨P, 4, none⟩ = some vo) ∧
      (wr.frozen? ⟨P, 1, none⟩ = false ∧ wr.frozen? ⟨P, 2, none⟩ = false ∧ wr.frozen? ⟨P, 3, none⟩ = false) ∧ P < wr.heap.size ∧ w.heap.size ≤ wr.heap.size ∧ B ≤ P ∧ B ≤ w.heap.size ∧
      Hid (wr.heap[P]? = some (.cells #[.string s, .int .i64 a, vw, .bool inn, vo] 41 (0, 0))) ∧ Hid (wr.ownsRow B 5 1 vw word.length (Lib.byteCells word)) ∧ Hid (wr.ownsRow B 9 1 vo out.length (strC out)) ∧ Hid (Below B w wr) := by
  obtain ⟨vw, vo, hP, hw, ho, hBP, hB, hb⟩ := h
  exact ⟨vw, vo, ⟨Lib.cell_of_heap hP 0, Lib.cell_of_heap hP 1, Lib.cell_of_heap hP 2, Lib.cell_of_heap hP 3, Lib.cell_of_heap hP 4⟩, ⟨Lib.frozen_of_heap hP 1, Lib.frozen_of_heap hP 2, Lib.frozen_of_heap hP 3⟩,
    (Array.getElem?_eq_some_iff.1 hP).1, hb.size, hBP, hB, Lib.hid hP, Lib.hid hw, Lib.hid ho, Lib.hid hb⟩

theorem Try.infoByte : (Try.prog.info? 5).map (fun i => (i.zero, i.size, i.bytes)) = some (some (.int .u8 0), 1, 1) := by kernel_rfl

set_option maxRecDepth 100000 in
set_option maxHeartbeats 4000000 in
theorem single_any (w : World) (B P : Nat) (s : ByteArray) (a : Nat) (word : List UInt8) (inn : Bool) (out : List (List UInt8)) (wr : World) (h : SW w B P s a word inn out wr) (hs : s.size ≤ 68719476736) (ha : a < s.size) (hl : word.length ≤ a) :
    Calls Try.prog 22 #[.pointer (some ⟨P, 0, none⟩)] wr (Quoted w B P s a word inn out 1) := by
  have h0 := h
  obtain ⟨vw, vo, hP, hw, ho, hBP, hB, hb⟩ := h0
  have c1 : wr.cell? ⟨P, 1, none⟩ = some (.int .i64 a) := Lib.cell_of_heap hP 1
  have z1 := Lib.frozen_of_heap hP 1
  have hsw := Lib.hid (h.at_ (a + 1) (i := (a : Int) + 1) (by omega))
  clear h hP hw ho hb
  obtain ⟨R, hR⟩ : ∃ R, R = sa (s.data.toList.drop (a + 1)) 1 ⟨out, word, inn⟩ := ⟨_, rfl⟩
  have HR := Lib.hid hR
  clear hR
  obtain ⟨i0, hi, hz0, hz1, hz2⟩ := info_parts Try.infoByte
  go_enter Try.func22, Try.ntmps22
  go_wp2_with fail
  go_loopg [] (s.size - (a + 1)) (fun n wx => ∃ (k : Nat) (word1 : List UInt8), n = s.size - k ∧ a < k ∧ k ≤ s.size ∧ word1.length ≤ k ∧ SW w B P s k word1 inn out wx ∧ Hid (R = sa (s.data.toList.drop k) 1 ⟨out, word1, inn⟩))
  case atStart => exact ⟨a + 1, word, rfl, by omega, by omega, by omega, hsw.out, HR⟩
  case round =>
    clear c1 z1 hsw
    obtain ⟨k, word1, hn, hak, hk, hwl, h, hR⟩ := hrel
    have Hn := Lib.hid hn
    clear hn
    have h0 := h
    obtain ⟨vw, vo, hP, hw, ho, hBP, hB, hb⟩ := h0
    have c0 : wr.cell? ⟨P, 0, none⟩ = some (.string s) := Lib.cell_of_heap hP 0
    have c1 : wr.cell? ⟨P, 1, none⟩ = some (.int .i64 k) := Lib.cell_of_heap hP 1
    have c2 : wr.cell? ⟨P, 2, none⟩ = some vw := Lib.cell_of_heap hP 2
    have z1 := Lib.frozen_of_heap hP 1
    have z2 := Lib.frozen_of_heap hP 2
    have hP' : P < wr.heap.size := (Array.getElem?_eq_some_iff.1 hP).1
    have hsz := hb.size
    have H := Lib.hid h
    have HP := Lib.hid hP
    have HW := Lib.hid hw
    have HO := Lib.hid ho
    have HB := Lib.hid hb
    clear h hP hw ho hb
    by_cases hlt : k < s.size
    · have e1 := byInt s k hlt
      have i1 : (0 : Int) ≤ (k : Int) := by omega
      have i2 : (k : Int) < (s.size : Int) := by omega
      have hst := hR.out
      rw [drop_byU s k hlt] at hst
      by_cases h39 : byU s k = 39
      · have t39 : (((byU s k).toNat : Int) == 39) = true := (b_eq _ 39 (by decide)).trans (decide_eq_true h39)
        have HN := Lib.hid (hst.trans (sa_step (show nextS 1 (byU s k) (s.data.toList.drop (k + 1)) ⟨out, word1, inn⟩ = some (s.data.toList.drop (k + 1), 0, ⟨out, word1, inn⟩) from by simp [nextS, h39])))
        clear hst h39
        go_wp2_with fail
        go_quiet (fail)
        go_wp2_with fail
        go_quiet (fail)
        go_wp2_with fail
        go_ret
        exact ⟨true, k + 1, word1, rfl, (H.out.at_ (k + 1) (by omega)).drewN _, by omega, by omega, by omega, HR.out.symm.trans HN.out⟩
      · have t39 : (((byU s k).toNat : Int) == 39) = false := (b_eq _ 39 (by decide)).trans (decide_eq_false h39)
        have HN := Lib.hid (hst.trans (sa_step (show nextS 1 (byU s k) (s.data.toList.drop (k + 1)) ⟨out, word1, inn⟩ = some (s.data.toList.drop (k + 1), 1, ⟨out, word1 ++ [byU s k], inn⟩) from by simp [nextS, h39, SSt.put])))
        clear hst h39
        go_wp2_with fail
        go_quiet (fail)
        have H1 := Lib.hid (H.out.drewN nq)
        clear c0 c1 c2 z1 z2 hP' hsz HP HW HO HB H
        generalize wr.drewN nq = wr1 at H1 ⊢
        obtain ⟨vw, vo, ⟨c0, c1, c2, _, _⟩, ⟨z1, z2, _⟩, hP', hsz, _, _, HP, HW, HO, HB⟩ := sw_facts H1.out
        go_wp2_with fail
        go_quiet (fail)
        have H2 := Lib.hid (H1.out.drewN nq)
        clear c0 c1 c2 z1 z2 hP' hsz HP HW HO HB H1
        generalize wr1.drewN nq = wr2 at H2 ⊢
        obtain ⟨vw, vo, ⟨c0, c1, c2, _, _⟩, ⟨z1, z2, _⟩, hP', hsz, _, _, HP, HW, HO, HB⟩ := sw_facts H2.out
        go_wp2_with fail
        go_region_law (refine step_append_lies _ (by rfl) _ _ _ (by rfl) B 5 i0 _ 1 1 Try.underlying39 hi hz0 hz1 hz2 rfl (by omega) vw word1.length (Lib.byteCells word1) (by rfl) ((HW.out.alloc _).drew) ⟨wr2.heap.size, 0, none⟩ 1 1 [.int .u8 ((byU s k).toNat : Int)] (by rfl) (by rfl) (World.news_of_block (cs := #[.int .u8 ((byU s k).toNat : Int)]) (t := 5) (fr := (0, 0)) (heap_alloc_new wr2 _)) (by simp [Value.oneCell']) (by omega) (by unfold maxLen; omega) (by omega) (by simp; omega) (wr2.heap.size + 1) (by simp) ?_; intro gg cap w1 hown1 hgrow hat hlt1; have k2 : w1.cell? ⟨P, 2, none⟩ = some vw := Lib.cell_of_heap (kept_of HW.out (undrew hgrow) P _ HP.out (by intro c fz e; simp at e)) 2; have f2 := Lib.frozen_of_heap (kept_of HW.out (undrew hgrow) P _ HP.out (by intro c fz e; simp at e)) 2)
        all_goals as_aux_lemma =>
          have q := sw_put HP.out HW.out HO.out (by omega) (by omega) HB.out hown1 rfl (undrew hgrow)
          have k1 : w1.cell? ⟨P, 1, none⟩ = some (.int .i64 k) := Lib.cell_of_heap q.1 1
          have f1 := Lib.frozen_of_heap q.1 1
          have Q := Lib.hid q.2
          clear q hown1 hgrow
          go_wp2
          go_roundg (s.size - (k + 1))
          case measure => rw [Hn.out]; omega
          case rel => exact ⟨k + 1, word1 ++ [byU s k], rfl, by omega, by omega, by simp; omega, Q.out.at_ (k + 1) (by omega), Lib.hid HN.out⟩
    · have hd := drop_end s k (by omega)
      have hst := hR.out
      rw [hd] at hst
      have HN := Lib.hid (hst.trans (sa_nil 1 ⟨out, word1, inn⟩))
      clear hst hd
      have i2 : decide ((k : Int) < (s.size : Int)) = false := decide_eq_false (by omega)
      go_wp2_with fail
      go_quiet (fail)
      go_wp2_with fail
      go_ret
      exact ⟨false, k, word1, rfl, H.out.drewN _, by omega, by omega, by omega, HR.out.symm.trans HN.out⟩

end Go.Proofs.Ytiklnckoimeimaa

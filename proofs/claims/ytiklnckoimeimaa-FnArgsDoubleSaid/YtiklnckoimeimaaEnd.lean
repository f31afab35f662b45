/- The walk of the reference's end. -/
import Derived.Test.YtiklnckoimeimaaSw
import Derived.Deep.RegionLaw
namespace Go.Proofs.Ytiklnckoimeimaa
open Go.RowKit

set_option maxHeartbeats 2000000 in
theorem end_any (w : World) (B P : Nat) (s : ByteArray) (a : Nat) (word : List UInt8) (inn : Bool) (out : List (List UInt8)) (wr : World) (h : SW w B P s a word inn out wr) (hl : out.length ≤ 68719476736) :
    Calls Try.prog 21 #[.pointer (some ⟨P, 0, none⟩)] wr fun e w' => e = .returned (.tuple #[]) ∧ SW w B P s a [] false (if inn then out ++ [word] else out) w' := by
  obtain ⟨vw, vo, hP, hw, ho, hBP, hB, hb⟩ := h
  have hsz := hb.size
  have c0 := Lib.cell_of_heap hP 0
  have c2 : wr.cell? ⟨P, 2, none⟩ = some vw := by rw [Lib.cell_of_heap hP]; rfl
  have c3 : wr.cell? ⟨P, 3, none⟩ = some (.bool inn) := by rw [Lib.cell_of_heap hP]; rfl
  have c4 : wr.cell? ⟨P, 4, none⟩ = some vo := by rw [Lib.cell_of_heap hP]; rfl
  have z2 := Lib.frozen_of_heap hP 2
  have z3 := Lib.frozen_of_heap hP 3
  have z4 := Lib.frozen_of_heap hP 4
  clear c0
  have HP := Lib.hid hP
  have HW := Lib.hid hw
  have HO := Lib.hid ho
  have HB := Lib.hid hb
  clear hP hw ho hb
  cases inn with
  | false =>
    go_enter Try.func21, Try.ntmps21
    go_wp2
    go_end0
    refine ⟨rfl, .slice none 0 0, vo, blk_set (blk_set HP.out 2 _) 3 _, ⟨rfl, .inl ⟨rfl, rfl⟩⟩, own_set (own_set HO.out HP.out (by decide) _ _) (blk_set HP.out 2 _) (by decide) _ _, hBP, hB, (HB.out.setCell hBP _).setCell hBP _⟩
  | true =>
    obtain ⟨i0, hi, hz0, hz1, hz2⟩ := info_parts Try.infoString
    go_enter Try.func21, Try.ntmps21
    go_wp2_with fail
    have hP' : P < wr.heap.size := (Array.getElem?_eq_some_iff.1 HP.out).1
    have hcv := conv_own (P := Try.prog) Try.underlying39 Try.underlying5 Try.underlying9 HW.out.drew
    go_region_law (refine step_append_lies _ (by rfl) _ _ _ (by rfl) B 9 i0 _ 1 16 Try.underlying23 hi hz0 hz1 hz2 rfl (by omega) vo out.length (strC out) (by rfl) ((HO.out.alloc _).drew) ⟨wr.heap.size, 0, none⟩ 1 1 [.string ⟨word.toArray⟩] (by rfl) (by rfl) (World.news_of_block (cs := #[.string ⟨word.toArray⟩]) (t := 9) (fr := (0, 0)) (heap_alloc_new wr _)) (by simp [Value.oneCell']) (by omega) (by unfold maxLen; omega) (by omega) (by simp; omega) (wr.heap.size + 1) (by simp) ?_; intro gg cap w1 hown1 hgrow hat hlt; have k4 : w1.cell? ⟨P, 4, none⟩ = some vo := Lib.cell_of_heap (kept_of HO.out (undrew hgrow) P _ HP.out (by intro c fz e; simp at e)) 4; have f4 := Lib.frozen_of_heap (kept_of HO.out (undrew hgrow) P _ HP.out (by intro c fz e; simp at e)) 4)
    all_goals
      have q1 := kept_of HO.out (undrew hgrow) P _ HP.out (by intro c fz e; simp at e)
      have q2 := own_of HW.out (w1 := w1) fun k c hk => kept_of HO.out (undrew hgrow) k _ hk (by intro c fz e; simp at e)
      have q3 : Below B w w1 := (HB.out.alloc (by omega) _).grown (undrew hgrow) (by simp; omega) (fun k hk => (HO.out.lt k hk).1)
      have k2 : w1.cell? ⟨P, 2, none⟩ = some vw := Lib.cell_of_heap q1 2
      have k3 : w1.cell? ⟨P, 3, none⟩ = some (.bool true) := Lib.cell_of_heap q1 3
      have f2 := Lib.frozen_of_heap q1 2
      have f3 := Lib.frozen_of_heap q1 3
      have Q1 := Lib.hid q1
      have Q2 := Lib.hid q2
      have Q3 := Lib.hid q3
      have Q4 := Lib.hid hown1
      clear q1 q2 q3 hown1 hgrow hcv
      go_wp2
      go_end0
      refine ⟨rfl, .slice none 0 0, .slice (some ⟨gg, 0, none⟩) (out.length + 1) cap, blk_set (blk_set (blk_set Q1.out 4 _) 2 _) 3 _, ⟨rfl, .inl ⟨rfl, rfl⟩⟩, ?_, hBP, hB, ((Q3.out.setCell hBP _).setCell hBP _).setCell hBP _⟩
      rw [strC_append, List.length_append]
      exact own_set (own_set (own_set Q4.out Q1.out (by decide) _ _) (blk_set Q1.out 4 _) (by decide) _ _) (blk_set (blk_set Q1.out 4 _) 2 _) (by decide) _ _

end Go.Proofs.Ytiklnckoimeimaa

/- The walk of the reference's Double. -/
import Derived.Test.YtiklnckoimeimaaQuoted
import Derived.Deep.CutRange
namespace Go.Proofs.Ytiklnckoimeimaa
open Go.RowKit

theorem own_one (w : World) (u : Value) : (w.alloc (.cells #[u] 5)).ownsRow w.heap.size 5 1 (.slice (some ⟨w.heap.size, 0, none⟩) 1 1) 1 [u] := by
  refine ⟨rfl, .inr ⟨w.heap.size, 1, #[u], rfl, Nat.le_refl _, heap_alloc_new w _, ?_⟩⟩
  simp
  unfold maxLen
  omega

/-- What Double has laid behind the first k bytes. -/
def dbl (s : ByteArray) (k : Nat) : List UInt8 := 34 :: (s.data.toList.take k).flatMap escB

theorem dbl_step (s : ByteArray) (k : Nat) (h : k < s.size) : dbl s (k + 1) = dbl s k ++ escB (byU s k) := by
  have h' : k < s.data.toList.length := by simpa using h
  unfold dbl
  rw [List.take_succ_eq_append_getElem h', List.flatMap_append, byU_at s k h]
  simp
  rfl

theorem dbl_len (s : ByteArray) (k : Nat) (h : k ≤ s.size) : (dbl s k).length ≤ 2 * k + 1 := by
  induction k with
  | zero => simp [dbl]
  | succ k ih =>
    have := ih (by omega)
    rw [dbl_step s k (by omega), List.length_append]
    have : (escB (byU s k)).length ≤ 2 := by unfold escB; split <;> simp
    omega

set_option maxHeartbeats 2000000 in
theorem double_text (s : ByteArray) (w : World) (hs : s.size ≤ 1099511627776) :
    Calls Try.prog 16 #[.string s] w fun e w' => e = .returned (.string ⟨(qD s.data.toList).toArray⟩) ∧ Below w.heap.size w w' := by
  obtain ⟨i0, hi, hz0, hz1, hz2⟩ := info_parts Try.infoByte
  have hb0 := Lib.hid (below_new w (.cells #[.int .u8 34] 5))
  go_enter Try.func16, Try.ntmps16
  go_wp2_with fail
  go_loopw [3, 4] (fun a i wr => ∃ k : Nat, k ≤ s.size ∧ i = .int .i64 k ∧ wr.ownsRow w.heap.size 5 1 a (dbl s k).length (Lib.byteCells (dbl s k)) ∧ Below w.heap.size w wr) (fun _ i _ => s.size - (intOf i).toNat)
  case atStart => exact ⟨0, by omega, rfl, own_one w _, hb0.out⟩
  case round =>
    obtain ⟨k, hk, rfl, hown, hbel⟩ := hrel
    have hsz := hbel.size
    have HO := Lib.hid hown
    have HB := Lib.hid hbel
    clear hown hbel hb0
    have hlen := dbl_len s k hk
    by_cases hlt : k < s.size
    · have e1 := byInt s k hlt
      have hd := dbl_step s k hlt
      have hs4 : spec4 (byU s k) = (((byU s k).toNat : Int) == 92 || ((byU s k).toNat : Int) == 34 || ((byU s k).toNat : Int) == 36 || ((byU s k).toNat : Int) == 96) := by
        have h1 : (((byU s k).toNat : Int) == 92) = decide (byU s k = 92) := b_eq _ 92 (by decide)
        have h2 : (((byU s k).toNat : Int) == 34) = decide (byU s k = 34) := b_eq _ 34 (by decide)
        have h3 : (((byU s k).toNat : Int) == 36) = decide (byU s k = 36) := b_eq _ 36 (by decide)
        have h4 : (((byU s k).toNat : Int) == 96) = decide (byU s k = 96) := b_eq _ 96 (by decide)
        rw [h1, h2, h3, h4]; rfl
      have Hs4 := Lib.hid hs4
      have Hd := Lib.hid hd
      clear hs4 hd
      go_upto_region 5 with (fail)
      go_cut [33] from 6 to 42 (fun c wx => c = .bool (spec4 (byU s k)) ∧ wr = wx)
      case first =>
        go_wp2
        all_goals
          go_meet
          case rel => exact ⟨by first | (rw [Hs4.out]; simp [*]; done) | (rw [Hs4.out]), rfl⟩
      case rest =>
        obtain ⟨rfl, rfl⟩ := hcut
        clear Hs4
        cases hsp : spec4 (byU s k) with
        | true =>
          have He : Hid (dbl s (k + 1) = (dbl s k ++ [92]) ++ [byU s k]) := Lib.hid (by rw [Hd.out, escB, if_pos (by simpa [spec4, or_assoc] using hsp), List.append_assoc]; rfl)
          clear hsp Hd
          go_wp2_with (at_builtin; refine wpList_append_own _ rfl (.tmp 34) (.tmp 35) 39 rfl w.heap.size 5 i0 (.int .u8 0) 1 1 Try.underlying39 hi hz0 hz1 hz2 rfl (by decide) _ _ _ rfl (HO.out.alloc _) ⟨wr.heap.size, 0, none⟩ 1 1 [.int .u8 92] rfl rfl (cell_one_new _ _ _) (by intro u hu; simp at hu; subst hu; rfl) (by unfold maxLen; omega) (by omega) (by simp; omega) ?_)
          intro v1 w1 hown1 hg1 _
          have B1 : Below w.heap.size w w1 := (HB.out.alloc (by omega) _).grown hg1 (by simp; omega) (fun k hk => (HO.out.lt k hk).1)
          have HO1 := Lib.hid hown1
          have HB1 := Lib.hid B1
          have hsz1 := B1.size
          clear hown1 hg1 B1
          go_wp2_with (at_builtin; refine wpList_append_own _ rfl (.tmp 37) (.tmp 41) 39 rfl w.heap.size 5 i0 (.int .u8 0) 1 1 Try.underlying39 hi hz0 hz1 hz2 rfl (by decide) _ _ _ rfl (HO1.out.alloc _) ⟨w1.heap.size, 0, none⟩ 1 1 [.int .u8 ((byU s k).toNat : Int)] rfl rfl (cell_one_new _ _ _) (by intro u hu; simp at hu; subst hu; rfl) (by unfold maxLen; omega) (by omega) (by simp; omega) ?_)
          intro v2 w2 hown2 hg2 _
          have B2 : Below w.heap.size w w2 := (HB1.out.alloc (by omega) _).grown hg2 (by simp; omega) (fun k hk => (HO1.out.lt k hk).1)
          have HO2 : Hid (w2.ownsRow w.heap.size 5 1 v2 (dbl s (k + 1)).length (Lib.byteCells (dbl s (k + 1)))) := Lib.hid (by rw [He.out, List.length_append, List.length_append, byteC_append, byteC_append, List.append_assoc]; exact hown2)
          have HB2 := Lib.hid B2
          clear hown2 hg2 B2
          go_wp2_with fail
          go_roundw
          case rel => exact ⟨k + 1, by omega, by go_num, HO2.out, HB2.out⟩
          case measure => simp [intOf]; omega
        | false =>
          have He : Hid (dbl s (k + 1) = dbl s k ++ [byU s k]) := Lib.hid (by rw [Hd.out, escB, if_neg (by simpa [spec4, and_assoc] using hsp)])
          clear hsp Hd
          go_wp2_with (at_builtin; refine wpList_append_own _ rfl (.tmp 37) (.tmp 41) 39 rfl w.heap.size 5 i0 (.int .u8 0) 1 1 Try.underlying39 hi hz0 hz1 hz2 rfl (by decide) _ _ _ rfl (HO.out.alloc _) ⟨wr.heap.size, 0, none⟩ 1 1 [.int .u8 ((byU s k).toNat : Int)] rfl rfl (cell_one_new _ _ _) (by intro u hu; simp at hu; subst hu; rfl) (by unfold maxLen; omega) (by omega) (by simp; omega) ?_)
          intro v2 w2 hown2 hg2 _
          have B2 : Below w.heap.size w w2 := (HB.out.alloc (by omega) _).grown hg2 (by simp; omega) (fun k hk => (HO.out.lt k hk).1)
          have HO2 : Hid (w2.ownsRow w.heap.size 5 1 v2 (dbl s (k + 1)).length (Lib.byteCells (dbl s (k + 1)))) := Lib.hid (by rw [He.out, List.length_append, byteC_append]; exact hown2)
          have HB2 := Lib.hid B2
          clear hown2 hg2 B2
          go_wp2_with fail
          go_roundw
          case rel => exact ⟨k + 1, by omega, by go_num, HO2.out, HB2.out⟩
          case measure => simp [intOf]; omega
    · obtain rfl : k = s.size := by omega
      have He : Hid (dbl s s.size ++ [34] = qD s.data.toList) := Lib.hid (by unfold dbl qD; rw [List.take_of_length_le (by simp)]; rfl)
      go_wp2_with (at_builtin; refine wpList_append_own _ rfl (.tmp 43) (.tmp 44) 39 rfl w.heap.size 5 i0 (.int .u8 0) 1 1 Try.underlying39 hi hz0 hz1 hz2 rfl (by decide) _ _ _ rfl (HO.out.alloc _) ⟨wr.heap.size, 0, none⟩ 1 1 [.int .u8 34] rfl rfl (cell_one_new _ _ _) (by intro u hu; simp at hu; subst hu; rfl) (by unfold maxLen; omega) (by omega) (by simp; omega) ?_)
      intro v2 w2 hown2 hg2 _
      have B2 : Below w.heap.size w w2 := (HB.out.alloc (by omega) _).grown hg2 (by simp; omega) (fun k hk => (HO.out.lt k hk).1)
      have HO2 : w2.ownsRow w.heap.size 5 1 v2 (qD s.data.toList).length (Lib.byteCells (qD s.data.toList)) := by rw [← He.out, List.length_append, byteC_append]; exact hown2
      have hcv := conv_own (P := Try.prog) Try.underlying39 Try.underlying5 Try.underlying9 HO2
      have HB2 := Lib.hid B2
      clear hown2 hg2 B2 HO2
      go_wp2_with fail
      go_ret
      exact ⟨rfl, HB2.out⟩
end Go.Proofs.Ytiklnckoimeimaa

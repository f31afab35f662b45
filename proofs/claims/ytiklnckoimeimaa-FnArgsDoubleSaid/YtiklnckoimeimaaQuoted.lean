/- The walks of the reference's Escaped and Double. -/
import Derived.Test.YtiklnckoimeimaaLs2
namespace Go.Proofs.Ytiklnckoimeimaa
open Go.RowKit

theorem own_emptyB (w : World) : (w.alloc (.cells #[] 5)).ownsRow w.heap.size 5 1 (.slice (some ⟨w.heap.size, 0, none⟩) 0 0) 0 [] := by
  refine ⟨rfl, .inr ⟨w.heap.size, 0, #[], rfl, Nat.le_refl _, heap_alloc_new w _, ?_⟩⟩
  simp

theorem take_qE (s : ByteArray) (k : Nat) (h : k < s.size) : qE (s.data.toList.take k) ++ [92, byU s k] = qE (s.data.toList.take (k + 1)) := by
  have h' : k < s.data.toList.length := by simpa using h
  rw [List.take_succ_eq_append_getElem h']
  unfold qE
  rw [List.flatMap_append, byU_at s k h]
  simp
  rfl

set_option maxHeartbeats 2000000 in
theorem escaped_text (s : ByteArray) (w : World) (hs : s.size ≤ 1099511627776) :
    Calls Try.prog 19 #[.string s] w fun e w' => e = .returned (.string ⟨(qE s.data.toList).toArray⟩) ∧ Below w.heap.size w w' := by
  obtain ⟨i0, hi, hz0, hz1, hz2⟩ := info_parts Try.infoByte
  have hb0 := Lib.hid (below_new w (.cells #[] 5))
  go_enter Try.func19, Try.ntmps19
  go_wp2_with fail
  go_loopw [3, 4] (fun a i wr => ∃ k : Nat, k ≤ s.size ∧ i = .int .i64 k ∧ wr.ownsRow w.heap.size 5 1 a (2 * k) (Lib.byteCells (qE (s.data.toList.take k))) ∧ Below w.heap.size w wr) (fun _ i _ => s.size - (intOf i).toNat)
  case atStart => exact ⟨0, by omega, rfl, own_emptyB w, hb0.out⟩
  case round =>
    obtain ⟨k, hk, rfl, hown, hbel⟩ := hrel
    have hsz := hbel.size
    have HO := Lib.hid hown
    have HB := Lib.hid hbel
    clear hown hbel hb0
    by_cases hlt : k < s.size
    · have e1 := byInt s k hlt
      have Htq := Lib.hid (take_qE s k hlt)
      go_wp2_with (at_builtin; refine wpList_append_own _ rfl (.tmp 12) (.tmp 16) 39 rfl w.heap.size 5 i0 (.int .u8 0) 1 1 Try.underlying39 hi hz0 hz1 hz2 rfl (by decide) _ _ _ rfl (HO.out.alloc _) ⟨wr.heap.size, 0, none⟩ 2 2 [.int .u8 92, .int .u8 ((byU s k).toNat : Int)] rfl rfl (World.news_of_block (cs := #[.int .u8 92, .int .u8 ((byU s k).toNat : Int)]) (t := 5) (fr := (0, 0)) (heap_alloc_new wr _)) (by intro u hu; simp at hu; rcases hu with rfl | rfl <;> rfl) (by unfold maxLen; omega) (by omega) (by simp; omega) ?_)
      intro v' w2 hown' hg' _
      have B2 : Below w.heap.size w w2 := (HB.out.alloc (by omega) _).grown hg' (by simp; omega) (fun k hk => (HO.out.lt k hk).1)
      have HO2 : Hid (w2.ownsRow w.heap.size 5 1 v' (2 * (k + 1)) (Lib.byteCells (qE (s.data.toList.take (k + 1))))) := Lib.hid (by rw [← Htq.out, byteC_append]; exact hown')
      have HB2 := Lib.hid B2
      clear hown' hg' B2
      go_wp2_with fail
      go_roundw
      case rel => exact ⟨k + 1, by omega, by go_num, HO2.out, HB2.out⟩
      case measure => simp [intOf]; omega
    · obtain rfl : k = s.size := by omega
      have hown := HO.out
      rw [List.take_of_length_le (by simp)] at hown
      have hcv := conv_own (P := Try.prog) Try.underlying39 Try.underlying5 Try.underlying9 hown
      clear hown
      go_wp2_with fail
      go_ret
      exact ⟨rfl, HB.out⟩
end Go.Proofs.Ytiklnckoimeimaa

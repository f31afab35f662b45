/- The walks of FnPath, FnBack and FnPlain, where the library's variable holds an error. -/
import Derived.Test.YtnlebcllloceoaaDoorSq
import Derived.Test.YtnlebcllloceoaaDoorFar
namespace Go.Proofs.YtnlebcllloceoaaDoor
open Go.RowKit

theorem prefix_any (s : ByteArray) (hs : s.size ≤ 1099511627776) (w : World) :
    Calls Tryd.prog 9 #[.string s] w fun e w' => e = .returned (.string (pre s)) ∧ Below w.heap.size w w' := by
  have hp := Lib.hid (p2p_any s hs w)
  go_enter Tryd.func9, Tryd.ntmps9
  go_wp2_with fail
  refine hp.out.mono ?_
  rintro e w' ⟨rfl, hb⟩
  go_wp2_with fail
  go_ret
  exact ⟨rfl, hb⟩

/-- The list of one text in its new block. -/
theorem far1 (s : ByteArray) (w : World) (hs : s.size ≤ 2147483647) :
    Calls Tryd.prog 6 #[.slice (some ⟨w.heap.size, 0, none⟩) 1 1] (w.alloc (.cells #[.string s] 9)) fun e w' =>
      e = .returned (.bool (decide ((65536 : Int) < (s.size : Int)))) ∧ (w.alloc (.cells #[.string s] 9)) = w' := by
  have e : tot [s] 1 = s.size := by simp [tot]
  have h := far_any [s] w.heap.size 0 1 1 (w.alloc (.cells #[.string s] 9)) (by omega)
    (fun i hi => by
      match i, hi with
      | 0, _ => simp [World.cell?_alloc_new]) (by rw [e]; omega)
  rwa [e] at h

/-- The library's variable holds an error. -/
def Holds (w : World) : Prop := ∃ te pe, w.cell? ⟨1, 0, none⟩ = some (.iface te pe)
theorem Holds.later {w w1 : World} (h : Holds w) (hb : Below w.heap.size w w1) : Holds w1 := by
  obtain ⟨te, pe, hv⟩ := h
  exact ⟨te, pe, (hb.cell (p := ⟨1, 0, none⟩) (Lib.lt_of_cell hv)).trans hv⟩

theorem bytes_back (s : ByteArray) : (⟨s.data.toList.toArray⟩ : ByteArray) = s := by
  cases s; simp

theorem tuple_some (t : ByteArray) : pathTuple (some t.data.toList) = .tuple #[.string t, .bool true] := by
  show Value.tuple #[.string ⟨t.data.toList.toArray⟩, .bool true] = _
  rw [bytes_back]

theorem path_some (s : ByteArray) (hs : s.size ≤ 1099511627776) (t : ByteArray) (h : dec s.data.toList = some t.data.toList) (w : World) (hv : Holds w) :
    Calls Tryd.prog 7 #[.string s] w fun e w' => e = .returned (.tuple #[.string t, .bool true]) ∧ Below w.heap.size w w' := by
  obtain ⟨te, pe, hv⟩ := hv
  have := path_any s hs w te pe hv
  rwa [h, tuple_some] at this
theorem path_none (s : ByteArray) (hs : s.size ≤ 1099511627776) (h : dec s.data.toList = none) (w : World) (hv : Holds w) :
    Calls Tryd.prog 7 #[.string s] w fun e w' => e = .returned (.tuple #[.string ⟨#[]⟩, .bool false]) ∧ Below w.heap.size w w' := by
  obtain ⟨te, pe, hv⟩ := hv
  have := path_any s hs w te pe hv
  rwa [h] at this
theorem spec_some (s : ByteArray) (hs : s.size ≤ 1099511627776) (t : ByteArray) (h : dec s.data.toList = some t.data.toList) (w : World) :
    Calls Tryd.prog 8 #[.string s] w fun e w' => e = .returned (.tuple #[.string t, .bool true]) ∧ Below w.heap.size w w' := by
  have := specPath_any s hs w
  rwa [h, tuple_some] at this
theorem spec_none (s : ByteArray) (hs : s.size ≤ 1099511627776) (h : dec s.data.toList = none) (w : World) :
    Calls Tryd.prog 8 #[.string s] w fun e w' => e = .returned (.tuple #[.string ⟨#[]⟩, .bool false]) ∧ Below w.heap.size w w' := by
  have := specPath_any s hs w
  rwa [h] at this

theorem dec_of_pre (s : ByteArray) : dec (pre s).data.toList = some s.data.toList := by
  have : (pre s).data.toList = preL s := by simp [pre]
  rw [this, dec_pre]

theorem fnPath_walk (a0 : ByteArray) (w0 : a0.size ≤ maxLen) (w : World) (hv : Holds w) :
    Calls Tryd.prog 3 #[.string a0] w fun e w' => e = .returned (.bool true) ∧ Below w.heap.size w w' := by
  unfold maxLen at w0
  by_cases h0 : a0.size ≤ 2147483647
  · have hf := far1 a0 w h0
    by_cases hb : (65536 : Int) < (a0.size : Int)
    · rw [decide_eq_true hb] at hf
      have Hf := Lib.hid hf
      clear hf
      go_enter Tryd.func3, Tryd.ntmps3
      go_wp2_with fail
      refine Hf.out.mono ?_
      rintro e w' ⟨rfl, rfl⟩
      go_wp2_with fail
      go_ret
      exact ⟨rfl, below_new _ _⟩
    · rw [decide_eq_false hb] at hf
      have Hf := Lib.hid hf
      have Hv := Lib.hid hv
      clear hf hv
      cases hd : dec a0.data.toList with
      | some l =>
        have HD : Hid (dec a0.data.toList = some (⟨l.toArray⟩ : ByteArray).data.toList) := Lib.hid (by rw [hd])
        clear hd
        generalize (⟨l.toArray⟩ : ByteArray) = t at HD
        go_enter Tryd.func3, Tryd.ntmps3
        go_wp2_with fail
        refine Hf.out.mono ?_
        rintro e w' ⟨rfl, rfl⟩
        go_wp2_with fail
        refine (path_some a0 (by omega) t HD.out _ (Hv.out.later (below_new w _))).mono ?_
        rintro e w1 ⟨rfl, hb1⟩
        go_wp2_with fail
        refine (spec_some a0 (by omega) t HD.out _).mono ?_
        rintro e w2 ⟨rfl, hb2⟩
        go_wp2_with fail
        go_ret
        exact ⟨rfl, below_then (below_then (below_new _ _) hb1) hb2⟩
      | none =>
        have HD := Lib.hid hd
        clear hd
        go_enter Tryd.func3, Tryd.ntmps3
        go_wp2_with fail
        refine Hf.out.mono ?_
        rintro e w' ⟨rfl, rfl⟩
        go_wp2_with fail
        refine (path_none a0 (by omega) HD.out _ (Hv.out.later (below_new w _))).mono ?_
        rintro e w1 ⟨rfl, hb1⟩
        go_wp2_with fail
        refine (spec_none a0 (by omega) HD.out _).mono ?_
        rintro e w2 ⟨rfl, hb2⟩
        go_wp2_with fail
        go_ret
        exact ⟨rfl, below_then (below_then (below_new _ _) hb1) hb2⟩
  · go_enter Tryd.func3, Tryd.ntmps3
    go_wp2
    go_ret
    exact ⟨rfl, Below.refl _ _⟩

theorem fnBack_walk (a0 : ByteArray) (w0 : a0.size ≤ maxLen) (w : World) (hv : Holds w) :
    Calls Tryd.prog 4 #[.string a0] w fun e w' => e = .returned (.bool true) ∧ Below w.heap.size w w' := by
  unfold maxLen at w0
  by_cases h0 : a0.size ≤ 2147483647
  · have hf := far1 a0 w h0
    by_cases hb : (65536 : Int) < (a0.size : Int)
    · rw [decide_eq_true hb] at hf
      have Hf := Lib.hid hf
      clear hf
      go_enter Tryd.func4, Tryd.ntmps4
      go_wp2_with fail
      refine Hf.out.mono ?_
      rintro e w' ⟨rfl, rfl⟩
      go_wp2_with fail
      go_ret
      exact ⟨rfl, below_new _ _⟩
    · rw [decide_eq_false hb] at hf
      have Hf := Lib.hid hf
      have Hv := Lib.hid hv
      have Hsz : Hid ((pre a0).size ≤ 1099511627776) := Lib.hid (by have := (pre_le a0).2; omega)
      clear hf hv
      go_enter Tryd.func4, Tryd.ntmps4
      go_wp2_with fail
      refine Hf.out.mono ?_
      rintro e w' ⟨rfl, rfl⟩
      go_wp2_with fail
      refine (prefix_any a0 (by omega) _).mono ?_
      rintro e w1 ⟨rfl, hb1⟩
      have HB1 := Lib.hid (below_then (below_new w (.cells #[.string a0] 9)) hb1)
      clear hb1
      go_wp2_with fail
      refine (path_some (pre a0) Hsz.out a0 (dec_of_pre a0) _ (Hv.out.later HB1.out)).mono ?_
      rintro e w2 ⟨rfl, hb2⟩
      go_wp2_with fail
      go_ret
      exact ⟨rfl, below_then HB1.out hb2⟩
  · go_enter Tryd.func4, Tryd.ntmps4
    go_wp2
    go_ret
    exact ⟨rfl, Below.refl _ _⟩

theorem fnPlain_walk (a0 : ByteArray) (w0 : a0.size ≤ maxLen) (w : World) (hv : Holds w) :
    Calls Tryd.prog 5 #[.string a0] w fun e w' => e = .returned (.bool true) ∧ Below w.heap.size w w' := by
  unfold maxLen at w0
  by_cases h0 : a0.size ≤ 2147483647
  · have hf := far1 a0 w h0
    by_cases hb : (65536 : Int) < (a0.size : Int)
    · rw [decide_eq_true hb] at hf
      have Hf := Lib.hid hf
      clear hf
      go_enter Tryd.func5, Tryd.ntmps5
      go_wp2_with fail
      refine Hf.out.mono ?_
      rintro e w' ⟨rfl, rfl⟩
      go_wp2_with fail
      go_ret
      exact ⟨rfl, below_new _ _⟩
    · rw [decide_eq_false hb] at hf
      have Hf := Lib.hid hf
      have Hv := Lib.hid hv
      have hS := fun w => simple_any a0 (by omega) w
      clear hf hv
      cases hst : staysTo a0 (lastTo a0 a0.size) a0.size with
      | false =>
        rw [hst] at hS
        have HS := Lib.hid hS
        clear hS hst
        go_enter Tryd.func5, Tryd.ntmps5
        go_wp2_with fail
        refine Hf.out.mono ?_
        rintro e w' ⟨rfl, rfl⟩
        go_wp2_with fail
        refine (HS.out _).mono ?_
        rintro e w' ⟨rfl, rfl⟩
        go_wp2_with fail
        go_ret
        exact ⟨rfl, below_new _ _⟩
      | true =>
        rw [hst] at hS
        have HS := Lib.hid hS
        have hpre := pre_none a0 (staysTo_escs a0 _ _ hst)
        have HD : Hid (dec a0.data.toList = some a0.data.toList) := Lib.hid (by have := dec_of_pre a0; rwa [hpre] at this)
        have hP := fun w => prefix_any a0 (by omega) w
        rw [hpre] at hP
        have HP := Lib.hid hP
        clear hS hst hpre hP
        go_enter Tryd.func5, Tryd.ntmps5
        go_wp2_with fail
        refine Hf.out.mono ?_
        rintro e w' ⟨rfl, rfl⟩
        go_wp2_with fail
        refine (HS.out _).mono ?_
        rintro e w' ⟨rfl, rfl⟩
        go_wp2_with fail
        refine (path_some a0 (by omega) a0 HD.out _ (Hv.out.later (below_new w _))).mono ?_
        rintro e w1 ⟨rfl, hb1⟩
        go_wp2_with fail
        refine (HP.out _).mono ?_
        rintro e w2 ⟨rfl, hb2⟩
        go_wp2_with fail
        go_ret
        exact ⟨rfl, below_then (below_then (below_new _ _) hb1) hb2⟩
  · go_enter Tryd.func5, Tryd.ntmps5
    go_wp2
    go_ret
    exact ⟨rfl, Below.refl _ _⟩

end Go.Proofs.YtnlebcllloceoaaDoor

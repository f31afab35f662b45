/- The walk of FnArgsDouble: it returns true. -/
import Derived.Test.YtiklnckoimeimaaQuoted2
import Derived.Test.YtiklnckoimeimaaFnArgsSingleWalk
namespace Go.Proofs.Ytiklnckoimeimaa
open Go.RowKit

theorem qD_len (x : List UInt8) : (qD x).length ≤ 2 * x.length + 2 := by
  have : (x.flatMap escB).length ≤ 2 * x.length := by
    induction x with
    | nil => simp
    | cons c x ih =>
      rw [List.flatMap_cons, List.length_append, List.length_cons]
      have : (escB c).length ≤ 2 := by unfold escB; split <;> simp
      omega
  unfold qD
  simp only [List.length_cons, List.length_append, List.length_nil]
  omega

set_option maxHeartbeats 4000000 in
theorem fnArgsDouble_walk (L : List (List UInt8)) (v : Value) (w : World) (h : RowS w v L) (hl : L.length ≤ 9223372036854775807) :
    Calls Try.prog 5 #[v] w fun e w' => e = .returned (.bool true) ∧ Below w.heap.size w w' := by
  have HR := Lib.hid h
  have HF := Lib.hid (fits_any L v w h hl)
  obtain ⟨a, c, rfl, hc⟩ := h
  clear hc
  obtain ⟨i0, hi, hz0, hz1, hz2⟩ := info_parts Try.infoString
  go_enter Try.func5, Try.ntmps5
  go_wp2_with fail
  refine HF.out.mono ?_
  rintro e wx ⟨r, rfl, hr, rfl⟩
  cases r with
  | false =>
    clear hr
    go_wp2_with fail
    go_ret
    exact ⟨rfl, Below.refl _ _⟩
  | true =>
    obtain ⟨f1, f2⟩ := hr rfl
    clear hr HF
    have HFar := Lib.hid (farL_any L _ w HR.out f1 f2)
    have F2 := Lib.hid f2
    clear f2
    go_wp2_with fail
    refine HFar.out.mono ?_
    rintro e wx ⟨r, rfl, hr, rfl⟩
    cases r with
    | true =>
      clear hr
      go_wp2_with fail
      go_ret
      exact ⟨rfl, Below.refl _ _⟩
    | false =>
      have ht := Lib.hid (hr rfl)
      clear hr HFar
      by_cases hk : L.length ≤ 1000
      · have hk1 : decide ((1000 : Int) < (L.length : Int)) = false := decide_eq_false (by omega)
        obtain ⟨n, hn⟩ : ∃ n, n = L.length := ⟨_, rfl⟩
        have Hn := Lib.hid hn
        rw [← hn] at hk hk1 f1 hl ⊢
        clear hn
        have hb0 := Lib.hid (below_new w (.cells #[] 9))
        go_wp2_with fail
        go_loopw [3, 19] (fun a i wr => ∃ k : Nat, k ≤ n ∧ i = .int .i64 k ∧ wr.ownsRow w.heap.size 9 1 a k (strC ((L.take k).map qD)) ∧ Below w.heap.size w wr) (fun _ i _ => n - (intOf i).toNat)
        case atStart => exact ⟨0, by omega, rfl, own_empty w, hb0.out⟩
        case round =>
          obtain ⟨k, hkn, rfl, hown, hbel⟩ := hrel
          have HO := Lib.hid hown
          have HB := Lib.hid hbel
          have hsz := hbel.size
          clear hown hbel hb0
          by_cases hlt : k < n
          · obtain ⟨a2, c2, e2, hc⟩ := rowS_below HR.out HB.out
            have e3 := e2
            rw [← Hn.out] at e3
            simp only [Value.slice.injEq, true_and] at e3
            obtain ⟨rfl, rfl⟩ := e3
            rcases hc with h0 | ⟨g, o, rfl, hm⟩
            · have := Hn.out; omega
            · have hcx := hm k (by rw [← Hn.out]; exact hlt)
              have hlk : (L.getD k []).length ≤ 2147483647 := F2.out k (by rw [← Hn.out]; exact hlt)
              have hsx := size_mk (L.getD k [])
              have Htm := Lib.hid (take_map qD L k (by rw [← Hn.out]; exact hlt))
              obtain ⟨x, hx⟩ : ∃ x, x = L.getD k [] := ⟨_, rfl⟩
              rw [← hx] at hcx hlk hsx
              have hdt : (ByteArray.mk x.toArray).data.toList = x := by simp
              have Hx := Lib.hid hx
              obtain ⟨y, hy⟩ : ∃ y, y = ByteArray.mk x.toArray := ⟨_, rfl⟩
              rw [← hy] at hcx hsx hdt
              have hst := double_text y wr (by omega)
              rw [hdt] at hst
              have Hst := Lib.hid hst
              clear hm hx hy hdt hst hsx e2
              go_wp2_with fail
              refine Hst.out.mono ?_
              rintro e wy ⟨rfl, hby⟩
              have HO' := Lib.hid (own_below HO.out hby)
              have HB' := Lib.hid (below_then HB.out hby (Nat.le_refl _))
              have hsy := hby.size
              clear hby
              go_wp2_with (at_builtin; refine wpList_append_own _ rfl (.tmp 23) (.tmp 26) 23 rfl w.heap.size 9 i0 (.string ⟨#[]⟩) 1 16 Try.underlying23 hi hz0 hz1 hz2 rfl (by decide) _ _ _ rfl (HO'.out.alloc _) ⟨wy.heap.size, 0, none⟩ 1 1 [.string ⟨(qD x).toArray⟩] rfl rfl (cell_one_new _ _ _) (by intro u hu; simp at hu; subst hu; rfl) (by unfold maxLen; omega) (by omega) (by simp; omega) ?_)
              intro v' w2 hown' hg' _
              have B2 : Below w.heap.size w w2 := (HB'.out.alloc (by omega) _).grown hg' (by simp; omega) (fun k hk => (HO'.out.lt k hk).1)
              have HO2 : Hid (w2.ownsRow w.heap.size 9 1 v' (k + 1) (strC ((L.take (k + 1)).map qD))) := Lib.hid (by rw [← Htm.out, ← Hx.out, List.map_take]; exact hown')
              have HB2 := Lib.hid B2
              clear hown' hg' B2
              go_wp2_with fail
              go_roundw
              case rel => exact ⟨k + 1, by omega, by go_num, HO2.out, HB2.out⟩
              case measure => simp [intOf]; omega
          · obtain rfl : k = n := by omega
            have hpl := double_plain L
            have hjl := jo_len qD qD_len L L.length (Nat.le_refl _)
            have htot := ht.out
            have hown := HO.out
            rw [Hn.out, List.take_length] at hown
            have hml : (L.map qD).length = L.length := by simp
            have hrow : RowS wr _ (L.map qD) := own_row (by rw [hml]; exact hown)
            have hn := Hn.out
            have hj := joined_any (L.map qD) _ wr hrow (by rw [hml]; omega) (by rw [hml]; omega)
            rw [hml] at hj
            have ha := args_any ⟨(jo (L.map qD) L.length).toArray⟩ wr (by rw [size_mk]; omega)
            rw [show (ByteArray.mk (jo (L.map qD) L.length).toArray).data.toList = jo (L.map qD) L.length from by simp, hpl] at ha
            have Hj := Lib.hid hj
            have Ha := Lib.hid ha
            clear hj ha hpl hjl htot hown hml hrow hn
            go_wp2_with fail
            refine Hj.out.mono ?_
            rintro e wx ⟨rfl, rfl⟩
            go_wp2_with fail
            refine Ha.out.mono ?_
            rintro e w4 ⟨v4, rfl, hown4, hb4⟩
            have HB4 := Lib.hid (below_then HB.out hb4 (Nat.le_refl _))
            have hE := equal_rows L L v4 _ w4 (own_row hown4) (rowS_below HR.out HB4.out) (by rw [← Hn.out]; exact hl) (by rw [← Hn.out]; exact hl)
            rw [← Hn.out] at hE
            have HE := Lib.hid hE
            clear hown4 hb4 hE
            go_wp2_with fail
            refine HE.out.mono ?_
            rintro e w3 ⟨rfl, q, rfl⟩
            go_wp2_with fail
            go_ret
            exact ⟨ret_bool (by simp), below_drewN HB4.out q⟩
      · have hk1 : decide ((1000 : Int) < (L.length : Int)) = true := decide_eq_true (by omega)
        go_wp2_with fail
        go_ret
        exact ⟨rfl, Below.refl _ _⟩
end Go.Proofs.Ytiklnckoimeimaa

/- The walk of PrefixToPath. -/
import Derived.Test.YtnlebcllloceoaaDoorNum
import Derived.Test.YtnlebcllloceoaaDoorDec
import Derived.OwnWalk
namespace Go.Proofs.YtnlebcllloceoaaDoor
open Go.RowKit

/-- What PrefixToPath answers. -/
def PathEnd (o : Option (List UInt8)) (w : World) (e : Ending) (w' : World) : Prop :=
  Below w.heap.size w w' ∧ match o with
    | some l => e = .returned (.tuple #[.string ⟨l.toArray⟩, .nilIface])
    | none => ∃ N, e = .returned (.tuple #[.string ⟨#[]⟩, .iface 43 (.pointer (some ⟨N, 0, none⟩))])

theorem pathEnd_some {o : Option (List UInt8)} {l : List UInt8} {w w' : World} (h : o = some l) (hb : Below w.heap.size w w') : PathEnd o w (.returned (.tuple #[.string ⟨l.toArray⟩, .nilIface])) w' := by
  subst h; exact ⟨hb, rfl⟩
theorem pathEnd_none {o : Option (List UInt8)} {N : Nat} {w w' : World} (h : o = none) (hb : Below w.heap.size w w') : PathEnd o w (.returned (.tuple #[.string ⟨#[]⟩, .iface 43 (.pointer (some ⟨N, 0, none⟩))])) w' := by
  subst h; exact ⟨hb, N, rfl⟩

theorem own_below {w1 w2 : World} {B : Nat} {v : Value} {n : Nat} {xs : List Value} (h : w1.ownsRow B 5 1 v n xs) (hb : Below w1.heap.size w1 w2) : w2.ownsRow B 5 1 v n xs := by
  refine ⟨h.1, ?_⟩
  rcases h.2 with ⟨a, b⟩ | ⟨g, cap, cur, a, b, hg, r⟩
  · exact .inl ⟨a, b⟩
  · exact .inr ⟨g, cap, cur, a, b, by rw [hb.block g (Array.getElem?_eq_some_iff.1 hg).1]; exact hg, r⟩

/-- What is known in front of a round. -/
def PRel (s : ByteArray) (w : World) (a i : Value) (wr : World) : Prop :=
  ∃ k l, k ≤ s.size ∧ i = .int .i64 (k : Nat) ∧ l.length ≤ k ∧ Rest s k l ∧ wr.ownsRow w.heap.size 5 1 a l.length (cellsB l) ∧ Below w.heap.size w wr

set_option maxHeartbeats 2000000 in
set_option maxRecDepth 100000 in
theorem p2r_any (s : ByteArray) (hs : s.size ≤ 1099511627776) (w : World) (te : TypeId) (pe : Value) (hv : w.cell? ⟨1, 0, none⟩ = some (.iface te pe)) :
    Calls Tryd.prog 11 #[.string s] w (PathEnd (dec s.data.toList) w) := by
  have hix := (Tryd.strings_IndexByte s 37 w).mono fun _ _ ⟨he, hw⟩ => (⟨he, hw.symm⟩ : _ ∧ _)
  have hc37 : (37 : Int).toNat.toUInt8 = 37 := rfl
  rw [hc37] at hix
  have hG : 1 < w.heap.size := Lib.lt_of_cell hv
  have Hv := Lib.hid hv
  clear hv hc37
  obtain ⟨i0, hi, hz0, hz1, hz2⟩ := info_parts Tryd.infoByte
  by_cases hno : Lib.indexByte s.data.toList 37 = -1
  · rw [hno] at hix
    have HX := Lib.hid hix
    have HD := Lib.hid (dec_index s hno)
    clear hix hno
    go_enter Tryd.func11, Tryd.ntmps11
    go_wp2_with (go_at_call 16; refine HX.out.mono ?_; rintro e w' ⟨rfl, rfl⟩)
    go_ret2
    exact pathEnd_some (l := s.data.toList) HD.out (Below.refl _ _)
  · generalize Lib.indexByte s.data.toList 37 = o at hix hno
    have HX := Lib.hid hix
    have ho : (o == -1) = false := by simpa using hno
    clear hix hno
    go_enter Tryd.func11, Tryd.ntmps11
    go_wp2_with (first | (go_at_call 16; refine HX.out.mono ?_; rintro e w' ⟨rfl, rfl⟩) | (at_make; refine wpList_make_own _ rfl (.const (.int .i64 0)) (.tmp 15) 32 rfl w.heap.size 5 i0 (.int .u8 0) 1 Tryd.underlying32 hi hz0 hz1 .i64 .i64 _ s.size rfl rfl (by omega) ?c1 ?c2 ?c3 ?_))
    case c1 => first | omega | (rw [hz2]; omega)
    case c2 => first | (unfold maxLen; omega) | omega
    case c3 => first | exact Nat.le_refl _ | (unfold maxLen; omega) | omega
    intro w1 hown hgrow
    have hb1 : Below w.heap.size w w1 := (Below.refl _ _).grown hgrow (Nat.le_refl _) (fun k hk => by cases hk)
    clear hgrow HX ho
    go_wp2_with fail
    go_loopw [5, 6] (fun a i wr => PRel s w a i wr) (fun _ i _ => s.size - (intOf i).toNat)
    case atStart => exact ⟨0, [], Nat.zero_le _, rfl, Nat.le_refl _, rest_zero s, hown, hb1⟩
    case round =>
      clear hown hb1
      obtain ⟨k, l, hk, rfl, hl, hrest, hown, hbel⟩ := hrel
      have hsz := hbel.size
      have HO := Lib.hid hown
      have HB := Lib.hid hbel
      have HR := Lib.hid hrest
      clear hown hbel hrest
      by_cases hlt : k < s.size
      · have e1 := (by8_at s k hlt).symm
        have b1 := by8_bd s k
        by_cases hp : byU s k = 37
        · have h37 : by8 s k = 37 := by unfold by8; rw [hp]; rfl
          rw [h37] at e1
          clear h37 b1
          by_cases hsh : s.size ≤ k + 2
          · have HD := Lib.hid (rest_short hlt hsh hp HR.out)
            clear hp
            go_wp2_with (go_at_call 17; refine (new_any _ _).mono ?_; rintro e w2 ⟨N, rfl, hb2⟩)
            go_ret2
            exact pathEnd_none HD.out (below_then HB.out hb2)
          · have hk2 : k + 2 < s.size := by omega
            have H2 := Lib.hid (two_bytes s k hk2)
            have hhex := hexFrom_two (byU s (k + 1)) (byU s (k + 2))
            rw [← H2.out.2] at hhex
            by_cases hgood : valH (byU s (k + 1)) < 16 ∧ valH (byU s (k + 2)) < 16
            · have HR' := rest_good hk2 hp hgood.1 hgood.2 HR.out
              rw [if_pos hgood.1, if_pos hgood.2] at hhex
              have hv : 16 * valH (byU s (k + 1)) + valH (byU s (k + 2)) ≤ 255 := by omega
              generalize 16 * valH (byU s (k + 1)) + valH (byU s (k + 2)) = v at HR' hhex hv
              have hbv := Lib.hid (nat_ofNat v hv)
              have HX := Lib.hid hhex
              have HR2 := Lib.hid HR'
              clear hhex hgood HR' hp HR
              go_wp2_with fail
              refine (parse_yes _ H2.out.1 v HX.out wr).mono ?_
              rintro e w2 ⟨rfl, hb2⟩
              have HB2 := Lib.hid (below_then HB.out hb2)
              have HO2 : Hid (w2.ownsRow w.heap.size 5 1 u5 l.length (cellsB l)) := Lib.hid (own_below HO.out hb2)
              have hsz2 := hb2.size
              clear HO HB hb2
              go_wp2_with (at_builtin; refine wpList_append_own _ rfl (.tmp 52) (.tmp 55) 32 rfl w.heap.size 5 i0 (.int .u8 0) 1 1 Tryd.underlying32 hi hz0 hz1 hz2 rfl (by decide) _ _ _ rfl (HO2.out.alloc _) ⟨w2.heap.size, 0, none⟩ 1 1 [.int .u8 v] rfl rfl (cell_one_new _ _ _) (by intro u hu; simp at hu; subst hu; rfl) (by unfold maxLen; omega) (by omega) (by simp; omega) ?_)
              intro v' w3 hown' hgrow _
              have R := enc_step HB2.out HO2.out hown' hgrow
              have HN : Hid (w3.ownsRow w.heap.size 5 1 v' (l ++ [UInt8.ofNat v]).length (cellsB (l ++ [UInt8.ofNat v])) ∧ Below w.heap.size w w3) := Lib.hid (by
                rw [List.length_append, cellsB_append]
                have e : cellsB [UInt8.ofNat v] = [.int .u8 (v : Int)] := by unfold cellsB; rw [List.map_singleton, hbv.out]
                rw [e]; exact R)
              clear hown' hgrow R HO2 HB2
              go_wp2
              go_roundw
              case rel => exact ⟨k + 3, l ++ [UInt8.ofNat v], by omega, by go_num, by simp; omega, HR2.out, HN.out.1, HN.out.2⟩
              case measure => simp [intOf]; omega
            · have HD := Lib.hid (rest_bad hk2 hp hgood HR.out)
              have HX : Hid (hexFrom 0 (s.extract (k + 1) (k + 3)).data.toList = none) := Lib.hid (by
                rw [hhex]
                by_cases ha : valH (byU s (k + 1)) < 16
                · rw [if_pos ha, if_neg fun hb => hgood ⟨ha, hb⟩]
                · rw [if_neg ha])
              have Hv2 : Hid (wr.cell? ⟨1, 0, none⟩ = some (.iface te pe)) := Lib.hid ((HB.out.cell (p := ⟨1, 0, none⟩) hG).trans Hv.out)
              clear hhex hgood hp HR
              go_wp2_with fail
              refine (parse_no _ H2.out.1 HX.out wr te pe Hv2.out).mono ?_
              rintro e w2 ⟨N, rfl, hb2⟩
              have HB2 := Lib.hid (below_then HB.out hb2)
              clear hb2
              go_wp2_with (go_at_call 17; refine (new_any _ _).mono ?_; rintro e w3 ⟨N3, rfl, hb3⟩)
              go_ret2
              exact pathEnd_none HD.out (below_then HB2.out hb3)
        · have h37 : (by8 s k == 37) = false := by simpa [by8] using fun h => hp (UInt8.toNat_inj.1 (by have : ((byU s k).toNat : Int) = 37 := h; show (byU s k).toNat = 37; omega))
          have h37' : (by8 s k != 37) = true := by simpa using h37
          have HR' := Lib.hid (rest_other hlt hp HR.out)
          clear hp HR
          go_wp2_with (at_builtin; refine wpList_append_own _ rfl (.tmp 25) (.tmp 29) 32 rfl w.heap.size 5 i0 (.int .u8 0) 1 1 Tryd.underlying32 hi hz0 hz1 hz2 rfl (by decide) _ _ _ rfl (HO.out.alloc _) ⟨wr.heap.size, 0, none⟩ 1 1 [.int .u8 (by8 s k)] rfl rfl (cell_one_new _ _ _) (by intro u hu; simp at hu; subst hu; rfl) (by unfold maxLen; omega) (by omega) (by simp; omega) ?_)
          intro v' w2 hown' hgrow _
          have R := enc_step HB.out HO.out hown' hgrow
          have HN : Hid (w2.ownsRow w.heap.size 5 1 v' (l ++ [byU s k]).length (cellsB (l ++ [byU s k])) ∧ Below w.heap.size w w2) := Lib.hid (by rw [List.length_append, cellsB_append]; exact R)
          clear hown' hgrow R HO HB
          go_wp2
          go_roundw
          case rel => exact ⟨k + 1, l ++ [byU s k], by omega, by go_num, by simp; omega, HR'.out, HN.out.1, HN.out.2⟩
          case measure => simp [intOf]; omega
      · obtain rfl : k = s.size := by omega
        have hcv := conv_own (P := Tryd.prog) Tryd.underlying32 Tryd.underlying5 Tryd.underlying9 HO.out
        have HD := Lib.hid (rest_end HR.out)
        go_wp2
        go_ret2
        exact pathEnd_some HD.out HB.out

end Go.Proofs.YtnlebcllloceoaaDoor

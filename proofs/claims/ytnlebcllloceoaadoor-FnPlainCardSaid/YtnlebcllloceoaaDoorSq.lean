/- The walk of the reference's Path. -/
import Derived.Test.YtnlebcllloceoaaDoorSp
import Derived.Test.YtnlebcllloceoaaDoorP2p
namespace Go.Proofs.YtnlebcllloceoaaDoor
open Go.RowKit

theorem valZ_yes {c : UInt8} (h : valH c < 16) : valZ c = (valH c : Int) := by unfold valZ; rw [if_pos h]
theorem valZ_no {c : UInt8} (h : ¬ valH c < 16) : valZ c = -1 := by unfold valZ; rw [if_neg h]

theorem value_yes {s : ByteArray} {k x : Nat} (h : valH (byU s k) = x) (hx : x < 16) (w : World) : Calls Tryd.prog 12 #[.int .u8 (by8 s k)] w fun e w' => e = .returned (.int .i64 (x : Int)) ∧ w = w' := by
  have := value_any (byU s k) w
  rw [valZ_yes (by omega), h] at this
  exact this
theorem value_no {s : ByteArray} {k : Nat} (h : ¬ valH (byU s k) < 16) (w : World) : Calls Tryd.prog 12 #[.int .u8 (by8 s k)] w fun e w' => e = .returned (.int .i64 (-1)) ∧ w = w' := by
  have := value_any (byU s k) w
  rw [valZ_no h] at this
  exact this

theorem pathTuple_some {o : Option (List UInt8)} {l : List UInt8} (h : o = some l) : Ending.returned (.tuple #[.string ⟨l.toArray⟩, .bool true]) = .returned (pathTuple o) := by subst h; rfl
theorem pathTuple_none {o : Option (List UInt8)} (h : o = none) : Ending.returned (.tuple #[.string ⟨#[]⟩, .bool false]) = .returned (pathTuple o) := by subst h; rfl

set_option maxHeartbeats 2000000 in
set_option maxRecDepth 100000 in
theorem specPath_any (s : ByteArray) (hs : s.size ≤ 1099511627776) (w : World) :
    Calls Tryd.prog 8 #[.string s] w fun e w' => e = .returned (pathTuple (dec s.data.toList)) ∧ Below w.heap.size w w' := by
  obtain ⟨i0, hi, hz0, hz1, hz2⟩ := info_parts Tryd.infoByte
  go_enter Tryd.func8, Tryd.ntmps8
  go_wp2_with fail
  go_loopw [4, 5] (fun a i wr => PRel s w a i wr) (fun _ i _ => s.size - (intOf i).toNat)
  case atStart => exact ⟨0, [], Nat.zero_le _, rfl, Nat.le_refl _, rest_zero s, World.ownsRow_made w #[] 0 (Nat.le_refl _) (by unfold maxLen; omega) rfl, below_new _ _⟩
  case round =>
    obtain ⟨k, l, hk, rfl, hl, hrest, hown, hbel⟩ := hrel
    have hsz := hbel.size
    have HO := Lib.hid hown
    have HB := Lib.hid hbel
    have HR := Lib.hid hrest
    clear hown hbel hrest
    by_cases hlt : k < s.size
    · have e1 := (by8_at s k hlt).symm
      by_cases hp : byU s k = 37
      · have h37 : by8 s k = 37 := by unfold by8; rw [hp]; rfl
        rw [h37] at e1
        clear h37
        by_cases hsh : s.size ≤ k + 2
        · have HD := Lib.hid (rest_short hlt hsh hp HR.out)
          clear hp
          go_wp2_with fail
          go_ret2
          exact ⟨pathTuple_none HD.out, HB.out⟩
        · have hk2 : k + 2 < s.size := by omega
          have hk1 : k + 1 < s.size := by omega
          have e2 := (by8_at s (k + 1) hk1).symm
          have e3 := (by8_at s (k + 2) hk2).symm
          by_cases ha : valH (byU s (k + 1)) < 16
          · by_cases hb : valH (byU s (k + 2)) < 16
            · have HR' := rest_good hk2 hp ha hb HR.out
              have C1 := fun w => Lib.hid (value_yes rfl ha w)
              have C2 := fun w => Lib.hid (value_yes rfl hb w)
              generalize valH (byU s (k + 1)) = x at ha HR' C1
              generalize valH (byU s (k + 2)) = y at hb HR' C2
              have HR2 := Lib.hid HR'
              have HV := Lib.hid (nat_ofNat (16 * x + y) (by omega))
              have v1 : IntKind.i64.wrap ((k : Int) + 1) = (k : Int) + 1 := IntWalk.i64_in _ (by omega)
              have v2 : IntKind.i64.wrap ((k : Int) + 2) = (k : Int) + 2 := IntWalk.i64_in _ (by omega)
              have m1 : IntKind.i64.wrap (16 * (x : Int)) = 16 * (x : Int) := IntWalk.i64_in _ (by omega)
              have m2 : IntKind.i64.wrap (16 * (x : Int) + (y : Int)) = 16 * (x : Int) + (y : Int) := IntWalk.i64_in _ (by omega)
              clear hp HR HR'
              go_wp2_with fail
              refine (C1 _).out.mono ?_
              rintro e w' ⟨rfl, rfl⟩
              go_wp2_with fail
              refine (C2 _).out.mono ?_
              rintro e w' ⟨rfl, rfl⟩
              go_wp2_with fail
              have B1 : Hid (l.length + 1 ≤ maxLen) := Lib.hid (by unfold maxLen; omega)
              have B2 : Hid ((l.length + 1) * 1 ≤ 140737488355328) := Lib.hid (by omega)
              have B3 : Hid (w.heap.size ≤ (wr.alloc (.cells #[.int .u8 (16 * (x : Int) + (y : Int))] 5)).heap.size) := Lib.hid (by simp; omega)
              have B4 : Hid (∀ u ∈ ([.int .u8 (16 * (x : Int) + (y : Int))] : List Value), u.oneCell' = true) := Lib.hid (by intro u hu; rw [List.mem_singleton] at hu; rw [hu]; rfl)
              have m3 : IntKind.u8.wrap (16 * (x : Int) + (y : Int)) = 16 * (x : Int) + (y : Int) := by rw [IntKind.wrap_u8]; omega
              have n1 : ((k : Int) + 1).toNat = k + 1 := by omega
              have n2 : ((k : Int) + 2).toNat = k + 2 := by omega
              have p1 : (0 : Int) ≤ (k : Int) + 1 := by omega
              have p2 : (0 : Int) ≤ (k : Int) + 2 := by omega
              go_region_law (first | (go_simp; go_at_call 12; ((with_reducible refine (C1 _).out.mono ?_); rintro e w' ⟨rfl, rfl⟩)) | (go_simp; go_at_call 12; ((with_reducible refine (C2 _).out.mono ?_); rintro e w' ⟨rfl, rfl⟩)) | (refine step_append_own _ rfl (.tmp 44) (.tmp 58) 32 rfl w.heap.size 5 i0 (.int .u8 0) 1 1 Tryd.underlying32 hi hz0 hz1 hz2 rfl (by decide) _ _ _ (by simp [Act.eval]) (HO.out.alloc _) ⟨wr.heap.size, 0, none⟩ 1 1 [.int .u8 (16 * (x : Int) + (y : Int))] (by simp [Act.eval]) rfl (cell_one_new wr _ _) B4.out B1.out B2.out B3.out ?_; intro v' w3 hown' hgrow _))
              all_goals
                have R := enc_step HB.out HO.out hown' (undrew hgrow)
                have HN : Hid (w3.ownsRow w.heap.size 5 1 v' (l ++ [UInt8.ofNat (16 * x + y)]).length (cellsB (l ++ [UInt8.ofNat (16 * x + y)])) ∧ Below w.heap.size w w3) := Lib.hid (by
                  rw [List.length_append, cellsB_append]
                  have e : cellsB [UInt8.ofNat (16 * x + y)] = [.int .u8 (16 * (x : Int) + (y : Int))] := by unfold cellsB; rw [List.map_singleton, HV.out]; rfl
                  rw [e]; exact R)
                clear hown' hgrow R HO HB B1 B2 B3 B4 n1 n2 p1 p2 v1 v2 m1 m2 m3
                go_wp2
                go_roundw
                case rel => exact ⟨k + 3, l ++ [UInt8.ofNat (16 * x + y)], by omega, by go_num, by simp; omega, HR2.out, HN.out.1, HN.out.2⟩
                case measure => simp [intOf]; omega
            · have HD := Lib.hid (rest_bad hk2 hp (fun h => hb h.2) HR.out)
              have C1 := fun w => Lib.hid (value_yes rfl ha w)
              have C2 := fun w => Lib.hid (value_no hb w)
              generalize valH (byU s (k + 1)) = x at ha C1
              clear hp hb HR
              go_wp2_with fail
              refine (C1 _).out.mono ?_
              rintro e w' ⟨rfl, rfl⟩
              go_wp2_with fail
              refine (C2 _).out.mono ?_
              rintro e w' ⟨rfl, rfl⟩
              go_wp2_with fail
              go_ret2
              exact ⟨pathTuple_none HD.out, HB.out⟩
          · have HD := Lib.hid (rest_bad hk2 hp (fun h => ha h.1) HR.out)
            have C1 := fun w => Lib.hid (value_no ha w)
            clear hp ha HR
            go_wp2_with (go_at_call 12; refine (C1 _).out.mono ?_; rintro e w' ⟨rfl, rfl⟩)
            go_ret2
            exact ⟨pathTuple_none HD.out, HB.out⟩
      · have h37 : (by8 s k == 37) = false := by simpa [by8] using fun h => hp (UInt8.toNat_inj.1 (by have : ((byU s k).toNat : Int) = 37 := h; show (byU s k).toNat = 37; omega))
        have h37' : (by8 s k != 37) = true := by simpa using h37
        have b1 := by8_bd s k
        have HR' := Lib.hid (rest_other hlt hp HR.out)
        clear hp HR
        go_wp2_with (at_builtin; refine wpList_append_own _ rfl (.tmp 17) (.tmp 21) 32 rfl w.heap.size 5 i0 (.int .u8 0) 1 1 Tryd.underlying32 hi hz0 hz1 hz2 rfl (by decide) _ _ _ rfl (HO.out.alloc _) ⟨wr.heap.size, 0, none⟩ 1 1 [.int .u8 (by8 s k)] rfl rfl (cell_one_new _ _ _) (by intro u hu; simp at hu; subst hu; rfl) (by unfold maxLen; omega) (by omega) (by simp; omega) ?_)
        intro v' w2 hown' hgrow _
        have R := enc_step HB.out HO.out hown' hgrow
        have HN : Hid (w2.ownsRow w.heap.size 5 1 v' (l ++ [byU s k]).length (cellsB (l ++ [byU s k])) ∧ Below w.heap.size w w2) := Lib.hid (by rw [List.length_append, cellsB_append]; exact R)
        clear hown' hgrow R HO HB
        go_wp2
        go_roundw
        case rel => exact ⟨k + 1, l ++ [byU s k], by omega, by go_num, by simp; omega, HR'.out, HN.out.1, HN.out.2⟩
        case measure => simp [intOf]; omega
    · obtain rfl : k = s.size := by omega
      have hcv := conv_own (P := Tryd.prog) Tryd.underlying32 Tryd.underlying5 Tryd.underlying9 HO.out
      have HD := Lib.hid (rest_end HR.out)
      go_wp2
      go_ret2
      exact ⟨pathTuple_some HD.out, HB.out⟩

end Go.Proofs.YtnlebcllloceoaaDoor

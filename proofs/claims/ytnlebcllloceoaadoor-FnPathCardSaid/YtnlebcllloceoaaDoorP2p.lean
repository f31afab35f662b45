/- The walk of PathToPrefix. -/
import Derived.Test.YtnlebcllloceoaaDoorPre
import Derived.OwnWalk
import Derived.Deep.RegionLaw
namespace Go.Proofs.YtnlebcllloceoaaDoor
open Go.RowKit

/-- Byte k is escaped. -/
def esc (s : ByteArray) (f k : Nat) : Bool := !stays s f k
theorem esc_eq (s : ByteArray) (f k : Nat) :
    esc s f k = (decide (by8 s k ≤ 32) || ((by8 s k == 46) && decide ((f : Int) - 1 < k)) || (by8 s k == 37) || (by8 s k == 34) || decide (127 ≤ by8 s k)) := by
  unfold esc stays plainI
  rw [Bool.eq_iff_iff]
  simp
  omega
theorem stays_of {s : ByteArray} {f k : Nat} {b : Bool} (h : esc s f k = b) : stays s f k = !b := by rw [← h, esc, Bool.not_not]

theorem hex_index (x : Int) (h0 : 0 ≤ x) (h1 : x < 16) (W : World) :
    (Instr.index 9 (.string ⟨#[48, 49, 50, 51, 52, 53, 54, 55, 56, 57, 97, 98, 99, 100, 101, 102]⟩) (.int .u8 x)).run Tryd.prog W = .ok (.int .u8 ((hexB x.toNat).toNat : Int)) W := by
  have hsz : (⟨#[48, 49, 50, 51, 52, 53, 54, 55, 56, 57, 97, 98, 99, 100, 101, 102]⟩ : ByteArray).size = 16 := rfl
  rw [run_index_string W _ _ _ _ Tryd.underlying9, dif_pos ⟨h0, by rw [hsz]; omega⟩, hexs_at x.toNat (by omega)]

/-- An append to an owned row, as one step of a region that draws its order. -/
theorem step_append_own {P : Program} (w : World) {ops : Array Oper} {o : Oper} {a : Act} {K : Act → World → Prop} {Q : Exit → Act → World → Prop} {E : Prop} (hgd : o.guard = none) (s x : Operand) (t : TypeId)
    (ho : o.op = .call { callee := .builtin .append, args := #[s, x], argTypes := #[t, t] })
    (base : Nat) (e : TypeId) (i : TypeInfo) (z : Value) (size bytes : Nat) (ht : P.underlying t = some (.slice e)) (hi : P.info? e = some i) (hz : i.zero = some z)
    (hsize : i.size = size) (hby : i.bytes = bytes) (hzs : z.cells.size = size) (hsz : 0 < size)
    (v : Value) (n : Nat) (xs : List Value) (hs : a.eval s = v) (hown : w.ownsRow base e size v n xs)
    (ad : Addr) (m c : Nat) (news : List Value) (hx : a.eval x = .slice (some ad) m c) (hl : news.length = m * size) (hnews : ∀ j u, news[j]? = some u → w.cell? (ad.add j) = some u) (h1 : ∀ u ∈ news, u.oneCell' = true)
    (h63 : n + m ≤ maxLen) (hbytes : (n + m) * bytes ≤ 140737488355328) (hbase : base ≤ w.heap.size)
    (h : ∀ v' w', w'.ownsRow base e size v' (n + m) (xs ++ news) → w.grownBy w' v.ownBlock → (v' = .slice none 0 0 ↔ v = .slice none 0 0 ∧ m = 0) → K (a.put o.dst v') w') :
    if Region.wanted o (yielded ops a.tmps) = true then Oper.wp P o a w K Q else E := by
  have hw : Region.wanted o (yielded ops a.tmps) = true := by simp [Region.wanted, hgd]
  rw [if_pos hw]
  exact wp_append_own w s x t ho base e i z size bytes ht hi hz hsize hby hzs hsz v n xs hs hown ad m c news hx hl hnews h1 h63 hbytes hbase h

theorem undrew {w w1 : World} {row : Option Nat} (h : w.drew.grownBy w1 row) : w.grownBy w1 row := ⟨h.os, h.tape, h.output, h.size, h.block⟩

theorem three_cells (a b c : Value) (W : World) (e : TypeId) (j : Nat) (u : Value) (hj : [a, b, c][j]? = some u) : (W.alloc (.cells #[a, b, c] e)).cell? ((⟨W.heap.size, 0, none⟩ : Addr).add j) = some u := by
  match j, hj with
  | 0, hj | 1, hj | 2, hj => simp at hj; subst hj; simp [Addr.add, World.cell?_alloc_new]

set_option maxHeartbeats 1000000 in
theorem p2p_any (s : ByteArray) (hs : s.size ≤ 1099511627776) (w : World) :
    Calls Tryd.prog 13 #[.string s] w fun e w' => e = .returned (.string (pre s)) ∧ Below w.heap.size w w' := by
  have hL := (Tryd.strings_LastIndex_one s ⟨#[47]⟩ rfl (by omega) w).mono fun _ _ ⟨he, hw⟩ => (⟨he, hw.symm⟩ : _ ∧ _)
  have h47 : (((⟨#[47]⟩ : ByteArray)[0]'(by decide)).toNat : Int) = 47 := rfl
  rw [h47, lastIndex_slash] at hL
  have hf := lastTo_le s s.size
  obtain ⟨f, hff⟩ : ∃ f, f = lastTo s s.size := ⟨_, rfl⟩
  rw [← hff] at hL hf
  have HL := Lib.hid hL
  have Hf := Lib.hid hff
  clear hff hL h47
  obtain ⟨i0, hi, hz0, hz1, hz2⟩ := info_parts Tryd.infoByte
  go_enter Tryd.func13, Tryd.ntmps13
  go_wp2_with (go_at_call 19; refine HL.out.mono ?_; rintro e w' ⟨rfl, rfl⟩)
  clear HL
  go_loop [4, 5, 6] (fun n i _ => ∃ k : Nat, k ≤ s.size ∧ i = .int .i64 k ∧ n = .int .i64 (escs s f k)) (fun _ i _ => s.size - (intOf i).toNat)
  case atStart => exact ⟨0, Nat.zero_le _, rfl, rfl⟩
  case round =>
    obtain ⟨k, hk, rfl, rfl⟩ := hrel
    by_cases hlt : k < s.size
    · have e1 := (by8_at s k hlt).symm
      have b1 := by8_bd s k
      have hle := escs_le s f k
      go_upto_region 7 with (fail)
      go_cut [6, 43] from 12 to 45 (fun b c wx => b = .int .u8 (by8 s k) ∧ c = .bool (esc s f k) ∧ w = wx)
      case first =>
        go_wp2
        all_goals
          go_meet
          case rel => exact ⟨by simp [*], by first | (rw [esc_eq]; simp [*]; done) | (rw [esc_eq, beq_eq_false_iff_ne.2 ‹¬ by8 s k = 46›]; simp; done), rfl⟩
      case rest =>
        obtain ⟨rfl, rfl, rfl⟩ := hcut
        go_wp2
        · go_round
          case rel => exact ⟨k + 1, by omega, by go_num, by rw [escs_no (stays_of ‹esc s f k = true›)]; go_num⟩
          case measure => simp [intOf]; omega
        · go_round
          case rel => exact ⟨k + 1, by omega, by go_num, by rw [escs_yes (stays_of ‹esc s f k = false›)]⟩
          case measure => simp [intOf]; omega
    · obtain rfl : k = s.size := by omega
      by_cases h0 : escs s f s.size = 0
      · have h01 : ((escs s f s.size : Int) == 0) = true := by simp [h0]
        have H0 := Lib.hid h0
        clear h0
        go_wp2
        go_ret
        exact ⟨ret_string (pre_none s (by rw [← Hf.out]; exact H0.out)).symm, Below.refl _ _⟩
      · have h01 : ((escs s f s.size : Int) == 0) = false := by simp [h0]
        have hle := escs_le s f s.size
        clear h0
        go_wp2_with (at_make; refine wpList_make_own _ rfl (.const (.int .i64 0)) (.tmp 53) 32 rfl w.heap.size 5 i0 (.int .u8 0) 1 Tryd.underlying32 hi hz0 hz1 .i64 .i64 _ (s.size + 2 * escs s f s.size) rfl rfl (by omega) ?c1 ?c2 ?c3 ?_)
        case c1 => omega
        case c2 => unfold maxLen; omega
        intro w1 hown hgrow
        have hb1 : Below w.heap.size w w1 := (Below.refl _ _).grown hgrow (Nat.le_refl _) (fun k hk => by cases hk)
        clear hgrow
        go_wp2_with fail
        go_loopw [7, 8, 9] (fun v i _ wr => ∃ k : Nat, k ≤ s.size ∧ i = .int .i64 k ∧ wr.ownsRow w.heap.size 5 1 v (enc s f k).length (cellsB (enc s f k)) ∧ Below w.heap.size w wr) (fun _ i _ _ => s.size - (intOf i).toNat)
        case atStart => exact ⟨0, Nat.zero_le _, rfl, hown, hb1⟩
        case round =>
          clear hown hb1
          obtain ⟨k, hk, rfl, hown, hb⟩ := hrel
          by_cases hlt : k < s.size
          · have e1 := (by8_at s k hlt).symm
            have b1 := by8_bd s k
            have hln : (enc s f k).length ≤ 3298534883328 := by
              have h1 := enc_length s f k
              have h2 := escs_le s f k
              omega
            go_upto_region 16 with (fail)
            go_cut [9, 86] from 55 to 99 (fun b c wx => b = .int .u8 (by8 s k) ∧ c = .bool (esc s f k) ∧ wr = wx)
            case first =>
              go_wp2
              all_goals
                go_meet
                case rel => exact ⟨by simp [*], by first | (rw [esc_eq]; simp [*]; done) | (rw [esc_eq, beq_eq_false_iff_ne.2 ‹¬ by8 s k = 46›]; simp; done), rfl⟩
            case rest =>
              obtain ⟨rfl, rfl, rfl⟩ := hcut
              cases hst : esc s f k with
              | false =>
                have HE := Lib.hid (enc_yes (stays_of hst))
                go_wp2_with (at_builtin; refine wpList_append_own _ rfl (.tmp 96) (.tmp 98) 32 rfl w.heap.size 5 i0 (.int .u8 0) 1 1 Tryd.underlying32 hi hz0 hz1 hz2 rfl (by decide) _ _ _ rfl (hown.alloc _) ⟨wr.heap.size, 0, none⟩ 1 1 [.int .u8 (by8 s k)] rfl rfl ?e1 ?e2 ?e3 ?e4 ?e5 ?_)
                case e1 => exact cell_one_new _ _ _
                case e2 => intro u hu; simp at hu; subst hu; rfl
                case e3 => unfold maxLen; omega
                case e4 => omega
                case e5 => have := hb.size; simp; omega
                intro v' w1 hown' hgrow _
                have R := enc_step hb hown hown' hgrow
                clear hown' hgrow hown hb
                go_wp2
                go_roundw
                case rel => exact ⟨k + 1, by omega, by go_num, by rw [HE.out, List.length_append, cellsB_append]; exact R.1, R.2⟩
                case measure => simp [intOf]; omega
              | true =>
                have HE := Lib.hid (enc_no (stays_of hst))
                go_upto_region 17 with (fail)
                have hx1 := hex_index (by8 s k / 16) (by omega) (by omega)
                have hx2 := hex_index (by8 s k % 16) (by omega) (by omega)
                have hx3 : bits .and .u8 (by8 s k) 15 = by8 s k % 16 := u8_and15 (by8 s k) b1.1 (by omega)
                have hsz := hb.size
                have Hown := Lib.hid hown
                have Hb := Lib.hid hb
                clear hown hb
                go_region_law (refine step_append_own _ rfl (.tmp 87) (.tmp 94) 32 rfl w.heap.size 5 i0 (.int .u8 0) 1 1 Tryd.underlying32 hi hz0 hz1 hz2 rfl (by decide) _ _ _ (by simp [Act.eval]) (Hown.out.alloc _) ⟨wr.heap.size, 0, none⟩ 3 3 [.int .u8 37, .int .u8 ((hexB (by8 s k / 16).toNat).toNat : Int), .int .u8 ((hexB (by8 s k % 16).toNat).toNat : Int)] (by simp [Act.eval]) rfl (three_cells _ _ _ wr _) (by intro u hu; simp at hu; rcases hu with rfl | rfl | rfl <;> rfl) (by unfold maxLen; omega) (by omega) (by simp; omega) ?_; intro v' w3 hown' hgrow _)
                all_goals
                  have R := enc_step Hb.out Hown.out hown' (undrew hgrow)
                  clear hown' hgrow Hown Hb
                  go_wp2
                  go_roundw
                  case rel => exact ⟨k + 1, by omega, by go_num, by rw [HE.out, List.length_append, cellsB_append, cells_esc]; exact R.1, R.2⟩
                  case measure => simp [intOf]; omega
          · obtain rfl : k = s.size := by omega
            have hcv := conv_own (P := Tryd.prog) Tryd.underlying32 Tryd.underlying5 Tryd.underlying9 hown
            go_wp2
            go_ret
            exact ⟨ret_string (by rw [pre, preL, Hf.out]), hb⟩

end Go.Proofs.YtnlebcllloceoaaDoor

/- The walks of strconv.ParseUint, base 16 and 8 bits, at a text of two bytes, and of errors.New. -/
import Derived.Test.YtnlebcllloceoaaDoorPre
import Derived.Test.YtnlebcllloceoaaDoorPu
import Derived.Lib.Strings
import Derived.Lib.Walk
import Derived.Lib.ConvBytes
import Derived.Laws.Strings3
import Derived.Laws.Closers25
import Derived.Laws.Closers25b
import Derived.BigCall
import Derived.BigGuard
namespace Go.Proofs.YtnlebcllloceoaaDoor
open Go.RowKit

/-- A byte with the bit 32 set. -/
def lowN (c : UInt8) : Nat := if c.toNat % 64 < 32 then c.toNat + 32 else c.toNat

theorem bits_low (c : UInt8) : bits .or .u8 (c.toNat : Int) 32 = (lowN c : Int) := by
  have h : ∀ i : Fin 256, bits .or .u8 ((i.val : Nat) : Int) 32 = (((if i.val % 64 < 32 then i.val + 32 else i.val) : Nat) : Int) := by decide +kernel
  exact h ⟨c.toNat, c.toNat_lt⟩

theorem valH_low (c : UInt8) (h : ¬ (48 ≤ c.toNat ∧ c.toNat ≤ 57)) : valH c = if 97 ≤ lowN c ∧ lowN c ≤ 102 then lowN c - 87 else 16 := by
  have hc := c.toNat_lt
  unfold valH lowN
  rw [if_neg h]
  by_cases h1 : c.toNat % 64 < 32
  · rw [if_pos h1]
    by_cases h2 : 97 ≤ c.toNat ∧ c.toNat ≤ 102
    · omega
    · rw [if_neg h2]
      by_cases h3 : 65 ≤ c.toNat ∧ c.toNat ≤ 70
      · rw [if_pos h3, if_pos (by omega)]; omega
      · rw [if_neg h3, if_neg (by omega)]
  · rw [if_neg h1]
    by_cases h2 : 97 ≤ c.toNat ∧ c.toNat ≤ 102
    · rw [if_pos h2, if_pos h2]
    · rw [if_neg h2, if_neg (by omega), if_neg h2]

/-- What digits of base 16 spell, behind a number. -/
def hexFrom : Nat → List UInt8 → Option Nat
  | acc, [] => some acc
  | acc, c :: r => if valH c < 16 then hexFrom (acc * 16 + valH c) r else none

def hexTuple : Option Nat → Value
  | some v => .tuple #[.int .u64 v, .nilIface]
  | none => .tuple #[.int .u64 0, .iface 47 (.int .i64 2)]

set_option maxHeartbeats 4000000 in
set_option maxRecDepth 100000 in
theorem inner_any (t : ByteArray) (h2 : t.size = 2) (w : World) :
    Calls Tryd.prog 21 #[.string t, .int .i64 16, .int .i64 8] w fun e w' => e = .returned (hexTuple (hexFrom 0 t.data.toList)) ∧ w' = Lib.bytesWorld w 5 t := by
  have hemp : t.toList.isEmpty = false := by
    rw [← decide_eq_emptyBytes]
    exact decide_eq_false (fun h => by rw [h] at h2; cases h2)
  have hcv := Lib.run_convert_string_bytes (P := Tryd.prog) w 9 32 5 t (u := .string) Tryd.underlying9 Tryd.underlying32 Tryd.underlying5
  have hB : ∀ j, j < t.size → (Lib.bytesWorld w 5 t).cell? ⟨w.heap.size, j, none⟩ = some (.int .u8 (t.data.toList.getD j 0).toNat) := fun j hj => Lib.bytesWorld_cell w 5 t j hj
  obtain ⟨W1, hW1⟩ : ∃ W1, W1 = Lib.bytesWorld w 5 t := ⟨_, rfl⟩
  rw [← hW1] at hcv hB ⊢
  clear hW1
  obtain ⟨bs, hL⟩ : ∃ bs, bs = t.data.toList := ⟨_, rfl⟩
  have hLn : bs.length = t.size := by rw [hL, Lib.size_eq]
  rw [← hL] at hB ⊢
  clear hL
  have hmv : IntKind.u64.wrap (IntKind.u64.wrap 256 - 1) = 255 := by
    rw [IntKind.wrap_u64, IntKind.wrap_u64]
    decide
  have H2 := Lib.hid h2
  have hle2 : t.size ≤ 2 := by omega
  clear h2
  go_enter Tryd.func21, Tryd.ntmps21
  go_wp2
  go_loop [12, 13, 101] (fun vu vn vi => ∃ (k acc : Nat) (a : Int), vu = .bool false ∧ vn = .int .u64 a ∧ vi = .int .i64 k ∧ k ≤ t.size ∧ Hid (a = (acc : Int) ∧ (k = 0 → acc = 0) ∧ (k ≤ 1 → acc ≤ 15) ∧ acc ≤ 255 ∧ hexFrom 0 bs = hexFrom acc (bs.drop k)))
    (fun _ _ vi => t.size - (intOf vi).toNat)
  case atStart => exact ⟨0, 0, 0, rfl, rfl, rfl, by omega, rfl, by omega, by omega, by omega, rfl⟩
  case round =>
    obtain ⟨k, acc, a, rfl, rfl, rfl, hk, hh⟩ := hrel
    obtain ⟨ha, hacc0, hacc1, hacc2, hdec⟩ := hh.out
    clear hh
    have a0 : 0 ≤ a := by omega
    have a1 : a ≤ 255 := by omega
    by_cases hkn : k < t.size
    · have hc := hB k hkn
      have hdrop : bs.drop k = bs[k]'(by omega) :: bs.drop (k + 1) := List.drop_eq_getElem_cons (by omega)
      have hget : bs.getD k 0 = bs[k]'(by omega) := by simp [List.getD, List.getElem?_eq_getElem (show k < bs.length by omega)]
      rw [hdrop] at hdec
      rw [hget] at hc
      generalize bs[k]'(by omega) = c at hc hdec
      have hc256 : c.toNat < 256 := c.toNat_lt
      have hacc15 : acc ≤ 15 := hacc1 (by omega)
      have a15 : a ≤ 15 := by omega
      have hN : ∀ d : Nat, valH c = d → d < 16 → Hid (a * 16 + (d : Int) ≤ 255 ∧ (a * 16 + (d : Int) = ((acc * 16 + d : Nat) : Int) ∧ (k + 1 = 0 → acc * 16 + d = 0) ∧ (k + 1 ≤ 1 → acc * 16 + d ≤ 15) ∧ acc * 16 + d ≤ 255 ∧ hexFrom 0 bs = hexFrom (acc * 16 + d) (bs.drop (k + 1)))) := by
        intro d hd hv
        refine Lib.hid ⟨by omega, by omega, fun h => by omega, fun h => ?_, by omega, ?_⟩
        · have := hacc0 (by omega); omega
        · rw [hdec, hexFrom, hd, if_pos hv]
      have hS : valH c = 16 → Hid (hexFrom 0 bs = none) := by
        intro hv
        rw [hdec, hexFrom, hv, if_neg (by omega)]
        exact Lib.hid rfl
      clear hB hdrop hget hdec hacc0 hacc1 hacc2 hacc15 ha
      by_cases hdig : 48 ≤ c.toNat ∧ c.toNat ≤ 57
      · have HN := hN (c.toNat - 48) (by unfold valH; rw [if_pos hdig]) (by omega)
        obtain ⟨hd0, hd1⟩ := hdig
        have hsub : ((c.toNat - 48 : Nat) : Int) = (c.toNat : Int) - 48 := by omega
        rw [hsub] at HN
        have iov := HN.out.1
        clear hN hS hsub
        go_wp2
        exact ⟨⟨k + 1, acc * 16 + (c.toNat - 48), a * 16 + ((c.toNat : Int) - 48), rfl, (by first | rfl | (congr 1; omega)), (by first | rfl | (congr 1; omega)), by omega, Lib.hid HN.out.2⟩, by simp [intOf]; omega⟩
      · have hvl := valH_low c hdig
        have hbl := bits_low c
        have hb95 : bits .or .u8 95 32 = 127 := by decide +kernel
        by_cases h95 : c.toNat = 95
        · have HS := hS (by rw [hvl]; unfold lowN; rw [h95]; rfl)
          clear hN hS hvl hbl hdig
          go_wp2_with (go_at_call 26; refine (Tryd.lower _ _).mono ?_; rintro e w' ⟨rfl, rfl⟩)
          all_goals go_ret2
          all_goals exact ⟨by rw [HS.out]; rfl, rfl⟩
        · have hne : (((c.toNat : Nat) : Int) == 95) = false := by simpa using fun h : ((c.toNat : Nat) : Int) = 95 => h95 (by omega)
          have hL255 : lowN c ≤ 255 := by unfold lowN; split <;> omega
          clear hb95 h95
          generalize lowN c = L at hvl hbl hL255
          by_cases hlet : 97 ≤ L ∧ L ≤ 102
          · have HN := hN (L - 87) (by rw [hvl, if_pos hlet]) (by omega)
            obtain ⟨hl0, hl1⟩ := hlet
            have hsub : ((L - 87 : Nat) : Int) = (L : Int) - 97 + 10 := by omega
            rw [hsub] at HN
            have iov := HN.out.1
            clear hN hS hsub hvl
            go_wp2_with (go_at_call 26; refine (Tryd.lower _ _).mono ?_; rintro e w' ⟨rfl, rfl⟩)
            all_goals exact ⟨⟨k + 1, acc * 16 + (L - 87), a * 16 + ((L : Int) - 97 + 10), rfl, rfl, (by first | rfl | (congr 1; omega)), by omega, Lib.hid HN.out.2⟩, by simp [intOf]; omega⟩
          · have HS := hS (by rw [hvl, if_neg hlet])
            clear hN hS hvl
            by_cases hl : L < 97
            · clear hlet
              go_wp2_with (go_at_call 26; refine (Tryd.lower _ _).mono ?_; rintro e w' ⟨rfl, rfl⟩)
              all_goals go_ret2
              all_goals exact ⟨by rw [HS.out]; rfl, rfl⟩
            · have hl2 : 103 ≤ L := by omega
              clear hlet
              by_cases hl3 : 122 < L
              · go_wp2_with (go_at_call 26; refine (Tryd.lower _ _).mono ?_; rintro e w' ⟨rfl, rfl⟩)
                all_goals go_ret2
                all_goals exact ⟨by rw [HS.out]; rfl, rfl⟩
              · go_wp2_with (go_at_call 26; refine (Tryd.lower _ _).mono ?_; rintro e w' ⟨rfl, rfl⟩)
                all_goals go_ret2
                all_goals exact ⟨by rw [HS.out]; rfl, rfl⟩
    · have hkk : k = t.size := by omega
      subst hkk
      have hF : hexFrom acc (bs.drop t.size) = some acc := by rw [List.drop_eq_nil_of_le (by omega)]; rfl
      rw [hF] at hdec
      subst ha
      have HD := Lib.hid hdec
      clear hacc0 hacc1 hacc2 hF a0 a1 hdec
      go_wp2
      go_ret2
      exact ⟨by rw [HD.out]; rfl, rfl⟩

theorem hexFrom_two (a b : UInt8) : hexFrom 0 [a, b] = if valH a < 16 then (if valH b < 16 then some (16 * valH a + valH b) else none) else none := by
  simp only [hexFrom, Nat.zero_mul, Nat.zero_add]
  split
  · split
    · congr 1; omega
    · rfl
  · rfl

theorem below_bytes (w : World) (t : ByteArray) : Below w.heap.size w (Lib.bytesWorld w 5 t) := Lib.bytesWorld_below _ _ _

set_option maxRecDepth 100000 in
theorem parse_yes (t : ByteArray) (h2 : t.size = 2) (v : Nat) (h : hexFrom 0 t.data.toList = some v) (w : World) :
    Calls Tryd.prog 18 #[.string t, .int .i64 16, .int .i64 8] w fun e w' => e = .returned (.tuple #[.int .u64 v, .nilIface]) ∧ Below w.heap.size w w' := by
  have hI := inner_any t h2 w
  rw [h] at hI
  have HI : Hid (Calls Tryd.prog 21 #[.string t, .int .i64 16, .int .i64 8] w fun e w' => e = .returned (.tuple #[.int .u64 v, .nilIface]) ∧ w' = Lib.bytesWorld w 5 t) := Lib.hid hI
  clear h hI h2
  go_enter Tryd.func18, Tryd.ntmps18
  go_wp2_with fail
  refine HI.out.mono ?_
  rintro e w1 ⟨rfl, hw⟩
  have HB : Hid (Below w.heap.size w w1) := Lib.hid (by rw [hw]; exact below_bytes _ _)
  clear hw
  go_wp2_with fail
  go_ret2
  exact ⟨rfl, HB.out⟩

set_option maxRecDepth 100000 in
theorem parse_no (t : ByteArray) (h2 : t.size = 2) (h : hexFrom 0 t.data.toList = none) (w : World) (te : TypeId) (pe : Value) (hv : w.cell? ⟨1, 0, none⟩ = some (.iface te pe)) :
    Calls Tryd.prog 18 #[.string t, .int .i64 16, .int .i64 8] w fun e w' => ∃ N, e = .returned (.tuple #[.int .u64 0, .iface 49 (.pointer (some ⟨N, 0, none⟩))]) ∧ Below w.heap.size w w' := by
  have hI := inner_any t h2 w
  rw [h] at hI
  have HI : Hid (Calls Tryd.prog 21 #[.string t, .int .i64 16, .int .i64 8] w fun e w' => e = .returned (.tuple #[.int .u64 0, .iface 47 (.int .i64 2)]) ∧ w' = Lib.bytesWorld w 5 t) := Lib.hid hI
  have hG : 1 < w.heap.size := Lib.lt_of_cell hv
  have Hlim : Hid (t.size ≤ 281474976710656) := Lib.hid (by omega)
  clear h hI h2
  go_enter Tryd.func18, Tryd.ntmps18
  go_wp2_with fail
  refine HI.out.mono ?_
  rintro e w1 ⟨rfl, hw⟩
  have HB : Hid (Below w.heap.size w w1) := Lib.hid (by rw [hw]; exact below_bytes _ _)
  have hv1 : w1.cell? ⟨1, 0, none⟩ = some (.iface te pe) := (HB.out.cell (p := ⟨1, 0, none⟩) hG).trans hv
  clear hw
  go_wp2_with fail
  refine (Tryd.toError_syntax _ _ _ _ _ _ Hlim.out hv1 (.inr ⟨te, pe, rfl⟩)).mono ?_
  rintro e w2 ⟨N, rfl, h1, h2, h3⟩
  have HB2 : Hid (Below w.heap.size w w2) := Lib.hid (below_then HB.out h3)
  clear h1 h2 h3
  go_wp2_with fail
  go_ret2
  exact ⟨N, rfl, HB2.out⟩

/-- errors.New: an error that is not nil. -/
theorem new_any (t : ByteArray) (w : World) :
    Calls Tryd.prog 17 #[.string t] w fun e w' => ∃ N, e = .returned (.iface 43 (.pointer (some ⟨N, 0, none⟩))) ∧ Below w.heap.size w w' := by
  go_enter Tryd.func17, Tryd.ntmps17
  go_wp2
  go_ret
  exact ⟨_, rfl, below_new _ _⟩

end Go.Proofs.YtnlebcllloceoaaDoor

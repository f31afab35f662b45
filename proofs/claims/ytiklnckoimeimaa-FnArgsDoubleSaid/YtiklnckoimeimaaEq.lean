/- Two rows of texts held against each other; beyond; far of one text and of more. -/
import Derived.Test.YtiklnckoimeimaaFar
import Derived.Test.YtiklnckoimeimaaSw
namespace Go.Proofs.Ytiklnckoimeimaa
open Go.RowKit

/-- A row of texts. -/
def RowS (w : World) (v : Value) (L : List (List UInt8)) : Prop :=
  ∃ a c, v = .slice a L.length c ∧ (L.length = 0 ∨ ∃ g o, a = some ⟨g, o, none⟩ ∧ ∀ j, j < L.length → w.cell? ⟨g, o + j, none⟩ = some (.string ⟨(L.getD j []).toArray⟩))

theorem own_row {w : World} {B : Nat} {v : Value} {L : List (List UInt8)} (h : w.ownsRow B 9 1 v L.length (strC L)) : RowS w v L := by
  have hc := fun g hg => h.cells (g := g) hg
  rcases h.2 with ⟨rfl, h0⟩ | ⟨g, cap, cur, rfl, _⟩
  · exact ⟨none, 0, by rw [h0], .inl h0⟩
  · refine ⟨some ⟨g, 0, none⟩, cap, rfl, .inr ⟨g, 0, rfl, fun j hj => ?_⟩⟩
    have := hc g rfl j (.string ⟨(L.getD j []).toArray⟩) (by simp [strC, List.getElem?_eq_getElem hj])
    have e1 : (⟨g, 0, none⟩ : Addr).add j = ⟨g, 0 + j, none⟩ := by unfold Addr.add; split <;> simp_all
    rwa [e1] at this

theorem toB_inj (a b : List UInt8) : (ByteArray.mk a.toArray = ByteArray.mk b.toArray) ↔ a = b := by
  constructor
  · intro h; have := congrArg (fun x => x.data.toList) h; simpa using this
  · rintro rfl; rfl

theorem map_inj (a b : List (List UInt8)) : (a.map (fun x => ByteArray.mk x.toArray) = b.map (fun x => ByteArray.mk x.toArray)) ↔ a = b := by
  constructor
  · intro h
    have := congrArg (List.map (fun x : ByteArray => x.data.toList)) h
    simpa [Function.comp_def] using this
  · rintro rfl; rfl

theorem equal_rows (L1 L2 : List (List UInt8)) (v1 v2 : Value) (w : World) (h1 : RowS w v1 L1) (h2 : RowS w v2 L2) (b1 : L1.length ≤ 9223372036854775807) (b2 : L2.length ≤ 9223372036854775807) :
    Calls Try.prog 12 #[v1, v2] w fun e w' => e = .returned (.bool (decide (L1 = L2))) ∧ ∃ q, w' = w.drewN q := by
  obtain ⟨a1, c1, rfl, k1⟩ := h1
  obtain ⟨a2, c2, rfl, k2⟩ := h2
  by_cases e1 : L1.length = 0
  · obtain rfl : L1 = [] := List.length_eq_zero_iff.1 e1
    refine (Try.slices_Equal_string_empty a1 a2 c1 L2.length c2 w b2).mono ?_
    rintro e w' ⟨rfl, rfl⟩
    refine ⟨ret_bool ?_, 0, rfl⟩
    cases L2 <;> simp
  · by_cases e2 : L1.length = L2.length
    · rcases k1 with k1 | ⟨g1, o1, rfl, m1⟩
      · exact absurd k1 e1
      · rcases k2 with k2 | ⟨g2, o2, rfl, m2⟩
        · omega
        · refine (Try.slices_Equal_string g1 o1 L1.length c1 g2 o2 L2.length c2 (L1.map fun x => ByteArray.mk x.toArray) (L2.map fun x => ByteArray.mk x.toArray) w (by simp) (by simp) b1 b2 (fun j hj => ?_) (fun j hj => ?_)).mono ?_
          · have hj' : j < L1.length := by simpa using hj
            rw [m1 j hj']; simp [List.getD_eq_getElem?_getD, List.getElem?_eq_getElem hj']
          · have hj' : j < L2.length := by simpa using hj
            rw [m2 j hj']; simp [List.getD_eq_getElem?_getD, List.getElem?_eq_getElem hj']
          · rintro e w' ⟨rfl, q⟩
            refine ⟨ret_bool ?_, q⟩
            rw [List.take_of_length_le (by simp), List.take_of_length_le (by simp), decide_eq_decide]
            exact map_inj L1 L2
    · refine (Try.slices_Equal_string_lens a1 a2 L1.length c1 L2.length c2 w e2).mono ?_
      rintro e w' ⟨rfl, rfl⟩
      refine ⟨ret_bool (decide_eq_false (fun h => e2 (by rw [h]))).symm, 0, rfl⟩

/-- What beyond answers. -/
def Beyond (ns : List Nat) (len : Nat) (w : World) (e : Ending) (w' : World) : Prop := ∃ r, e = .returned (.bool r) ∧ (r = true ↔ ∃ i, i < len ∧ 1048576 < ns.getD i 0) ∧ w = w'

set_option maxHeartbeats 400000 in
theorem beyond_any (ns : List Nat) (b off len cap : Nat) (w : World) (hl : len ≤ 9223372036854775807)
    (hc : ∀ i, i < len → w.cell? ⟨b, off + i, none⟩ = some (.int .i64 (ns.getD i 0))) :
    Calls Try.prog 9 #[.slice (some ⟨b, off, none⟩) len cap] w (Beyond ns len w) := by
  have hc' := Lib.hid hc
  clear hc
  go_enter Try.func9, Try.ntmps9
  go_wp2
  go_loop [7] (fun i => ∃ k : Nat, k ≤ len ∧ i = .int .i64 k ∧ Hid (∀ j, j < k → ns.getD j 0 ≤ 1048576)) (fun i => len - (intOf i).toNat)
  case atStart => exact ⟨0, Nat.zero_le _, rfl, Lib.hid fun j hj => by omega⟩
  case round =>
    obtain ⟨k, hk, rfl, hr⟩ := hrel
    by_cases hlt : k < len
    · have hcx := hc'.out k hlt
      obtain ⟨x, hx⟩ : ∃ x, x = ns.getD k 0 := ⟨_, rfl⟩
      rw [← hx] at hcx
      by_cases hb : 1048576 < x
      · have hb' : (1048576 : Int) < (x : Int) := by omega
        have Hx := Lib.hid hx
        clear hx
        go_wp2
        go_ret
        exact ⟨_, rfl, ⟨fun _ => ⟨k, hlt, by rw [← Hx.out]; exact hb⟩, fun _ => rfl⟩, rfl⟩
      · have hb' : decide ((1048576 : Int) < (x : Int)) = false := decide_eq_false (by omega)
        have Hx := Lib.hid hx
        clear hx
        go_wp2
        go_round
        case rel => exact ⟨k + 1, by omega, by go_num, Lib.hid fun j hj => by
          by_cases e : j = k
          · subst e; rw [← Hx.out]; omega
          · exact hr.out j (by omega)⟩
        case measure => simp [intOf]; omega
    · obtain rfl : k = len := by omega
      go_wp2
      go_ret
      refine ⟨_, rfl, ⟨fun h => by simp at h, fun ⟨i, hi, hx⟩ => ?_⟩, rfl⟩
      have := hr.out i hi
      omega
end Go.Proofs.Ytiklnckoimeimaa

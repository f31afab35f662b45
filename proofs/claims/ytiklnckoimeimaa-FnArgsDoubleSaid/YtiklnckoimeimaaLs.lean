/- The walks of zzFits1 and joined; far over a row of texts. -/
import Derived.Test.YtiklnckoimeimaaEq
namespace Go.Proofs.Ytiklnckoimeimaa
open Go.RowKit

/-- The arguments, a blank between any two, up to the k-th. -/
def jo (L : List (List UInt8)) : Nat → List UInt8
  | 0 => []
  | k + 1 => jo L k ++ ((if 0 < k then [32] else []) ++ L.getD k [])

theorem size_mk (x : List UInt8) : (ByteArray.mk x.toArray).size = x.length := by
  show x.toArray.size = _
  simp

theorem toB_app (a b : List UInt8) : (ByteArray.mk a.toArray) ++ (ByteArray.mk b.toArray) = ByteArray.mk (a ++ b).toArray := by
  apply ByteArray.ext
  simp [ByteArray.data_append]

theorem jo_mono (L : List (List UInt8)) (k n : Nat) (h : k ≤ n) : (jo L k).length ≤ (jo L n).length := by
  induction n with
  | zero => obtain rfl : k = 0 := by omega
            exact Nat.le_refl _
  | succ n ih =>
    by_cases e : k = n + 1
    · subst e; exact Nat.le_refl _
    · have := ih (by omega); simp only [jo, List.length_append]; omega

theorem jo_text (L : List (List UInt8)) (k : Nat) : ByteArray.mk (jo L (k + 1)).toArray = if 0 < k then ByteArray.mk (jo L k).toArray ++ ⟨#[32]⟩ ++ ByteArray.mk (L.getD k []).toArray else ByteArray.mk (jo L k).toArray ++ ByteArray.mk (L.getD k []).toArray := by
  show ByteArray.mk (jo L k ++ ((if 0 < k then [32] else []) ++ L.getD k [])).toArray = _
  split
  · rw [show (ByteArray.mk #[32]) = ByteArray.mk ([32] : List UInt8).toArray from rfl, toB_app, toB_app, List.append_assoc]
  · rw [toB_app]; rfl

theorem jo_step (L : List (List UInt8)) (k : Nat) : (jo L (k + 1)).length = (jo L k).length + ((if 0 < k then 1 else 0) + (L.getD k []).length) := by
  show (jo L k ++ ((if 0 < k then [32] else []) ++ L.getD k [])).length = _
  simp only [List.length_append]
  split <;> rfl

set_option maxHeartbeats 1000000 in
theorem joined_any (L : List (List UInt8)) (v : Value) (w : World) (h : RowS w v L) (hl : L.length ≤ 2147483647) (ht : (jo L L.length).length ≤ 1099511627776) :
    Calls Try.prog 17 #[v] w fun e w' => e = .returned (.string ⟨(jo L L.length).toArray⟩) ∧ w = w' := by
  obtain ⟨a, c, rfl, hc⟩ := h
  have HC := Lib.hid hc
  clear hc
  obtain ⟨n, hn⟩ : ∃ n, n = L.length := ⟨_, rfl⟩
  rw [← hn] at HC hl ht ⊢
  have Ht := Lib.hid ht
  clear hn ht
  go_enter Try.func17, Try.ntmps17
  go_wp2
  go_loop [3, 8] (fun s i => ∃ k : Nat, k ≤ n ∧ i = .int .i64 k ∧ s = .string ⟨(jo L k).toArray⟩) (fun _ i => n - (intOf i).toNat)
  case atStart => exact ⟨0, Nat.zero_le _, rfl, rfl⟩
  case round =>
    obtain ⟨k, hk, rfl, rfl⟩ := hrel
    by_cases hlt : k < n
    · rcases HC.out with h0 | ⟨g, o, rfl, hm⟩
      · omega
      · have hcx := hm k (by omega)
        have hj := jo_text L k
        have hs1 := size_mk (jo L k)
        have hs2 := size_mk (L.getD k [])
        have hs3 := jo_step L k
        have hs4 := jo_mono L (k + 1) n (by omega)
        have hs5 := Ht.out
        clear hm HC Ht
        generalize ByteArray.mk (L.getD k []).toArray = x at *
        generalize ByteArray.mk (jo L k).toArray = y at *
        by_cases hk0 : 0 < k
        · rw [if_pos hk0] at hj hs3
          have Hj := Lib.hid hj
          have hb : y.size + 1 + x.size ≤ 1099511627776 := by omega
          have hb1 : y.size ≤ 1099511627776 := by omega
          clear hj hs1 hs2 hs3 hs4 hs5
          go_wp2
          go_round
          case rel => exact ⟨k + 1, by omega, by go_num, by rw [Hj.out]⟩
          case measure => simp [intOf]; omega
        · obtain rfl : k = 0 := by omega
          rw [if_neg hk0] at hj hs3
          have Hj := Lib.hid hj
          have hcx : w.cell? ⟨g, o, none⟩ = some (.string x) := hcx
          have hb : y.size + x.size ≤ 1099511627776 := by omega
          clear hj hk0 hs1 hs2 hs3 hs4 hs5
          go_wp2
          go_round
          case rel => exact ⟨1, by omega, by go_num, by rw [show ByteArray.mk (jo L 1).toArray = _ from Hj.out]⟩
          case measure => simp [intOf]; omega
    · obtain rfl : k = n := by omega
      go_wp2
      go_ret
      exact ⟨rfl, rfl⟩

/-- What zzFits1 answers. -/
def Fits (L : List (List UInt8)) (w : World) (e : Ending) (w' : World) : Prop := ∃ r, e = .returned (.bool r) ∧ (r = true → L.length ≤ 2147483647 ∧ ∀ k, k < L.length → (L.getD k []).length ≤ 2147483647) ∧ w = w'

set_option maxHeartbeats 1000000 in
theorem fits_any (L : List (List UInt8)) (v : Value) (w : World) (h : RowS w v L) (hl : L.length ≤ 9223372036854775807) :
    Calls Try.prog 15 #[v] w (Fits L w) := by
  obtain ⟨a, c, rfl, hc⟩ := h
  have HC := Lib.hid hc
  clear hc
  obtain ⟨n, hn⟩ : ∃ n, n = L.length := ⟨_, rfl⟩
  rw [← hn] at HC hl ⊢
  have Hn := Lib.hid hn
  clear hn
  by_cases hb : n ≤ 2147483647
  · go_enter Try.func15, Try.ntmps15
    go_wp2
    go_loop [10] (fun i => ∃ k : Nat, k ≤ n ∧ i = .int .i64 k ∧ Hid (∀ j, j < k → (L.getD j []).length ≤ 2147483647)) (fun i => n - (intOf i).toNat)
    case atStart => exact ⟨0, Nat.zero_le _, rfl, Lib.hid fun j hj => by omega⟩
    case round =>
      obtain ⟨k, hk, rfl, hf⟩ := hrel
      by_cases hlt : k < n
      · rcases HC.out with h0 | ⟨g, o, rfl, hm⟩
        · omega
        · have hcx := hm k (by omega)
          clear hm HC
          have hz := size_mk (L.getD k [])
          obtain ⟨x, hx⟩ : ∃ x, x = L.getD k [] := ⟨_, rfl⟩
          rw [← hx] at hcx hz
          have Hx := Lib.hid hx
          clear hx
          obtain ⟨y, hy⟩ : ∃ y, y = ByteArray.mk x.toArray := ⟨_, rfl⟩
          rw [← hy] at hcx hz
          have Hy := Lib.hid hy
          clear hy
          have Hz := Lib.hid hz
          by_cases hbx : y.size ≤ 2147483647
          · have hb1 : decide ((2147483647 : Int) < (y.size : Int)) = false := decide_eq_false (by omega)
            clear hz
            go_wp2
            go_round
            case rel => exact ⟨k + 1, by omega, by go_num, Lib.hid fun j hj => by
              by_cases e : j = k
              · subst e; rw [← Hx.out, ← Hz.out]; exact hbx
              · exact hf.out j (by omega)⟩
            case measure => simp [intOf]; omega
          · have hb1 : decide ((2147483647 : Int) < (y.size : Int)) = true := decide_eq_true (by omega)
            clear hz
            go_wp2
            go_ret
            exact ⟨false, rfl, fun h => by simp at h, rfl⟩
      · obtain rfl : k = n := by omega
        go_wp2
        go_ret
        exact ⟨true, rfl, fun _ => ⟨by rw [← Hn.out]; exact hb, by rw [← Hn.out]; exact hf.out⟩, rfl⟩
  · have hb1 : decide ((2147483647 : Int) < (n : Int)) = true := decide_eq_true (by omega)
    go_enter Try.func15, Try.ntmps15
    go_wp2
    go_ret
    exact ⟨false, rfl, fun h => by simp at h, rfl⟩

set_option maxHeartbeats 400000 in
theorem single_text (s : ByteArray) (w : World) (hs : s.size ≤ 1099511627776) : Calls Try.prog 20 #[.string s] w fun e w' => e = .returned (.string (⟨#[39]⟩ ++ s ++ ⟨#[39]⟩)) ∧ w = w' := by
  go_enter Try.func20, Try.ntmps20
  go_wp2
  go_ret
  exact ⟨rfl, rfl⟩
end Go.Proofs.Ytiklnckoimeimaa

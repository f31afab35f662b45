/- far over a row of texts; a row of texts that stays; how long the joined text is. -/
import Derived.Test.YtiklnckoimeimaaQuote
import Derived.Test.YtiklnckoimeimaaRows2
import Derived.Lib.SlBuf
namespace Go.Proofs.Ytiklnckoimeimaa
open Go.RowKit

theorem rowS_below {w w' : World} {v : Value} {L : List (List UInt8)} (h : RowS w v L) (hb : Below w.heap.size w w') : RowS w' v L := by
  obtain ⟨a, c, rfl, h | ⟨g, o, rfl, hm⟩⟩ := h
  · exact ⟨a, c, rfl, .inl h⟩
  · exact ⟨_, c, rfl, .inr ⟨g, o, rfl, fun j hj => Lib.Below.cellOf hb (hm j hj) (Nat.le_refl _)⟩⟩

def totL (L : List (List UInt8)) : Nat → Nat
  | 0 => 0
  | k + 1 => totL L k + (L.getD k []).length

theorem totL_le (L : List (List UInt8)) (n : Nat) (h : ∀ i, i < n → (L.getD i []).length ≤ 2147483647) : totL L n ≤ n * 2147483647 := by
  induction n with
  | zero => simp [totL]
  | succ n ih =>
    have := ih (fun i hi => h i (by omega))
    have := h n (by omega)
    simp only [totL]; omega

theorem jo_len (q : List UInt8 → List UInt8) (hq : ∀ x, (q x).length ≤ 2 * x.length + 2) (L : List (List UInt8)) (k : Nat) (hk : k ≤ L.length) : (jo (L.map q) k).length ≤ 2 * totL L k + 3 * k := by
  induction k with
  | zero => simp [jo]
  | succ k ih =>
    have h1 := ih (by omega)
    have h2 := jo_step (L.map q) k
    rw [getD_map q L k (by omega)] at h2
    have h3 := hq (L.getD k [])
    have h4 : (if 0 < k then 1 else 0) ≤ 1 := by split <;> omega
    simp only [totL]
    omega

/-- What far answers. -/
def FarL (L : List (List UInt8)) (w : World) (e : Ending) (w' : World) : Prop := ∃ r, e = .returned (.bool r) ∧ (r = false → totL L L.length ≤ 65536) ∧ w = w'

set_option maxHeartbeats 1000000 in
theorem farL_any (L : List (List UInt8)) (v : Value) (w : World) (h : RowS w v L) (hl : L.length ≤ 2147483647) (hx : ∀ k, k < L.length → (L.getD k []).length ≤ 2147483647) :
    Calls Try.prog 11 #[v] w (FarL L w) := by
  obtain ⟨a, c, rfl, hc⟩ := h
  have HC := Lib.hid hc
  have HX := Lib.hid hx
  clear hc hx
  obtain ⟨n, hn⟩ : ∃ n, n = L.length := ⟨_, rfl⟩
  rw [← hn] at HC HX hl ⊢
  have Hn := Lib.hid hn
  clear hn
  go_enter Try.func11, Try.ntmps11
  go_wp2
  go_loop [3, 8] (fun s i => ∃ k : Nat, k ≤ n ∧ i = .int .i64 k ∧ s = .int .i64 (totL L k)) (fun _ i => n - (intOf i).toNat)
  case atStart => exact ⟨0, Nat.zero_le _, rfl, rfl⟩
  case round =>
    obtain ⟨k, hk, rfl, rfl⟩ := hrel
    by_cases hlt : k < n
    · rcases HC.out with h0 | ⟨g, o, rfl, hm⟩
      · omega
      · have hcx := hm k (by omega)
        have hs := totL_le L k (fun i hi => HX.out i (by omega))
        have hs1 := size_mk (L.getD k [])
        have hs2 := HX.out k hlt
        have hj : totL L (k + 1) = totL L k + (L.getD k []).length := rfl
        rw [← hs1] at hj hs2
        clear hm HC hs1
        generalize ByteArray.mk (L.getD k []).toArray = x at *
        have hb : totL L k + x.size ≤ 9223372036854775807 := by omega
        have Hj := Lib.hid hj
        clear hj hs hs2
        go_wp2
        go_round
        case rel => exact ⟨k + 1, by omega, by go_num, by rw [Hj.out]; go_num⟩
        case measure => simp [intOf]; omega
    · obtain rfl : k = n := by omega
      have hs := totL_le L k HX.out
      by_cases hb : (65536 : Int) < (totL L k : Int)
      · have hb' := decide_eq_true hb
        clear hs
        go_wp2
        go_ret
        exact ⟨_, rfl, fun h => by simp at h, rfl⟩
      · have hb' := decide_eq_false hb
        clear hs
        go_wp2
        go_ret
        exact ⟨_, rfl, fun _ => by rw [← Hn.out]; omega, rfl⟩
end Go.Proofs.Ytiklnckoimeimaa

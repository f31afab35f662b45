/- The walk of impl.Args. -/
import Derived.Test.YtiklnckoimeimaaParse
import Derived.Lib.ConvBytes
namespace Go.Proofs.Ytiklnckoimeimaa
open Go.RowKit

theorem below_bytes (w : World) (e : TypeId) (s : ByteArray) : Below w.heap.size w (Lib.bytesWorld w e s) := by
  refine ⟨?_, ?_, ?_, by rw [Lib.bytesWorld_size]; omega, fun k hk => Lib.bytesWorld_at_old w e s k hk⟩
  all_goals
    unfold Lib.bytesWorld World.freeze
    split <;> rfl

theorem own_base {w : World} {B B' : Nat} {e : TypeId} {v : Value} {n : Nat} {xs : List Value} (h : w.ownsRow B e 1 v n xs) (hB : B' ≤ B) : w.ownsRow B' e 1 v n xs := by
  refine ⟨h.1, ?_⟩
  rcases h.2 with h2 | ⟨g, cap, cur, hv, hb, r⟩
  · exact .inl h2
  · exact .inr ⟨g, cap, cur, hv, Nat.le_trans hB hb, r⟩

theorem args_any (s : ByteArray) (w : World) (hs : s.size ≤ 68719476736) :
    Calls Try.prog 13 #[.string s] w (Parsed w (pa s.data.toList st0)) := by
  have hcv := Lib.run_convert_string_bytes (P := Try.prog) w 9 39 5 s Try.underlying9 Try.underlying39 Try.underlying5
  have hsz := Lib.bytesWorld_size w 5 s
  have hp := parse_any s w.heap.size (grownCap w s.size 0 5) (Lib.bytesWorld w 5 s) hs (by rw [hsz]; omega) (fun i hi => Lib.bytesWorld_cell w 5 s i hi)
  have hb := below_bytes w 5 s
  generalize Lib.bytesWorld w 5 s = wb at *
  generalize grownCap w s.size 0 5 = cp at *
  have Hp := Lib.hid hp
  have Hz := Lib.hid hsz
  have Hb := Lib.hid hb
  clear hp hsz hb
  generalize pa s.data.toList st0 = R at *
  go_enter Try.func13, Try.ntmps13
  go_wp2_with fail
  refine Hp.out.mono ?_
  rintro e w' ⟨v, rfl, hown, hb2⟩
  go_wp2_with fail
  go_ret
  exact ⟨_, rfl, own_base hown (by rw [Hz.out]; omega), Hb.out.trans (hb2.mono (by rw [Hz.out]; omega))⟩
end Go.Proofs.Ytiklnckoimeimaa

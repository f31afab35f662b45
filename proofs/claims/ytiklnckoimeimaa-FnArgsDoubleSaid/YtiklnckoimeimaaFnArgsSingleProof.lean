/- FnArgsSingle: whatever the texts: true; the input reads as it did. -/
import Derived.Test.YtiklnckoimeimaaFnArgsSingleWalk
import Derived.WalkKit
import Derived.ProofKit
import Derived.OpenShut
import Derived.ShutString
import Derived.SliceStrings
import Derived.Carry
namespace Go.Proofs.Ytiklnckoimeimaa.fnArgsSingle
open Go.ChangeShapes Go.WideShapes Go.ChangeAt Go.RowKit

theorem own : ownKnob Try.prog.godebug = none := by kernel_rfl
theorem laidOut : laidOutB Try.prog = true := by kernel_rfl

/-- A row that came in. -/
theorem row_in (w : World) (a : Addr) (len cap : Nat) (ss : List ByteArray) (hn : len ≤ ss.length) (hcell : ∀ i, i < ss.length → w.cell? (a.add i) = some (.string (ss.getD i ByteArray.empty))) :
    RowS w (.slice (some a) len cap) ((ss.take len).map fun s => s.data.toList) := by
  have hlen : ((ss.take len).map fun s => s.data.toList).length = len := by simp; omega
  refine ⟨some a, cap, by rw [hlen], ?_⟩
  rw [hlen]
  by_cases h0 : len = 0
  · exact .inl h0
  · right
    have hs := World.cell?_spot (hcell 0 (by omega))
    obtain ⟨g, o, sp⟩ := a
    have hs' : sp = none := hs
    subst hs'
    refine ⟨g, o, rfl, fun k hk => ?_⟩
    have hc := hcell k (by omega)
    have e1 : (⟨g, o, none⟩ : Addr).add k = ⟨g, o + k, none⟩ := by unfold Addr.add; split <;> simp_all
    rw [e1] at hc
    rw [hc]
    have e2 : ((ss.take len).map fun s => s.data.toList).getD k [] = (ss.getD k ByteArray.empty).data.toList := by
      have hk' : k < ss.length := by omega
      simp [List.getD_eq_getElem?_getD, hk, List.getElem?_eq_getElem hk']
    rw [e2]

/-! The row. -/
set_option maxRecDepth 100000 in
theorem lifted (os : Os) (started : os.Started) (H : Type) (enc : TypeId × Value → H) :
    ReturnsInHanded {} Try.checked os 8 .any (Rows.fnArgsSingleSpec.pre6 enc Try.prog Try.f8 Rows.fnArgsSingleRow.domain false) (Rows.fnArgsSingleSpec.post enc Try.prog Try.f8 false true false false) := by
  refine returnsInHanded_of_change (C := Try.checked) own started (by kernel_rfl) Try.func8
    (ChangeSpec.witness6 (enc := enc) (C := Try.checked) false ⟨#[], #[.slice none 0 0], []⟩ 8 (by kernel_rfl) (by kernel_rfl) (by kernel_rfl) (by kernel_rfl)) ?_
  intro W base args ds gs before hval0 hW hcnd _
  have hval : ∀ (j : Nat) t v, Try.f8.params[j]? = some t → args[j]? = some v → Value.okWide Try.prog W .any base t v := hval0
  have hW' := hW
  obtain ⟨p, q, hA0, hV, rfl, hfz, hnd⟩ := hW
  have hA : DataW.TrodAll enc Try.prog W 0 (fun _ => true) true Try.f8.params.toList args.toList ds p := hA0
  rw [Try.params8] at hA hval
  obtain ⟨v0, vs0, d0, ds0, p0, q0, hargs, rfl, rfl, h0, r0⟩ := trodAll_cons hA
  obtain ⟨rfl, rfl, rfl⟩ := trodAll_nil r0
  obtain rfl : args = #[v0] := by cases args; simp_all
  obtain ⟨rfl, rfl⟩ := trodVars_none hV
  obtain ⟨a0, len0, cap0, rfl⟩ := okWide_slice Try.underlying23 (hval 0 23 v0 rfl rfl)
  have k0 := h0
  have lt0 : ∀ x ∈ p0, x.block < W.heap.size := by obtain ⟨m, hm⟩ := k0; exact DataW.trod_lt m _ _ _ hm
  obtain ⟨L, w0, w1⟩ : ∃ L, RowS W (.slice a0 len0 cap0) L ∧ L.length ≤ 9223372036854775807 := by
    obtain ⟨fuel, hf⟩ := h0
    rcases open_strings Try.underlying23 Try.underlying9 (by kernel_rfl) hf with ⟨hcs, _⟩ | ⟨a, l, c, ss, hcs, _, hlc, hm, hz, _, hcell, hws⟩
    · simp [Value.cells] at hcs
      obtain ⟨rfl, rfl, rfl⟩ := hcs
      exact ⟨[], ⟨none, 0, rfl, .inl rfl⟩, by simp⟩
    · simp [Value.cells] at hcs
      obtain ⟨rfl, rfl, rfl⟩ := hcs
      have hz' : ss.length = cap0 := by simpa using hz
      exact ⟨_, row_in W a len0 cap0 ss (by omega) hcell, by simp; unfold maxLen at hm; omega⟩
  clear hA0 hval0
  refine (fnArgsSingle_walk L _ W w0 w1).mono fun e W' ⟨he, bel⟩ => ?_
  subst he
  exact ⟨_, rfl, _, _, _, [], _, [], hW', trodAll_mk1 (shut_bool Try.underlying4 _), (trodAll_cons_mk (Below.trod laidOut (by kernel_rfl) (of_decide_eq_true (by kernel_rfl)) k0 bel lt0) trodAll_mk0), rfl, bel.frame _, fun h => by cases h⟩

theorem over : Rows.fnArgsSingleRow.holds Try.pinned (OpenSpec.ofChange Rows.fnArgsSingleSpec) :=
  OpenClaim.holds_of_wide 8 Try.f8 rfl rfl rfl rfl rfl rfl rfl ⟨rfl, rfl, rfl, rfl, rfl⟩ rfl rfl rfl rfl rfl (by kernel_rfl) Try.func8 (by kernel_rfl)
    (of_decide_eq_true (by kernel_rfl)) (by unfold Func.isWrapper; first | (rw [if_pos (by decide +kernel)]; kernel_rfl) | (rw [if_neg (by decide +kernel)]; exact ⟨rfl, rfl⟩))
    (fun os started H enc _ => lifted os started H enc)

/-- The statement. -/
theorem proved : Rows.FnArgsSingleSaid :=
  over
#print axioms proved
end Go.Proofs.Ytiklnckoimeimaa.fnArgsSingle

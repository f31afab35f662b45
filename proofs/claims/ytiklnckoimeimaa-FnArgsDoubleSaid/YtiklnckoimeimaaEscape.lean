/- The walk of the reference's escape. -/
import Derived.Test.YtiklnckoimeimaaSingle
import Derived.Test.YtiklnckoimeimaaBs
import Derived.Deep.QuietTactic
import Derived.IntWalk
namespace Go.Proofs.Ytiklnckoimeimaa
open Go.RowKit

/-- What reading a backslash leaves. -/
def Escaped (w : World) (B P : Nat) (s : ByteArray) (a : Nat) (word : List UInt8) (inn : Bool) (out : List (List UInt8)) (e : Ending) (w' : World) : Prop :=
  ∃ (b : Bool) (a' : Nat) (word' : List UInt8) (inn' : Bool), e = .returned (.bool b) ∧ SW w B P s a' word' inn' out w' ∧ a ≤ a' ∧ a' ≤ s.size ∧ word'.length ≤ a' ∧
    (if b then a < a' ∧ escS0 (s.data.toList.drop (a + 1)) ⟨out, word, inn⟩ = some (s.data.toList.drop a', 0, ⟨out, word', inn'⟩) else escS0 (s.data.toList.drop (a + 1)) ⟨out, word, inn⟩ = none)

set_option maxRecDepth 100000 in
set_option maxHeartbeats 8000000 in
theorem escape_any (w : World) (B P : Nat) (s : ByteArray) (k : Nat) (word1 : List UInt8) (inn : Bool) (out : List (List UInt8)) (wr : World) (h : SW w B P s k word1 inn out wr) (hs : s.size ≤ 68719476736) (ha : k < s.size) (hwl : word1.length ≤ k) :
    Calls Try.prog 24 #[.pointer (some ⟨P, 0, none⟩)] wr (Escaped w B P s k word1 inn out) := by
  have H := Lib.hid h
  obtain ⟨vw, vo, ⟨c0, c1, c2, c3, _⟩, ⟨z1, z2, z3⟩, hP', hsz, hBP, hB, HP, HW, HO, HB⟩ := sw_facts h
  clear h
  obtain ⟨i0, hi, hz0, hz1, hz2⟩ := info_parts Try.infoByte
  by_cases h2 : k + 1 < s.size
  · have kz2 : decide ((s.size : Int) ≤ (k : Int) + 1) = false := decide_eq_false (by omega)
    have kz3 : (k : Int) + 1 < (s.size : Int) := by omega
    have e2 := byInt s (k + 1) h2
    have C := fun wz => line_nat s (k + 1) hs (by omega) wz
    have hn2 := lineN_le s (k + 1)
    have hnf := lineN_fits s (k + 1)
    have hel := fun h => (esc_line s (k + 1) h ⟨out, word1, inn⟩).2
    have heo := fun h => (esc_other s (k + 1) h h2 ⟨out, word1, inn⟩).2
    generalize lineN s (k + 1) = n at *
    have C2 : ∀ wz, Calls Try.prog 26 #[.string s, .int .i64 ((k : Int) + 1)] wz fun e w' => e = .returned (.int .i64 n) ∧ wz = w' := fun wz => C wz
    have HC := Lib.hid C2
    clear C C2
    have k1 : (0 : Int) ≤ (k : Int) + 1 := by omega
    have k3 : ((k : Int) + 1).toNat = k + 1 := by omega
    by_cases hn : 0 < n
    · have HN := Lib.hid (hel hn)
      have hnf := hnf hn
      clear hel heo
      have np : decide ((0 : Int) < (n : Int)) = true := decide_eq_true (by omega)
      have v1 : IntKind.i64.wrap ((k : Int) + 1) = (k : Int) + 1 := IntWalk.i64_in _ (by omega)
      go_enter Try.func24, Try.ntmps24
      go_wp2_with fail
      go_quiet (fail)
      have H1 := Lib.hid (H.out.drewN nq)
      clear c0 c1 c2 c3 z1 z2 z3 hP' hsz HP HW HO HB H
      generalize wr.drewN nq = wr1 at H1 ⊢
      obtain ⟨vw, vo, ⟨c0, c1, c2, c3, _⟩, ⟨z1, z2, z3⟩, hP', hsz, _, _, HP, HW, HO, HB⟩ := sw_facts H1.out
      go_wp2_with fail
      go_quiet ((go_at_call 26; exact quiet_left (HC.out _)))
      have H2 := Lib.hid (H1.out.drewN nq)
      clear c0 c1 c2 c3 z1 z2 z3 hP' hsz HP HW HO HB H1
      generalize wr1.drewN nq = wr2 at H2 ⊢
      obtain ⟨vw, vo, ⟨c0, c1, c2, c3, _⟩, ⟨z1, z2, z3⟩, hP', hsz, _, _, HP, HW, HO, HB⟩ := sw_facts H2.out
      clear v1
      go_wp2_with fail
      go_ret
      exact ⟨true, k + 1 + n, word1, inn, rfl, H2.out.at_ (k + 1 + n) (by omega), by omega, by omega, by omega, by omega, HN.out⟩
    · obtain rfl : n = 0 := by omega
      have HN := Lib.hid (heo rfl)
      clear hel heo hnf hn2 hn
      have np : decide ((0 : Int) < ((0 : Nat) : Int)) = false := by decide
      have v1 : IntKind.i64.wrap ((k : Int) + 1) = (k : Int) + 1 := IntWalk.i64_in _ (by omega)
      obtain ⟨c2', hc2⟩ : ∃ u, u = byU s (k + 1) := ⟨_, rfl⟩
      rw [← hc2] at e2 HN
      clear hc2
      go_enter Try.func24, Try.ntmps24
      go_wp2_with fail
      go_quiet (fail)
      have H1 := Lib.hid (H.out.drewN nq)
      clear c0 c1 c2 c3 z1 z2 z3 hP' hsz HP HW HO HB H
      generalize wr.drewN nq = wr1 at H1 ⊢
      obtain ⟨vw, vo, ⟨c0, c1, c2, c3, _⟩, ⟨z1, z2, z3⟩, hP', hsz, _, _, HP, HW, HO, HB⟩ := sw_facts H1.out
      go_wp2_with fail
      go_quiet ((go_at_call 26; exact quiet_left (HC.out _)))
      have H2 := Lib.hid (H1.out.drewN nq)
      clear c0 c1 c2 c3 z1 z2 z3 hP' hsz HP HW HO HB H1
      generalize wr1.drewN nq = wr2 at H2 ⊢
      obtain ⟨vw, vo, ⟨c0, c1, c2, c3, _⟩, ⟨z1, z2, z3⟩, hP', hsz, _, _, HP, HW, HO, HB⟩ := sw_facts H2.out
      go_wp2_with fail
      go_region_law (refine step_append_lies _ (by rfl) _ _ _ (by rfl) B 5 i0 _ 1 1 Try.underlying39 hi hz0 hz1 hz2 rfl (by omega) vw word1.length (Lib.byteCells word1) (by rfl) ((HW.out.alloc _).drew) ⟨wr2.heap.size, 0, none⟩ 1 1 [.int .u8 ((c2').toNat : Int)] (by rfl) (by rfl) (World.news_of_block (cs := #[.int .u8 ((c2').toNat : Int)]) (t := 5) (fr := (0, 0)) (heap_alloc_new wr2 _)) (by simp [Value.oneCell']) (by omega) (by unfold maxLen; omega) (by omega) (by simp; omega) (wr2.heap.size + 1) (by simp) ?_; intro gg cap w1 hown1 hgrow hat hlt1; have g2 : w1.cell? ⟨P, 2, none⟩ = some vw := Lib.cell_of_heap (kept_of HW.out (undrew hgrow) P _ HP.out (by intro c fz e; simp at e)) 2; have f2 := Lib.frozen_of_heap (kept_of HW.out (undrew hgrow) P _ HP.out (by intro c fz e; simp at e)) 2; have g3 : w1.cell? ⟨P, 3, none⟩ = some (.bool inn) := Lib.cell_of_heap (kept_of HW.out (undrew hgrow) P _ HP.out (by intro c fz e; simp at e)) 3; have f3 := Lib.frozen_of_heap (kept_of HW.out (undrew hgrow) P _ HP.out (by intro c fz e; simp at e)) 3)
      all_goals as_aux_lemma =>
        have q := sw_put HP.out HW.out HO.out (by omega) (by omega) HB.out hown1 rfl (undrew hgrow)
        have g1 : w1.cell? ⟨P, 1, none⟩ = some (.int .i64 k) := Lib.cell_of_heap q.1 1
        have f1 := Lib.frozen_of_heap q.1 1
        have Q := Lib.hid q.2
        clear q hown1 hgrow v1
        go_wp2
        go_ret
        exact ⟨true, k + 2, word1 ++ [c2'], true, rfl, (Q.out.in_ true).at_ (k + 2) (by omega), by omega, by omega, by simp; omega, by omega, HN.out⟩
  · have kz2 : decide ((s.size : Int) ≤ (k : Int) + 1) = true := decide_eq_true (by omega)
    have HN := Lib.hid (esc_end s (k + 1) (by omega) ⟨out, word1, inn⟩).2.1
    clear h2
    have v1 : IntKind.i64.wrap ((k : Int) + 1) = (k : Int) + 1 := IntWalk.i64_in _ (by omega)
    go_enter Try.func24, Try.ntmps24
    go_wp2_with fail
    go_quiet (fail)
    have H1 := Lib.hid (H.out.drewN nq)
    go_wp2_with fail
    go_ret
    exact ⟨false, k, word1, inn, rfl, H1.out, by omega, by omega, by omega, HN.out⟩

end Go.Proofs.Ytiklnckoimeimaa

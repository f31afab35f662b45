/- Reading a prefix, place by place. No program stands here. -/
import Derived.Test.YtnlebcllloceoaaDoorEnc
import Derived.Lib.IndexLaws
namespace Go.Proofs.YtnlebcllloceoaaDoor

/-- What was read of the first k bytes is l. -/
def Rest (s : ByteArray) (k : Nat) (l : List UInt8) : Prop := dec s.data.toList = (dec (s.data.toList.drop k)).map (l ++ ·)

theorem drop_byU (s : ByteArray) (k : Nat) (h : k < s.size) : s.data.toList.drop k = byU s k :: s.data.toList.drop (k + 1) := by
  have h' : k < s.data.toList.length := by simpa using h
  rw [List.drop_eq_getElem_cons h']
  congr 1
  rw [byU, List.getD_eq_getElem?_getD, List.getElem?_eq_getElem h']; rfl

theorem map_map_app (o : Option (List UInt8)) (l : List UInt8) (c : UInt8) : (o.map (c :: ·)).map (l ++ ·) = o.map ((l ++ [c]) ++ ·) := by
  cases o with
  | none => rfl
  | some x => simp

theorem rest_zero (s : ByteArray) : Rest s 0 [] := by
  unfold Rest
  rw [List.drop_zero]
  cases dec s.data.toList <;> rfl

theorem rest_other {s : ByteArray} {k : Nat} {l : List UInt8} (h : k < s.size) (hc : byU s k ≠ 37) (hr : Rest s k l) : Rest s (k + 1) (l ++ [byU s k]) := by
  unfold Rest at hr ⊢
  rw [hr, drop_byU s k h, dec_other _ _ hc, map_map_app]

theorem rest_short {s : ByteArray} {k : Nat} {l : List UInt8} (h : k < s.size) (h2 : s.size ≤ k + 2) (hc : byU s k = 37) (hr : Rest s k l) : dec s.data.toList = none := by
  unfold Rest at hr
  rw [hr, drop_byU s k h, hc]
  by_cases h1 : k + 1 < s.size
  · rw [drop_byU s (k + 1) h1, List.drop_of_length_le (by simp; omega)]; rfl
  · rw [List.drop_of_length_le (by simp; omega)]; rfl

theorem rest_bad {s : ByteArray} {k : Nat} {l : List UInt8} (h : k + 2 < s.size) (hc : byU s k = 37) (hb : ¬ (valH (byU s (k + 1)) < 16 ∧ valH (byU s (k + 2)) < 16)) (hr : Rest s k l) : dec s.data.toList = none := by
  unfold Rest at hr
  rw [hr, drop_byU s k (by omega), hc, drop_byU s (k + 1) (by omega), drop_byU s (k + 1 + 1) (by omega), dec, if_pos rfl, if_neg hb]; rfl

theorem rest_good {s : ByteArray} {k : Nat} {l : List UInt8} (h : k + 2 < s.size) (hc : byU s k = 37) (ha : valH (byU s (k + 1)) < 16) (hb : valH (byU s (k + 2)) < 16) (hr : Rest s k l) :
    Rest s (k + 3) (l ++ [UInt8.ofNat (16 * valH (byU s (k + 1)) + valH (byU s (k + 2)))]) := by
  unfold Rest at hr ⊢
  rw [hr, drop_byU s k (by omega), hc, drop_byU s (k + 1) (by omega), drop_byU s (k + 1 + 1) (by omega), dec_esc _ _ _ ha hb, map_map_app]

theorem rest_end {s : ByteArray} {l : List UInt8} (hr : Rest s s.size l) : dec s.data.toList = some l := by
  unfold Rest at hr
  rw [hr, List.drop_of_length_le (by simp)]
  simp [dec]

theorem dec_none : ∀ l : List UInt8, (37 : UInt8) ∉ l → dec l = some l
  | [], _ => rfl
  | c :: r, h => by
    have hc : c ≠ 37 := fun e => h (by simp [e])
    rw [dec_other c r hc, dec_none r (fun hm => h (by simp [hm]))]; rfl

theorem dec_index (s : ByteArray) (h : Lib.indexByte s.data.toList 37 = -1) : dec s.data.toList = some s.data.toList := by
  refine dec_none _ fun hm => ?_
  obtain ⟨k, hk⟩ := List.getElem?_of_mem hm
  exact Lib.indexByte_none h k hk

theorem two_bytes (s : ByteArray) (k : Nat) (h : k + 2 < s.size) : (s.extract (k + 1) (k + 3)).size = 2 ∧ (s.extract (k + 1) (k + 3)).data.toList = [byU s (k + 1), byU s (k + 2)] := by
  have hl : (s.extract (k + 1) (k + 3)).data.toList = [byU s (k + 1), byU s (k + 2)] := by
    rw [ByteArray.data_extract, Array.toList_extract]
    have e : s.data.toList.extract (k + 1) (k + 3) = (s.data.toList.drop (k + 1)).take 2 := by
      simp [List.extract]
    rw [e, drop_byU s (k + 1) (by omega), drop_byU s (k + 1 + 1) (by omega)]; rfl
  refine ⟨?_, hl⟩
  show (s.extract (k + 1) (k + 3)).data.size = 2
  rw [← Array.length_toList, hl]; rfl

theorem valH_le (c : UInt8) : valH c ≤ 16 := by
  have := c.toNat_lt
  unfold valH
  split
  · omega
  · split
    · omega
    · split <;> omega

theorem nat_ofNat (v : Nat) (h : v ≤ 255) : ((UInt8.ofNat v).toNat : Int) = v := by
  rw [UInt8.toNat_ofNat_of_lt' (by simpa using (show v < 256 by omega))]

end Go.Proofs.YtnlebcllloceoaaDoor

import Derived.Test.Qxb6605392aPlain
namespace Go.Proofs.Qxb6605392a.Yk
set_option linter.unusedVariables false

/-- The line that the round trip writes. -/
def built (q : UInt8) (k v : List UInt8) : List UInt8 := q :: (k ++ (q :: 58 :: 32 :: v))

theorem built_length (q : UInt8) (k v : List UInt8) : (built q k v).length = k.length + v.length + 4 := by simp [built]; omega

theorem B_list (l : List UInt8) (j : Nat) : B ⟨l.toArray⟩ j = (l.getD j 0).toNat := rfl
theorem size_list (l : List UInt8) : (⟨l.toArray⟩ : ByteArray).size = l.length := by show l.toArray.size = _; simp

theorem built_0 (q : UInt8) (k v : List UInt8) : (built q k v).getD 0 0 = q := rfl
theorem built_in (q : UInt8) (k v : List UInt8) (i : Nat) (hi : i < k.length) : (built q k v).getD (i + 1) 0 = k.getD i 0 := by
  simp [built, List.getD, List.getElem?_append, hi]
theorem built_at (q : UInt8) (k v : List UInt8) (d : Nat) : (built q k v).getD (k.length + 1 + d) 0 = (q :: 58 :: 32 :: v).getD d 0 := by
  unfold built
  rw [show k.length + 1 + d = (k.length + d) + 1 by omega, List.getD_cons_succ]
  simp only [List.getD]
  rw [List.getElem?_append_right (by omega), show k.length + d - k.length = d by omega]

theorem blank_head {v : ByteArray} (h : v.size = 0 ∨ blankB (B v 0) = false) : v.data.toList = [] ∨ ∃ b l, v.data.toList = b :: l ∧ blankB (b.toNat : Int) = false := by
  cases hd : v.data.toList with
  | nil => exact .inl rfl
  | cons b l =>
    refine .inr ⟨b, l, rfl, ?_⟩
    rcases h with h | h
    · rw [Lib.size_eq, hd] at h; simp at h
    · unfold B at h; rw [hd] at h; exact h

theorem built_key (q : UInt8) (k v : ByteArray) (hq : q = 34 ∨ q = 39) (hk : ∀ i, i < k.size → B k i ≠ q.toNat) (hv : v.size = 0 ∨ blankB (B v 0) = false) :
    IsKey ⟨(built q k.data.toList v.data.toList).toArray⟩ 1 (k.size + 1) (k.size + 4) := by
  have hkl : k.data.toList.length = k.size := (Lib.size_eq k).symm
  have hvl : v.data.toList.length = v.size := (Lib.size_eq v).symm
  have hsz : (⟨(built q k.data.toList v.data.toList).toArray⟩ : ByteArray).size = k.size + v.size + 4 := by rw [size_list, built_length, hkl, hvl]
  generalize hc : (⟨(built q k.data.toList v.data.toList).toArray⟩ : ByteArray) = c at *
  have b0 : B c 0 = q.toNat := by rw [← hc, B_list, built_0]
  have bin : ∀ i, i < k.size → B c (i + 1) = B k i := fun i hi => by rw [← hc, B_list, built_in _ _ _ _ (by omega)]; rfl
  have bat : ∀ d, B c (k.size + 1 + d) = ((q :: 58 :: 32 :: v.data.toList).getD d 0).toNat := fun d => by rw [← hc, B_list, ← hkl, built_at]
  have b1 : B c (k.size + 1) = q.toNat := bat 0
  have b2 : B c (k.size + 1 + 1) = 58 := bat 1
  have b3 : B c (k.size + 1 + 2) = 32 := bat 2
  refine ⟨by omega, ?_, .inl ⟨?_, rfl, by omega, by omega, by rw [b1, b0], fun j h1 h2 => ?_, b2, .inr ⟨by omega, by rw [b3]; rfl⟩, by omega, by omega, fun i h1 h2 => ?_, ?_⟩⟩
  · rw [b0]; rcases hq with rfl | rfl <;> decide
  · rw [b0]; rcases hq with rfl | rfl
    · exact .inl rfl
    · exact .inr rfl
  · rw [b0, show j = (j - 1) + 1 by omega, bin (j - 1) (by omega)]
    exact hk _ (by omega)
  · rw [show i = k.size + 1 + 2 by omega, b3]; rfl
  · rcases blank_head hv with h | ⟨b, l, h, hb⟩
    · left
      rw [Lib.size_eq v, h] at hsz
      simpa using hsz.symm
    · right
      rw [show k.size + 4 = k.size + 1 + 3 by omega, bat 3, h]
      exact hb

theorem built_extract (q : UInt8) (k : ByteArray) (v : List UInt8) : (⟨(built q k.data.toList v).toArray⟩ : ByteArray).extract 1 (k.size + 1) = k := by
  rw [Lib.extract_eq]
  have hkl : k.data.toList.length = k.size := (Lib.size_eq k).symm
  show (⟨(((built q k.data.toList v).drop 1).take (k.size + 1 - 1)).toArray⟩ : ByteArray) = k
  have e : ((built q k.data.toList v).drop 1).take (k.size + 1 - 1) = k.data.toList := by
    show (k.data.toList ++ (q :: 58 :: 32 :: v)).take (k.size + 1 - 1) = _
    rw [show k.size + 1 - 1 = k.data.toList.length by omega]
    exact List.take_left
  rw [e]

end Go.Proofs.Qxb6605392a.Yk

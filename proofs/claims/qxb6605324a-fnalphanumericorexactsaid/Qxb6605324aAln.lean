import Derived.Test.Qxb6605324aRows
import Derived.WalkKit
import Derived.WalkSpells
import Derived.WalkLawsBesides
import Derived.Lib.Bytealg
namespace Go.Proofs.Qxb6605324a.Aln
open Go.RowKit
set_option linter.unusedVariables false
set_option linter.unusedSimpArgs false

def alnumB (n : Int) : Bool := decide ((97 ≤ n ∧ n ≤ 122) ∨ (65 ≤ n ∧ n ≤ 90) ∨ (48 ≤ n ∧ n ≤ 57))
def okB (o : List UInt8) (c : UInt8) : Bool := alnumB (c.toNat : Int) || o.contains c
def okAll (s o : List UInt8) : Bool := s.all (okB o)

theorem index_mem (c : UInt8) : ∀ l : List UInt8, 0 ≤ Lib.indexByte l c ↔ l.contains c = true
  | [] => by simp [Lib.indexByte]
  | b :: l => by
    have ih := index_mem c l
    have hge := Lib.indexByte_ge l c
    unfold Lib.indexByte
    by_cases hb : b = c
    · subst hb; simp
    · have hb' : (b == c) = false := by simp [hb]
      have hcb : ¬ c = b := fun h => hb h.symm
      rw [hb']
      simp only [Bool.false_eq_true, if_false]
      by_cases h1 : Lib.indexByte l c = -1
      · rw [h1] at ih ⊢
        simp [hcb] at ih ⊢
        exact ih
      · have h1' : (Lib.indexByte l c == -1) = false := by simp [h1]
        rw [h1']
        simp only [Bool.false_eq_true, if_false]
        have h2 : 0 ≤ Lib.indexByte l c := by omega
        have h3 := ih.1 h2
        simp [hcb] at h3 ⊢
        exact ⟨fun _ => h3, fun _ => by omega⟩

set_option maxHeartbeats 400000 in
theorem idx (s : ByteArray) (c : Int) (w : World) :
    Calls Try.prog 17 #[.string s, .int .u8 c] w fun e w' => e = .returned (.int .i64 (Lib.indexByte s.data.toList c.toNat.toUInt8)) ∧ w' = w := by
  have hx : ∀ w : World, (callFunc 19 #[.string s, .int .u8 c]).run Try.prog w = .ok (.value (.int .i64 (Lib.indexByte s.data.toList c.toNat.toUInt8))) w := fun w => by
    rw [run_callFunc_extern Try.func19 (by kernel_rfl) (by kernel_rfl) (by kernel_rfl) (e := Extern.BytealgIndexByte.indexByte) (by kernel_rfl), Lib.run_indexByteString]
    rfl
  go_enter Try.func17, Try.ntmps17
  go_wp2
  go_ret
  exact ⟨rfl, rfl⟩

theorem idxC (o : ByteArray) (c : UInt8) (w : World) :
    Calls Try.prog 17 #[.string o, .int .u8 (c.toNat : Int)] w fun e w' => ∃ v : Int, e = .returned (.int .i64 v) ∧ (0 ≤ v ↔ o.data.toList.contains c = true) ∧ w' = w := by
  refine (idx _ _ _).mono ?_
  rintro e w' ⟨rfl, rfl⟩
  refine ⟨_, rfl, ?_, rfl⟩
  have e1 : ((c.toNat : Int)).toNat.toUInt8 = c := by simp
  rw [e1]
  exact index_mem c _

theorem ret_bool {a b : Bool} (h : a = b) : Ending.returned (.bool a) = .returned (.bool b) := by rw [h]

theorem take_snoc (s : ByteArray) (k : Nat) (h : k < s.size) : s.data.toList.take (k + 1) = s.data.toList.take k ++ [s[k]] := by
  rw [List.take_succ_eq_append_getElem (by simpa using h)]; rfl

theorem step_yes {s : ByteArray} {o : List UInt8} {k : Nat} (hlt : k < s.size) (h : okAll (s.data.toList.take k) o = true) (hc : okB o s[k] = true) : okAll (s.data.toList.take (k + 1)) o = true := by
  rw [take_snoc s k hlt]
  unfold okAll at h ⊢
  rw [List.all_append, h]
  simp [hc]

theorem step_no {s : ByteArray} {o : List UInt8} {k : Nat} (hlt : k < s.size) (hc : okB o s[k] = false) : okAll s.data.toList o = false := by
  unfold okAll
  rw [List.all_eq_false]
  exact ⟨s[k], List.getElem_mem (by simpa using hlt), by simp [hc]⟩

theorem ok_alnum {o : List UInt8} {c : UInt8} (h : (97 ≤ (c.toNat : Int) ∧ (c.toNat : Int) ≤ 122) ∨ (65 ≤ (c.toNat : Int) ∧ (c.toNat : Int) ≤ 90) ∨ (48 ≤ (c.toNat : Int) ∧ (c.toNat : Int) ≤ 57)) : okB o c = true := by
  simp only [okB, alnumB, decide_eq_true h, Bool.true_or]

theorem ok_mem {o : List UInt8} {c : UInt8} (h : o.contains c = true) : okB o c = true := by rw [okB, h, Bool.or_true]

theorem ok_not {o : List UInt8} {c : UInt8} (h : ¬ ((97 ≤ (c.toNat : Int) ∧ (c.toNat : Int) ≤ 122) ∨ (65 ≤ (c.toNat : Int) ∧ (c.toNat : Int) ≤ 90) ∨ (48 ≤ (c.toNat : Int) ∧ (c.toNat : Int) ≤ 57))) (h2 : ¬ o.contains c = true) : okB o c = false := by
  have h3 : o.contains c = false := by simpa using h2
  rw [okB, h3, Bool.or_false, alnumB, decide_eq_false h]

set_option maxRecDepth 100000 in
set_option maxHeartbeats 1000000 in
theorem alnOr (s o : ByteArray) (w : World) (hs : s.size ≤ 1048576) :
    Calls Try.prog 15 #[.string s, .string o] w fun e w' => e = .returned (.bool (okAll s.data.toList o.data.toList)) ∧ w' = w := by
  go_enter Try.func15, Try.ntmps15
  go_wp2_with fail
  go_loop [9] (fun i => ∃ k : Nat, k ≤ s.size ∧ i = .int .i64 k ∧ okAll (s.data.toList.take k) o.data.toList = true) (fun i => s.size - (intOf i).toNat)
  case atStart => exact ⟨0, Nat.zero_le _, rfl, rfl⟩
  case round =>
    obtain ⟨k, hk, rfl, hall⟩ := hrel
    have Hall : Hid (okAll (s.data.toList.take k) o.data.toList = true) := hall
    clear hall
    by_cases hlt : k < s.size
    · have Yes : Hid (okB o.data.toList s[k] = true → okAll (s.data.toList.take (k + 1)) o.data.toList = true) := fun h => step_yes hlt Hall.out h
      have No : Hid (okB o.data.toList s[k] = false → okAll s.data.toList o.data.toList = false) := fun h => step_no hlt h
      clear Hall
      go_wp2_with fail
      all_goals first
        | (go_round
           case rel => exact ⟨k + 1, by omega, by go_num, Yes.out (ok_alnum (by omega))⟩
           case measure => simp [intOf]; omega)
        | (refine (idxC _ _ _).mono ?_
           rintro e w' ⟨v, rfl, hv, rfl⟩
           have Hv : Hid (0 ≤ v ↔ o.data.toList.contains s[k] = true) := hv
           clear hv
           by_cases hv0 : 0 ≤ v
           · have Y2 : Hid (okAll (s.data.toList.take (k + 1)) o.data.toList = true) := Yes.out (ok_mem (Hv.out.1 hv0))
             clear Yes No Hv
             go_wp2_with fail
             go_round
             case rel => exact ⟨k + 1, by omega, by go_num, Y2.out⟩
             case measure => simp [intOf]; omega
           · have N2 : Hid (okAll s.data.toList o.data.toList = false) := No.out (ok_not (by omega) (fun h => hv0 (Hv.out.2 h)))
             clear Yes No Hv
             go_wp2_with fail
             go_ret
             exact ⟨ret_bool N2.out.symm, rfl⟩)
    · have Hf : Hid (okAll s.data.toList o.data.toList = true) := by
        have h := Hall.out
        rw [List.take_of_length_le (by simp; omega)] at h
        exact h
      clear Hall
      go_wp2_with fail
      go_ret
      exact ⟨ret_bool Hf.out.symm, rfl⟩

set_option maxHeartbeats 400000 in
theorem zzAlnOr (s o : ByteArray) (w : World) (hs : s.size ≤ 1048576) :
    Calls Try.prog 12 #[.string s, .string o] w fun e w' => e = .returned (.bool (okAll s.data.toList o.data.toList)) ∧ w' = w := by
  go_enter Try.func12, Try.ntmps12
  go_wp2_with fail
  refine (alnOr s o _ hs).mono ?_
  rintro e w' ⟨rfl, rfl⟩
  go_wp2_with fail
  go_ret
  exact ⟨rfl, rfl⟩

theorem okAll_self (s : List UInt8) : okAll s s = true := by
  unfold okAll
  rw [List.all_eq_true]
  exact fun c hc => ok_mem (by simpa using hc)

theorem okAll_append (s t o : List UInt8) : okAll (s ++ t) o = (okAll s o && okAll t o) := by simp [okAll, List.all_append]

theorem data_append (s t : ByteArray) : (s ++ t).data.toList = s.data.toList ++ t.data.toList := by simp

end Go.Proofs.Qxb6605324a.Aln

import Derived.Test.Qxb6605258aRows
import Derived.Test.Qxb6605258aPlain
import Derived.WalkKit
import Derived.WalkSpells
import Derived.WalkLawsBesides
import Derived.Laws.CopyOwn
namespace Go.Proofs.Qxb6605258a.Esc
open Go.RowKit
set_option linter.unusedVariables false
set_option linter.unusedSimpArgs false

set_option maxHeartbeats 400000 in
theorem idx (s : ByteArray) (c : Int) (w : World) :
    Calls Try.prog 23 #[.string s, .int .u8 c] w fun e w' => e = .returned (.int .i64 (Lib.indexByte s.data.toList c.toNat.toUInt8)) ∧ w' = w := by
  have hx : ∀ w : World, (callFunc 31 #[.string s, .int .u8 c]).run Try.prog w = .ok (.value (.int .i64 (Lib.indexByte s.data.toList c.toNat.toUInt8))) w := fun w => by
    rw [run_callFunc_extern Try.func31 (by kernel_rfl) (by kernel_rfl) (by kernel_rfl) (e := Extern.BytealgIndexByte.indexByte) (by kernel_rfl), Lib.run_indexByteString]
    rfl
  go_enter Try.func23, Try.ntmps23
  go_wp2
  go_ret
  exact ⟨rfl, rfl⟩

theorem ret_bool {a b : Bool} (h : a = b) : Ending.returned (.bool a) = .returned (.bool b) := by rw [h]

set_option maxHeartbeats 400000 in
theorem isHex (c : Int) (w : World) :
    Calls Try.prog 24 #[.int .u8 c] w fun e w' => e = .returned (.bool (hexB c)) ∧ w' = w := by
  go_enter Try.func24, Try.ntmps24
  go_wp2
  all_goals
    go_ret
    refine ⟨ret_bool ?_, rfl⟩
    rw [Bool.eq_iff_iff]
    simp only [hexB, decide_eq_true_eq, Bool.or_eq_true, Bool.false_eq_true, false_iff, true_iff]
    omega

theorem or_hex : ∀ c : Fin 256, (48 ≤ (c.val : Int) ∧ (c.val : Int) ≤ 57) ∨ (decide (97 ≤ bits .or .u8 (c.val : Int) 32 ∧ bits .or .u8 (c.val : Int) 32 ≤ 102) = hexB c.val) := by decide +kernel

set_option maxHeartbeats 400000 in
theorem escHexDigit (c : Int) (w : World) (h0 : 0 ≤ c) (h1 : c ≤ 255) :
    Calls Try.prog 25 #[.int .u8 c] w fun e w' => e = .returned (.bool (hexB c)) ∧ w' = w := by
  have H := or_hex ⟨c.toNat, by omega⟩
  have e1 : ((c.toNat : Nat) : Int) = c := by omega
  simp only [e1] at H
  have HH : Hid ((48 ≤ c ∧ c ≤ 57) ∨ (decide (97 ≤ bits .or .u8 c 32 ∧ bits .or .u8 c 32 ≤ 102) = hexB c)) := H
  clear H e1
  go_enter Try.func25, Try.ntmps25
  go_wp2
  all_goals
    go_ret
    refine ⟨ret_bool ?_, rfl⟩
    rcases HH.out with h | h
    · rw [Bool.eq_iff_iff]
      simp only [hexB, decide_eq_true_eq, Bool.or_eq_true, Bool.false_eq_true, false_iff, true_iff]
      omega
    · first
        | (rw [← h, Bool.eq_iff_iff]
           simp only [decide_eq_true_eq, Bool.or_eq_true, Bool.false_eq_true, false_iff, true_iff]
           omega)
        | (rw [Bool.eq_iff_iff]
           simp only [hexB, decide_eq_true_eq, Bool.or_eq_true, Bool.false_eq_true, false_iff, true_iff]
           omega)

set_option maxHeartbeats 400000 in
theorem escSimple (c : Int) (w : World) :
    Calls Try.prog 26 #[.int .u8 c] w fun e w' => e = .returned (.bool (simpleB c)) ∧ w' = w := by
  go_enter Try.func26, Try.ntmps26
  go_wp2
  all_goals
    go_ret
    refine ⟨ret_bool ?_, rfl⟩
    simp_all [simpleB]

theorem allHex_two (z : Nat → Int) : allHex z 2 = true := rfl
theorem allHex_step {z : Nat → Int} {j : Nat} (h : allHex z j = true) (hj : 2 ≤ j) : allHex z (j + 1) = hexB (z j) := by
  simp [allHex, h]; omega
theorem allHex_no {z : Nat → Int} {j : Nat} (h : allHex z j = false) : ∀ k, j ≤ k → allHex z k = false
  | 0, hk => by have : j = 0 := by omega
                subst this; exact h
  | k + 1, hk => by
    by_cases e : j = k + 1
    · subst e; exact h
    · simp [allHex, allHex_no h k (by omega)]

set_option maxRecDepth 100000 in
set_option maxHeartbeats 1000000 in
theorem escPrefix (B k cap : Nat) (z : Nat → Int) (w : World) (hk : k ≤ 1048576) (hz : ∀ i, i < k → w.cell? ⟨B, i, none⟩ = some (.int .u8 (z i))) (hr : ∀ i, i < k → 0 ≤ z i ∧ z i ≤ 255) :
    Calls Try.prog 17 #[.slice (some ⟨B, 0, none⟩) k cap] w fun e w' => e = .returned (.bool (preB z k)) ∧ w' = w := by
  by_cases h1 : k ≤ 1
  · have hp : preB z k = true := by simp [preB, h1]
    have Hp : Hid (preB z k = true) := hp
    clear hp hz hr
    go_enter Try.func17, Try.ntmps17
    go_wp2
    go_ret
    exact ⟨ret_bool Hp.out.symm, rfl⟩
  have c1 := hz 1 (by omega)
  by_cases hu : z 1 = 117
  · have hub : (z 1 == 117) = true := by simp [hu]
    have Hp : Hid (preB z k = (allHex z k && decide (k ≤ 6))) := by show _ = _; simp [preB, h1, hu]
    clear hu
    have hk1 : decide ((k : Int) ≤ 1) = false := by simp; omega
    go_enter Try.func17, Try.ntmps17
    go_wp2
    go_loop [3] (fun i => ∃ j : Nat, 2 ≤ j ∧ j ≤ k ∧ i = .int .i64 j ∧ allHex z j = true) (fun i => k - (intOf i).toNat)
    case atStart => exact ⟨2, by omega, by omega, rfl, rfl⟩
    case round =>
      obtain ⟨j, hj2, hjk, rfl, hall⟩ := hrel
      have Hall : Hid (allHex z j = true) := hall
      clear hall
      by_cases hlt : j < k
      · have cj := hz j hlt
        obtain ⟨r0, r1⟩ := hr j hlt
        have Hs : Hid (allHex z (j + 1) = hexB (z j)) := allHex_step Hall.out hj2
        cases hx : hexB (z j)
        · have Hf : Hid (preB z k = false) := by
            show _ = _
            rw [Hp.out, allHex_no (Hs.out.trans hx) k (by omega)]; rfl
          go_wp2_with (go_at_call 25; refine (escHexDigit _ _ (by omega) (by omega)).mono ?_; rintro e w' ⟨rfl, rfl⟩)
          go_ret
          exact ⟨ret_bool Hf.out.symm, rfl⟩
        · have Ht : Hid (allHex z (j + 1) = true) := Hs.out.trans hx
          go_wp2_with (go_at_call 25; refine (escHexDigit _ _ (by omega) (by omega)).mono ?_; rintro e w' ⟨rfl, rfl⟩)
          go_round
          case rel => exact ⟨j + 1, by omega, by omega, by go_num, Ht.out⟩
          case measure => simp [intOf]; omega
      · obtain rfl : j = k := by omega
        have Hf : Hid (preB z j = decide (j ≤ 6)) := by show _ = _; rw [Hp.out, Hall.out, Bool.true_and]
        clear hz hr
        go_wp2
        go_ret
        refine ⟨ret_bool ?_, rfl⟩
        rw [Hf.out]
        simp
        omega
  · have hub : (z 1 == 117) = false := by simp [hu]
    have Hp : Hid (preB z k = (decide (k = 2) && simpleB (z 1))) := by show _ = _; simp [preB, h1, hu]
    have hk1 : decide ((k : Int) ≤ 1) = false := by simp; omega
    clear hu
    by_cases h2 : k = 2
    · subst h2
      go_enter Try.func17, Try.ntmps17
      go_wp2_with (go_at_call 26; refine (escSimple _ _).mono ?_; rintro e w' ⟨rfl, rfl⟩)
      go_ret
      refine ⟨ret_bool ?_, rfl⟩
      rw [Hp.out]
      rfl
    · have hkb : ((k : Int) == 2) = false := by simp; omega
      go_enter Try.func17, Try.ntmps17
      go_wp2_with (go_at_call 26; refine (escSimple _ _).mono ?_; rintro e w' ⟨rfl, rfl⟩)
      go_ret
      refine ⟨ret_bool ?_, rfl⟩
      rw [Hp.out]
      simp [h2]

end Go.Proofs.Qxb6605258a.Esc

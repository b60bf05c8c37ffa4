import Derived.Test.Qxb6605392aRows
import Derived.Test.Qxb6605392aPlain
import Derived.WalkKit
import Derived.WalkSpells
import Derived.WalkLawsBesides
namespace Go.Proofs.Qxb6605392a.Yk
open Go.RowKit
set_option linter.unusedVariables false
set_option linter.unusedSimpArgs false

theorem ret_bool {a b : Bool} (h : a = b) : Ending.returned (.bool a) = .returned (.bool b) := by rw [h]

set_option maxHeartbeats 400000 in
theorem idx (s : ByteArray) (c : Int) (w : World) :
    Calls Try.prog 22 #[.string s, .int .u8 c] w fun e w' => e = .returned (.int .i64 (Lib.indexByte s.data.toList c.toNat.toUInt8)) ∧ w' = w := by
  have hx : ∀ w : World, (callFunc 28 #[.string s, .int .u8 c]).run Try.prog w = .ok (.value (.int .i64 (Lib.indexByte s.data.toList c.toNat.toUInt8))) w := fun w => by
    rw [run_callFunc_extern Try.func28 (by kernel_rfl) (by kernel_rfl) (by kernel_rfl) (e := Extern.BytealgIndexByte.indexByte) (by kernel_rfl), Lib.run_indexByteString]
    rfl
  go_enter Try.func22, Try.ntmps22
  go_wp2
  go_ret
  exact ⟨rfl, rfl⟩

theorem idxX (s : ByteArray) (x : Int) (w : World) (h0 : 0 ≤ x) (h1 : x ≤ 255) :
    Calls Try.prog 22 #[.string s, .int .u8 x] w fun e w' => ∃ v : Int, e = .returned (.int .i64 v) ∧ Idx s x.toNat v ∧ w' = w := by
  refine (idx _ _ _).mono ?_
  rintro e w' ⟨rfl, rfl⟩
  refine ⟨_, rfl, ?_, rfl⟩
  have h := idx_of s x.toNat.toUInt8
  have e1 : x.toNat.toUInt8.toNat = x.toNat := by simp; omega
  rwa [e1] at h

theorem idxOpens (x : Int) (w : World) (h0 : 0 ≤ x) (h1 : x ≤ 255) :
    Calls Try.prog 22 #[.string ⟨#[123, 91, 35, 38, 42, 33, 124, 62, 37, 64, 96, 45]⟩, .int .u8 x] w fun e w' => ∃ v : Int, e = .returned (.int .i64 v) ∧ (0 ≤ v ↔ opensB x = true) ∧ w' = w := by
  have H := opens_index ⟨x.toNat, by omega⟩
  have e1 : ((x.toNat : Nat) : Int) = x := by omega
  simp only [e1] at H
  refine (idx _ _ _).mono ?_
  rintro e w' ⟨rfl, rfl⟩
  refine ⟨_, rfl, ?_, rfl⟩
  show 0 ≤ Lib.indexByte [123, 91, 35, 38, 42, 33, 124, 62, 37, 64, 96, 45] x.toNat.toUInt8 ↔ _
  rw [← H, decide_eq_true_eq]

set_option maxHeartbeats 400000 in
theorem isBlank (x : Int) (w : World) :
    Calls Try.prog 24 #[.int .u8 x] w fun e w' => e = .returned (.bool (blankB x)) ∧ w' = w := by
  go_enter Try.func24, Try.ntmps24
  go_wp2
  all_goals
    go_ret
    refine ⟨ret_bool ?_, rfl⟩
    rw [Bool.eq_iff_iff]
    simp_all [blankB]

set_option maxHeartbeats 400000 in
theorem isSpaceOrTab (x : Int) (w : World) :
    Calls Try.prog 16 #[.int .u8 x] w fun e w' => e = .returned (.bool (blankB x)) ∧ w' = w := by
  go_enter Try.func16, Try.ntmps16
  go_wp2
  all_goals
    go_ret
    refine ⟨ret_bool ?_, rfl⟩
    rw [Bool.eq_iff_iff]
    simp_all [blankB]

set_option maxHeartbeats 400000 in
theorem opensNoKey (x : Int) (w : World) :
    Calls Try.prog 20 #[.int .u8 x] w fun e w' => e = .returned (.bool (opensB x)) ∧ w' = w := by
  go_enter Try.func20, Try.ntmps20
  go_wp2
  all_goals
    go_ret
    refine ⟨ret_bool ?_, rfl⟩
    simp_all [opensB]

theorem colon_head (s : ByteArray) (h0 : 0 < s.size) : ((s.extract 0 1).toList == [58]) = true ↔ 0 < s.size ∧ B s 0 = 58 := by
  rw [Lib.extract_toList, beq_iff_eq]
  have hl : 0 < s.data.toList.length := by simpa using h0
  unfold B
  cases hd : s.data.toList with
  | nil => rw [hd] at hl; simp at hl
  | cons b l =>
    simp [h0]
    constructor
    · intro h; rw [h]; rfl
    · intro h; exact UInt8.toNat_inj.1 h

set_option maxHeartbeats 400000 in
theorem hasColon (s : ByteArray) (w : World) (hs : s.size ≤ 4194304) :
    Calls Try.prog 23 #[.string s, .string ⟨#[58]⟩] w fun e w' => ∃ x, e = .returned (.bool x) ∧ (x = true ↔ (0 < s.size ∧ B s 0 = 58)) ∧ w' = w := by
  by_cases h0 : 0 < s.size
  · go_enter Try.func23, Try.ntmps23
    go_wp2
    go_ret
    exact ⟨_, rfl, colon_head s h0, rfl⟩
  · go_enter Try.func23, Try.ntmps23
    go_wp2
    go_ret
    exact ⟨rfl, rfl⟩

set_option maxRecDepth 100000 in
set_option maxHeartbeats 400000 in
theorem skipBlanks (c : ByteArray) (i : Nat) (w : World) (hc : c.size ≤ 4194304) (hi : i ≤ c.size) :
    Calls Try.prog 25 #[.string c, .int .i64 i] w fun e w' => ∃ j : Nat, e = .returned (.int .i64 j) ∧ IsSkip c i j ∧ w' = w := by
  go_enter Try.func25, Try.ntmps25
  go_wp2_with fail
  go_loop [1] (fun t => ∃ j : Nat, i ≤ j ∧ j ≤ c.size ∧ t = .int .i64 j ∧ ∀ k, i ≤ k → k < j → blankB (B c k) = true) (fun t => c.size - (intOf t).toNat)
  case atStart => exact ⟨i, Nat.le_refl _, hi, rfl, fun k h1 h2 => absurd h2 (by omega)⟩
  case round =>
    obtain ⟨j, h1, h2, rfl, h3⟩ := hrel
    have H3 : Hid (∀ k, i ≤ k → k < j → blankB (B c k) = true) := h3
    clear h3
    by_cases hlt : j < c.size
    · have HB : Hid (B c j = c[j].toNat) := B_at hlt
      cases hb : blankB (c[j].toNat : Int)
      · have Hb : Hid (blankB (c[j].toNat : Int) = false) := hb
        clear hb
        go_wp2_with fail
        refine (isBlank _ _).mono ?_
        rintro e w' ⟨rfl, rfl⟩
        rw [Hb.out]
        go_wp2_with fail
        go_ret
        exact ⟨j, rfl, ⟨h1, h2, H3.out, .inr (by rw [HB.out]; exact Hb.out)⟩, rfl⟩
      · have Hb : Hid (blankB (c[j].toNat : Int) = true) := hb
        clear hb
        go_wp2_with fail
        refine (isBlank _ _).mono ?_
        rintro e w' ⟨rfl, rfl⟩
        rw [Hb.out]
        go_wp2_with fail
        go_round
        case rel =>
          refine ⟨j + 1, by omega, by omega, by go_num, fun k h4 h5 => ?_⟩
          by_cases e : k = j
          · rw [e, HB.out]; exact Hb.out
          · exact H3.out k h4 (by omega)
        case measure => simp [intOf]; omega
    · go_wp2_with fail
      go_ret
      exact ⟨j, rfl, ⟨h1, h2, H3.out, .inl (by omega)⟩, rfl⟩

set_option maxRecDepth 100000 in
set_option maxHeartbeats 400000 in
theorem firstNonBlank (c : ByteArray) (i : Nat) (w : World) (hc : c.size ≤ 4194304) (hi : i ≤ c.size) :
    Calls Try.prog 21 #[.string c, .int .i64 i] w fun e w' => ∃ j : Nat, e = .returned (.int .i64 j) ∧ IsSkip c i j ∧ w' = w := by
  go_enter Try.func21, Try.ntmps21
  go_wp2_with fail
  go_loop [1] (fun t => ∃ j : Nat, i ≤ j ∧ j ≤ c.size ∧ t = .int .i64 j ∧ ∀ k, i ≤ k → k < j → blankB (B c k) = true) (fun t => c.size - (intOf t).toNat)
  case atStart => exact ⟨i, Nat.le_refl _, hi, rfl, fun k h1 h2 => absurd h2 (by omega)⟩
  case round =>
    obtain ⟨j, h1, h2, rfl, h3⟩ := hrel
    have H3 : Hid (∀ k, i ≤ k → k < j → blankB (B c k) = true) := h3
    clear h3
    by_cases hlt : j < c.size
    · have HB : Hid (B c j = c[j].toNat) := B_at hlt
      cases hb : blankB (c[j].toNat : Int)
      · have Hb : Hid (blankB (c[j].toNat : Int) = false) := hb
        clear hb
        go_wp2_with fail
        refine (isSpaceOrTab _ _).mono ?_
        rintro e w' ⟨rfl, rfl⟩
        rw [Hb.out]
        go_wp2_with fail
        go_ret
        exact ⟨j, rfl, ⟨h1, h2, H3.out, .inr (by rw [HB.out]; exact Hb.out)⟩, rfl⟩
      · have Hb : Hid (blankB (c[j].toNat : Int) = true) := hb
        clear hb
        go_wp2_with fail
        refine (isSpaceOrTab _ _).mono ?_
        rintro e w' ⟨rfl, rfl⟩
        rw [Hb.out]
        go_wp2_with fail
        go_round
        case rel =>
          refine ⟨j + 1, by omega, by omega, by go_num, fun k h4 h5 => ?_⟩
          by_cases e : k = j
          · rw [e, HB.out]; exact Hb.out
          · exact H3.out k h4 (by omega)
        case measure => simp [intOf]; omega
    · go_wp2_with fail
      go_ret
      exact ⟨j, rfl, ⟨h1, h2, H3.out, .inl (by omega)⟩, rfl⟩

end Go.Proofs.Qxb6605392a.Yk

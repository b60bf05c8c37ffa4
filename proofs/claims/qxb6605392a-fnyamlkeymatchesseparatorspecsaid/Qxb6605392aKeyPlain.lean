import Derived.Test.Qxb6605392aAns
namespace Go.Proofs.Qxb6605392a.Yk
open Go.RowKit
set_option linter.unusedVariables false
set_option linter.unusedSimpArgs false

/-- Where the search for the separator stands: at no colon at all, or at one before which no colon parts. -/
def ColonAt (c : ByteArray) (v : Int) : Prop :=
  (v = -1 ∧ ∀ j, j < c.size → ¬ Sep c j) ∨ ∃ k : Nat, k < c.size ∧ v = k ∧ B c k = 58 ∧ ∀ j, j < k → ¬ Sep c j

theorem colon_first {c : ByteArray} {v : Int} (h : Idx c 58 v) : ColonAt c v := by
  rcases h with ⟨h1, h2⟩ | ⟨k, h1, h2, h3, h4⟩
  · exact .inl ⟨h1, fun j hj hs => h2 j hj hs.1⟩
  · exact .inr ⟨k, h1, h2, h3, fun j hj hs => h4 j hj hs.1⟩

theorem colon_next {c : ByteArray} {k : Nat} {v : Int} (hk : k + 1 ≤ c.size) (hno : ∀ j, j < k → ¬ Sep c j) (hs : ¬ Sep c k) (h : Idx (c.extract (k + 1) c.size) 58 v) (hv : ¬ v < 0) :
    ∃ m : Nat, v = m ∧ k + 1 + m < c.size ∧ B c (k + 1 + m) = 58 ∧ ∀ j, j < k + 1 + m → ¬ Sep c j := by
  rcases h with ⟨rfl, _⟩ | ⟨m, h1, rfl, h3, h4⟩
  · omega
  · rw [ByteArray.size_extract] at h1
    rw [B_drop] at h3
    refine ⟨m, rfl, by omega, h3, fun j hj => ?_⟩
    by_cases e1 : j < k
    · exact hno j e1
    · by_cases e2 : j = k
      · rw [e2]; exact hs
      · intro hsj
        have := h4 (j - (k + 1)) (by omega)
        rw [B_drop, show k + 1 + (j - (k + 1)) = j by omega] at this
        exact this hsj.1

theorem colon_last {c : ByteArray} {k : Nat} {v : Int} (hk : k + 1 ≤ c.size) (hno : ∀ j, j < k → ¬ Sep c j) (hs : ¬ Sep c k) (h : Idx (c.extract (k + 1) c.size) 58 v) (hv : v < 0) :
    ∀ j, j < c.size → ¬ Sep c j := by
  rcases h with ⟨_, h4⟩ | ⟨m, h1, rfl, h3, _⟩
  · intro j hj
    by_cases e1 : j < k
    · exact hno j e1
    · by_cases e2 : j = k
      · rw [e2]; exact hs
      · intro hsj
        have := h4 (j - (k + 1)) (by rw [ByteArray.size_extract]; omega)
        rw [B_drop, show k + 1 + (j - (k + 1)) = j by omega] at this
        exact this hsj.1
  · omega

set_option maxRecDepth 100000 in
set_option maxHeartbeats 4000000 in
theorem key_plain (c : ByteArray) (w : World) (hc : c.size ≤ 4194304) (h0 : 0 < c.size) (ho : opensB (B c 0) = false) (hq : ¬ isQ (B c 0)) :
    Calls Try.prog 19 #[.string c] w fun e w' => Answer c e ∧ w' = w := by
  have hem : c.toList.isEmpty = false := by rw [isEmpty_size, decide_eq_false_iff_not]; omega
  have Ho : Hid (opensB (c[0].toNat : Int) = false) := by have := ho; rw [B_at h0] at this; exact this
  have HO : Hid (opensB (B c 0) = false) := ho
  have HQ : Hid (¬ isQ (B c 0)) := hq
  have hlt256 := UInt8.toNat_lt c[0]
  rw [B_at h0] at hq
  have q1 : ((c[0].toNat : Int) == 34) = false := by
    rw [beq_eq_false_iff_ne]; intro h; exact hq (.inl (by omega))
  have q2 : ((c[0].toNat : Int) == 39) = false := by
    rw [beq_eq_false_iff_ne]; intro h; exact hq (.inr (by omega))
  clear ho hq
  go_enter Try.func19, Try.ntmps19
  go_wp2_with fail
  refine (idxOpens _ _ (by omega) (by omega)).mono ?_
  rintro e w' ⟨v, rfl, hv, rfl⟩
  have hv0 : ¬ 0 ≤ v := fun h => by rw [hv.1 h] at Ho; cases Ho.out
  have hv1 : decide (0 ≤ v) = false := decide_eq_false hv0
  clear hv
  go_wp2_with fail
  refine (idxX _ _ _ (by omega) (by omega)).mono ?_
  rintro e w' ⟨v2, rfl, hi, rfl⟩
  have HC : Hid (ColonAt c v2) := colon_first hi
  clear hi
  go_wp2_with fail
  go_loop [5] (fun t => ∃ u : Int, t = .int .i64 u ∧ ColonAt c u) (fun t => c.size - (intOf t).toNat)
  case atStart => exact ⟨v2, rfl, HC.out⟩
  case round =>
    obtain ⟨u, rfl, hcol⟩ := hrel
    clear HC
    rcases hcol with ⟨rfl, hno⟩ | ⟨k, hk, rfl, hB, hno⟩
    · have Ha : Hid (Answer c refusal) := no_p HQ.out hno
      clear hno
      go_wp2_with fail
      go_ret3
      exact ⟨Ha.out, rfl⟩
    · have HN : Hid (∀ j, j < k → ¬ Sep c j) := hno
      have HB : Hid (B c k = 58) := hB
      clear hno hB
      by_cases hk1 : k + 1 = c.size
      · have hs : Sep c k := ⟨HB.out, .inl hk1⟩
        have hkb : ((k : Int) + 1 == (c.size : Int)) = true := by rw [beq_iff_eq]; omega
        have hkn : ¬ k + 1 < c.size := by omega
        by_cases hk0 : k = 0
        · have Ha : Hid (Answer c refusal) := no_p0 HQ.out (by rw [hk0] at hs; exact hs)
          have hkz : k ≤ 0 := by omega
          clear hs hk0 hk1
          go_wp2_with fail
          go_ret3
          exact ⟨Ha.out, rfl⟩
        · have Ha : Hid (∀ x, IsSkip c (k + 1) x → Answer c (.returned (.tuple #[.string (c.extract 0 k), .int .i64 x, .bool true]))) := fun x hx => yes_p h0 HO.out HQ.out ⟨by omega, hk, hs, HN.out, hx⟩
          have hkz : 0 < k := by omega
          clear hs hk0 hk1
          go_wp2_with fail
          refine (skipI c (k + 1) _ _ hc (by omega) (by omega)).mono ?_
          rintro e w' ⟨j, rfl, hj, rfl⟩
          have Hj := Ha.out j hj
          have HJ : Hid (Answer c (.returned (.tuple #[.string (c.extract 0 k), .int .i64 j, .bool true]))) := Hj
          clear hj Hj Ha
          go_wp2_with fail
          go_ret3
          exact ⟨HJ.out, rfl⟩
      · have hk2 : k + 1 < c.size := by omega
        have hkb : ((k : Int) + 1 == (c.size : Int)) = false := by rw [beq_eq_false_iff_ne]; omega
        have hbk : B c (k + 1) = c[k + 1].toNat := B_at hk2
        cases hbl : blankB (c[k + 1].toNat : Int)
        · have hs : ¬ Sep c k := fun h => by
            rcases h.2 with e | ⟨_, e⟩
            · exact hk1 e
            · rw [hbk, hbl] at e; cases e
          have HS : Hid (¬ Sep c k) := hs
          have Hbl : Hid (blankB (c[k + 1].toNat : Int) = false) := hbl
          clear hs hbl hbk hk1
          go_wp2_with fail
          refine (isBlank _ _).mono ?_
          rintro e w' ⟨rfl, rfl⟩
          rw [Hbl.out]
          go_wp2_with fail
          refine (idxX _ _ _ (by omega) (by omega)).mono ?_
          rintro e w' ⟨v3, rfl, hi3, rfl⟩
          by_cases hv3 : v3 < 0
          · have Ha : Hid (Answer c refusal) := no_p HQ.out (colon_last (by omega) HN.out HS.out hi3 hv3)
            clear hi3
            go_wp2_with fail
            go_ret3
            exact ⟨Ha.out, rfl⟩
          · obtain ⟨m, rfl, hm1, hm2, hm3⟩ := colon_next (by omega) HN.out HS.out hi3 hv3
            have HM : Hid (B c (k + 1 + m) = 58 ∧ ∀ j, j < k + 1 + m → ¬ Sep c j) := ⟨hm2, hm3⟩
            clear hi3 hm2 hm3 hv3
            go_wp2_with fail
            go_round
            case rel => exact ⟨_, rfl, .inr ⟨k + 1 + m, hm1, by omega, HM.out.1, HM.out.2⟩⟩
            case measure => simp [intOf]; omega
        · have hs : Sep c k := ⟨HB.out, .inr ⟨hk2, by rw [hbk]; exact hbl⟩⟩
          have Hbl : Hid (blankB (c[k + 1].toNat : Int) = true) := hbl
          clear hbl hbk hk1
          by_cases hk0 : k = 0
          · have Ha : Hid (Answer c refusal) := no_p0 HQ.out (by rw [hk0] at hs; exact hs)
            have hkz : k ≤ 0 := by omega
            clear hs hk0
            go_wp2_with fail
            refine (isBlank _ _).mono ?_
            rintro e w' ⟨rfl, rfl⟩
            rw [Hbl.out]
            go_wp2_with fail
            go_ret3
            exact ⟨Ha.out, rfl⟩
          · have Ha : Hid (∀ x, IsSkip c (k + 1) x → Answer c (.returned (.tuple #[.string (c.extract 0 k), .int .i64 x, .bool true]))) := fun x hx => yes_p h0 HO.out HQ.out ⟨by omega, hk, hs, HN.out, hx⟩
            have hkz : 0 < k := by omega
            clear hs hk0
            go_wp2_with fail
            refine (isBlank _ _).mono ?_
            rintro e w' ⟨rfl, rfl⟩
            rw [Hbl.out]
            go_wp2_with fail
            refine (isBlank _ _).mono ?_
            rintro e w' ⟨rfl, rfl⟩
            rw [Hbl.out]
            go_wp2_with fail
            refine (skipI c (k + 1) _ _ hc (by omega) (by omega)).mono ?_
            rintro e w' ⟨j, rfl, hj, rfl⟩
            have HJ : Hid (Answer c (.returned (.tuple #[.string (c.extract 0 k), .int .i64 j, .bool true]))) := Ha.out j hj
            clear hj Ha
            go_wp2_with fail
            go_ret3
            exact ⟨HJ.out, rfl⟩

end Go.Proofs.Qxb6605392a.Yk

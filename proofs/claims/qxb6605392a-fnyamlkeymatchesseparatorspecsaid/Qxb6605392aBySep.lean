import Derived.Test.Qxb6605392aAns
import Derived.Deep.QuietTactic
import Derived.BigQuiet
import Derived.WalkSmall
namespace Go.Proofs.Qxb6605392a.Yk
open Go.RowKit
set_option linter.unusedVariables false
set_option linter.unusedSimpArgs false

def skipF (c : ByteArray) : Nat → Nat → Nat
  | 0, i => i
  | f + 1, i => if blankB (B c i) = true then skipF c f (i + 1) else i

theorem skipF_is (c : ByteArray) : ∀ f i, i + f = c.size → IsSkip c i (skipF c f i)
  | 0, i, h => ⟨Nat.le_refl _, by show i ≤ _; omega, fun k h1 h2 => absurd h2 (by show ¬ k < i; omega), .inl (by show i = _; omega)⟩
  | f + 1, i, h => by
    unfold skipF
    by_cases hb : blankB (B c i) = true
    · rw [if_pos hb]
      obtain ⟨h1, h2, h3, h4⟩ := skipF_is c f (i + 1) (by omega)
      refine ⟨by omega, h2, fun k h5 h6 => ?_, h4⟩
      by_cases e : k = i
      · rw [e]; exact hb
      · exact h3 k (by omega) h6
    · rw [if_neg hb]
      exact ⟨Nat.le_refl _, by omega, fun k h1 h2 => absurd h2 (by omega), .inr (by simpa using hb)⟩

def skipN (c : ByteArray) (i : Nat) : Nat := skipF c (c.size - i) i
theorem skipN_is {c : ByteArray} {i : Nat} (h : i ≤ c.size) : IsSkip c i (skipN c i) := skipF_is c _ i (by omega)

/-- firstNonBlankFrom, as a function. -/
theorem first_exact (c : ByteArray) (i : Nat) (x : Int) (w : World) (hc : c.size ≤ 4194304) (hi : i ≤ c.size) (hx : x = i) :
    Calls Try.prog 21 #[.string c, .int .i64 x] w fun e w' => e = .returned (.int .i64 (skipN c i)) ∧ w' = w := by
  subst hx
  refine (firstNonBlank c i w hc hi).mono ?_
  rintro e w' ⟨j, rfl, hj, rfl⟩
  rw [hj.one (skipN_is hi)]
  exact ⟨rfl, rfl⟩

set_option maxRecDepth 100000 in
set_option maxHeartbeats 1000000 in
theorem sep_small (c : ByteArray) (w : World) (hc : c.size ≤ 4194304) (h : c.size = 0 ∨ opensB (B c 0) = true) :
    Calls Try.prog 14 #[.string c] w fun e w' => Answer c e ∧ ∃ n, w' = w.drewN n := by
  by_cases h0 : c.size = 0
  · have hem : ((c.size : Int) == 0) = true := by simp [h0]
    have Ha : Hid (Answer c refusal) := no_empty h0
    clear h h0
    go_enter Try.func14, Try.ntmps14
    go_wp2_with fail
    go_ret3
    exact ⟨Ha.out, 0, rfl⟩
  · have hem : ((c.size : Int) == 0) = false := by rw [beq_eq_false_iff_ne]; omega
    have hlt : 0 < c.size := by omega
    have ho : opensB (B c 0) = true := by
      rcases h with h | h
      · exact absurd h h0
      · exact h
    have Ha : Hid (Answer c refusal) := no_opens ho
    have Ho : Hid (opensB (c[0].toNat : Int) = true) := by rw [B_at hlt] at ho; exact ho
    clear h h0 ho
    go_enter Try.func14, Try.ntmps14
    go_wp2_with fail
    refine (opensNoKey _ _).mono ?_
    rintro e w' ⟨rfl, rfl⟩
    rw [Ho.out]
    go_wp2_with fail
    go_ret3
    exact ⟨Ha.out, 0, rfl⟩

set_option maxRecDepth 100000 in
set_option maxHeartbeats 4000000 in
theorem sep_plain (c : ByteArray) (w : World) (hc : c.size ≤ 4194304) (h0 : 0 < c.size) (ho : opensB (B c 0) = false) (hq : ¬ isQ (B c 0)) :
    Calls Try.prog 14 #[.string c] w fun e w' => Answer c e ∧ ∃ n, w' = w.drewN n := by
  have hem : ((c.size : Int) == 0) = false := by rw [beq_eq_false_iff_ne]; omega
  have Ho : Hid (opensB (c[0].toNat : Int) = false) := by have := ho; rw [B_at h0] at this; exact this
  have HO : Hid (opensB (B c 0) = false) := ho
  have HQ : Hid (¬ isQ (B c 0)) := hq
  rw [B_at h0] at hq
  have q1 : ((c[0].toNat : Int) == 34) = false := by
    rw [beq_eq_false_iff_ne]; intro h; exact hq (.inl (by omega))
  have q2 : ((c[0].toNat : Int) == 39) = false := by
    rw [beq_eq_false_iff_ne]; intro h; exact hq (.inr (by omega))
  clear ho hq
  go_enter Try.func14, Try.ntmps14
  go_wp2_with fail
  refine (opensNoKey _ _).mono ?_
  rintro e w' ⟨rfl, rfl⟩
  rw [Ho.out]
  go_wp2_with fail
  go_loop [9, 10] (fun p t => ∃ k : Nat, k ≤ c.size ∧ t = .int .i64 k ∧ p = .int .i64 (-1) ∧ ∀ j, j < k → ¬ Sep c j) (fun _ t => c.size - (intOf t).toNat)
  case atStart => exact ⟨0, Nat.zero_le _, rfl, rfl, fun j hj => absurd hj (Nat.not_lt_zero _)⟩
  case round =>
    obtain ⟨k, hk, rfl, rfl, hno⟩ := hrel
    have HN : Hid (∀ j, j < k → ¬ Sep c j) := hno
    clear hno
    by_cases hlt : k < c.size
    · have HB : Hid (B c k = c[k].toNat) := B_at hlt
      by_cases hcol : c[k].toNat = 58
      · have hcb : ((c[k].toNat : Int) == 58) = true := by rw [beq_iff_eq]; omega
        have HC : Hid (B c k = 58) := HB.out.trans hcol
        clear hcol
        by_cases hk1 : k + 1 = c.size
        · have hs : Sep c k := ⟨HC.out, .inl hk1⟩
          have hkb : ((k : Int) + 1 == (c.size : Int)) = true := by rw [beq_iff_eq]; omega
          by_cases hk0 : k = 0
          · have Ha : Hid (Answer c refusal) := no_p0 HQ.out (by rw [hk0] at hs; exact hs)
            have hkz : k ≤ 0 := by omega
            clear hs hk0 hk1
            go_wp2_with fail
            go_ret3
            exact ⟨Ha.out, 0, rfl⟩
          · have Ha : Hid (Answer c (.returned (.tuple #[.string (c.extract 0 k), .int .i64 (skipN c (k + 1)), .bool true]))) := yes_p h0 HO.out HQ.out ⟨by omega, hlt, hs, HN.out, skipN_is (by omega)⟩
            have hkz : 0 < k := by omega
            have hkl : k + 1 ≤ c.size := by omega
            clear hs hk0 hk1
            go_wp2_with fail
            go_quiet ((go_at_call 21; exact Calls.quiet_of_same (first_exact c (k + 1) _ _ hc hkl (by omega))))
            go_wp2_with fail
            go_ret3
            exact ⟨Ha.out, _, rfl⟩
        · have hk2 : k + 1 < c.size := by omega
          have hkb : ((k : Int) + 1 == (c.size : Int)) = false := by rw [beq_eq_false_iff_ne]; omega
          have hbk : B c (k + 1) = c[k + 1].toNat := B_at hk2
          cases hbl : blankB (c[k + 1].toNat : Int)
          · have hs : ¬ Sep c k := fun h => by
              rcases h.2 with e | ⟨_, e⟩
              · exact hk1 e
              · rw [hbk, hbl] at e; cases e
            have HN2 : Hid (∀ j, j < k + 1 → ¬ Sep c j) := fun j hj => by
              by_cases e : j = k
              · rw [e]; exact hs
              · exact HN.out j (by omega)
            have Hbl : Hid (blankB (c[k + 1].toNat : Int) = false) := hbl
            clear hs hbl hbk hk1 HN HC
            go_wp2_with fail
            refine (isSpaceOrTab _ _).mono ?_
            rintro e w' ⟨rfl, rfl⟩
            rw [Hbl.out]
            go_wp2_with fail
            go_round
            case rel => exact ⟨k + 1, by omega, by go_num, rfl, HN2.out⟩
            case measure => simp [intOf]; omega
          · have hs : Sep c k := ⟨HC.out, .inr ⟨hk2, by rw [hbk]; exact hbl⟩⟩
            have Hbl : Hid (blankB (c[k + 1].toNat : Int) = true) := hbl
            clear hbl hbk hk1
            by_cases hk0 : k = 0
            · have Ha : Hid (Answer c refusal) := no_p0 HQ.out (by rw [hk0] at hs; exact hs)
              have hkz : k ≤ 0 := by omega
              clear hs hk0
              go_wp2_with fail
              refine (isSpaceOrTab _ _).mono ?_
              rintro e w' ⟨rfl, rfl⟩
              rw [Hbl.out]
              go_wp2_with fail
              go_ret3
              exact ⟨Ha.out, 0, rfl⟩
            · have Ha : Hid (Answer c (.returned (.tuple #[.string (c.extract 0 k), .int .i64 (skipN c (k + 1)), .bool true]))) := yes_p h0 HO.out HQ.out ⟨by omega, hlt, hs, HN.out, skipN_is (by omega)⟩
              have hkz : 0 < k := by omega
              have hkl : k + 1 ≤ c.size := by omega
              clear hs hk0
              go_wp2_with fail
              refine (isSpaceOrTab _ _).mono ?_
              rintro e w' ⟨rfl, rfl⟩
              rw [Hbl.out]
              go_wp2_with fail
              go_quiet ((go_at_call 21; exact Calls.quiet_of_same (first_exact c (k + 1) _ _ hc hkl (by omega))))
              go_wp2_with fail
              go_ret3
              exact ⟨Ha.out, _, rfl⟩
      · have hcb : ((c[k].toNat : Int) == 58) = false := by rw [beq_eq_false_iff_ne]; omega
        have HN2 : Hid (∀ j, j < k + 1 → ¬ Sep c j) := fun j hj => by
          by_cases e : j = k
          · rw [e]; exact fun hs => hcol (HB.out.symm.trans hs.1)
          · exact HN.out j (by omega)
        clear hcol HN
        go_wp2_with fail
        go_round
        case rel => exact ⟨k + 1, by omega, by go_num, rfl, HN2.out⟩
        case measure => simp [intOf]; omega
    · have Ha : Hid (Answer c refusal) := no_p HQ.out (fun j hj => HN.out j (by omega))
      clear HN
      go_wp2_with fail
      go_ret3
      exact ⟨Ha.out, 0, rfl⟩

set_option maxRecDepth 100000 in
set_option maxHeartbeats 4000000 in
theorem sep_quoted (c : ByteArray) (w : World) (hc : c.size ≤ 4194304) (h0 : 0 < c.size) (ho : opensB (B c 0) = false) (hq : isQ (B c 0)) :
    Calls Try.prog 14 #[.string c] w fun e w' => Answer c e ∧ ∃ n, w' = w.drewN n := by
  have hem : ((c.size : Int) == 0) = false := by rw [beq_eq_false_iff_ne]; omega
  have Ho : Hid (opensB (c[0].toNat : Int) = false) := by have := ho; rw [B_at h0] at this; exact this
  have HO : Hid (opensB (B c 0) = false) := ho
  have HQ : Hid (isQ (B c 0)) := hq
  have H0 : Hid (B c 0 = c[0].toNat) := B_at h0
  have key : ((c[0].toNat : Int) == 34) = true ∨ (((c[0].toNat : Int) == 34) = false ∧ ((c[0].toNat : Int) == 39) = true) := by
    rw [B_at h0] at hq
    rcases hq with h | h
    · exact .inl (by rw [beq_iff_eq]; omega)
    · exact .inr ⟨by rw [beq_eq_false_iff_ne]; omega, by rw [beq_iff_eq]; omega⟩
  clear ho hq
  rcases key with q1 | ⟨q1, q2⟩
  all_goals
    go_enter Try.func14, Try.ntmps14
    go_wp2_with fail
    refine (opensNoKey _ _).mono ?_
    rintro e w' ⟨rfl, rfl⟩
    rw [Ho.out]
    go_wp2_with fail
    go_loop [7, 8] (fun p t => ∃ k : Nat, 1 ≤ k ∧ k ≤ c.size ∧ t = .int .i64 k ∧ p = .int .i64 (-1) ∧ ∀ j, 1 ≤ j → j < k → B c j ≠ B c 0) (fun _ t => c.size - (intOf t).toNat)
    case atStart => exact ⟨1, Nat.le_refl _, h0, rfl, rfl, fun j h1 h2 => absurd h2 (by omega)⟩
    case round =>
      obtain ⟨k, hk1, hk, rfl, rfl, hno⟩ := hrel
      have HN : Hid (∀ j, 1 ≤ j → j < k → B c j ≠ B c 0) := hno
      clear hno
      by_cases hlt : k < c.size
      · have HB : Hid (B c k = c[k].toNat) := B_at hlt
        by_cases hcol : c[k].toNat = c[0].toNat
        · have hcb : ((c[k].toNat : Int) == (c[0].toNat : Int)) = true := by rw [beq_iff_eq]; omega
          have HC : Hid (B c k = B c 0) := by show _ = _; rw [HB.out, H0.out]; exact hcol
          clear hcol
          by_cases hk2 : k + 1 < c.size
          · have HB1 : Hid (B c (k + 1) = c[k + 1].toNat) := B_at hk2
            by_cases hd : c[k + 1].toNat = 58
            · have hdb : ((c[k + 1].toNat : Int) != 58) = false := by simp; omega
              have HD : Hid (B c (k + 1) = 58) := HB1.out.trans hd
              clear hd
              by_cases hk3 : k + 2 < c.size
              · have hbk : B c (k + 2) = c[k + 2].toNat := B_at hk3
                cases hbl : blankB (c[k + 2].toNat : Int)
                · have Ha : Hid (Answer c refusal) := no_q3 (hi := k) HQ.out hk1 HC.out HN.out hk3 (by rw [hbk]; exact hbl)
                  have Hbl : Hid (blankB (c[k + 2].toNat : Int) = false) := hbl
                  clear hbk hbl HN
                  go_wp2_with fail
                  refine (isSpaceOrTab _ _).mono ?_
                  rintro e w' ⟨rfl, rfl⟩
                  rw [Hbl.out]
                  go_wp2_with fail
                  go_ret3
                  exact ⟨Ha.out, 0, rfl⟩
                · have Ha : Hid (Answer c (.returned (.tuple #[.string (c.extract 1 k), .int .i64 (skipN c (k + 2)), .bool true]))) := yes_q h0 HO.out HQ.out ⟨hk1, hk2, HC.out, HN.out, HD.out, .inr ⟨hk3, by rw [hbk]; exact hbl⟩, skipN_is (by omega)⟩
                  have Hbl : Hid (blankB (c[k + 2].toNat : Int) = true) := hbl
                  have hkl : k + 2 ≤ c.size := by omega
                  clear hbk hbl HN
                  go_wp2_with fail
                  refine (isSpaceOrTab _ _).mono ?_
                  rintro e w' ⟨rfl, rfl⟩
                  rw [Hbl.out]
                  go_wp2_with fail
                  go_quiet ((go_at_call 21; exact Calls.quiet_of_same (first_exact c (k + 2) _ _ hc hkl (by omega))))
                  go_wp2_with fail
                  go_ret3
                  exact ⟨Ha.out, _, rfl⟩
              · have Ha : Hid (Answer c (.returned (.tuple #[.string (c.extract 1 k), .int .i64 (skipN c (k + 2)), .bool true]))) := yes_q h0 HO.out HQ.out ⟨hk1, hk2, HC.out, HN.out, HD.out, .inl (by omega), skipN_is (by omega)⟩
                have hkl : k + 2 ≤ c.size := by omega
                clear HN
                go_wp2_with fail
                go_quiet ((go_at_call 21; exact Calls.quiet_of_same (first_exact c (k + 2) _ _ hc hkl (by omega))))
                go_wp2_with fail
                go_ret3
                exact ⟨Ha.out, _, rfl⟩
            · have hdb : ((c[k + 1].toNat : Int) != 58) = true := by simp; omega
              have Ha : Hid (Answer c refusal) := no_q2 (hi := k) HQ.out hk1 HC.out HN.out (fun h => hd (HB1.out.symm.trans h.2))
              clear hd HN
              go_wp2_with fail
              go_ret3
              exact ⟨Ha.out, 0, rfl⟩
          · have Ha : Hid (Answer c refusal) := no_q2 (hi := k) HQ.out hk1 HC.out HN.out (fun h => hk2 h.1)
            clear HN
            go_wp2_with fail
            go_ret3
            exact ⟨Ha.out, 0, rfl⟩
        · have hcb : ((c[k].toNat : Int) == (c[0].toNat : Int)) = false := by rw [beq_eq_false_iff_ne]; omega
          have HN2 : Hid (∀ j, 1 ≤ j → j < k + 1 → B c j ≠ B c 0) := fun j h1 hj => by
            by_cases e : j = k
            · rw [e, HB.out, H0.out]; exact hcol
            · exact HN.out j h1 (by omega)
          clear hcol HN
          go_wp2_with fail
          go_round
          case rel => exact ⟨k + 1, by omega, by omega, by go_num, rfl, HN2.out⟩
          case measure => simp [intOf]; omega
      · have Ha : Hid (Answer c refusal) := no_q1 HQ.out (fun j h1 hj => HN.out j h1 (by omega))
        clear HN
        go_wp2_with fail
        go_ret3
        exact ⟨Ha.out, 0, rfl⟩

end Go.Proofs.Qxb6605392a.Yk

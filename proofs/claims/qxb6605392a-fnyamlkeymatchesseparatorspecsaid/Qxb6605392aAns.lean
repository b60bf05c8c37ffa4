import Derived.Test.Qxb6605392aLeaf
namespace Go.Proofs.Qxb6605392a.Yk
open Go.RowKit
set_option linter.unusedVariables false
set_option linter.unusedSimpArgs false

/-- What both readers answer. -/
def Answer (c : ByteArray) (e : Ending) : Prop :=
  (∃ lo hi v : Nat, IsKey c lo hi v ∧ e = .returned (.tuple #[.string (c.extract lo hi), .int .i64 v, .bool true])) ∨
  ((∀ lo hi v, ¬ IsKey c lo hi v) ∧ e = .returned (.tuple #[.string ⟨#[]⟩, .int .i64 0, .bool false]))

abbrev refusal : Ending := .returned (.tuple #[.string ⟨#[]⟩, .int .i64 0, .bool false])

theorem no_empty {c : ByteArray} (h : c.size = 0) : Answer c refusal :=
  .inr ⟨fun lo hi v hk => by have := hk.1; omega, rfl⟩

theorem no_opens {c : ByteArray} (h : opensB (B c 0) = true) : Answer c refusal :=
  .inr ⟨fun lo hi v hk => (by have := hk.2.1; rw [h] at this; cases this), rfl⟩

theorem no_q1 {c : ByteArray} (hq : isQ (B c 0)) (h : ∀ j, 1 ≤ j → j < c.size → B c j ≠ B c 0) : Answer c refusal :=
  .inr ⟨fun lo hi v hk => by
    obtain ⟨_, _, ⟨_, _, k⟩ | ⟨k, _⟩⟩ := hk
    · exact h hi k.1 (by have := k.2.1; omega) k.2.2.1
    · exact k hq, rfl⟩

theorem Quoted.spot {c : ByteArray} {hi hi' v : Nat} (h1 : 1 ≤ hi) (h3 : B c hi = B c 0) (h4 : ∀ j, 1 ≤ j → j < hi → B c j ≠ B c 0) (k : Quoted c hi' v) : hi' = hi := by
  by_cases x : hi < hi'
  · exact absurd h3 (k.2.2.2.1 hi h1 x)
  · by_cases y : hi' < hi
    · exact absurd k.2.2.1 (h4 hi' k.1 y)
    · omega

theorem no_q2 {c : ByteArray} {hi : Nat} (hq : isQ (B c 0)) (h1 : 1 ≤ hi) (h3 : B c hi = B c 0) (h4 : ∀ j, 1 ≤ j → j < hi → B c j ≠ B c 0) (h : ¬ (hi + 1 < c.size ∧ B c (hi + 1) = 58)) : Answer c refusal :=
  .inr ⟨fun lo hi' v hk => by
    obtain ⟨_, _, ⟨_, _, k⟩ | ⟨k, _⟩⟩ := hk
    · obtain rfl := Quoted.spot h1 h3 h4 k
      exact h ⟨k.2.1, k.2.2.2.2.1⟩
    · exact k hq, rfl⟩

theorem no_q3 {c : ByteArray} {hi : Nat} (hq : isQ (B c 0)) (h1 : 1 ≤ hi) (h3 : B c hi = B c 0) (h4 : ∀ j, 1 ≤ j → j < hi → B c j ≠ B c 0) (h5 : hi + 2 < c.size) (h : blankB (B c (hi + 2)) = false) : Answer c refusal :=
  .inr ⟨fun lo hi' v hk => by
    obtain ⟨_, _, ⟨_, _, k⟩ | ⟨k, _⟩⟩ := hk
    · obtain rfl := Quoted.spot h1 h3 h4 k
      rcases k.2.2.2.2.2.1 with e | ⟨_, e⟩
      · omega
      · rw [h] at e; cases e
    · exact k hq, rfl⟩

theorem yes_q {c : ByteArray} {hi v : Nat} (h0 : 0 < c.size) (ho : opensB (B c 0) = false) (hq : isQ (B c 0)) (h : Quoted c hi v) : Answer c (.returned (.tuple #[.string (c.extract 1 hi), .int .i64 v, .bool true])) :=
  .inl ⟨1, hi, v, ⟨h0, ho, .inl ⟨hq, rfl, h⟩⟩, rfl⟩

theorem no_p {c : ByteArray} (hq : ¬ isQ (B c 0)) (h : ∀ j, j < c.size → ¬ Sep c j) : Answer c refusal :=
  .inr ⟨fun lo hi v hk => by
    obtain ⟨_, _, ⟨k, _⟩ | ⟨_, _, k⟩⟩ := hk
    · exact hq k
    · exact h hi k.2.1 k.2.2.1, rfl⟩

theorem no_p0 {c : ByteArray} (hq : ¬ isQ (B c 0)) (h : Sep c 0) : Answer c refusal :=
  .inr ⟨fun lo hi v hk => by
    obtain ⟨_, _, ⟨k, _⟩ | ⟨_, _, k⟩⟩ := hk
    · exact hq k
    · exact k.2.2.2.1 0 k.1 h, rfl⟩

theorem yes_p {c : ByteArray} {hi v : Nat} (h0 : 0 < c.size) (ho : opensB (B c 0) = false) (hq : ¬ isQ (B c 0)) (h : Plain c hi v) : Answer c (.returned (.tuple #[.string (c.extract 0 hi), .int .i64 v, .bool true])) :=
  .inl ⟨0, hi, v, ⟨h0, ho, .inr ⟨hq, rfl, h⟩⟩, rfl⟩

theorem isEmpty_size (c : ByteArray) : c.toList.isEmpty = decide (c.size = 0) := by
  rw [Lib.toList_data, Lib.size_eq]
  cases c.data.toList <;> simp

set_option maxRecDepth 100000 in
set_option maxHeartbeats 1000000 in
theorem key_small (c : ByteArray) (w : World) (hc : c.size ≤ 4194304) (h : c.size = 0 ∨ opensB (B c 0) = true) :
    Calls Try.prog 19 #[.string c] w fun e w' => Answer c e ∧ w' = w := by
  by_cases h0 : c.size = 0
  · have hem : c.toList.isEmpty = true := by rw [isEmpty_size]; simp [h0]
    have Ha : Hid (Answer c refusal) := no_empty h0
    clear h h0
    go_enter Try.func19, Try.ntmps19
    go_wp2_with fail
    go_ret3
    exact ⟨Ha.out, rfl⟩
  · have hem : c.toList.isEmpty = false := by rw [isEmpty_size]; simp [h0]
    have hlt : 0 < c.size := by omega
    have ho : opensB (B c 0) = true := by
      rcases h with h | h
      · exact absurd h h0
      · exact h
    have Ha : Hid (Answer c refusal) := no_opens ho
    have Ho : Hid (opensB (c[0].toNat : Int) = true) := by rw [B_at hlt] at ho; exact ho
    have hlt256 := UInt8.toNat_lt c[0]
    clear h h0 ho
    go_enter Try.func19, Try.ntmps19
    go_wp2_with fail
    refine (idxOpens _ _ (by omega) (by omega)).mono ?_
    rintro e w' ⟨v, rfl, hv, rfl⟩
    have hv0 : 0 ≤ v := hv.2 Ho.out
    clear hv
    go_wp2_with fail
    go_ret3
    exact ⟨Ha.out, rfl⟩

theorem skipI (c : ByteArray) (i : Nat) (x : Int) (w : World) (hc : c.size ≤ 4194304) (hi : i ≤ c.size) (hx : x = i) :
    Calls Try.prog 25 #[.string c, .int .i64 x] w fun e w' => ∃ j : Nat, e = .returned (.int .i64 j) ∧ IsSkip c i j ∧ w' = w := by
  subst hx
  exact skipBlanks c i w hc hi

/-- The first closing quote, out of the index in what stands behind the first byte. -/
theorem quote_none {c : ByteArray} {v : Int} (h0 : 0 < c.size) (h : Idx (c.extract 1 c.size) c[0].toNat v) (hv : v < 0) : ∀ j, 1 ≤ j → j < c.size → B c j ≠ B c 0 := by
  rcases h with ⟨_, h⟩ | ⟨k, _, rfl, _⟩
  · intro j h1 h2
    have := h (j - 1) (by rw [ByteArray.size_extract]; omega)
    rw [B_drop, show 1 + (j - 1) = j by omega] at this
    rw [B_at h0]
    exact this
  · omega

theorem quote_some {c : ByteArray} {v : Int} (h0 : 0 < c.size) (h : Idx (c.extract 1 c.size) c[0].toNat v) (hv : ¬ v < 0) :
    ∃ k : Nat, v = k ∧ k + 1 < c.size ∧ B c (k + 1) = B c 0 ∧ ∀ j, 1 ≤ j → j < k + 1 → B c j ≠ B c 0 := by
  rcases h with ⟨rfl, _⟩ | ⟨k, hk, rfl, h1, h2⟩
  · omega
  · rw [ByteArray.size_extract] at hk
    rw [B_drop, show 1 + k = k + 1 by omega] at h1
    refine ⟨k, rfl, by omega, by rw [h1, B_at h0], fun j h3 h4 => ?_⟩
    have := h2 (j - 1) (by omega)
    rw [B_drop, show 1 + (j - 1) = j by omega] at this
    rw [B_at h0]
    exact this

set_option maxRecDepth 100000 in
set_option maxHeartbeats 2000000 in
theorem key_quoted (c : ByteArray) (w : World) (hc : c.size ≤ 4194304) (h0 : 0 < c.size) (ho : opensB (B c 0) = false) (hq : isQ (B c 0)) :
    Calls Try.prog 19 #[.string c] w fun e w' => Answer c e ∧ w' = w := by
  have hem : c.toList.isEmpty = false := by rw [isEmpty_size, decide_eq_false_iff_not]; omega
  have Ho : Hid (opensB (c[0].toNat : Int) = false) := by have := ho; rw [B_at h0] at this; exact this
  have HO : Hid (opensB (B c 0) = false) := ho
  have HQ : Hid (isQ (B c 0)) := hq
  have hlt256 := UInt8.toNat_lt c[0]
  rw [B_at h0] at hq
  clear ho
  rcases hq with hq | hq
  · have q1 : ((c[0].toNat : Int) == 34) = true := by simp; omega
    clear hq
    go_enter Try.func19, Try.ntmps19
    go_wp2_with fail
    refine (idxOpens _ _ (by omega) (by omega)).mono ?_
    rintro e w' ⟨v, rfl, hv, rfl⟩
    have hv0 : ¬ 0 ≤ v := fun h => by rw [hv.1 h] at Ho; cases Ho.out
    clear hv
    go_wp2_with fail
    refine (idxX _ _ _ (by omega) (by omega)).mono ?_
    rintro e w' ⟨v2, rfl, hi, rfl⟩
    rw [Int.toNat_natCast] at hi
    by_cases hv2 : v2 < 0
    · have Ha : Hid (Answer c refusal) := no_q1 HQ.out (quote_none h0 hi hv2)
      clear hi
      go_wp2_with fail
      go_ret3
      exact ⟨Ha.out, rfl⟩
    obtain ⟨k, hvk, hk1, hk2, hk3⟩ := quote_some h0 hi hv2
    subst hvk
    have HK2 : Hid (B c (k + 1) = B c 0) := hk2
    have HK3 : Hid (∀ j, 1 ≤ j → j < k + 1 → B c j ≠ B c 0) := hk3
    clear hi hv2 hk2 hk3
    go_wp2_with fail
    refine (hasColon _ _ (by rw [ByteArray.size_extract]; omega)).mono ?_
    rintro e w' ⟨x, rfl, hx, rfl⟩
    have HX : Hid (x = true ↔ (k + 1 + 1 < c.size ∧ B c (k + 1 + 1) = 58)) := by
      rw [ByteArray.size_extract, B_drop] at hx
      rw [show k + 2 + 0 = k + 1 + 1 by omega] at hx
      constructor
      · intro h; exact ⟨by have := (hx.1 h).1; omega, (hx.1 h).2⟩
      · intro h; exact hx.2 ⟨by omega, h.2⟩
    clear hx
    cases x
    · have Ha : Hid (Answer c refusal) := no_q2 (hi := k + 1) HQ.out (by omega) HK2.out HK3.out (fun h => by cases HX.out.2 h)
      go_wp2_with fail
      go_ret3
      exact ⟨Ha.out, rfl⟩
    obtain ⟨hk4, hk5⟩ := HX.out.1 rfl
    have HK5 : Hid (B c (k + 1 + 1) = 58) := hk5
    clear HX hk5
    by_cases hk6 : k + 3 < c.size
    · have hbk : B c (k + 3) = c[k + 3].toNat := B_at hk6
      cases hbl : blankB (c[k + 3].toNat : Int)
      · have Ha : Hid (Answer c refusal) := no_q3 (hi := k + 1) HQ.out (by omega) HK2.out HK3.out hk6 (by show blankB (B c (k + 3)) = false; rw [hbk]; exact hbl)
        have Hbl : Hid (blankB (c[k + 2 + 1].toNat : Int) = false) := hbl
        clear hbk hbl
        go_wp2_with fail
        refine (isBlank _ _).mono ?_
        rintro e w' ⟨rfl, rfl⟩
        rw [Hbl.out]
        go_wp2_with fail
        go_ret3
        exact ⟨Ha.out, rfl⟩
      · have Ha : Hid (∀ v, IsSkip c (k + 3) v → Quoted c (k + 1) v) := fun v h => ⟨by omega, hk4, HK2.out, HK3.out, HK5.out, .inr ⟨hk6, by show blankB (B c (k + 3)) = true; rw [hbk]; exact hbl⟩, h⟩
        have Hbl : Hid (blankB (c[k + 2 + 1].toNat : Int) = true) := hbl
        clear hbk hbl
        go_wp2_with fail
        refine (isBlank _ _).mono ?_
        rintro e w' ⟨rfl, rfl⟩
        rw [Hbl.out]
        go_wp2_with fail
        refine (skipI c (k + 3) _ _ hc (by omega) (by omega)).mono ?_
        rintro e w' ⟨j, rfl, hj, rfl⟩
        have Hj : Hid (Answer c (.returned (.tuple #[.string (c.extract 1 (k + 1)), .int .i64 j, .bool true]))) := yes_q h0 HO.out HQ.out (Ha.out j hj)
        clear hj
        go_wp2_with fail
        go_ret3
        exact ⟨Hj.out, rfl⟩
    · have Ha : Hid (∀ v, IsSkip c (k + 3) v → Quoted c (k + 1) v) := fun v h => ⟨by omega, hk4, HK2.out, HK3.out, HK5.out, .inl (by omega), h⟩
      go_wp2_with fail
      refine (skipI c (k + 3) _ _ hc (by omega) (by omega)).mono ?_
      rintro e w' ⟨j, rfl, hj, rfl⟩
      have Hj : Hid (Answer c (.returned (.tuple #[.string (c.extract 1 (k + 1)), .int .i64 j, .bool true]))) := yes_q h0 HO.out HQ.out (Ha.out j hj)
      clear hj
      go_wp2_with fail
      go_ret3
      exact ⟨Hj.out, rfl⟩
  · have q1 : ((c[0].toNat : Int) == 34) = false := by simp; omega
    have q2 : ((c[0].toNat : Int) == 39) = true := by simp; omega
    clear hq
    go_enter Try.func19, Try.ntmps19
    go_wp2_with fail
    refine (idxOpens _ _ (by omega) (by omega)).mono ?_
    rintro e w' ⟨v, rfl, hv, rfl⟩
    have hv0 : ¬ 0 ≤ v := fun h => by rw [hv.1 h] at Ho; cases Ho.out
    clear hv
    go_wp2_with fail
    refine (idxX _ _ _ (by omega) (by omega)).mono ?_
    rintro e w' ⟨v2, rfl, hi, rfl⟩
    rw [Int.toNat_natCast] at hi
    by_cases hv2 : v2 < 0
    · have Ha : Hid (Answer c refusal) := no_q1 HQ.out (quote_none h0 hi hv2)
      clear hi
      go_wp2_with fail
      go_ret3
      exact ⟨Ha.out, rfl⟩
    obtain ⟨k, hvk, hk1, hk2, hk3⟩ := quote_some h0 hi hv2
    subst hvk
    have HK2 : Hid (B c (k + 1) = B c 0) := hk2
    have HK3 : Hid (∀ j, 1 ≤ j → j < k + 1 → B c j ≠ B c 0) := hk3
    clear hi hv2 hk2 hk3
    go_wp2_with fail
    refine (hasColon _ _ (by rw [ByteArray.size_extract]; omega)).mono ?_
    rintro e w' ⟨x, rfl, hx, rfl⟩
    have HX : Hid (x = true ↔ (k + 1 + 1 < c.size ∧ B c (k + 1 + 1) = 58)) := by
      rw [ByteArray.size_extract, B_drop] at hx
      rw [show k + 2 + 0 = k + 1 + 1 by omega] at hx
      constructor
      · intro h; exact ⟨by have := (hx.1 h).1; omega, (hx.1 h).2⟩
      · intro h; exact hx.2 ⟨by omega, h.2⟩
    clear hx
    cases x
    · have Ha : Hid (Answer c refusal) := no_q2 (hi := k + 1) HQ.out (by omega) HK2.out HK3.out (fun h => by cases HX.out.2 h)
      go_wp2_with fail
      go_ret3
      exact ⟨Ha.out, rfl⟩
    obtain ⟨hk4, hk5⟩ := HX.out.1 rfl
    have HK5 : Hid (B c (k + 1 + 1) = 58) := hk5
    clear HX hk5
    by_cases hk6 : k + 3 < c.size
    · have hbk : B c (k + 3) = c[k + 3].toNat := B_at hk6
      cases hbl : blankB (c[k + 3].toNat : Int)
      · have Ha : Hid (Answer c refusal) := no_q3 (hi := k + 1) HQ.out (by omega) HK2.out HK3.out hk6 (by show blankB (B c (k + 3)) = false; rw [hbk]; exact hbl)
        have Hbl : Hid (blankB (c[k + 2 + 1].toNat : Int) = false) := hbl
        clear hbk hbl
        go_wp2_with fail
        refine (isBlank _ _).mono ?_
        rintro e w' ⟨rfl, rfl⟩
        rw [Hbl.out]
        go_wp2_with fail
        go_ret3
        exact ⟨Ha.out, rfl⟩
      · have Ha : Hid (∀ v, IsSkip c (k + 3) v → Quoted c (k + 1) v) := fun v h => ⟨by omega, hk4, HK2.out, HK3.out, HK5.out, .inr ⟨hk6, by show blankB (B c (k + 3)) = true; rw [hbk]; exact hbl⟩, h⟩
        have Hbl : Hid (blankB (c[k + 2 + 1].toNat : Int) = true) := hbl
        clear hbk hbl
        go_wp2_with fail
        refine (isBlank _ _).mono ?_
        rintro e w' ⟨rfl, rfl⟩
        rw [Hbl.out]
        go_wp2_with fail
        refine (skipI c (k + 3) _ _ hc (by omega) (by omega)).mono ?_
        rintro e w' ⟨j, rfl, hj, rfl⟩
        have Hj : Hid (Answer c (.returned (.tuple #[.string (c.extract 1 (k + 1)), .int .i64 j, .bool true]))) := yes_q h0 HO.out HQ.out (Ha.out j hj)
        clear hj
        go_wp2_with fail
        go_ret3
        exact ⟨Hj.out, rfl⟩
    · have Ha : Hid (∀ v, IsSkip c (k + 3) v → Quoted c (k + 1) v) := fun v h => ⟨by omega, hk4, HK2.out, HK3.out, HK5.out, .inl (by omega), h⟩
      go_wp2_with fail
      refine (skipI c (k + 3) _ _ hc (by omega) (by omega)).mono ?_
      rintro e w' ⟨j, rfl, hj, rfl⟩
      have Hj : Hid (Answer c (.returned (.tuple #[.string (c.extract 1 (k + 1)), .int .i64 j, .bool true]))) := yes_q h0 HO.out HQ.out (Ha.out j hj)
      clear hj
      go_wp2_with fail
      go_ret3
      exact ⟨Hj.out, rfl⟩

end Go.Proofs.Qxb6605392a.Yk

import Derived.Test.Qxb6605258aWalk
namespace Go.Proofs.Qxb6605258a.Esc
open Go.RowKit
set_option linter.unusedVariables false
set_option linter.unusedSimpArgs false

set_option maxRecDepth 100000 in
set_option maxHeartbeats 1000000 in
theorem escWhole (B k cap : Nat) (z : Nat → Int) (w : World) (hk : k ≤ 1048576) (hz : ∀ i, i < k → w.cell? ⟨B, i, none⟩ = some (.int .u8 (z i))) (hr : ∀ i, i < k → 0 ≤ z i ∧ z i ≤ 255) :
    Calls Try.prog 18 #[.slice (some ⟨B, 0, none⟩) k cap] w fun e w' => e = .returned (.bool (wholeB z k)) ∧ w' = w := by
  by_cases h2 : k = 2
  · subst h2
    have c1 := hz 1 (by omega)
    have Hp : Hid (wholeB z 2 = simpleB (z 1)) := by show _ = _; simp [wholeB]
    clear hz hr
    cases hs : simpleB (z 1)
    · have Hs : Hid (simpleB (z 1) = false) := hs
      go_enter Try.func18, Try.ntmps18
      go_wp2_with (go_at_call 26; refine (escSimple _ _).mono ?_; rintro e w' ⟨rfl, rfl⟩)
      go_ret
      exact ⟨ret_bool (by rw [Hp.out, Hs.out]), rfl⟩
    · have Hs : Hid (simpleB (z 1) = true) := hs
      go_enter Try.func18, Try.ntmps18
      go_wp2_with (go_at_call 26; refine (escSimple _ _).mono ?_; rintro e w' ⟨rfl, rfl⟩)
      go_ret
      exact ⟨ret_bool (by rw [Hp.out, Hs.out]), rfl⟩
  have hkb : ((k : Int) == 2) = false := by simp; omega
  by_cases h6 : k = 6
  · subst h6
    have c1 := hz 1 (by omega)
    by_cases hu : z 1 = 117
    · have hub : (z 1 == 117) = true := by simp [hu]
      have Hp : Hid (wholeB z 6 = preB z 6) := by show _ = _; simp [wholeB, hu]
      clear hu hkb h2
      go_enter Try.func18, Try.ntmps18
      go_wp2_with fail
      refine (escPrefix B 6 cap z _ (by omega) hz hr).mono ?_
      rintro e w' ⟨rfl, rfl⟩
      go_wp2
      go_ret
      exact ⟨ret_bool (by rw [Hp.out]), rfl⟩
    · have hub : (z 1 == 117) = false := by simp [hu]
      have Hp : Hid (wholeB z 6 = false) := by show _ = _; simp [wholeB, hu]
      clear hu hkb h2 hz hr
      go_enter Try.func18, Try.ntmps18
      go_wp2_with fail
      go_ret
      exact ⟨ret_bool (by rw [Hp.out]), rfl⟩
  · have hkc : ((k : Int) == 6) = false := by simp; omega
    have Hp : Hid (wholeB z k = false) := by show _ = _; simp [wholeB, h2, h6]
    clear h2 h6 hz hr
    go_enter Try.func18, Try.ntmps18
    go_wp2_with fail
    go_ret
    exact ⟨ret_bool (by rw [Hp.out]), rfl⟩

theorem ret_two {a b : Int × Bool} (h : a = b) : Ending.returned (.tuple #[.int .i64 a.1, .bool a.2]) = .returned (.tuple #[.int .i64 b.1, .bool b.2]) := by rw [h]

set_option maxRecDepth 100000 in
set_option maxHeartbeats 1000000 in
theorem escModel (B n cap : Nat) (z : Nat → Int) (w : World) (hn : n ≤ 1048576) (hc : n ≤ cap) (hcap : cap ≤ 1048576) (hz : ∀ i, i < n → w.cell? ⟨B, i, none⟩ = some (.int .u8 (z i))) (hr : ∀ i, i < n → 0 ≤ z i ∧ z i ≤ 255) :
    Calls Try.prog 9 #[.slice (some ⟨B, 0, none⟩) n cap] w fun e w' => e = .returned (.tuple #[.int .i64 (modF z (cutF n)).1, .bool (modF z (cutF n)).2]) ∧ w' = w := by
  by_cases h6 : 6 < n
  · have h6b : decide (6 < (n : Int)) = true := by simp; omega
    have Hc : Hid (modF z (cutF n) = modF z 6) := by show _ = _; rw [cutF, if_pos h6]
    go_enter Try.func9, Try.ntmps9
    go_wp2
    go_loop [4] (fun i => ∃ j : Nat, j ≤ 6 ∧ i = .int .i64 j ∧ modF z (cutF n) = modF z j) (fun i => (intOf i).toNat)
    case atStart => exact ⟨6, Nat.le_refl _, rfl, Hc.out⟩
    case round =>
      obtain ⟨j, hj, rfl, hmod⟩ := hrel
      have Hm : Hid (modF z (cutF n) = modF z j) := hmod
      clear hmod
      by_cases h0 : j = 0
      · subst h0
        clear hz hr
        go_wp2
        go_ret2
        exact ⟨(ret_two Hm.out).symm, rfl⟩
      · obtain ⟨i, rfl⟩ : ∃ i, j = i + 1 := ⟨j - 1, by omega⟩
        have Hi : Hid (modF z (i + 1) = if preB z (i + 1) = true then (((i + 1 : Nat) : Int), wholeB z (i + 1)) else modF z i) := rfl
        have hz' : ∀ q, q < i + 1 → w.cell? ⟨B, q, none⟩ = some (.int .u8 (z q)) := fun q hq => hz q (by omega)
        have hr' : ∀ q, q < i + 1 → 0 ≤ z q ∧ z q ≤ 255 := fun q hq => hr q (by omega)
        clear hz hr h0
        have HZ : Hid (∀ q, q < i + 1 → w.cell? ⟨B, q, none⟩ = some (.int .u8 (z q))) := hz'
        have HR : Hid (∀ q, q < i + 1 → 0 ≤ z q ∧ z q ≤ 255) := hr'
        clear hz' hr'
        go_wp2_with fail
        refine (escPrefix B (i + 1) cap z _ (by omega) HZ.out HR.out).mono ?_
        rintro e w' ⟨rfl, rfl⟩
        cases hp : preB z (i + 1)
        · have Hn : Hid (modF z (cutF n) = modF z i) := by show _ = _; rw [Hm.out, Hi.out, if_neg (by rw [hp]; decide)]
          clear Hm Hi hp
          go_wp2_with fail
          go_round
          case rel => exact ⟨i, by omega, by go_num, Hn.out⟩
          case measure => simp [intOf]
        · have Hn : Hid (modF z (cutF n) = (((i + 1 : Nat) : Int), wholeB z (i + 1))) := by show _ = _; rw [Hm.out, Hi.out, if_pos hp]
          clear Hm Hi hp
          go_wp2_with fail
          refine (escWhole B (i + 1) cap z _ (by omega) HZ.out HR.out).mono ?_
          rintro e w' ⟨rfl, rfl⟩
          go_wp2_with fail
          go_ret2
          exact ⟨(ret_two Hn.out).symm, rfl⟩
  · have h6b : decide (6 < (n : Int)) = false := by simp; omega
    have Hc : Hid (modF z (cutF n) = modF z n) := by show _ = _; rw [cutF, if_neg h6]
    go_enter Try.func9, Try.ntmps9
    go_wp2
    go_loop [4] (fun i => ∃ j : Nat, j ≤ n ∧ i = .int .i64 j ∧ modF z (cutF n) = modF z j) (fun i => (intOf i).toNat)
    case atStart => exact ⟨n, Nat.le_refl _, rfl, Hc.out⟩
    case round =>
      obtain ⟨j, hj, rfl, hmod⟩ := hrel
      have Hm : Hid (modF z (cutF n) = modF z j) := hmod
      clear hmod
      by_cases h0 : j = 0
      · subst h0
        clear hz hr
        go_wp2
        go_ret2
        exact ⟨(ret_two Hm.out).symm, rfl⟩
      · obtain ⟨i, rfl⟩ : ∃ i, j = i + 1 := ⟨j - 1, by omega⟩
        have Hi : Hid (modF z (i + 1) = if preB z (i + 1) = true then (((i + 1 : Nat) : Int), wholeB z (i + 1)) else modF z i) := rfl
        have hz' : ∀ q, q < i + 1 → w.cell? ⟨B, q, none⟩ = some (.int .u8 (z q)) := fun q hq => hz q (by omega)
        have hr' : ∀ q, q < i + 1 → 0 ≤ z q ∧ z q ≤ 255 := fun q hq => hr q (by omega)
        clear hz hr h0
        have HZ : Hid (∀ q, q < i + 1 → w.cell? ⟨B, q, none⟩ = some (.int .u8 (z q))) := hz'
        have HR : Hid (∀ q, q < i + 1 → 0 ≤ z q ∧ z q ≤ 255) := hr'
        clear hz' hr'
        go_wp2_with fail
        refine (escPrefix B (i + 1) cap z _ (by omega) HZ.out HR.out).mono ?_
        rintro e w' ⟨rfl, rfl⟩
        cases hp : preB z (i + 1)
        · have Hn : Hid (modF z (cutF n) = modF z i) := by show _ = _; rw [Hm.out, Hi.out, if_neg (by rw [hp]; decide)]
          clear Hm Hi hp
          go_wp2_with fail
          go_round
          case rel => exact ⟨i, by omega, by go_num, Hn.out⟩
          case measure => simp [intOf]
        · have Hn : Hid (modF z (cutF n) = (((i + 1 : Nat) : Int), wholeB z (i + 1))) := by show _ = _; rw [Hm.out, Hi.out, if_pos hp]
          clear Hm Hi hp
          go_wp2_with fail
          refine (escWhole B (i + 1) cap z _ (by omega) HZ.out HR.out).mono ?_
          rintro e w' ⟨rfl, rfl⟩
          go_wp2_with fail
          go_ret2
          exact ⟨(ret_two Hn.out).symm, rfl⟩

theorem idxLit (c : Int) (w : World) (h0 : 0 ≤ c) (h1 : c ≤ 255) :
    Calls Try.prog 23 #[.string ⟨#[34, 92, 47, 98, 102, 110, 114, 116]⟩, .int .u8 c] w fun e w' => ∃ v : Int, e = .returned (.int .i64 v) ∧ (v < 0 ↔ simpleB c = false) ∧ w' = w := by
  have H := simple_index ⟨c.toNat, by omega⟩
  have e1 : ((c.toNat : Nat) : Int) = c := by omega
  simp only [e1] at H
  refine (idx _ _ _).mono ?_
  rintro e w' ⟨rfl, rfl⟩
  refine ⟨_, rfl, ?_, rfl⟩
  show Lib.indexByte [34, 92, 47, 98, 102, 110, 114, 116] c.toNat.toUInt8 < 0 ↔ _
  cases hs : simpleB c <;> simp [hs] at H ⊢ <;> omega

set_option maxRecDepth 100000 in
set_option maxHeartbeats 1000000 in
theorem escLen (B n cap : Nat) (z : Nat → Int) (w : World) (hn : n ≤ 1048576) (hz : ∀ i, i < n → w.cell? ⟨B, i, none⟩ = some (.int .u8 (z i))) (hr : ∀ i, i < n → 0 ≤ z i ∧ z i ≤ 255) :
    Calls Try.prog 16 #[.slice (some ⟨B, 0, none⟩) n cap] w fun e w' => e = .returned (.tuple #[.int .i64 (lenF z n).1, .bool (lenF z n).2]) ∧ w' = w := by
  by_cases h2 : n < 2
  · have Hc : Hid (lenF z n = (((n : Nat) : Int), false)) := by show _ = _; rw [lenF, if_pos h2]
    clear hz hr
    go_enter Try.func16, Try.ntmps16
    go_wp2
    go_ret2
    exact ⟨(ret_two Hc.out).symm, rfl⟩
  have c1 := hz 1 (by omega)
  have r1 := hr 1 (by omega)
  have h2b : decide ((n : Int) < 2) = false := by simp; omega
  by_cases hu : z 1 = 117
  · have hub : (z 1 != 117) = false := by simp [hu]
    have Hc : Hid (lenF z n = scanF z n 4 2) := by show _ = _; rw [lenF, if_neg h2, if_pos hu]
    clear hu
    go_enter Try.func16, Try.ntmps16
    go_wp2_with fail
    go_loop [4] (fun i => ∃ j f : Nat, j + f = 6 ∧ 2 ≤ j ∧ j ≤ n ∧ i = .int .i64 j ∧ lenF z n = scanF z n f j) (fun i => 6 - (intOf i).toNat)
    case atStart => exact ⟨2, 4, rfl, by omega, by omega, rfl, Hc.out⟩
    case round =>
      obtain ⟨j, f, hjf, hj2, hjn, rfl, hlen⟩ := hrel
      have Hl : Hid (lenF z n = scanF z n f j) := hlen
      have Hjf : Hid (j + f = 6) := hjf
      have hj6 : j ≤ 6 := by omega
      clear hlen hjf
      cases f with
      | zero =>
        have hj : ¬ j < 6 := by have := Hjf.out; omega
        clear hz hr
        go_wp2_with fail
        go_ret2
        exact ⟨(ret_two Hl.out).symm, rfl⟩
      | succ f =>
        have hj : j < 6 := by have := Hjf.out; omega
        have Hi : Hid (scanF z n (f + 1) j = if j = n ∨ hexB (z j) = false then (((j : Nat) : Int), false) else scanF z n f (j + 1)) := rfl
        by_cases hjn' : j = n
        · have hjb : ((j : Int) == (n : Int)) = true := by simp [hjn']
          have Hn : Hid (lenF z n = (((j : Nat) : Int), false)) := by show _ = _; rw [Hl.out, Hi.out, if_pos (.inl hjn')]
          clear hjn' hz hr
          go_wp2_with fail
          go_ret2
          exact ⟨(ret_two Hn.out).symm, rfl⟩
        · have hjb : ((j : Int) == (n : Int)) = false := by simp; omega
          have cj := hz j (by omega)
          cases hx : hexB (z j)
          · have Hn : Hid (lenF z n = (((j : Nat) : Int), false)) := by show _ = _; rw [Hl.out, Hi.out, if_pos (.inr hx)]
            clear hz hr
            go_wp2_with (go_at_call 24; refine (isHex _ _).mono ?_; rintro e w' ⟨rfl, rfl⟩)
            go_ret2
            exact ⟨(ret_two Hn.out).symm, rfl⟩
          · have Hn : Hid (lenF z n = scanF z n f (j + 1)) := by show _ = _; rw [Hl.out, Hi.out, if_neg (by rw [hx]; simp [hjn'])]
            clear hz hr
            go_wp2_with (go_at_call 24; refine (isHex _ _).mono ?_; rintro e w' ⟨rfl, rfl⟩)
            go_round
            case rel => exact ⟨j + 1, f, by have := Hjf.out; omega, by omega, by omega, by go_num, Hn.out⟩
            case measure => simp [intOf]; omega
  · have hub : (z 1 != 117) = true := by simp [hu]
    have Hc : Hid (lenF z n = if simpleB (z 1) = true then (2, true) else (1, false)) := by show _ = _; rw [lenF, if_neg h2, if_neg hu]
    clear hu hz hr
    go_enter Try.func16, Try.ntmps16
    go_wp2_with fail
    refine (idxLit _ _ r1.1 r1.2).mono ?_
    rintro e w' ⟨v, rfl, hv, rfl⟩
    have Hv : Hid (v < 0 ↔ simpleB (z 1) = false) := hv
    clear hv
    by_cases hv0 : v < 0
    · have Hn : Hid (lenF z n = (1, false)) := by show _ = _; rw [Hc.out, Hv.out.1 hv0]; rfl
      go_wp2_with fail
      go_ret2
      exact ⟨(ret_two Hn.out).symm, rfl⟩
    · have Hn : Hid (lenF z n = (2, true)) := by
        show _ = _
        rw [Hc.out, if_pos]
        cases hs : simpleB (z 1)
        · exact absurd (Hv.out.2 hs) hv0
        · rfl
      go_wp2_with fail
      go_ret2
      exact ⟨(ret_two Hn.out).symm, rfl⟩

set_option maxHeartbeats 1000000 in
theorem zzLen (B n cap : Nat) (z : Nat → Int) (w : World) (hn : n ≤ 1048576) (hz : ∀ i, i < n → w.cell? ⟨B, i, none⟩ = some (.int .u8 (z i))) (hr : ∀ i, i < n → 0 ≤ z i ∧ z i ≤ 255) :
    Calls Try.prog 8 #[.slice (some ⟨B, 0, none⟩) n cap] w fun e w' => e = .returned (.tuple #[.int .i64 (lenF z n).1, .bool (lenF z n).2]) ∧ w' = w := by
  go_enter Try.func8, Try.ntmps8
  go_wp2_with fail
  refine (escLen B n cap z _ hn hz hr).mono ?_
  rintro e w' ⟨rfl, rfl⟩
  clear hz hr
  go_wp2_with fail
  go_ret2
  exact ⟨rfl, rfl⟩

end Go.Proofs.Qxb6605258a.Esc

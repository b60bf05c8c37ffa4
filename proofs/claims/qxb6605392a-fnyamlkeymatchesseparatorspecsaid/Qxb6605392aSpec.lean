import Derived.Test.Qxb6605392aKeyPlain
import Derived.Test.Qxb6605392aBySep
import Derived.Below
namespace Go.Proofs.Qxb6605392a.Yk
open Go.RowKit
set_option linter.unusedVariables false
set_option linter.unusedSimpArgs false

theorem keyAny (c : ByteArray) (w : World) (hc : c.size ≤ 4194304) : Calls Try.prog 19 #[.string c] w fun e w' => Answer c e ∧ w' = w := by
  by_cases h0 : c.size = 0
  · exact key_small c w hc (.inl h0)
  · cases ho : opensB (B c 0)
    · by_cases hq : isQ (B c 0)
      · exact key_quoted c w hc (by omega) ho hq
      · exact key_plain c w hc (by omega) ho hq
    · exact key_small c w hc (.inr ho)

theorem sepAny (c : ByteArray) (w : World) (hc : c.size ≤ 4194304) : Calls Try.prog 14 #[.string c] w fun e w' => Answer c e ∧ ∃ n, w' = w.drewN n := by
  by_cases h0 : c.size = 0
  · exact sep_small c w hc (.inl h0)
  · cases ho : opensB (B c 0)
    · by_cases hq : isQ (B c 0)
      · exact sep_quoted c w hc (by omega) ho hq
      · exact sep_plain c w hc (by omega) ho hq
    · exact sep_small c w hc (.inr ho)

set_option maxRecDepth 100000 in
set_option maxHeartbeats 400000 in
theorem zzKey (c : ByteArray) (w : World) (hc : c.size ≤ 4194304) :
    Calls Try.prog 13 #[.string c] w fun e w' => Answer c e ∧ w' = w := by
  go_enter Try.func13, Try.ntmps13
  go_wp2_with fail
  refine (keyAny c _ hc).mono ?_
  rintro e w' ⟨h, rfl⟩
  have H : Hid (Answer c e) := h
  rcases h with ⟨lo, hi, v, _, rfl⟩ | ⟨_, rfl⟩
  · go_wp2_with fail
    go_ret3
    exact ⟨H.out, rfl⟩
  · go_wp2_with fail
    go_ret3
    exact ⟨H.out, rfl⟩

set_option maxRecDepth 100000 in
set_option maxHeartbeats 1000000 in
theorem bytesOK1 (a : ByteArray) (w : World) (w0 : a.size ≤ 2 ^ 63 - 1) :
    Calls Try.prog 12 #[.string a] w fun e w' => (∃ x, e = .returned (.bool x)) ∧ w' = w := by
  go_enter Try.func12, Try.ntmps12
  go_wp2
  all_goals
    go_ret
    exact ⟨⟨_, rfl⟩, rfl⟩

set_option maxRecDepth 100000 in
set_option maxHeartbeats 1000000 in
theorem specWalk (c : ByteArray) (w : World) (w0 : c.size ≤ 2 ^ 63 - 1) :
    Calls Try.prog 5 #[.string c] w fun e w' => e = .returned (.bool true) ∧ Below w.heap.size w w' := by
  go_enter Try.func5, Try.ntmps5
  go_wp2_with fail
  refine (bytesOK1 c _ w0).mono ?_
  rintro r w' ⟨⟨x, rfl⟩, rfl⟩
  cases x
  · go_wp2_with fail
    go_ret
    exact ⟨rfl, Below.refl _ _⟩
  by_cases h0 : 1048576 < c.size
  · go_wp2_with fail
    go_ret
    exact ⟨rfl, Below.refl _ _⟩
  have d0 : decide (1048576 < (c.size : Int)) = false := decide_eq_false (by omega)
  go_wp2_with fail
  refine (zzKey c _ (by omega)).mono ?_
  rintro r1 w1 ⟨hans1, rfl⟩
  rcases hans1 with ⟨lo, hi, v, hk, rfl⟩ | ⟨hno, rfl⟩
  · have HK : Hid (IsKey c lo hi v) := hk
    clear hk
    go_wp2_with fail
    refine (sepAny c _ (by omega)).mono ?_
    rintro r2 w2 ⟨hans2, n, rfl⟩
    rcases hans2 with ⟨lo', hi', v', hk', rfl⟩ | ⟨hno', _⟩
    · obtain ⟨rfl, rfl, rfl⟩ := hk'.one HK.out
      clear hk' HK
      go_wp2_with fail
      go_ret
      exact ⟨rfl, below_drewN (Below.refl _ _) _⟩
    · exact absurd HK.out (hno' _ _ _)
  · have HN : Hid (∀ lo hi v, ¬ IsKey c lo hi v) := hno
    clear hno
    go_wp2_with fail
    refine (sepAny c _ (by omega)).mono ?_
    rintro r2 w2 ⟨hans2, n, rfl⟩
    rcases hans2 with ⟨lo', hi', v', hk', _⟩ | ⟨_, rfl⟩
    · exact absurd hk' (HN.out _ _ _)
    · clear HN
      go_wp2_with fail
      go_ret
      exact ⟨rfl, below_drewN (Below.refl _ _) _⟩

end Go.Proofs.Qxb6605392a.Yk

import Derived.Test.Qxb6605324aRows
import Derived.Test.Qxb6605324aAln
import Derived.WalkKit
import Derived.ProofKit
import Derived.OpenShut
import Derived.ShutString
namespace Go.Proofs.Qxb6605324a.fnAlphanumericOrSelfAndSplit
open Go.ChangeShapes Go.WideShapes Go.ChangeAt Go.RowKit
open Go.ChangeMaps (open_string shut_string)
set_option linter.unusedVariables false      -- a walk need not use every 'w<i>' (that an integer argument fits its kind)

theorem own : ownKnob Try.prog.godebug = none := by kernel_rfl

set_option maxRecDepth 100000 in
set_option maxHeartbeats 1000000 in
theorem bytesOK (a b c : ByteArray) (w : World) (w0 : a.size ≤ 2 ^ 63 - 1) (w1 : b.size ≤ 2 ^ 63 - 1) (w2 : c.size ≤ 2 ^ 63 - 1) :
    Calls Try.prog 13 #[.string a, .string b, .string c] w fun e w' => (∃ x, e = .returned (.bool x)) ∧ w' = w := by
  go_enter Try.func13, Try.ntmps13
  go_wp2
  all_goals
    go_ret
    exact ⟨⟨_, rfl⟩, rfl⟩

set_option maxRecDepth 100000 in
set_option maxHeartbeats 1000000 in
theorem walk (a0 : ByteArray) (a1 : ByteArray) (a2 : ByteArray) (w0 : a0.size ≤ maxLen) (w1 : a1.size ≤ maxLen) (w2 : a2.size ≤ maxLen) (w : World) :
    Calls Try.prog 6 #[.string a0, .string a1, .string a2] w fun e w' => e = .returned (.bool true) ∧ Grown w w' := by
  unfold maxLen at w0 w1 w2
  go_enter Try.func6, Try.ntmps6
  go_wp2_with fail
  refine (bytesOK a0 a1 a2 _ w0 w1 w2).mono ?_
  rintro r w' ⟨⟨x, rfl⟩, rfl⟩
  cases x
  · go_wp2_with fail
    go_ret
    exact ⟨rfl, Grown.refl _⟩
  by_cases h0 : 262144 < a0.size
  · go_wp2_with fail
    go_ret
    exact ⟨rfl, Grown.refl _⟩
  by_cases h1 : 262144 < a1.size
  · go_wp2_with fail
    go_ret
    exact ⟨rfl, Grown.refl _⟩
  by_cases h2 : 262144 < a2.size
  · go_wp2_with fail
    go_ret
    exact ⟨rfl, Grown.refl _⟩
  go_wp2_with fail
  refine (Aln.zzAlnOr a0 a0 _ (by omega)).mono ?_
  rintro r w3 ⟨rfl, rfl⟩
  rw [Aln.okAll_self]
  go_wp2_with fail
  have hsz : (a0 ++ a1).size ≤ 1048576 := by rw [ByteArray.size_append]; omega
  refine (Aln.zzAlnOr (a0 ++ a1) (a0 ++ a1) _ hsz).mono ?_
  rintro r w4 ⟨rfl, rfl⟩
  rw [Aln.okAll_self]
  go_wp2_with fail
  refine (Aln.zzAlnOr (a0 ++ a1) a2 _ hsz).mono ?_
  rintro r w5 ⟨rfl, rfl⟩
  rw [Aln.data_append, Aln.okAll_append]
  obtain ⟨p, hp⟩ : ∃ p, Aln.okAll a0.data.toList a2.data.toList = p := ⟨_, rfl⟩
  obtain ⟨q, hq⟩ : ∃ q, Aln.okAll a1.data.toList a2.data.toList = q := ⟨_, rfl⟩
  rw [hp, hq]
  have Hp : Hid (Aln.okAll a0.data.toList a2.data.toList = p) := hp
  have Hq : Hid (Aln.okAll a1.data.toList a2.data.toList = q) := hq
  clear hp hq
  go_wp2_with fail
  refine (Aln.zzAlnOr a0 a2 _ (by omega)).mono ?_
  rintro r w6 ⟨rfl, rfl⟩
  rw [Hp.out]
  cases p
  · go_wp2_with fail
    go_ret
    exact ⟨rfl, Grown.refl _⟩
  · go_wp2_with fail
    refine (Aln.zzAlnOr a1 a2 _ (by omega)).mono ?_
    rintro r w7 ⟨rfl, rfl⟩
    rw [Hq.out]
    go_wp2_with fail
    go_ret
    exact ⟨Aln.ret_bool (by simp), Grown.refl _⟩

set_option maxRecDepth 100000 in
theorem lifted (os : Os) (started : os.Started) (H : Type) (enc : TypeId × Value → H) :
    ReturnsInHanded {} Try.checked os 6 .any (Rows.fnAlphanumericOrSelfAndSplitSpec.pre6 enc Try.prog Try.f6 Rows.fnAlphanumericOrSelfAndSplitRow.domain false) (Rows.fnAlphanumericOrSelfAndSplitSpec.post enc Try.prog Try.f6 false true false false) := by
  refine returnsInHanded_of_change (C := Try.checked) own started (by kernel_rfl) Try.func6
    (ChangeSpec.witness6 (enc := enc) (C := Try.checked) false ⟨#[], #[.string ByteArray.empty, .string ByteArray.empty, .string ByteArray.empty], []⟩ 8 (by kernel_rfl) (by kernel_rfl) (by kernel_rfl) (by kernel_rfl)) ?_
  intro W base args ds gs before hval0 hW hcnd _
  have hval : ∀ (j : Nat) t v, Try.f6.params[j]? = some t → args[j]? = some v → Value.okWide Try.prog W .any base t v := hval0
  have hW' := hW
  obtain ⟨p, q, hA0, hV, rfl, hfz, hnd⟩ := hW
  have hA : DataW.TrodAll enc Try.prog W 0 (fun _ => true) true Try.f6.params.toList args.toList ds p := hA0
  rw [Try.params6] at hA hval
  obtain ⟨v0, vs0, d0, ds0, p0, q0, hargs, rfl, rfl, h0, r0⟩ := trodAll_cons hA
  obtain ⟨v1, vs1, d1, ds1, p1, q1, rfl, rfl, rfl, h1, r1⟩ := trodAll_cons r0
  obtain ⟨v2, vs2, d2, ds2, p2, q2, rfl, rfl, rfl, h2, r2⟩ := trodAll_cons r1
  obtain ⟨rfl, rfl, rfl⟩ := trodAll_nil r2
  obtain rfl : args = #[v0, v1, v2] := by cases args; simp_all
  obtain ⟨rfl, rfl⟩ := trodVars_none hV
  obtain ⟨a0, rfl, rfl, rfl, w0⟩ := open_string Try.underlying9 (hval 0 9 v0 rfl rfl) h0
  obtain ⟨a1, rfl, rfl, rfl, w1⟩ := open_string Try.underlying9 (hval 1 9 v1 rfl rfl) h1
  obtain ⟨a2, rfl, rfl, rfl, w2⟩ := open_string Try.underlying9 (hval 2 9 v2 rfl rfl) h2
  clear hA0 hval0
  simp only [List.append_nil] at hW'
  refine (walk a0 a1 a2 w0 w1 w2 W).mono fun e W' ⟨he, hg⟩ => ?_
  subst he
  exact ⟨_, rfl, post_of_same (pa := []) (pv := []) hW' (fun _ _ _ => (trodAll_cons_mk (shut_bool Try.underlying4 _) trodAll_mk0)) (fun sp _ => (trodAll_cons_mk (shut_string Try.underlying9 w0) (trodAll_cons_mk (shut_string Try.underlying9 w1) (trodAll_cons_mk (shut_string Try.underlying9 w2) trodAll_mk0)))) (fun _ _ => rfl) rfl
    (hg.frame _) hg.2.1 (ok_one (by kernel_rfl) rfl (okWide_bool_mk Try.underlying4 _))⟩

theorem over : Rows.fnAlphanumericOrSelfAndSplitRow.holds Try.pinned (OpenSpec.ofChange Rows.fnAlphanumericOrSelfAndSplitSpec) :=
  OpenClaim.holds_of_wide 6 Try.f6 rfl rfl rfl rfl rfl rfl rfl ⟨rfl, rfl, rfl, rfl, rfl⟩ rfl rfl rfl rfl rfl (by kernel_rfl) Try.func6 (by kernel_rfl)
    (of_decide_eq_true (by kernel_rfl)) (by unfold Func.isWrapper; first | (rw [if_pos (by decide +kernel)]; kernel_rfl) | (rw [if_neg (by decide +kernel)]; exact ⟨rfl, rfl⟩))
    (fun os started H enc _ => lifted os started H enc)

theorem proved : Rows.FnAlphanumericOrSelfAndSplitSaid :=
  over
#print axioms proved
end Go.Proofs.Qxb6605324a.fnAlphanumericOrSelfAndSplit

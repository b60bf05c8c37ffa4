import Derived.Test.Qxb6605324aAln
import Derived.RowKit3
namespace Go.Proofs.Qxb6605324a.Aln
open Go.RowKit
set_option linter.unusedVariables false
set_option linter.unusedSimpArgs false

set_option maxRecDepth 100000 in
set_option maxHeartbeats 1000000 in
theorem bytesOK2 (a b : ByteArray) (w : World) (w0 : a.size ≤ 2 ^ 63 - 1) (w1 : b.size ≤ 2 ^ 63 - 1) :
    Calls Try.prog 10 #[.string a, .string b] w fun e w' => (∃ x, e = .returned (.bool x)) ∧ w' = w := by
  go_enter Try.func10, Try.ntmps10
  go_wp2
  all_goals
    go_ret
    exact ⟨⟨_, rfl⟩, rfl⟩

theorem or_alnum : ∀ c : Fin 256, (decide (97 ≤ bits .or .u8 (c.val : Int) 32 ∧ bits .or .u8 (c.val : Int) 32 ≤ 122) || decide (((c.val : Int) - 48) % 256 < 10)) = alnumB c.val := by decide +kernel

set_option maxRecDepth 100000 in
set_option maxHeartbeats 1000000 in
theorem zzAlnum (c : Int) (w : World) (h0 : 0 ≤ c) (h1 : c ≤ 255) :
    Calls Try.prog 11 #[.int .u8 c] w fun e w' => e = .returned (.bool (alnumB c)) ∧ w' = w := by
  have H := or_alnum ⟨c.toNat, by omega⟩
  have e1 : ((c.toNat : Nat) : Int) = c := by omega
  simp only [e1] at H
  have HH : Hid ((decide (97 ≤ bits .or .u8 c 32 ∧ bits .or .u8 c 32 ≤ 122) || decide ((c - 48) % 256 < 10)) = alnumB c) := H
  clear H e1
  go_enter Try.func11, Try.ntmps11
  go_wp2
  all_goals
    go_ret
    refine ⟨ret_bool ?_, rfl⟩
    rw [← HH.out]
    rw [Bool.eq_iff_iff]
    simp only [decide_eq_true_eq, Bool.or_eq_true, Bool.false_eq_true, false_iff, true_iff]
    omega

theorem contains_snoc (l : List UInt8) (a c : UInt8) : (l ++ [a]).contains c = (l.contains c || a == c) := by
  rw [Bool.eq_iff_iff]
  simp
  constructor
  · rintro (h | h)
    · exact .inl h
    · exact .inr h.symm
  · rintro (h | h)
    · exact .inl h
    · exact .inr h.symm

theorem step_no' {s : ByteArray} {o : List UInt8} {k : Nat} (hlt : k < s.size) (hc : okB o s[k] = false) : okAll (s.data.toList.take (k + 1)) o = false := by
  rw [take_snoc s k hlt]
  unfold okAll
  rw [List.all_append]
  simp [hc]

theorem step_yes' {s : ByteArray} {o : List UInt8} {k : Nat} (hlt : k < s.size) (hc : okB o s[k] = true) : okAll (s.data.toList.take (k + 1)) o = okAll (s.data.toList.take k) o := by
  rw [take_snoc s k hlt]
  unfold okAll
  rw [List.all_append]
  simp [hc]

theorem zero29 (w : World) : (zeroValue 29).run Try.prog w = .ok (.agg (Array.replicate 256 (.bool false))) w := by kernel_rfl

theorem zeros : ∃ X : Array Value, (∀ i, i < 256 → X[i]? = some (.bool false)) ∧ ∀ w : World, (zeroValue 29).run Try.prog w = .ok (.agg X) w :=
  ⟨Array.replicate 256 (.bool false), fun i hi => by simp [hi], zero29⟩

/-- The table: 256 bools from the head of block B. -/
def Tab (wr : World) (B : Nat) (f : Nat → Bool) : Prop := ∀ i, i < 256 → wr.cell? ⟨B, i, none⟩ = some (.bool (f i)) ∧ wr.frozen? ⟨B, i, none⟩ = false

theorem tab_start (w : World) (X : Array Value) (hX : ∀ i, i < 256 → X[i]? = some (.bool false)) : Tab (w.alloc (.cells X 29)) w.heap.size (fun _ => false) := by
  intro i hi
  have hb : (w.alloc (.cells X 29)).heap[w.heap.size]? = some (.cells X 29 (0, 0)) := (MapKept.heap_alloc w _).1
  constructor
  · unfold World.cell?; rw [hb]; exact hX i hi
  · unfold World.frozen?; rw [hb]; simp

theorem Tab.store {wr : World} {B : Nat} {f : Nat → Bool} (h : Tab wr B f) (k : Nat) (hk : k < 256) (x : Bool) : Tab (wr.setCell ⟨B, k, none⟩ (.bool x)) B (fun i => if i = k then x else f i) := by
  intro i hi
  obtain ⟨h1, h2⟩ := h i hi
  obtain ⟨k1, k2⟩ := h k hk
  constructor
  · by_cases e : i = k
    · subst e
      simp only [if_pos]
      go_simp
    · simp only [if_neg e]
      go_simp
  · rw [World.frozen?_setCell]; exact h2

set_option maxRecDepth 100000 in
set_option maxHeartbeats 1000000 in
theorem exactWalk (a0 a1 : ByteArray) (w : World) (w0 : a0.size ≤ 2 ^ 63 - 1) (w1 : a1.size ≤ 2 ^ 63 - 1) :
    Calls Try.prog 5 #[.string a0, .string a1] w fun e w' => e = .returned (.bool true) ∧ Grown w w' := by
  go_enter Try.func5, Try.ntmps5
  go_wp2_with fail
  refine (bytesOK2 a0 a1 _ w0 w1).mono ?_
  rintro r w' ⟨⟨x, rfl⟩, rfl⟩
  cases x
  · go_wp2_with fail
    go_ret
    exact ⟨rfl, Grown.refl _⟩
  by_cases h0 : 524288 < a0.size
  · go_wp2_with fail
    go_ret
    exact ⟨rfl, Grown.refl _⟩
  by_cases h1 : 524288 < a1.size
  · go_wp2_with fail
    go_ret
    exact ⟨rfl, Grown.refl _⟩
  have d0 : decide (524288 < (a0.size : Int)) = false := by simp; omega
  have d1 : decide (524288 < (a1.size : Int)) = false := by simp; omega
  obtain ⟨X, hX, hz⟩ := zeros
  have HX : Hid (∀ i, i < 256 → X[i]? = some (.bool false)) := hX
  clear hX
  go_wp2_with fail
  go_loopw [6] (fun i wr => ∃ (k : Nat) (f : Nat → Bool), k ≤ 256 ∧ i = .int .i64 k ∧ Grown w' wr ∧ Tab wr w'.heap.size f ∧ ∀ j, j < k → f j = alnumB j) (fun i _ => 256 - (intOf i).toNat)
  case atStart => exact ⟨0, _, by omega, rfl, (Grown.refl _).alloc _ _, tab_start w' X HX.out, fun j hj => absurd hj (Nat.not_lt_zero _)⟩
  case round =>
    obtain ⟨k, f, hk, rfl, hb, ht, hf⟩ := hrel
    by_cases hlt : k < 256
    · obtain ⟨ck, fk⟩ := ht k hlt
      have HT : Hid (Tab wr w'.heap.size f) := ht
      have HF : Hid (∀ j, j < k → f j = alnumB j) := hf
      clear ht hf
      go_wp2_with (go_at_call 11; refine (zzAlnum _ _ (by omega) (by omega)).mono ?_; rintro e w2 ⟨rfl, rfl⟩)
      go_roundw
      case rel =>
        refine ⟨k + 1, _, by omega, by go_num, hb.setCell (by exact Nat.le_refl _) _, HT.out.store k hlt _, fun j hj => ?_⟩
        by_cases e : j = k
        · simp [e]
        · simp only [if_neg e]
          exact HF.out j (by omega)
      case measure => simp [intOf]; omega
    · have HF : Hid (∀ j, j < 256 → f j = alnumB j) := fun j hj => hf j (by omega)
      have HT : Hid (Tab wr w'.heap.size f) := ht
      have HB : Hid (Grown w' wr) := hb
      clear ht hf hb
      go_wp2_with fail
      go_loopw [7] (fun i wq => ∃ (k : Nat) (g : Nat → Bool), k ≤ a1.size ∧ i = .int .i64 k ∧ Grown w' wq ∧ Tab wq w'.heap.size g ∧ ∀ j, j < 256 → g j = (alnumB j || (a1.data.toList.take k).contains j.toUInt8)) (fun i _ => a1.size - (intOf i).toNat)
      case atStart => exact ⟨0, f, Nat.zero_le _, rfl, HB.out, HT.out, fun j hj => by simp [HF.out j hj]⟩
      case round =>
        obtain ⟨q, g, hq, rfl, hb, ht, hg⟩ := hrel
        by_cases hlq : q < a1.size
        · have hcb : a1[q].toNat < 256 := UInt8.toNat_lt _
          obtain ⟨ck, fk⟩ := ht a1[q].toNat hcb
          have HT2 : Hid (Tab wr w'.heap.size g) := ht
          have HG : Hid (∀ j, j < 256 → g j = (alnumB j || (a1.data.toList.take q).contains j.toUInt8)) := hg
          have HB2 : Hid (Grown w' wr) := hb
          clear ht hg hb HT HF HB
          go_wp2_with fail
          go_roundw
          case rel =>
            refine ⟨q + 1, _, by omega, by go_num, HB2.out.setCell (by exact Nat.le_refl _) _, HT2.out.store a1[q].toNat hcb _, fun j hj => ?_⟩
            rw [take_snoc a1 q hlq, contains_snoc]
            by_cases e : j = a1[q].toNat
            · subst e; simp
            · simp only [if_neg e]
              rw [HG.out j hj]
              have hne : (a1[q] == j.toUInt8) = false := by
                rw [beq_eq_false_iff_ne]
                intro h
                apply e
                rw [h]
                simp [Nat.mod_eq_of_lt hj]
              rw [hne, Bool.or_false]
          case measure => simp [intOf]; omega
        · have HG : Hid (∀ j, j < 256 → g j = (alnumB j || a1.data.toList.contains j.toUInt8)) := fun j hj => by
            have h := hg j hj
            rw [List.take_of_length_le (by simp; omega)] at h
            exact h
          have HB2 : Hid (Grown w' wr) := hb
          have HT2 : Hid (∀ c : UInt8, wr.cell? ⟨w'.heap.size, c.toNat, none⟩ = some (.bool (okB a1.data.toList c))) := fun c => by
            rw [(ht c.toNat (UInt8.toNat_lt _)).1, HG.out c.toNat (UInt8.toNat_lt _)]
            simp [okB]
          clear ht hg hb HT HF HB HG
          go_wp2_with fail
          go_loop [8, 9] (fun t i => ∃ (k : Nat) (bad : Int), k ≤ a0.size ∧ 0 ≤ bad ∧ bad ≤ k ∧ i = .int .i64 k ∧ t = .int .i64 bad ∧ (bad = 0 ↔ okAll (a0.data.toList.take k) a1.data.toList = true)) (fun _ i => a0.size - (intOf i).toNat)
          case atStart => exact ⟨0, 0, Nat.zero_le _, by omega, by omega, rfl, rfl, by simp [okAll]⟩
          case round =>
            obtain ⟨p, bad, hp, hb0, hb1, rfl, rfl, hiff⟩ := hrel
            have HI : Hid (bad = 0 ↔ okAll (a0.data.toList.take p) a1.data.toList = true) := hiff
            clear hiff
            by_cases hlp : p < a0.size
            · have hcb : a0[p].toNat < 256 := UInt8.toNat_lt _
              have ck := HT2.out a0[p]
              cases hok : okB a1.data.toList a0[p]
              · rw [hok] at ck
                have N : Hid (okAll (a0.data.toList.take (p + 1)) a1.data.toList = false) := step_no' hlp hok
                clear hok
                go_wp2_with fail
                go_round
                case rel => exact ⟨p + 1, bad + 1, by omega, by omega, by omega, by go_num, by go_num, by rw [N.out]; simp; omega⟩
                case measure => simp [intOf]; omega
              · rw [hok] at ck
                have Y : Hid (okAll (a0.data.toList.take (p + 1)) a1.data.toList = okAll (a0.data.toList.take p) a1.data.toList) := step_yes' hlp hok
                clear hok
                go_wp2_with fail
                go_round
                case rel => exact ⟨p + 1, bad, by omega, by omega, by omega, by go_num, rfl, by rw [Y.out]; exact HI.out⟩
                case measure => simp [intOf]; omega
            · have HF : Hid (okAll a0.data.toList a1.data.toList = decide (bad = 0)) := by
                have h := HI.out
                rw [List.take_of_length_le (by simp; omega)] at h
                show _ = _
                rw [Bool.eq_iff_iff, decide_eq_true_eq]
                exact h.symm
              clear HI HT2
              go_wp2_with fail
              refine (zzAlnOr a0 a1 _ (by omega)).mono ?_
              rintro r w8 ⟨rfl, rfl⟩
              rw [HF.out]
              by_cases hz0 : bad = 0
              · have hzb : (bad == 0) = true := by simp [hz0]
                rw [decide_eq_true hz0]
                clear hz0
                go_wp2_with fail
                go_ret
                exact ⟨rfl, HB2.out⟩
              · have hzb : (bad == 0) = false := by simp [hz0]
                rw [decide_eq_false hz0]
                clear hz0
                go_wp2_with fail
                go_ret
                exact ⟨rfl, HB2.out⟩

end Go.Proofs.Qxb6605324a.Aln

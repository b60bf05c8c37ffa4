import Derived.Test.Qxb6003813aClone
namespace Go.Proofs.Qxb6003813a.Lk
open Go.RowKit
set_option linter.unusedVariables false

def SRow (w : World) (a : Option Addr) (n : Nat) (ss : List ByteArray) : Prop :=
  ss.length = n ∧ ∀ i, i < n → ∃ b off, a = some ⟨b, off, none⟩ ∧ b < w.heap.size ∧ w.cell? ⟨b, off + i, none⟩ = some (.string (ss.getD i ByteArray.empty))

def BRow (w : World) (a : Option Addr) (n : Nat) (bs : List Bool) : Prop :=
  bs.length = n ∧ ∀ i, i < n → ∃ b off, a = some ⟨b, off, none⟩ ∧ b < w.heap.size ∧ w.cell? ⟨b, off + i, none⟩ = some (.bool (bs.getD i false))

theorem SRow.kept {w w1 : World} {a : Option Addr} {n : Nat} {ss : List ByteArray} (h : SRow w a n ss) (hb : Below w.heap.size w w1) : SRow w1 a n ss :=
  ⟨h.1, fun i hi => by
    obtain ⟨b, off, e, hlt, hc⟩ := h.2 i hi
    exact ⟨b, off, e, Nat.lt_of_lt_of_le hlt hb.size, by rw [hb.cell (p := ⟨b, off + i, none⟩) hlt]; exact hc⟩⟩

theorem BRow.kept {w w1 : World} {a : Option Addr} {n : Nat} {bs : List Bool} (h : BRow w a n bs) (hb : Below w.heap.size w w1) : BRow w1 a n bs :=
  ⟨h.1, fun i hi => by
    obtain ⟨b, off, e, hlt, hc⟩ := h.2 i hi
    exact ⟨b, off, e, Nat.lt_of_lt_of_le hlt hb.size, by rw [hb.cell (p := ⟨b, off + i, none⟩) hlt]; exact hc⟩⟩

theorem SRow.parts {w : World} {a : Option Addr} {n : Nat} {ss : List ByteArray} (h : SRow w a n ss) : n = 0 ∨ (0 < n ∧ ∃ b off, a = some ⟨b, off, none⟩ ∧ b < w.heap.size ∧ ∀ i, i < n → w.cell? ⟨b, off + i, none⟩ = some (.string (ss.getD i ByteArray.empty))) := by
  by_cases h0 : n = 0
  · exact .inl h0
  · obtain ⟨b, off, e, hlt, _⟩ := h.2 0 (by omega)
    refine .inr ⟨by omega, b, off, e, hlt, fun i hi => ?_⟩
    obtain ⟨b', off', e', _, hc⟩ := h.2 i hi
    rw [e] at e'
    simp only [Option.some.injEq, Addr.mk.injEq] at e'
    obtain ⟨rfl, rfl, _⟩ := e'
    exact hc

theorem BRow.parts {w : World} {a : Option Addr} {n : Nat} {bs : List Bool} (h : BRow w a n bs) : n = 0 ∨ (0 < n ∧ ∃ b off, a = some ⟨b, off, none⟩ ∧ b < w.heap.size ∧ ∀ i, i < n → w.cell? ⟨b, off + i, none⟩ = some (.bool (bs.getD i false))) := by
  by_cases h0 : n = 0
  · exact .inl h0
  · obtain ⟨b, off, e, hlt, _⟩ := h.2 0 (by omega)
    refine .inr ⟨by omega, b, off, e, hlt, fun i hi => ?_⟩
    obtain ⟨b', off', e', _, hc⟩ := h.2 i hi
    rw [e] at e'
    simp only [Option.some.injEq, Addr.mk.injEq] at e'
    obtain ⟨rfl, rfl, _⟩ := e'
    exact hc

set_option maxRecDepth 100000 in
set_option maxHeartbeats 400000 in
theorem cloneStrings_0 (a : Addr) (cap : Nat) (w : World) :
    Calls Try.prog 9 #[.slice (some a) 0 cap] w fun e w' => e = .returned (.slice (some ⟨w.heap.size, 0, none⟩) 0 0) ∧ Below w.heap.size w w' := by
  obtain ⟨X, hX, hmk0⟩ := make_run (t := 24) (e := 9) Try.underlying24 info9 (by decide) 0 (by decide)
  have hmk : ∀ w : World, (Instr.makeSlice 24 (.int .i64 0) (.int .i64 0)).run Try.prog w = .ok (.slice (some ⟨w.heap.size, 0, none⟩) 0 0) (w.alloc (.cells X 9)) := hmk0
  clear hmk0
  have hcp := fun w d => run_copy_none (P := Try.prog) w 24 24 3 9 d (some a) 0 0 0 cap Try.underlying24 (size_one info9) rfl
  have qs : ∀ (w : World) (a : Option Addr) (n c : Nat), (binOp .eql 24 (.slice a n c) (.slice none 0 0)).run Try.prog w = .ok (.bool a.isNone) w := fun w a n c => Lib.run_eql_slice_nil w _ _ a n c 0 0 Try.underlying24
  clear hX
  go_enter Try.func9, Try.ntmps9
  go_wp2
  go_ret
  exact ⟨rfl, (Below.refl _ _).alloc (Nat.le_refl _) _⟩

set_option maxRecDepth 100000 in
set_option maxHeartbeats 400000 in
theorem cloneBools_0 (a : Addr) (cap : Nat) (w : World) :
    Calls Try.prog 10 #[.slice (some a) 0 cap] w fun e w' => e = .returned (.slice (some ⟨w.heap.size, 0, none⟩) 0 0) ∧ Below w.heap.size w w' := by
  obtain ⟨X, hX, hmk0⟩ := make_run (t := 25) (e := 4) Try.underlying25 info4 (by decide) 0 (by decide)
  have hmk : ∀ w : World, (Instr.makeSlice 25 (.int .i64 0) (.int .i64 0)).run Try.prog w = .ok (.slice (some ⟨w.heap.size, 0, none⟩) 0 0) (w.alloc (.cells X 4)) := hmk0
  clear hmk0
  have hcp := fun w d => run_copy_none (P := Try.prog) w 25 25 3 4 d (some a) 0 0 0 cap Try.underlying25 (size_one info4) rfl
  have qs : ∀ (w : World) (a : Option Addr) (n c : Nat), (binOp .eql 25 (.slice a n c) (.slice none 0 0)).run Try.prog w = .ok (.bool a.isNone) w := fun w a n c => Lib.run_eql_slice_nil w _ _ a n c 0 0 Try.underlying25
  clear hX
  go_enter Try.func10, Try.ntmps10
  go_wp2
  go_ret
  exact ⟨rfl, (Below.refl _ _).alloc (Nat.le_refl _) _⟩

theorem cloneS {a : Option Addr} {n cap : Nat} {ss : List ByteArray} {w : World} (h : SRow w a n ss) (hc : a = none → cap = 0) (hn : n ≤ 1048576) :
    Calls Try.prog 9 #[.slice a n cap] w fun e w' => ∃ a' c', e = .returned (.slice a' n c') ∧ SRow w' a' n ss ∧ Below w.heap.size w w' := by
  rcases h.parts with rfl | ⟨h0, b, off, rfl, hb, hcell⟩
  · cases a with
    | none =>
      obtain rfl := hc rfl
      refine (cloneStrings_nil w).mono ?_
      rintro e w' ⟨rfl, rfl⟩
      exact ⟨_, _, rfl, h, Below.refl _ _⟩
    | some a =>
      refine (cloneStrings_0 a cap w).mono ?_
      rintro e w' ⟨rfl, hb⟩
      exact ⟨_, _, rfl, ⟨h.1, fun i hi => absurd hi (Nat.not_lt_zero _)⟩, hb⟩
  · refine (cloneStrings b off n cap ss w hn h.1 hb hcell).mono ?_
    rintro e w' ⟨rfl, hbel, hsz, hcl⟩
    exact ⟨_, _, rfl, ⟨h.1, fun i hi => ⟨w.heap.size, 0, rfl, by omega, hcl i hi⟩⟩, hbel⟩

theorem cloneB {a : Option Addr} {n cap : Nat} {ss : List Bool} {w : World} (h : BRow w a n ss) (hc : a = none → cap = 0) (hn : n ≤ 1048576) :
    Calls Try.prog 10 #[.slice a n cap] w fun e w' => ∃ a' c', e = .returned (.slice a' n c') ∧ BRow w' a' n ss ∧ Below w.heap.size w w' := by
  rcases h.parts with rfl | ⟨h0, b, off, rfl, hb, hcell⟩
  · cases a with
    | none =>
      obtain rfl := hc rfl
      refine (cloneBools_nil w).mono ?_
      rintro e w' ⟨rfl, rfl⟩
      exact ⟨_, _, rfl, h, Below.refl _ _⟩
    | some a =>
      refine (cloneBools_0 a cap w).mono ?_
      rintro e w' ⟨rfl, hb⟩
      exact ⟨_, _, rfl, ⟨h.1, fun i hi => absurd hi (Nat.not_lt_zero _)⟩, hb⟩
  · refine (cloneBools b off n cap ss w hn h.1 hb hcell).mono ?_
    rintro e w' ⟨rfl, hbel, hsz, hcl⟩
    exact ⟨_, _, rfl, ⟨h.1, fun i hi => ⟨w.heap.size, 0, rfl, by omega, hcl i hi⟩⟩, hbel⟩

theorem dirWithR {a1 a2 : Option Addr} {n c1 m c2 : Nat} {ss : List ByteArray} {bs : List Bool} (rm : Bool) (e : ByteArray) {w : World} (hS : SRow w a1 n ss) (hB : BRow w a2 m bs) (hn : n ≤ 4096) (hm : m ≤ 1048576) (hlen : ∀ i, (ss.getD i ByteArray.empty).size ≤ maxLen) :
    Calls Try.prog 11 #[.slice a1 n c1, .slice a2 m c2, .bool rm] w fun r w' => r = .returned (.pointer (some ⟨w.heap.size, 0, none⟩)) ∧ Rel w rm e ss bs n w' := by
  rcases hS.parts with rfl | ⟨h0, b, off, rfl, hb, hcell⟩
  · exact dirWith0 a1 a2 c1 m c2 ss bs rm e w
  · exact dirWith a2 b off n c1 m c2 ss bs rm e w hn hm hb hcell hlen hB.1 hB.2

set_option maxRecDepth 100000 in
set_option maxHeartbeats 1000000 in
theorem bytesOK {a1 a2 : Option Addr} {n c1 m c2 : Nat} {ss : List ByteArray} (rm : Bool) (e : ByteArray) {w : World} (hS : SRow w a1 n ss) (hn : n ≤ maxLen) (hm : m ≤ maxLen) (he : e.size ≤ maxLen) (hlen : ∀ i, (ss.getD i ByteArray.empty).size ≤ maxLen) :
    Calls Try.prog 8 #[.slice a1 n c1, .slice a2 m c2, .bool rm, .string e] w fun r w' => ((r = .returned (.bool true) ∧ m ≤ 1048576) ∨ r = .returned (.bool false)) ∧ w' = w := by
  unfold maxLen at hn hm he hlen
  have key : ∀ k, k < n → ∃ b off s, a1 = some ⟨b, off, none⟩ ∧ w.cell? ⟨b, off + k, none⟩ = some (.string s) ∧ s.size ≤ 9223372036854775807 := fun k hk => by
    obtain ⟨b, off, e, _, hc⟩ := hS.2 k hk
    exact ⟨b, off, _, e, hc, hlen k⟩
  clear hS hlen
  by_cases hn1 : 1048576 < n
  · go_enter Try.func8, Try.ntmps8
    go_wp2
    go_ret
    exact ⟨.inr rfl, rfl⟩
  have hn2 : decide (1048576 < (n : Int)) = false := by simp; omega
  go_enter Try.func8, Try.ntmps8
  go_wp2
  go_loop [9, 10] (fun t i => ∃ (k : Nat) (T : Int), k ≤ n ∧ 0 ≤ T ∧ T ≤ 1048576 ∧ i = .int .i64 k ∧ t = .int .i64 T) (fun _ i => n - (intOf i).toNat)
  case atStart => exact ⟨0, n, Nat.zero_le _, by omega, by omega, rfl, rfl⟩
  case round =>
    obtain ⟨k, T, hk, hT0, hT1, rfl, rfl⟩ := hrel
    by_cases hlt : k < n
    · obtain ⟨b, off, s, rfl, hc, hs⟩ := key k hlt
      clear key
      go_wp2
      · go_ret
        exact ⟨.inr rfl, rfl⟩
      · go_ret
        exact ⟨.inr rfl, rfl⟩
      · go_round
        case rel => exact ⟨k + 1, T + s.size, by omega, by omega, by omega, by go_num, by go_num⟩
        case measure => simp [intOf]; omega
    · clear key
      by_cases hm1 : 1048576 < m
      · go_wp2
        go_ret
        exact ⟨.inr rfl, rfl⟩
      · go_wp2
        all_goals
          go_ret
          first | exact ⟨.inr rfl, rfl⟩ | exact ⟨.inl ⟨rfl, by omega⟩, rfl⟩

end Go.Proofs.Qxb6003813a.Lk

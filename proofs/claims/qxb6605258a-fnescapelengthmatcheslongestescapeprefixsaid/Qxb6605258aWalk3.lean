import Derived.Test.Qxb6605258aWalk2
namespace Go.Proofs.Qxb6605258a.Esc
open Go.RowKit
set_option linter.unusedVariables false
set_option linter.unusedSimpArgs false

theorem info5 : (Try.prog.info? 5).map (fun i => (i.zero, i.size, i.bytes)) = some (some (.int .u8 0), 1, 1) := by kernel_rfl

theorem size_one {e : TypeId} {z : Option Value} {b : Nat} (h : (Try.prog.info? e).map (fun i => (i.zero, i.size, i.bytes)) = some (z, 1, b)) : (Try.prog.info? e).map (·.size) = some 1 := by
  cases hq : Try.prog.info? e <;> simp [hq] at h ⊢
  exact h.2.1

/-- The make of 'n' elements of one cell: a new block of n cells. -/
theorem make_run {t e : TypeId} {z : Value} {b : Nat} (ht : Try.prog.underlying t = some (.slice e)) (hi : (Try.prog.info? e).map (fun i => (i.zero, i.size, i.bytes)) = some (some z, 1, b)) (hb : b ≤ 16) (n : Nat) (hn : n ≤ 1048576) :
    ∃ X : Array Value, X.size = n ∧ ∀ w : World, (Instr.makeSlice t (.int .i64 n) (.int .i64 n)).run Try.prog w = .ok (.slice (some ⟨w.heap.size, 0, none⟩) n n) (w.alloc (.cells X e)) := by
  obtain ⟨i, hi1, hz0, hz1, hz2⟩ := info_parts hi
  refine ⟨madeCells z.cells n, size_madeCells _ _, fun w => ?_⟩
  have h := run_make (P := Try.prog) w t e i z ht hi1 hz0 .i64 .i64 n n (by omega) (by omega) (by rw [hz2]; have : b * n ≤ 16 * n := Nat.mul_le_mul_right _ hb; omega) (by omega)
  rw [hz1] at h
  simpa using h

/-- The copy of the whole into a block just laid. -/
theorem copy_run {t e : TypeId} {z : Value} {b : Nat} (ht : Try.prog.underlying t = some (.slice e)) (hi : (Try.prog.info? e).map (fun i => (i.zero, i.size, i.bytes)) = some (some z, 1, b)) (n cap : Nat) (X : Array Value) (hX : X.size = n) (sb so : Nat) (cs : List Value) (hl : cs.length = n)
    (w : World) (ha : sb < w.heap.size) (hsrc : ∀ j v, cs[j]? = some v → w.cell? ⟨sb, so + j, none⟩ = some v) (h1 : ∀ v ∈ cs, v.oneCell' = true) (ty : TypeId) :
    ∃ w' : World, (Builtin.copy_ #[t, t] ty #[.slice (some ⟨w.heap.size, 0, none⟩) n n, .slice (some ⟨sb, so, none⟩) n cap]).run Try.prog (w.alloc (.cells X e)) = .ok (goInt n) w' ∧ Below w.heap.size w w' ∧ w'.heap.size = w.heap.size + 1 ∧
      ∀ j v, cs[j]? = some v → w'.cell? ⟨w.heap.size, 0 + j, none⟩ = some v := by
  have hsz := size_one hi
  have hb : Below w.heap.size w (w.alloc (.cells X e)) := (Below.refl _ _).alloc (Nat.le_refl _) _
  have hg : (w.alloc (.cells X e)).heap[w.heap.size]? = some (.cells X e (0, 0)) := (MapKept.heap_alloc w _).1
  have h := run_copy_row (P := Try.prog) (w.alloc (.cells X e)) t t ty e w.heap.size 0 n n ⟨sb, so, none⟩ n cap X e cs ht hsz hg (by rw [hl]; exact (Nat.min_self n).symm) (fun j v hj => by rw [Addr.add_lit, hb.cell (p := ⟨sb, so + j, none⟩) (by exact ha)]; exact hsrc j v hj) (by omega) h1
  have hd : List.drop (0 + n) X.toList = [] := List.drop_of_length_le (by simp [hX])
  rw [hl, hd] at h
  simp only [List.take_zero, List.nil_append, List.append_nil] at h
  have hr := setRow_heap (w.alloc (.cells X e)) w.heap.size X cs.toArray e (0, 0) hg
  refine ⟨_, h, below_setRow hb (Nat.le_refl _) _, by simp [World.setRow], fun j v hj => ?_⟩
  rw [Nat.zero_add]
  unfold World.cell?
  rw [hr]
  simp [hj]

theorem src_ints {w : World} {b off n : Nat} {z : Nat → Int} (hc : ∀ i, i < n → w.cell? ⟨b, off + i, none⟩ = some (.int .u8 (z i))) (j : Nat) (v : Value) (hj : ((List.range n).map fun i => Value.int .u8 (z i))[j]? = some v) :
    w.cell? ⟨b, off + j, none⟩ = some v := by
  rw [List.getElem?_map] at hj
  obtain ⟨s, hs, rfl⟩ := Option.map_eq_some_iff.1 hj
  have hlt : j < n := by simpa using (List.getElem?_eq_some_iff.1 hs).1
  rw [List.getElem?_range hlt] at hs
  cases hs
  exact hc j hlt

set_option maxRecDepth 100000 in
set_option maxHeartbeats 400000 in
theorem zzLen_nil (w : World) : Calls Try.prog 8 #[.slice none 0 0] w fun e w' => e = .returned (.tuple #[.int .i64 0, .bool false]) ∧ w' = w := by
  go_enter Try.func8, Try.ntmps8
  go_wp2
  go_ret2
  exact ⟨rfl, rfl⟩

set_option maxRecDepth 100000 in
set_option maxHeartbeats 400000 in
theorem escModel_nil (w : World) : Calls Try.prog 9 #[.slice none 0 0] w fun e w' => e = .returned (.tuple #[.int .i64 0, .bool false]) ∧ w' = w := by
  go_enter Try.func9, Try.ntmps9
  go_wp2
  refine wp_loop_rounds 1 ?_
  rw [rounds_succ]
  go_wp2
  go_ret2
  exact ⟨rfl, rfl⟩

set_option maxRecDepth 100000 in
set_option maxHeartbeats 400000 in
theorem bytesOK (a : Option Addr) (n c : Nat) (w : World) (hn : n ≤ maxLen) :
    Calls Try.prog 7 #[.slice a n c] w fun e w' => e = .returned (.bool (decide (n ≤ 1048576))) ∧ w' = w := by
  unfold maxLen at hn
  by_cases h : n ≤ 1048576
  · have hd : decide (1048576 < (n : Int)) = false := by simp; omega
    go_enter Try.func7, Try.ntmps7
    go_wp2
    go_ret
    exact ⟨ret_bool (by simp [h]), rfl⟩
  · have hd : decide (1048576 < (n : Int)) = true := by simp; omega
    go_enter Try.func7, Try.ntmps7
    go_wp2
    go_ret
    exact ⟨ret_bool (by simp [h]), rfl⟩

set_option maxRecDepth 100000 in
set_option maxHeartbeats 1000000 in
/-- nil: the two answer alike. -/
theorem law_nil (w : World) : Calls Try.prog 3 #[.slice none 0 0] w fun e w' => e = .returned (.bool true) ∧ Below w.heap.size w w' := by
  have qs : ∀ (w : World) (a : Option Addr) (n c : Nat), (binOp .neq 22 (.slice a n c) (.slice none 0 0)).run Try.prog w = .ok (.bool (!a.isNone)) w := fun w a n c => run_neq_slice_nil_any w _ _ a n c 0 0 Try.underlying22
  go_enter Try.func3, Try.ntmps3
  go_wp2_with fail
  refine (bytesOK _ _ _ _ (Nat.zero_le _)).mono ?_
  rintro e w' ⟨rfl, rfl⟩
  go_wp2_with fail
  refine (zzLen_nil _).mono ?_
  rintro e w' ⟨rfl, rfl⟩
  go_wp2_with fail
  refine (escModel_nil _).mono ?_
  rintro e w' ⟨rfl, rfl⟩
  go_wp2_with fail
  go_ret
  exact ⟨rfl, Below.refl _ _⟩

set_option maxRecDepth 100000 in
set_option maxHeartbeats 1000000 in
/-- Too long a slice is let by. -/
theorem law_long (a : Addr) (n c : Nat) (w : World) (hn : n ≤ maxLen) (hl : 1048576 < n) : Calls Try.prog 3 #[.slice (some a) n c] w fun e w' => e = .returned (.bool true) ∧ Below w.heap.size w w' := by
  have hd : decide (n ≤ 1048576) = false := by simp; omega
  go_enter Try.func3, Try.ntmps3
  go_wp2_with fail
  refine (bytesOK _ _ _ _ hn).mono ?_
  rintro e w' ⟨rfl, rfl⟩
  rw [hd]
  go_wp2_with fail
  go_ret
  exact ⟨rfl, Below.refl _ _⟩

set_option maxRecDepth 100000 in
set_option maxHeartbeats 1000000 in
/-- Behind the copy. -/
theorem law_copied (a : Addr) (n c : Nat) (z : Nat → Int) (w : World) (hn : n ≤ 1048576) (hr : ∀ i, i < n → 0 ≤ z i ∧ z i ≤ 255) (X : Array Value) (w2 : World)
    (hmk : ∀ w : World, (Instr.makeSlice 22 (.int .i64 n) (.int .i64 n)).run Try.prog w = .ok (.slice (some ⟨w.heap.size, 0, none⟩) n n) (w.alloc (.cells X 5)))
    (hcp : (Builtin.copy_ #[22, 22] 3 #[.slice (some ⟨w.heap.size, 0, none⟩) n n, .slice (some a) n c]).run Try.prog (w.alloc (.cells X 5)) = .ok (goInt n) w2)
    (hb : Below w.heap.size w w2) (hc : ∀ i, i < n → w2.cell? ⟨w.heap.size, i, none⟩ = some (.int .u8 (z i))) :
    Calls Try.prog 3 #[.slice (some a) n c] w fun e w' => e = .returned (.bool true) ∧ Below w.heap.size w w' := by
  have qs : ∀ (w : World) (a : Option Addr) (n c : Nat), (binOp .neq 22 (.slice a n c) (.slice none 0 0)).run Try.prog w = .ok (.bool (!a.isNone)) w := fun w a n c => run_neq_slice_nil_any w _ _ a n c 0 0 Try.underlying22
  have hd : decide (n ≤ 1048576) = true := by simp; omega
  have hd2 : decide (1048576 < (n : Int)) = false := by simp; omega
  have Hb : Hid (Below w.heap.size w w2) := hb
  clear hb
  go_enter Try.func3, Try.ntmps3
  go_wp2_with fail
  refine (bytesOK _ _ _ _ (by unfold maxLen; omega)).mono ?_
  rintro e w' ⟨rfl, rfl⟩
  rw [hd]
  have HC : Hid (∀ i, i < n → w2.cell? ⟨w'.heap.size, i, none⟩ = some (.int .u8 (z i))) := hc
  have HR : Hid (∀ i, i < n → 0 ≤ z i ∧ z i ≤ 255) := hr
  clear hc hr hd
  go_wp2_with fail
  refine (zzLen w'.heap.size n n z _ hn HC.out HR.out).mono ?_
  rintro e w3 ⟨rfl, rfl⟩
  go_wp2_with fail
  refine (escModel w'.heap.size n n z _ hn (Nat.le_refl _) hn HC.out HR.out).mono ?_
  rintro e w4 ⟨rfl, rfl⟩
  rw [← lenF_modF]
  generalize lenF z n = p
  obtain ⟨p1, p2⟩ := p
  go_wp2_with fail
  go_ret
  exact ⟨rfl, Hb.out⟩

theorem law_some (a : Addr) (n c : Nat) (z : Nat → Int) (w : World) (hn : n ≤ 1048576) (hr : ∀ i, i < n → 0 ≤ z i ∧ z i ≤ 255)
    (hc : ∀ i, i < n → ∃ b off, a = ⟨b, off, none⟩ ∧ b < w.heap.size ∧ w.cell? ⟨b, off + i, none⟩ = some (.int .u8 (z i))) :
    Calls Try.prog 3 #[.slice (some a) n c] w fun e w' => e = .returned (.bool true) ∧ Below w.heap.size w w' := by
  obtain ⟨X, hX, hmk⟩ := make_run (t := 22) (e := 5) Try.underlying22 info5 (by decide) n hn
  by_cases h0 : n = 0
  · subst h0
    have hcp := run_copy_none (P := Try.prog) (w.alloc (.cells X 5)) 22 22 3 5 (some ⟨w.heap.size, 0, none⟩) (some a) 0 0 0 c Try.underlying22 (size_one info5) rfl
    exact law_copied a 0 c z w hn hr X _ hmk hcp ((Below.refl _ _).alloc (Nat.le_refl _) _) (fun i hi => absurd hi (Nat.not_lt_zero _))
  · obtain ⟨b, off, rfl, hb, _⟩ := hc 0 (by omega)
    have hc' : ∀ i, i < n → w.cell? ⟨b, off + i, none⟩ = some (.int .u8 (z i)) := fun i hi => by
      obtain ⟨b', off', e', _, h⟩ := hc i hi
      simp only [Addr.mk.injEq] at e'
      obtain ⟨rfl, rfl, _⟩ := e'
      exact h
    obtain ⟨w2, hcp, hbel, hsz, hcell⟩ := copy_run (t := 22) (e := 5) Try.underlying22 info5 n c X hX b off ((List.range n).map fun i => Value.int .u8 (z i)) (by simp) w hb (src_ints hc')
      (fun v hv => by obtain ⟨s, _, rfl⟩ := List.mem_map.1 hv; rfl) 3
    refine law_copied _ n c z w hn hr X w2 hmk hcp hbel (fun i hi => ?_)
    have := hcell i (.int .u8 (z i)) (by rw [List.getElem?_map, List.getElem?_range hi]; rfl)
    rwa [Nat.zero_add] at this

end Go.Proofs.Qxb6605258a.Esc

import Derived.Test.Qxb6003813aFill
import Derived.Laws.CopyOwn
namespace Go.Proofs.Qxb6003813a.Lk
open Go.RowKit
set_option linter.unusedVariables false

theorem info9 : (Try.prog.info? 9).map (fun i => (i.zero, i.size, i.bytes)) = some (some (.string ⟨#[]⟩), 1, 16) := by kernel_rfl
theorem info4 : (Try.prog.info? 4).map (fun i => (i.zero, i.size, i.bytes)) = some (some (.bool false), 1, 1) := by kernel_rfl

theorem size_one {e : TypeId} {z : Option Value} {b : Nat} (h : (Try.prog.info? e).map (fun i => (i.zero, i.size, i.bytes)) = some (z, 1, b)) : (Try.prog.info? e).map (·.size) = some 1 := by
  cases hq : Try.prog.info? e <;> simp [hq] at h ⊢
  exact h.2.1

/-- The make of 'n' elements of one cell: a new block of n cells. -/
theorem make_run {t e : TypeId} {z : Value} {b : Nat} (ht : Try.prog.underlying t = some (.slice e)) (hi : (Try.prog.info? e).map (fun i => (i.zero, i.size, i.bytes)) = some (some z, 1, b)) (hb : b ≤ 16) (n : Nat) (hn : n ≤ 1048576) :
    ∃ X : Array Value, X.size = n ∧ ∀ w : World, (Instr.makeSlice t (.int .i64 n) (.int .i64 n)).run Try.prog w = .ok (.slice (some ⟨w.heap.size, 0, none⟩) n n) (w.alloc (.cells X e)) := by
  obtain ⟨i, hi1, hz0, hz1, hz2⟩ := info_parts hi
  refine ⟨madeCells z.cells n, size_madeCells _ _, fun w => ?_⟩
  have h := run_make (P := Try.prog) w t e i z ht hi1 hz0 .i64 .i64 n n (by omega) (by omega) (by rw [hz2]; have : b * n ≤ 16 * n := Nat.mul_le_mul_right _ hb; omega) (by omega)
  rw [hz1] at h
  simpa using h

/-- The copy of the whole into a block just laid. -/
theorem copy_run {t e : TypeId} {z : Value} {b : Nat} (ht : Try.prog.underlying t = some (.slice e)) (hi : (Try.prog.info? e).map (fun i => (i.zero, i.size, i.bytes)) = some (some z, 1, b)) (n cap : Nat) (X : Array Value) (hX : X.size = n) (sb so : Nat) (cs : List Value) (hl : cs.length = n)
    (w : World) (ha : sb < w.heap.size) (hsrc : ∀ j v, cs[j]? = some v → w.cell? ⟨sb, so + j, none⟩ = some v) (h1 : ∀ v ∈ cs, v.oneCell' = true) (ty : TypeId) :
    ∃ w' : World, (Builtin.copy_ #[t, t] ty #[.slice (some ⟨w.heap.size, 0, none⟩) n n, .slice (some ⟨sb, so, none⟩) n cap]).run Try.prog (w.alloc (.cells X e)) = .ok (goInt n) w' ∧ Below w.heap.size w w' ∧ w'.heap.size = w.heap.size + 1 ∧
      ∀ j v, cs[j]? = some v → w'.cell? ⟨w.heap.size, 0 + j, none⟩ = some v := by
  have hsz := size_one hi
  have hb : Below w.heap.size w (w.alloc (.cells X e)) := (Below.refl _ _).alloc (Nat.le_refl _) _
  have hg : (w.alloc (.cells X e)).heap[w.heap.size]? = some (.cells X e (0, 0)) := (MapKept.heap_alloc w _).1
  have h := run_copy_row (P := Try.prog) (w.alloc (.cells X e)) t t ty e w.heap.size 0 n n ⟨sb, so, none⟩ n cap X e cs ht hsz hg (by rw [hl]; exact (Nat.min_self n).symm) (fun j v hj => by rw [Addr.add_lit, hb.cell (p := ⟨sb, so + j, none⟩) (by exact ha)]; exact hsrc j v hj) (by omega) h1
  have hd : List.drop (0 + n) X.toList = [] := List.drop_of_length_le (by simp [hX])
  rw [hl, hd] at h
  simp only [List.take_zero, List.nil_append, List.append_nil] at h
  have hr := setRow_heap (w.alloc (.cells X e)) w.heap.size X cs.toArray e (0, 0) hg
  refine ⟨_, h, below_setRow hb (Nat.le_refl _) _, by simp [World.setRow], fun j v hj => ?_⟩
  rw [Nat.zero_add]
  unfold World.cell?
  rw [hr]
  simp [hj]

theorem src_strings {w : World} {b off n : Nat} {ss : List ByteArray} (hl : ss.length = n) (hc : ∀ i, i < n → w.cell? ⟨b, off + i, none⟩ = some (.string (ss.getD i ByteArray.empty))) (j : Nat) (v : Value) (hj : (ss.map Value.string)[j]? = some v) :
    w.cell? ⟨b, off + j, none⟩ = some v := by
  rw [List.getElem?_map] at hj
  obtain ⟨s, hs, rfl⟩ := Option.map_eq_some_iff.1 hj
  have := hc j (by rw [← hl]; exact (List.getElem?_eq_some_iff.1 hs).1)
  rw [this, List.getD, hs]
  rfl

theorem src_bools {w : World} {b off n : Nat} {ss : List Bool} (hl : ss.length = n) (hc : ∀ i, i < n → w.cell? ⟨b, off + i, none⟩ = some (.bool (ss.getD i false))) (j : Nat) (v : Value) (hj : (ss.map Value.bool)[j]? = some v) :
    w.cell? ⟨b, off + j, none⟩ = some v := by
  rw [List.getElem?_map] at hj
  obtain ⟨s, hs, rfl⟩ := Option.map_eq_some_iff.1 hj
  have := hc j (by rw [← hl]; exact (List.getElem?_eq_some_iff.1 hs).1)
  rw [this, List.getD, hs]
  rfl

set_option maxRecDepth 100000 in
set_option maxHeartbeats 400000 in
theorem cloneStrings (b off n cap : Nat) (ss : List ByteArray) (w : World) (hn : n ≤ 1048576) (hl : ss.length = n) (hb : b < w.heap.size) (hc : ∀ i, i < n → w.cell? ⟨b, off + i, none⟩ = some (.string (ss.getD i ByteArray.empty))) :
    Calls Try.prog 9 #[.slice (some ⟨b, off, none⟩) n cap] w fun e w' => e = .returned (.slice (some ⟨w.heap.size, 0, none⟩) n n) ∧ Below w.heap.size w w' ∧ w'.heap.size = w.heap.size + 1 ∧ ∀ i, i < n → w'.cell? ⟨w.heap.size, 0 + i, none⟩ = some (.string (ss.getD i ByteArray.empty)) := by
  obtain ⟨X, hX, hmk⟩ := make_run (t := 24) (e := 9) Try.underlying24 info9 (by decide) n hn
  obtain ⟨w2, hcp, hbel, hsz, hcell⟩ := copy_run (t := 24) (e := 9) Try.underlying24 info9 n cap X hX b off (ss.map Value.string) (by simpa using hl) w hb (src_strings hl hc)
    (fun v hv => by obtain ⟨s, _, rfl⟩ := List.mem_map.1 hv; rfl) 3
  have H : Hid (Below w.heap.size w w2 ∧ w2.heap.size = w.heap.size + 1 ∧ ∀ i, i < n → w2.cell? ⟨w.heap.size, 0 + i, none⟩ = some (.string (ss.getD i ByteArray.empty))) :=
    ⟨hbel, hsz, fun i hi => hcell i _ (by rw [List.getElem?_map, List.getD, List.getElem?_eq_getElem (by omega)]; rfl)⟩
  clear hX hbel hsz hcell hl hc
  have qs : ∀ (w : World) (a : Option Addr) (n c : Nat), (binOp .eql 24 (.slice a n c) (.slice none 0 0)).run Try.prog w = .ok (.bool a.isNone) w := fun w a n c => Lib.run_eql_slice_nil w _ _ a n c 0 0 Try.underlying24
  go_enter Try.func9, Try.ntmps9
  go_wp2
  go_ret
  exact ⟨rfl, H⟩

set_option maxRecDepth 100000 in
set_option maxHeartbeats 400000 in
theorem cloneBools (b off n cap : Nat) (ss : List Bool) (w : World) (hn : n ≤ 1048576) (hl : ss.length = n) (hb : b < w.heap.size) (hc : ∀ i, i < n → w.cell? ⟨b, off + i, none⟩ = some (.bool (ss.getD i false))) :
    Calls Try.prog 10 #[.slice (some ⟨b, off, none⟩) n cap] w fun e w' => e = .returned (.slice (some ⟨w.heap.size, 0, none⟩) n n) ∧ Below w.heap.size w w' ∧ w'.heap.size = w.heap.size + 1 ∧ ∀ i, i < n → w'.cell? ⟨w.heap.size, 0 + i, none⟩ = some (.bool (ss.getD i false)) := by
  obtain ⟨X, hX, hmk⟩ := make_run (t := 25) (e := 4) Try.underlying25 info4 (by decide) n hn
  obtain ⟨w2, hcp, hbel, hsz, hcell⟩ := copy_run (t := 25) (e := 4) Try.underlying25 info4 n cap X hX b off (ss.map Value.bool) (by simpa using hl) w hb (src_bools hl hc)
    (fun v hv => by obtain ⟨s, _, rfl⟩ := List.mem_map.1 hv; rfl) 3
  have H : Hid (Below w.heap.size w w2 ∧ w2.heap.size = w.heap.size + 1 ∧ ∀ i, i < n → w2.cell? ⟨w.heap.size, 0 + i, none⟩ = some (.bool (ss.getD i false))) :=
    ⟨hbel, hsz, fun i hi => hcell i _ (by rw [List.getElem?_map, List.getD, List.getElem?_eq_getElem (by omega)]; rfl)⟩
  clear hX hbel hsz hcell hl hc
  have qs : ∀ (w : World) (a : Option Addr) (n c : Nat), (binOp .eql 25 (.slice a n c) (.slice none 0 0)).run Try.prog w = .ok (.bool a.isNone) w := fun w a n c => Lib.run_eql_slice_nil w _ _ a n c 0 0 Try.underlying25
  go_enter Try.func10, Try.ntmps10
  go_wp2
  go_ret
  exact ⟨rfl, H⟩

set_option maxRecDepth 100000 in
set_option maxHeartbeats 400000 in
theorem cloneStrings_nil (w : World) : Calls Try.prog 9 #[.slice none 0 0] w fun e w' => e = .returned (.slice none 0 0) ∧ w' = w := by
  have qs : ∀ (w : World) (a : Option Addr) (n c : Nat), (binOp .eql 24 (.slice a n c) (.slice none 0 0)).run Try.prog w = .ok (.bool a.isNone) w := fun w a n c => Lib.run_eql_slice_nil w _ _ a n c 0 0 Try.underlying24
  go_enter Try.func9, Try.ntmps9
  go_wp2
  go_ret
  exact ⟨rfl, rfl⟩

set_option maxRecDepth 100000 in
set_option maxHeartbeats 400000 in
theorem cloneBools_nil (w : World) : Calls Try.prog 10 #[.slice none 0 0] w fun e w' => e = .returned (.slice none 0 0) ∧ w' = w := by
  have qs : ∀ (w : World) (a : Option Addr) (n c : Nat), (binOp .eql 25 (.slice a n c) (.slice none 0 0)).run Try.prog w = .ok (.bool a.isNone) w := fun w a n c => Lib.run_eql_slice_nil w _ _ a n c 0 0 Try.underlying25
  go_enter Try.func10, Try.ntmps10
  go_wp2
  go_ret
  exact ⟨rfl, rfl⟩

end Go.Proofs.Qxb6003813a.Lk

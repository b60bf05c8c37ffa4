import Derived.Test.Qxb6003813aLeaf
import Derived.Below
namespace Go.Proofs.Qxb6003813a.Lk
open Go.RowKit

def Dir (w : World) (d : Nat) (r : Bool) (s : ByteArray) (pv : Option Addr) : Prop :=
  d < w.heap.size ∧ ∃ mv, w.cell? ⟨d, 8, none⟩ = some (.map mv) ∧ w.cell? ⟨d, 9, none⟩ = some (.bool r) ∧
    ∀ w1, Below w.heap.size w w1 → (Instr.lookup 55 (.map mv) (.string s) false).run Try.prog w1 = .ok (.pointer pv) w1

theorem Dir.kept {w w1 : World} {d : Nat} {r : Bool} {s : ByteArray} {pv : Option Addr} (h : Dir w d r s pv) (hb : Below w.heap.size w w1) : Dir w1 d r s pv := by
  obtain ⟨hd, mv, c8, c9, hl⟩ := h
  refine ⟨Nat.lt_of_lt_of_le hd hb.size, mv, ?_, ?_, fun w2 h2 => hl w2 (hb.trans (h2.mono hb.size))⟩
  · rw [hb.cell (p := ⟨d, 8, none⟩) hd]; exact c8
  · rw [hb.cell (p := ⟨d, 9, none⟩) hd]; exact c9

theorem Dir.alloc {w : World} {d : Nat} {r : Bool} {s : ByteArray} {pv : Option Addr} (h : Dir w d r s pv) (o : Obj) : Dir (w.alloc o) d r s pv :=
  h.kept ((Below.refl _ _).alloc (Nat.le_refl _) o)

set_option maxHeartbeats 400000 in
theorem childYes {d : Nat} {r : Bool} {s : ByteArray} {a : Addr} {w : World} (h : Dir w d r s (some a)) :
    Calls Try.prog 21 #[.pointer (some ⟨d, 0, none⟩), .string s] w fun e w' => e = .returned (.tuple #[.pointer (some a), .nilIface]) ∧ w' = w := by
  obtain ⟨hd, mv, c8, c9, hl⟩ := h
  exact child_yes d mv s a w c8 (hl w (Below.refl _ _))

theorem childNo {d : Nat} {r : Bool} {s : ByteArray} {w : World} (h : Dir w d r s none) :
    Calls Try.prog 21 #[.pointer (some ⟨d, 0, none⟩), .string s] w fun e w' => (∃ n, e = .returned (.tuple #[.pointer none, .iface 69 (.int .u64 n)])) ∧ w' = w := by
  obtain ⟨hd, mv, c8, c9, hl⟩ := h
  exact child_no d mv r s w c8 c9 (hl w (Below.refl _ _))

set_option maxHeartbeats 400000 in
theorem entry {d : Nat} {r : Bool} {s : ByteArray} {pv : Option Addr} {w : World} (h : Dir w d r s pv) :
    Calls Try.prog 14 #[.pointer (some ⟨d, 0, none⟩), .string s] w fun e w' => e = .returned (.pointer pv) ∧ w' = w := by
  obtain ⟨hd, mv, c8, c9, hl0⟩ := h
  have hl := hl0 w (Below.refl _ _)
  clear hl0 c9
  go_enter Try.func14, Try.ntmps14
  go_wp2
  go_ret
  exact ⟨rfl, rfl⟩

set_option maxHeartbeats 400000 in
theorem place_empty (d : Nat) (w : World) :
    Calls Try.prog 12 #[.pointer (some ⟨d, 0, none⟩), .string ⟨#[]⟩] w fun e w' => e = .returned (.tuple #[.pointer (some ⟨d, 0, none⟩), .nilIface]) ∧ Below w.heap.size w w' := by
  go_enter Try.func12, Try.ntmps12
  go_wp2
  go_ret2
  exact ⟨rfl, (Below.refl _ _).alloc (Nat.le_refl _) _⟩

set_option maxHeartbeats 400000 in
theorem place_yes {d : Nat} {r : Bool} {s : ByteArray} {a : Addr} {w : World} (h : Dir w d r s (some a)) (hs : s.toList.isEmpty = false) :
    Calls Try.prog 12 #[.pointer (some ⟨d, 0, none⟩), .string s] w fun e w' => e = .returned (.tuple #[.pointer (some a), .nilIface]) ∧ Below w.heap.size w w' := by
  go_enter Try.func12, Try.ntmps12
  go_wp2_with (first | (go_at_call 21; refine (childYes (h.alloc _)).mono ?_; rintro e w' ⟨rfl, rfl⟩) | go_in)
  go_ret2
  exact ⟨rfl, (Below.refl _ _).alloc (Nat.le_refl _) _⟩

set_option maxHeartbeats 400000 in
theorem place_no {d : Nat} {r : Bool} {s : ByteArray} {w : World} (h : Dir w d r s none) (hs : s.toList.isEmpty = false) :
    Calls Try.prog 12 #[.pointer (some ⟨d, 0, none⟩), .string s] w fun e w' => (∃ n, e = .returned (.tuple #[.pointer none, .iface 69 (.int .u64 n)])) ∧ Below w.heap.size w w' := by
  go_enter Try.func12, Try.ntmps12
  go_wp2_with (first | (go_at_call 21; refine (childNo (h.alloc _)).mono ?_; rintro e w' ⟨⟨n, rfl⟩, rfl⟩) | go_in)
  go_ret2
  exact ⟨⟨_, rfl⟩, (Below.refl _ _).alloc (Nat.le_refl _) _⟩

set_option maxHeartbeats 400000 in
theorem tree_yes {d b : Nat} {r : Bool} {s : ByteArray} {m : Int} {w : World} (h : Dir w d r s (some ⟨b, 0, none⟩)) (hb : b < w.heap.size) (hm : w.cell? ⟨b, 0, none⟩ = some (.int .u32 m)) :
    Calls Try.prog 19 #[.agg #[.pointer none], .pointer (some ⟨d, 0, none⟩), .string s, .string ⟨#[]⟩, .bool false] w fun e w' => e = .returned (.tuple #[.pointer (some ⟨b, 0, none⟩), .int .u32 (bits .and .u32 m 2401763328), .nilIface]) ∧ Below w.heap.size w w' := by
  go_enter Try.func19, Try.ntmps19
  go_wp2_with (first | (go_at_call 21; refine (childYes (h.alloc _)).mono ?_; rintro e w' ⟨rfl, rfl⟩) | go_in)
  go_ret3
  exact ⟨rfl, (Below.refl _ _).alloc (Nat.le_refl _) _⟩

set_option maxHeartbeats 400000 in
theorem tree_no {d : Nat} {r : Bool} {s : ByteArray} {w : World} (h : Dir w d r s none) :
    Calls Try.prog 19 #[.agg #[.pointer none], .pointer (some ⟨d, 0, none⟩), .string s, .string ⟨#[]⟩, .bool false] w fun e w' => (∃ n, e = .returned (.tuple #[.pointer none, .int .u32 0, .iface 69 (.int .u64 n)])) ∧ Below w.heap.size w w' := by
  go_enter Try.func19, Try.ntmps19
  go_wp2_with (first | (go_at_call 21; refine (childNo (h.alloc _)).mono ?_; rintro e w' ⟨⟨n, rfl⟩, rfl⟩) | go_in)
  go_ret3
  exact ⟨⟨_, rfl⟩, (Below.refl _ _).alloc (Nat.le_refl _) _⟩

set_option maxHeartbeats 400000 in
theorem look_yes {d b : Nat} {r : Bool} {s : ByteArray} {m : Int} {w : World} (h : Dir w d r s (some ⟨b, 0, none⟩)) (hb : b < w.heap.size) (hm : w.cell? ⟨b, 0, none⟩ = some (.int .u32 m)) :
    Calls Try.prog 13 #[.pointer (some ⟨d, 0, none⟩), .string s] w fun e w' => e = .returned (.tuple #[.pointer (some ⟨b, 0, none⟩), .int .u32 (bits .and .u32 m 2401763328), .nilIface]) ∧ Below w.heap.size w w' := by
  go_enter Try.func13, Try.ntmps13
  go_wp2_with (go_at_call 19; refine (tree_yes h hb hm).mono ?_; rintro e w' ⟨rfl, hb1⟩)
  go_ret3
  exact ⟨rfl, hb1⟩

set_option maxHeartbeats 400000 in
theorem look_no {d : Nat} {r : Bool} {s : ByteArray} {w : World} (h : Dir w d r s none) :
    Calls Try.prog 13 #[.pointer (some ⟨d, 0, none⟩), .string s] w fun e w' => (∃ n, e = .returned (.tuple #[.pointer none, .int .u32 0, .iface 69 (.int .u64 n)])) ∧ Below w.heap.size w w' := by
  go_enter Try.func13, Try.ntmps13
  go_wp2_with (go_at_call 19; refine (tree_no h).mono ?_; rintro e w' ⟨⟨n, rfl⟩, hb1⟩)
  go_ret3
  exact ⟨⟨_, rfl⟩, hb1⟩

end Go.Proofs.Qxb6003813a.Lk

import Derived.Test.Qxb6003813aRows
import Derived.WalkKit
import Derived.WalkSpells
import Derived.WalkLawsBesides
import Derived.Lib.Bytealg
import Derived.LaidEql
namespace Go.Proofs.Qxb6003813a.Lk
open Go.RowKit

set_option maxHeartbeats 400000 in
theorem idx (s : ByteArray) (c : Int) (w : World) :
    Calls Try.prog 31 #[.string s, .int .u8 c] w fun e w' => e = .returned (.int .i64 (Lib.indexByte s.data.toList c.toNat.toUInt8)) ∧ w' = w := by
  have hx : ∀ w : World, (callFunc 33 #[.string s, .int .u8 c]).run Try.prog w = .ok (.value (.int .i64 (Lib.indexByte s.data.toList c.toNat.toUInt8))) w := fun w => by
    rw [run_callFunc_extern Try.func33 (by kernel_rfl) (by kernel_rfl) (by kernel_rfl) (e := Extern.BytealgIndexByte.indexByte) (by kernel_rfl), Lib.run_indexByteString]
    rfl
  go_enter Try.func31, Try.ntmps31
  go_wp2
  go_ret
  exact ⟨rfl, rfl⟩

def nulB (s : ByteArray) : Bool := decide (0 ≤ Lib.indexByte s.data.toList 0)

set_option maxHeartbeats 400000 in
theorem holdsNUL (s : ByteArray) (w : World) :
    Calls Try.prog 30 #[.string s] w fun e w' => e = .returned (.bool (nulB s)) ∧ w' = w := by
  go_enter Try.func30, Try.ntmps30
  go_wp2_with (go_at_call 31; refine (idx _ _ _).mono ?_; rintro e w' ⟨rfl, rfl⟩)
  go_ret
  exact ⟨by simp [nulB], rfl⟩

set_option maxHeartbeats 400000 in
theorem checkElem (s : ByteArray) (w : World) :
    Calls Try.prog 25 #[.string s] w fun e w' => (e = .returned .nilIface ∨ e = .returned (.iface 69 (.int .u64 22)) ∨ e = .returned (.iface 69 (.int .u64 36))) ∧ w' = w := by
  go_enter Try.func25, Try.ntmps25
  go_wp2_with (go_at_call 30; refine (holdsNUL _ _).mono ?_; rintro e w' ⟨rfl, rfl⟩)
  all_goals (go_ret; simp)

set_option maxHeartbeats 400000 in
theorem newDir (w : World) :
    Calls Try.prog 17 #[.int .u32 493] w fun e w' => e = .returned (.pointer (some ⟨w.heap.size, 0, none⟩)) ∧ ∃ m, w' = w.alloc (.cells #[.int .u32 m, .int .u64 0, .int .i64 0, .pointer none, .int .i64 0, .slice none 0 0, .map none, .string ⟨#[]⟩, .map none, .bool false] 57) := by
  go_enter Try.func17, Try.ntmps17
  go_wp2
  go_ret
  exact ⟨rfl, _, rfl⟩

theorem typeOf (n : Int) (w : World) :
    Calls Try.prog 22 #[.int .u32 n] w fun e w' => e = .returned (.int .u32 (bits .and .u32 n 2401763328)) ∧ w' = w := by
  go_enter Try.func22, Try.ntmps22
  go_wp2
  go_ret
  exact ⟨rfl, rfl⟩

theorem run_equalIn_iface_int {P : Program} (w : World) (d : Nat) {ti tn : TypeId} {ms : Array (String × TypeId)} {i : TypeInfo} {k : IntKind} (a b : Int)
    (hi : P.underlying ti = some (.interface ms)) (hn : P.underlying tn = some (.int k)) (hinfo : P.info? tn = some i) (hcomp : i.comparable = true) :
    (Op.equalIn (d + 2) ti (.iface tn (.int k a)) (.iface tn (.int k b))).run P w = .ok (a == b) w := by
  simp [Op.equalIn, run_underlying hi, run_underlying hn, typeInfo, hinfo, hcomp]

theorem run_eql_iface_int {P : Program} (w : World) {ti tn : TypeId} {ms : Array (String × TypeId)} {i : TypeInfo} {k : IntKind} (a b : Int)
    (hi : P.underlying ti = some (.interface ms)) (hn : P.underlying tn = some (.int k)) (hinfo : P.info? tn = some i) (hcomp : i.comparable = true) :
    (binOp .eql ti (.iface tn (.int k a)) (.iface tn (.int k b))).run P w = .ok (.bool (a == b)) w := by
  simp only [binOp]
  simp [Op.equal, Op.maxDepth, run_equalIn_iface_int w 9998 a b hi hn hinfo hcomp]

set_option maxHeartbeats 400000 in
theorem child_yes (d : Nat) (mv : Option Nat) (s : ByteArray) (a : Addr) (w : World)
    (c8 : w.cell? ⟨d, 8, none⟩ = some (.map mv))
    (hl : (Instr.lookup 55 (.map mv) (.string s) false).run Try.prog w = .ok (.pointer (some a)) w) :
    Calls Try.prog 21 #[.pointer (some ⟨d, 0, none⟩), .string s] w fun e w' => e = .returned (.tuple #[.pointer (some a), .nilIface]) ∧ w' = w := by
  go_enter Try.func21, Try.ntmps21
  go_wp2_with fail
  go_ret2
  exact ⟨rfl, rfl⟩

theorem info69 : (Try.prog.info? 69).map (·.comparable) = some true := by kernel_rfl

set_option maxHeartbeats 400000 in
theorem child_no (d : Nat) (mv : Option Nat) (r : Bool) (s : ByteArray) (w : World)
    (c8 : w.cell? ⟨d, 8, none⟩ = some (.map mv)) (c9 : w.cell? ⟨d, 9, none⟩ = some (.bool r))
    (hl : (Instr.lookup 55 (.map mv) (.string s) false).run Try.prog w = .ok (.pointer none) w) :
    Calls Try.prog 21 #[.pointer (some ⟨d, 0, none⟩), .string s] w fun e w' => (∃ n, e = .returned (.tuple #[.pointer none, .iface 69 (.int .u64 n)])) ∧ w' = w := by
  have he : ∀ (w : World) (a : Int), (binOp .eql 32 (.iface 69 (.int .u64 a)) (.iface 69 (.int .u64 36))).run Try.prog w = .ok (.bool (a == 36)) w := by
    obtain ⟨i, hi, hc⟩ := Option.map_eq_some_iff.1 info69
    exact fun w a => run_eql_iface_int w a 36 Try.underlying32 Try.underlying69 hi hc
  go_enter Try.func21, Try.ntmps21
  go_wp2_with fail
  refine (checkElem _ _).mono ?_
  rintro e w' ⟨h, rfl⟩
  rcases h with rfl | rfl | rfl
  · go_wp2
    go_ret2
    exact ⟨⟨_, rfl⟩, rfl⟩
  · cases r
    · go_wp2
      go_ret2
      exact ⟨⟨_, rfl⟩, rfl⟩
    · go_wp2
      go_ret2
      exact ⟨⟨_, rfl⟩, rfl⟩
  · cases r
    · go_wp2
      go_ret2
      exact ⟨⟨_, rfl⟩, rfl⟩
    · go_wp2
      go_ret2
      exact ⟨⟨_, rfl⟩, rfl⟩

end Go.Proofs.Qxb6003813a.Lk

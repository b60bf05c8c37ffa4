import Derived.Test.Qxb6003813aRowsIn
namespace Go.Proofs.Qxb6003813a.Lk
open Go.RowKit
set_option linter.unusedVariables false

theorem bytes_ext {s e : ByteArray} (h : s.toList = e.toList) : s = e := by
  rw [ByteArray.toList_eq, ByteArray.toList_eq] at h
  cases s; cases e; simp_all

theorem info57 : (Try.prog.info? 57).isSome = true := by kernel_rfl

theorem equalIn_ptr (d : Nat) (a : Addr) (w : World) : (Op.equalIn (d + 1) 29 (.pointer (some a)) (.pointer (some a))).run Try.prog w = .ok true w := by
  obtain ⟨j, hj⟩ := Option.isSome_iff_exists.1 info57
  simp [Op.equalIn, run_underlying Try.underlying29, typeInfo, sizeOf, run_sameAddr_same, hj]

theorem neq_same (a : Addr) (w : World) : (binOp .neq 29 (.pointer (some a)) (.pointer (some a))).run Try.prog w = .ok (.bool false) w := by
  simp only [binOp]
  simp [Op.equal, Op.maxDepth, equalIn_ptr 9999 a w]

theorem place_emp (d : Nat) (e : ByteArray) (w : World) (h : e.toList.isEmpty = true) :
    Calls Try.prog 12 #[.pointer (some ⟨d, 0, none⟩), .string e] w fun e w' => e = .returned (.tuple #[.pointer (some ⟨d, 0, none⟩), .nilIface]) ∧ Below w.heap.size w w' := by
  obtain rfl : e = ⟨#[]⟩ := bytes_ext (by rw [List.isEmpty_iff.1 h, ByteArray.toList_eq])
  exact place_empty d w

set_option maxRecDepth 100000 in
set_option maxHeartbeats 2000000 in
theorem lawWalk {a1 a2 : Option Addr} {n c1 m c2 : Nat} {ss : List ByteArray} {bs : List Bool} (rm : Bool) (e : ByteArray) {w : World} (hS : SRow w a1 n ss) (hB : BRow w a2 m bs) (h1 : a1 = none → c1 = 0) (h2 : a2 = none → c2 = 0)
    (hn : n ≤ maxLen) (hm : m ≤ maxLen) (he : e.size ≤ maxLen) (hlen : ∀ i, (ss.getD i ByteArray.empty).size ≤ maxLen) :
    Calls Try.prog 4 #[.slice a1 n c1, .slice a2 m c2, .bool rm, .string e] w fun r w' => r = .returned (.bool true) ∧ Below w.heap.size w w' := by
  have qp : ∀ (a : Addr) (w : World), (binOp .neq 29 (.pointer (some a)) (.pointer (some a))).run Try.prog w = .ok (.bool false) w := neq_same
  go_enter Try.func4, Try.ntmps4
  go_wp2_with fail
  refine (bytesOK rm e hS hn hm he hlen).mono ?_
  rintro r w0 ⟨h, rfl⟩
  unfold maxLen at hn hm he
  rcases h with ⟨rfl, hm1⟩ | rfl
  · by_cases hn1 : 4096 < n
    · go_wp2
      go_ret
      exact ⟨rfl, Below.refl _ _⟩
    have hn2 : decide (4096 < (n : Int)) = false := by simp; omega
    go_wp2
    go_loop [9, 10] (fun t i => ∃ (k : Nat) (T : Int), k ≤ n ∧ i = .int .i64 k ∧ t = .int .i64 T) (fun _ i => n - (intOf i).toNat)
    case atStart => exact ⟨0, _, Nat.zero_le _, rfl, rfl⟩
    case round =>
      obtain ⟨k, T, hk, rfl, rfl⟩ := hrel
      by_cases hlt : k < n
      · obtain ⟨b, off, rfl, hb, hc⟩ := hS.2 k hlt
        clear hS hB hlen
        go_wp2
        go_round
        case rel => exact ⟨k + 1, _, by omega, by go_num, rfl⟩
        case measure => simp [intOf]; omega
      · by_cases hT : 1048576 < T
        · go_wp2
          go_ret
          exact ⟨rfl, Below.refl _ _⟩
        go_wp2_with fail
        refine (cloneS hS h1 (by omega)).mono ?_
        rintro r w1 ⟨b1, d1, rfl, hS1, hb1⟩
        go_wp2_with fail
        refine (cloneB (hB.kept hb1) h2 (by omega)).mono ?_
        rintro r w2 ⟨b2, d2, rfl, hB2, hb2⟩
        have hS2 := hS1.kept hb2
        have hb := hb1.trans (hb2.mono hb1.size)
        clear hS hB hS1 hb1 hb2
        go_wp2
        go_loop [11, 12, 13] (fun p q i => ∃ j : Nat, j ≤ n ∧ i = .int .i64 j ∧ p = .bool (upTo ss bs e j).isSome ∧ q = .bool ((upTo ss bs e j).getD false)) (fun _ _ i => n - (intOf i).toNat)
        case atStart => exact ⟨0, Nat.zero_le _, rfl, rfl, rfl⟩
        case round =>
          obtain ⟨j, hj, rfl, rfl, rfl⟩ := hrel
          by_cases hjn : j < n
          · obtain ⟨b, off, rfl, hbb, hc⟩ := hS2.2 j hjn
            obtain ⟨s, hs⟩ : ∃ s, s = ss.getD j ByteArray.empty := ⟨_, rfl⟩
            have Hup : Hid (upTo ss bs e (j + 1) = if s = e then some (bs.getD j false) else upTo ss bs e j) := by rw [hs]; rfl
            rw [← hs] at hc
            clear hs hS2 hlen
            by_cases hse : s = e
            · have Hu2 : Hid (upTo ss bs e (j + 1) = some (bs.getD j false)) := by show _ = _; rw [Hup.out, if_pos hse]
              have hsb : (s.toList == e.toList) = true := by simp [hse]
              clear hse
              by_cases hjm : j < m
              · obtain ⟨db, doff, rfl, hdb, hcb⟩ := hB2.2 j hjm
                obtain ⟨x, hx⟩ : ∃ x, x = bs.getD j false := ⟨_, rfl⟩
                rw [← hx] at hcb Hu2
                clear hx hB2
                go_wp2
                go_round
                case rel => exact ⟨j + 1, by omega, by go_num, by rw [Hu2.out]; rfl, by rw [Hu2.out]; rfl⟩
                case measure => simp [intOf]; omega
              · have hx : bs.getD j false = false := by rw [List.getD, List.getElem?_eq_none (by have := hB2.1; omega)]; rfl
                rw [hx] at Hu2
                clear hx hB2
                go_wp2
                go_round
                case rel => exact ⟨j + 1, by omega, by go_num, by rw [Hu2.out]; rfl, by rw [Hu2.out]; rfl⟩
                case measure => simp [intOf]; omega
            · have Hu2 : Hid (upTo ss bs e (j + 1) = upTo ss bs e j) := by show _ = _; rw [Hup.out, if_neg hse]
              have hsb : (s.toList == e.toList) = false := by rw [beq_eq_false_iff_ne]; exact fun h => hse (bytes_ext h)
              clear hse hB2
              go_wp2
              go_round
              case rel => exact ⟨j + 1, by omega, by go_num, by rw [Hu2.out], by rw [Hu2.out]⟩
              case measure => simp [intOf]; omega
          · have hjn' : j = n := by omega
            subst hjn'
            go_wp2_with fail
            refine (dirWithR rm e hS2 hB2 (by omega) (by omega) hlen).mono ?_
            rintro r w3 ⟨rfl, hrel⟩
            clear hS2 hB2 hlen
            have hz := hrel.2.1
            have hb3 := hrel.1
            have hfin : Hid (Below w0.heap.size w0 w3) := hb.trans (hb3.mono hb.size)
            obtain ⟨o, ho⟩ : ∃ o, o = upTo ss bs e j := ⟨_, rfl⟩
            rw [← ho]
            have hse : Hid (e.size ≤ maxLen) := he
            cases o with
            | none =>
              have hd := hrel.dir_none he ho.symm
              clear hrel ho hb hb3
              cases hem : e.toList.isEmpty
              · go_wp2_with fail
                refine (place_no hd hem).mono ?_
                rintro r w4 ⟨⟨e4, rfl⟩, hb4⟩
                go_wp2_with fail
                refine (look_no (hd.kept hb4)).mono ?_
                rintro r w5 ⟨⟨e5, rfl⟩, hb5⟩
                go_wp2_with fail
                go_ret
                exact ⟨rfl, hfin.out.trans ((hb4.mono hfin.out.size).trans (hb5.mono (Nat.le_trans hfin.out.size hb4.size)))⟩
              · go_wp2_with fail
                refine (place_emp _ _ _ hem).mono ?_
                rintro r w4 ⟨rfl, hb4⟩
                go_wp2_with fail
                refine (look_no (hd.kept hb4)).mono ?_
                rintro r w5 ⟨⟨e5, rfl⟩, hb5⟩
                go_wp2_with fail
                go_ret
                exact ⟨rfl, hfin.out.trans ((hb4.mono hfin.out.size).trans (hb5.mono (Nat.le_trans hfin.out.size hb4.size)))⟩
            | some x =>
              obtain ⟨bx, hd, hbx, hcx⟩ := hrel.dir_some he ho.symm
              clear hrel ho hb hb3
              cases hem : e.toList.isEmpty
              · go_wp2_with fail
                refine (place_yes hd hem).mono ?_
                rintro r w4 ⟨rfl, hb4⟩
                have hd4 := hd.kept hb4
                have hbx4 : bx < w4.heap.size := Nat.lt_of_lt_of_le hbx hb4.size
                have hcx4 : w4.cell? ⟨bx, 0, none⟩ = some (.int .u32 (modeOf x)) := by rw [hb4.cell (p := ⟨bx, 0, none⟩) hbx]; exact hcx
                have hfin4 : Hid (Below w0.heap.size w0 w4) := hfin.out.trans (hb4.mono hfin.out.size)
                clear hd hbx hcx hb4
                go_wp2_with fail
                refine (look_yes hd4 hbx4 hcx4).mono ?_
                rintro r w5 ⟨rfl, hb5⟩
                have hd5 := hd4.kept hb5
                have hfin5 : Hid (Below w0.heap.size w0 w5) := hfin4.out.trans (hb5.mono hfin4.out.size)
                clear hd4 hbx4 hcx4 hb5
                cases x
                · rw [show bits .and .u32 (modeOf false) 2401763328 = 0 by decide]
                  go_wp2_with (go_at_call 14; refine (entry hd5).mono ?_; rintro r w6 ⟨rfl, rfl⟩)
                  go_ret
                  exact ⟨rfl, hfin5⟩
                · rw [show bits .and .u32 (modeOf true) 2401763328 = 2147483648 by decide]
                  go_wp2_with (go_at_call 14; refine (entry hd5).mono ?_; rintro r w6 ⟨rfl, rfl⟩)
                  go_ret
                  exact ⟨rfl, hfin5⟩
              · go_wp2_with fail
                refine (place_emp _ _ _ hem).mono ?_
                rintro r w4 ⟨rfl, hb4⟩
                have hd4 := hd.kept hb4
                have hbx4 : bx < w4.heap.size := Nat.lt_of_lt_of_le hbx hb4.size
                have hcx4 : w4.cell? ⟨bx, 0, none⟩ = some (.int .u32 (modeOf x)) := by rw [hb4.cell (p := ⟨bx, 0, none⟩) hbx]; exact hcx
                have hfin4 : Hid (Below w0.heap.size w0 w4) := hfin.out.trans (hb4.mono hfin.out.size)
                clear hd hbx hcx hb4
                go_wp2_with fail
                refine (look_yes hd4 hbx4 hcx4).mono ?_
                rintro r w5 ⟨rfl, hb5⟩
                have hd5 := hd4.kept hb5
                have hfin5 : Hid (Below w0.heap.size w0 w5) := hfin4.out.trans (hb5.mono hfin4.out.size)
                clear hd4 hbx4 hcx4 hb5
                cases x
                · rw [show bits .and .u32 (modeOf false) 2401763328 = 0 by decide]
                  go_wp2_with (go_at_call 14; refine (entry hd5).mono ?_; rintro r w6 ⟨rfl, rfl⟩)
                  go_ret
                  exact ⟨rfl, hfin5⟩
                · rw [show bits .and .u32 (modeOf true) 2401763328 = 2147483648 by decide]
                  go_wp2_with (go_at_call 14; refine (entry hd5).mono ?_; rintro r w6 ⟨rfl, rfl⟩)
                  go_ret
                  exact ⟨rfl, hfin5⟩
  · go_wp2
    go_ret
    exact ⟨rfl, Below.refl _ _⟩

end Go.Proofs.Qxb6003813a.Lk

import Derived.Test.Qxb6605392aAns
import Derived.Test.Qxb6605392aRtPlain
import Derived.Room.AppendFits
import Derived.Laws.IdiomStrings
import Derived.Below
namespace Go.Proofs.Qxb6605392a.Yk
open Go.RowKit
set_option linter.unusedVariables false
set_option linter.unusedSimpArgs false

set_option maxRecDepth 100000 in
set_option maxHeartbeats 400000 in
theorem zzQuoted (c : ByteArray) (w : World) (hc : c.size ≤ 4194304) (h0 : 0 < c.size) (ho : opensB (B c 0) = false) (hq : isQ (B c 0)) :
    Calls Try.prog 13 #[.string c] w fun e w' => Answer c e ∧ w' = w := by
  go_enter Try.func13, Try.ntmps13
  go_wp2_with fail
  refine (key_quoted c _ hc h0 ho hq).mono ?_
  rintro e w' ⟨h, rfl⟩
  have H : Hid (Answer c e) := h
  rcases h with ⟨lo, hi, v, _, rfl⟩ | ⟨_, rfl⟩
  · go_wp2_with fail
    go_ret3
    exact ⟨H.out, rfl⟩
  · go_wp2_with fail
    go_ret3
    exact ⟨H.out, rfl⟩

set_option maxRecDepth 100000 in
set_option maxHeartbeats 1000000 in
theorem bytesOK3 (a b : ByteArray) (x : Bool) (w : World) (w0 : a.size ≤ 2 ^ 63 - 1) (w1 : b.size ≤ 2 ^ 63 - 1) :
    Calls Try.prog 15 #[.string a, .string b, .bool x] w fun e w' => (∃ x, e = .returned (.bool x)) ∧ w' = w := by
  go_enter Try.func15, Try.ntmps15
  go_wp2
  all_goals
    go_ret
    exact ⟨⟨_, rfl⟩, rfl⟩

theorem info5 : (Try.prog.info? 5).map (fun i => (i.zero, i.size, i.bytes)) = some (some (.int .u8 0), 1, 1) := by kernel_rfl

theorem new_cells (w : World) (L : List Value) (t : TypeId) (j : Nat) (u : Value) (h : L[j]? = some u) : (w.alloc (.cells L.toArray t)).cell? ((⟨w.heap.size, 0, none⟩ : Addr).add j) = some u := by
  have hb : (w.alloc (.cells L.toArray t)).heap[w.heap.size]? = some (.cells L.toArray t (0, 0)) := (MapKept.heap_alloc w _).1
  rw [Addr.add_lit, Nat.zero_add]
  unfold World.cell?
  rw [hb]
  simpa using h

/-- The string that the bytes make. -/
theorem conv_built {w : World} {base g cap : Nat} (q : UInt8) (qi : Int) (hqi : qi = q.toNat) (k v : ByteArray)
    (h : w.ownsRow base 5 1 (.slice (some ⟨g, 0, none⟩) (1 + k.size + 3 + v.size) cap) (1 + k.size + 3 + v.size) (.int .u8 qi :: (Lib.strCells k ++ .int .u8 qi :: .int .u8 58 :: .int .u8 32 :: Lib.strCells v))) :
    (convert 26 9 (.slice (some ⟨g, 0, none⟩) (1 + k.size + 3 + v.size) cap)).run Try.prog w = .ok (.string ⟨(built q k.data.toList v.data.toList).toArray⟩) w := by
  have hl : (built q k.data.toList v.data.toList).length = 1 + k.size + 3 + v.size := by rw [built_length, ← Lib.size_eq, ← Lib.size_eq]; omega
  subst hqi
  have hcells : (Value.int .u8 (q.toNat : Int) :: (Lib.strCells k ++ .int .u8 (q.toNat : Int) :: .int .u8 58 :: .int .u8 32 :: Lib.strCells v)) = (built q k.data.toList v.data.toList).map fun b => Value.int .u8 (b.toNat : Int) := by
    simp [built, Lib.strCells]
  rw [hcells] at h
  have := run_convert_bytes_back (P := Try.prog) w 26 9 5 ⟨g, 0, none⟩ cap (built q k.data.toList v.data.toList) Try.underlying26 Try.underlying5 Try.underlying9 (fun j hj => by
    refine h.cells (g := g) rfl j _ ?_
    rw [List.getElem?_map, List.getElem?_eq_getElem hj]
    rfl)
  rwa [hl] at this

theorem answer_built {q : UInt8} {k v : ByteArray} {e : Ending} (hq : q = 34 ∨ q = 39) (hk : ∀ i, i < k.size → B k i ≠ q.toNat) (hv : v.size = 0 ∨ blankB (B v 0) = false)
    (h : Answer ⟨(built q k.data.toList v.data.toList).toArray⟩ e) : e = .returned (.tuple #[.string k, .int .i64 ((k.size : Int) + 4), .bool true]) := by
  have hkey := built_key q k v hq hk hv
  rcases h with ⟨lo, hi, v', hk', rfl⟩ | ⟨hno, _⟩
  · obtain ⟨rfl, rfl, rfl⟩ := hk'.one hkey
    rw [built_extract]
    simp
  · exact absurd hkey (hno _ _ _)

theorem u8_one (zs : List Int) : ∀ u ∈ zs.map (Value.int .u8), u.oneCell' = true := ints_oneCell .u8 zs

set_option maxRecDepth 100000 in
set_option maxHeartbeats 2000000 in
theorem rt (a0 a1 : ByteArray) (a2 : Bool) (w : World) (w0 : a0.size ≤ 2 ^ 63 - 1) (w1 : a1.size ≤ 2 ^ 63 - 1) :
    Calls Try.prog 6 #[.string a0, .string a1, .bool a2] w fun e w' => e = .returned (.bool true) ∧ Below w.heap.size w w' := by
  obtain ⟨i0, hi, hz0, hz1, hz2⟩ := info_parts info5
  go_enter Try.func6, Try.ntmps6
  go_wp2_with fail
  refine (bytesOK3 a0 a1 a2 _ w0 w1).mono ?_
  rintro r w' ⟨⟨x, rfl⟩, rfl⟩
  cases x
  · go_wp2_with fail
    go_ret
    exact ⟨rfl, Below.refl _ _⟩
  by_cases h0 : 524288 < a0.size
  · go_wp2_with fail
    go_ret
    exact ⟨rfl, Below.refl _ _⟩
  by_cases h1 : 524288 < a1.size
  · go_wp2_with fail
    go_ret
    exact ⟨rfl, Below.refl _ _⟩
  have d0 : decide (524288 < (a0.size : Int)) = false := by simp; omega
  have d1 : decide (524288 < (a1.size : Int)) = false := by simp; omega
  cases a2
  · go_wp2_with fail
    go_loop [8] (fun t => ∃ j : Nat, j ≤ a0.size ∧ t = .int .i64 j ∧ ∀ i, i < j → B a0 i ≠ 34) (fun t => a0.size - (intOf t).toNat)
    case atStart => exact ⟨0, Nat.zero_le _, rfl, fun i hi => absurd hi (Nat.not_lt_zero _)⟩
    case round =>
      obtain ⟨j, hj, rfl, hno⟩ := hrel
      have HN : Hid (∀ i, i < j → B a0 i ≠ 34) := hno
      clear hno
      by_cases hlt : j < a0.size
      · have HB : Hid (B a0 j = a0[j].toNat) := B_at hlt
        by_cases hq : a0[j].toNat = 34
        · have hqb : ((a0[j].toNat : Int) == 34) = true := by simp; omega
          clear hq
          go_wp2_with fail
          go_ret
          exact ⟨rfl, Below.refl _ _⟩
        · have hqb : ((a0[j].toNat : Int) == 34) = false := by simp; omega
          have HN2 : Hid (∀ i, i < j + 1 → B a0 i ≠ 34) := fun i hi => by
            by_cases e : i = j
            · rw [e, HB.out]; exact hq
            · exact HN.out i (by omega)
          clear hq HB HN
          go_wp2_with fail
          go_round
          case rel => exact ⟨j + 1, by omega, by go_num, HN2.out⟩
          case measure => simp [intOf]; omega
      · have HN2 : Hid (∀ i, i < a0.size → B a0 i ≠ 34) := fun i hi => HN.out i (by omega)
        clear HN
        by_cases hv : a1.size = 0
        · have HV : Hid (a1.size = 0 ∨ blankB (B a1 0) = false) := .inl hv
          have hvn : ¬ 0 < a1.size := by omega
          clear hv
          go_wp2_with (at_make; refine wpList_make_own _ rfl _ _ 26 rfl w'.heap.size 5 i0 (.int .u8 0) 1 Try.underlying26 hi hz0 hz1 _ _ _ (a0.size + a1.size + 4) rfl rfl (by omega) (by rw [hz2]; omega) (by unfold maxLen; omega) (Nat.le_refl _) ?_)
          intro wa owna ga
          go_wp2_with (at_builtin; refine wpList_append_fits _ rfl _ _ 26 rfl w'.heap.size 5 i0 1 Try.underlying26 hi hz1 w'.heap.size 0 (a0.size + a1.size + 4) [] rfl (owna.alloc _) ⟨wa.heap.size, 0, none⟩ 1 1 ([34].map (Value.int .u8)) rfl rfl (new_cells wa _ 5) (u8_one _) (by omega) ?_)
          intro wb ownb gb
          have ownb1 : wb.ownsRow w'.heap.size 5 1 (.slice (some ⟨w'.heap.size, 0, none⟩) 1 (a0.size + a1.size + 4)) 1 [.int .u8 34] := ownb
          go_wp2_with (at_builtin; refine Lib.wpList_append_fits_string _ rfl _ _ 26 9 rfl w'.heap.size 5 i0 Try.underlying26 Try.underlying9 hi hz1 (some ⟨w'.heap.size, 0, none⟩) 1 (a0.size + a1.size + 4) [.int .u8 34] rfl ownb1 a0 rfl (by omega) (by omega) ?_)
          intro wc ownc gc
          go_wp2_with (at_builtin; refine wpList_append_fits _ rfl _ _ 26 rfl w'.heap.size 5 i0 1 Try.underlying26 hi hz1 w'.heap.size (1 + a0.size) (a0.size + a1.size + 4) _ rfl (ownc.alloc _) ⟨wc.heap.size, 0, none⟩ 3 3 ([34, 58, 32].map (Value.int .u8)) rfl rfl (new_cells wc _ 5) (u8_one _) (by omega) ?_)
          intro wd ownd gd
          go_wp2_with (at_builtin; refine Lib.wpList_append_fits_string _ rfl _ _ 26 9 rfl w'.heap.size 5 i0 Try.underlying26 Try.underlying9 hi hz1 (some ⟨w'.heap.size, 0, none⟩) (1 + a0.size + 3) (a0.size + a1.size + 4) _ rfl ownd a1 rfl (by omega) (by omega) ?_)
          intro we owne ge
          have hcv := conv_built 34 34 rfl a0 a1 owne
          have HA : Hid (∀ e, Answer ⟨(built 34 a0.data.toList a1.data.toList).toArray⟩ e → e = .returned (.tuple #[.string a0, .int .i64 ((a0.size : Int) + 4), .bool true])) := fun e h => answer_built (.inl rfl) HN2.out HV.out h
          have HK : Hid (IsKey ⟨(built 34 a0.data.toList a1.data.toList).toArray⟩ 1 (a0.size + 1) (a0.size + 4)) := built_key 34 a0 a1 (.inl rfl) HN2.out HV.out
          have HS : Hid ((⟨(built 34 a0.data.toList a1.data.toList).toArray⟩ : ByteArray).size ≤ 4194304) := by
            show _ ≤ _
            rw [size_list, built_length, ← Lib.size_eq, ← Lib.size_eq]; omega
          have HQ : Hid (isQ (B ⟨(built 34 a0.data.toList a1.data.toList).toArray⟩ 0)) := .inl rfl
          generalize (⟨(built 34 a0.data.toList a1.data.toList).toArray⟩ : ByteArray) = c at *
          have HB : Hid (Below w'.heap.size w' we) := by
            have b1 : Below w'.heap.size w' wa := (Below.refl _ _).grown ga (Nat.le_refl _) (fun k hk => by cases hk)
            have b2 := (b1.alloc b1.size _).grown gb (by have := b1.size; simp; omega) (fun k hk => by injection hk with hk; omega)
            have b3 := b2.grown gc b2.size (fun k hk => by injection hk with hk; exact Nat.le_of_eq hk)
            have b4 := (b3.alloc b3.size _).grown gd (by have := b3.size; simp; omega) (fun k hk => by injection hk with hk; omega)
            exact b4.grown ge b4.size (fun k hk => by injection hk with hk; exact Nat.le_of_eq hk)
          clear owna ownb ownb1 ownc ownd owne ga gb gc gd ge HN2 HV
          go_wp2_with fail
          refine (zzQuoted c _ HS.out HK.out.1 HK.out.2.1 HQ.out).mono ?_
          rintro r wf ⟨hans, rfl⟩
          obtain rfl := HA.out _ hans
          clear hans HA HK
          go_wp2_with fail
          go_ret
          exact ⟨rfl, HB.out⟩
        · have hvp : 0 < a1.size := by omega
          have HB1 : Hid (B a1 0 = a1[0].toNat) := B_at hvp
          clear hv
          cases hbl : blankB (a1[0].toNat : Int)
          · have HV : Hid (a1.size = 0 ∨ blankB (B a1 0) = false) := .inr (by rw [HB1.out]; exact hbl)
            have Hbl : Hid (blankB (a1[0].toNat : Int) = false) := hbl
            clear hbl HB1
            go_wp2_with fail
            refine (isSpaceOrTab _ _).mono ?_
            rintro e wz ⟨rfl, rfl⟩
            rw [Hbl.out]
            go_wp2_with (at_make; refine wpList_make_own _ rfl _ _ 26 rfl wz.heap.size 5 i0 (.int .u8 0) 1 Try.underlying26 hi hz0 hz1 _ _ _ (a0.size + a1.size + 4) rfl rfl (by omega) (by rw [hz2]; omega) (by unfold maxLen; omega) (Nat.le_refl _) ?_)
            intro wa owna ga
            go_wp2_with (at_builtin; refine wpList_append_fits _ rfl _ _ 26 rfl wz.heap.size 5 i0 1 Try.underlying26 hi hz1 wz.heap.size 0 (a0.size + a1.size + 4) [] rfl (owna.alloc _) ⟨wa.heap.size, 0, none⟩ 1 1 ([34].map (Value.int .u8)) rfl rfl (new_cells wa _ 5) (u8_one _) (by omega) ?_)
            intro wb ownb gb
            have ownb1 : wb.ownsRow wz.heap.size 5 1 (.slice (some ⟨wz.heap.size, 0, none⟩) 1 (a0.size + a1.size + 4)) 1 [.int .u8 34] := ownb
            go_wp2_with (at_builtin; refine Lib.wpList_append_fits_string _ rfl _ _ 26 9 rfl wz.heap.size 5 i0 Try.underlying26 Try.underlying9 hi hz1 (some ⟨wz.heap.size, 0, none⟩) 1 (a0.size + a1.size + 4) [.int .u8 34] rfl ownb1 a0 rfl (by omega) (by omega) ?_)
            intro wc ownc gc
            go_wp2_with (at_builtin; refine wpList_append_fits _ rfl _ _ 26 rfl wz.heap.size 5 i0 1 Try.underlying26 hi hz1 wz.heap.size (1 + a0.size) (a0.size + a1.size + 4) _ rfl (ownc.alloc _) ⟨wc.heap.size, 0, none⟩ 3 3 ([34, 58, 32].map (Value.int .u8)) rfl rfl (new_cells wc _ 5) (u8_one _) (by omega) ?_)
            intro wd ownd gd
            go_wp2_with (at_builtin; refine Lib.wpList_append_fits_string _ rfl _ _ 26 9 rfl wz.heap.size 5 i0 Try.underlying26 Try.underlying9 hi hz1 (some ⟨wz.heap.size, 0, none⟩) (1 + a0.size + 3) (a0.size + a1.size + 4) _ rfl ownd a1 rfl (by omega) (by omega) ?_)
            intro we owne ge
            have hcv := conv_built 34 34 rfl a0 a1 owne
            have HA : Hid (∀ e, Answer ⟨(built 34 a0.data.toList a1.data.toList).toArray⟩ e → e = .returned (.tuple #[.string a0, .int .i64 ((a0.size : Int) + 4), .bool true])) := fun e h => answer_built (.inl rfl) HN2.out HV.out h
            have HK : Hid (IsKey ⟨(built 34 a0.data.toList a1.data.toList).toArray⟩ 1 (a0.size + 1) (a0.size + 4)) := built_key 34 a0 a1 (.inl rfl) HN2.out HV.out
            have HS : Hid ((⟨(built 34 a0.data.toList a1.data.toList).toArray⟩ : ByteArray).size ≤ 4194304) := by
              show _ ≤ _
              rw [size_list, built_length, ← Lib.size_eq, ← Lib.size_eq]; omega
            have HQ : Hid (isQ (B ⟨(built 34 a0.data.toList a1.data.toList).toArray⟩ 0)) := .inl rfl
            generalize (⟨(built 34 a0.data.toList a1.data.toList).toArray⟩ : ByteArray) = c at *
            have HB : Hid (Below wz.heap.size wz we) := by
              have b1 : Below wz.heap.size wz wa := (Below.refl _ _).grown ga (Nat.le_refl _) (fun k hk => by cases hk)
              have b2 := (b1.alloc b1.size _).grown gb (by have := b1.size; simp; omega) (fun k hk => by injection hk with hk; omega)
              have b3 := b2.grown gc b2.size (fun k hk => by injection hk with hk; exact Nat.le_of_eq hk)
              have b4 := (b3.alloc b3.size _).grown gd (by have := b3.size; simp; omega) (fun k hk => by injection hk with hk; omega)
              exact b4.grown ge b4.size (fun k hk => by injection hk with hk; exact Nat.le_of_eq hk)
            clear owna ownb ownb1 ownc ownd owne ga gb gc gd ge HN2 HV
            go_wp2_with fail
            refine (zzQuoted c _ HS.out HK.out.1 HK.out.2.1 HQ.out).mono ?_
            rintro r wf ⟨hans, rfl⟩
            obtain rfl := HA.out _ hans
            clear hans HA HK
            go_wp2_with fail
            go_ret
            exact ⟨rfl, HB.out⟩
          · have Hbl : Hid (blankB (a1[0].toNat : Int) = true) := hbl
            clear hbl HB1
            go_wp2_with fail
            refine (isSpaceOrTab _ _).mono ?_
            rintro e wz ⟨rfl, rfl⟩
            rw [Hbl.out]
            go_wp2_with fail
            go_ret
            exact ⟨rfl, Below.refl _ _⟩
  · go_wp2_with fail
    go_loop [8] (fun t => ∃ j : Nat, j ≤ a0.size ∧ t = .int .i64 j ∧ ∀ i, i < j → B a0 i ≠ 39) (fun t => a0.size - (intOf t).toNat)
    case atStart => exact ⟨0, Nat.zero_le _, rfl, fun i hi => absurd hi (Nat.not_lt_zero _)⟩
    case round =>
      obtain ⟨j, hj, rfl, hno⟩ := hrel
      have HN : Hid (∀ i, i < j → B a0 i ≠ 39) := hno
      clear hno
      by_cases hlt : j < a0.size
      · have HB : Hid (B a0 j = a0[j].toNat) := B_at hlt
        by_cases hq : a0[j].toNat = 39
        · have hqb : ((a0[j].toNat : Int) == 39) = true := by simp; omega
          clear hq
          go_wp2_with fail
          go_ret
          exact ⟨rfl, Below.refl _ _⟩
        · have hqb : ((a0[j].toNat : Int) == 39) = false := by simp; omega
          have HN2 : Hid (∀ i, i < j + 1 → B a0 i ≠ 39) := fun i hi => by
            by_cases e : i = j
            · rw [e, HB.out]; exact hq
            · exact HN.out i (by omega)
          clear hq HB HN
          go_wp2_with fail
          go_round
          case rel => exact ⟨j + 1, by omega, by go_num, HN2.out⟩
          case measure => simp [intOf]; omega
      · have HN2 : Hid (∀ i, i < a0.size → B a0 i ≠ 39) := fun i hi => HN.out i (by omega)
        clear HN
        by_cases hv : a1.size = 0
        · have HV : Hid (a1.size = 0 ∨ blankB (B a1 0) = false) := .inl hv
          have hvn : ¬ 0 < a1.size := by omega
          clear hv
          go_wp2_with (at_make; refine wpList_make_own _ rfl _ _ 26 rfl w'.heap.size 5 i0 (.int .u8 0) 1 Try.underlying26 hi hz0 hz1 _ _ _ (a0.size + a1.size + 4) rfl rfl (by omega) (by rw [hz2]; omega) (by unfold maxLen; omega) (Nat.le_refl _) ?_)
          intro wa owna ga
          go_wp2_with (at_builtin; refine wpList_append_fits _ rfl _ _ 26 rfl w'.heap.size 5 i0 1 Try.underlying26 hi hz1 w'.heap.size 0 (a0.size + a1.size + 4) [] rfl (owna.alloc _) ⟨wa.heap.size, 0, none⟩ 1 1 ([39].map (Value.int .u8)) rfl rfl (new_cells wa _ 5) (u8_one _) (by omega) ?_)
          intro wb ownb gb
          have ownb1 : wb.ownsRow w'.heap.size 5 1 (.slice (some ⟨w'.heap.size, 0, none⟩) 1 (a0.size + a1.size + 4)) 1 [.int .u8 39] := ownb
          go_wp2_with (at_builtin; refine Lib.wpList_append_fits_string _ rfl _ _ 26 9 rfl w'.heap.size 5 i0 Try.underlying26 Try.underlying9 hi hz1 (some ⟨w'.heap.size, 0, none⟩) 1 (a0.size + a1.size + 4) [.int .u8 39] rfl ownb1 a0 rfl (by omega) (by omega) ?_)
          intro wc ownc gc
          go_wp2_with (at_builtin; refine wpList_append_fits _ rfl _ _ 26 rfl w'.heap.size 5 i0 1 Try.underlying26 hi hz1 w'.heap.size (1 + a0.size) (a0.size + a1.size + 4) _ rfl (ownc.alloc _) ⟨wc.heap.size, 0, none⟩ 3 3 ([39, 58, 32].map (Value.int .u8)) rfl rfl (new_cells wc _ 5) (u8_one _) (by omega) ?_)
          intro wd ownd gd
          go_wp2_with (at_builtin; refine Lib.wpList_append_fits_string _ rfl _ _ 26 9 rfl w'.heap.size 5 i0 Try.underlying26 Try.underlying9 hi hz1 (some ⟨w'.heap.size, 0, none⟩) (1 + a0.size + 3) (a0.size + a1.size + 4) _ rfl ownd a1 rfl (by omega) (by omega) ?_)
          intro we owne ge
          have hcv := conv_built 39 39 rfl a0 a1 owne
          have HA : Hid (∀ e, Answer ⟨(built 39 a0.data.toList a1.data.toList).toArray⟩ e → e = .returned (.tuple #[.string a0, .int .i64 ((a0.size : Int) + 4), .bool true])) := fun e h => answer_built (.inr rfl) HN2.out HV.out h
          have HK : Hid (IsKey ⟨(built 39 a0.data.toList a1.data.toList).toArray⟩ 1 (a0.size + 1) (a0.size + 4)) := built_key 39 a0 a1 (.inr rfl) HN2.out HV.out
          have HS : Hid ((⟨(built 39 a0.data.toList a1.data.toList).toArray⟩ : ByteArray).size ≤ 4194304) := by
            show _ ≤ _
            rw [size_list, built_length, ← Lib.size_eq, ← Lib.size_eq]; omega
          have HQ : Hid (isQ (B ⟨(built 39 a0.data.toList a1.data.toList).toArray⟩ 0)) := .inr rfl
          generalize (⟨(built 39 a0.data.toList a1.data.toList).toArray⟩ : ByteArray) = c at *
          have HB : Hid (Below w'.heap.size w' we) := by
            have b1 : Below w'.heap.size w' wa := (Below.refl _ _).grown ga (Nat.le_refl _) (fun k hk => by cases hk)
            have b2 := (b1.alloc b1.size _).grown gb (by have := b1.size; simp; omega) (fun k hk => by injection hk with hk; omega)
            have b3 := b2.grown gc b2.size (fun k hk => by injection hk with hk; exact Nat.le_of_eq hk)
            have b4 := (b3.alloc b3.size _).grown gd (by have := b3.size; simp; omega) (fun k hk => by injection hk with hk; omega)
            exact b4.grown ge b4.size (fun k hk => by injection hk with hk; exact Nat.le_of_eq hk)
          clear owna ownb ownb1 ownc ownd owne ga gb gc gd ge HN2 HV
          go_wp2_with fail
          refine (zzQuoted c _ HS.out HK.out.1 HK.out.2.1 HQ.out).mono ?_
          rintro r wf ⟨hans, rfl⟩
          obtain rfl := HA.out _ hans
          clear hans HA HK
          go_wp2_with fail
          go_ret
          exact ⟨rfl, HB.out⟩
        · have hvp : 0 < a1.size := by omega
          have HB1 : Hid (B a1 0 = a1[0].toNat) := B_at hvp
          clear hv
          cases hbl : blankB (a1[0].toNat : Int)
          · have HV : Hid (a1.size = 0 ∨ blankB (B a1 0) = false) := .inr (by rw [HB1.out]; exact hbl)
            have Hbl : Hid (blankB (a1[0].toNat : Int) = false) := hbl
            clear hbl HB1
            go_wp2_with fail
            refine (isSpaceOrTab _ _).mono ?_
            rintro e wz ⟨rfl, rfl⟩
            rw [Hbl.out]
            go_wp2_with (at_make; refine wpList_make_own _ rfl _ _ 26 rfl wz.heap.size 5 i0 (.int .u8 0) 1 Try.underlying26 hi hz0 hz1 _ _ _ (a0.size + a1.size + 4) rfl rfl (by omega) (by rw [hz2]; omega) (by unfold maxLen; omega) (Nat.le_refl _) ?_)
            intro wa owna ga
            go_wp2_with (at_builtin; refine wpList_append_fits _ rfl _ _ 26 rfl wz.heap.size 5 i0 1 Try.underlying26 hi hz1 wz.heap.size 0 (a0.size + a1.size + 4) [] rfl (owna.alloc _) ⟨wa.heap.size, 0, none⟩ 1 1 ([39].map (Value.int .u8)) rfl rfl (new_cells wa _ 5) (u8_one _) (by omega) ?_)
            intro wb ownb gb
            have ownb1 : wb.ownsRow wz.heap.size 5 1 (.slice (some ⟨wz.heap.size, 0, none⟩) 1 (a0.size + a1.size + 4)) 1 [.int .u8 39] := ownb
            go_wp2_with (at_builtin; refine Lib.wpList_append_fits_string _ rfl _ _ 26 9 rfl wz.heap.size 5 i0 Try.underlying26 Try.underlying9 hi hz1 (some ⟨wz.heap.size, 0, none⟩) 1 (a0.size + a1.size + 4) [.int .u8 39] rfl ownb1 a0 rfl (by omega) (by omega) ?_)
            intro wc ownc gc
            go_wp2_with (at_builtin; refine wpList_append_fits _ rfl _ _ 26 rfl wz.heap.size 5 i0 1 Try.underlying26 hi hz1 wz.heap.size (1 + a0.size) (a0.size + a1.size + 4) _ rfl (ownc.alloc _) ⟨wc.heap.size, 0, none⟩ 3 3 ([39, 58, 32].map (Value.int .u8)) rfl rfl (new_cells wc _ 5) (u8_one _) (by omega) ?_)
            intro wd ownd gd
            go_wp2_with (at_builtin; refine Lib.wpList_append_fits_string _ rfl _ _ 26 9 rfl wz.heap.size 5 i0 Try.underlying26 Try.underlying9 hi hz1 (some ⟨wz.heap.size, 0, none⟩) (1 + a0.size + 3) (a0.size + a1.size + 4) _ rfl ownd a1 rfl (by omega) (by omega) ?_)
            intro we owne ge
            have hcv := conv_built 39 39 rfl a0 a1 owne
            have HA : Hid (∀ e, Answer ⟨(built 39 a0.data.toList a1.data.toList).toArray⟩ e → e = .returned (.tuple #[.string a0, .int .i64 ((a0.size : Int) + 4), .bool true])) := fun e h => answer_built (.inr rfl) HN2.out HV.out h
            have HK : Hid (IsKey ⟨(built 39 a0.data.toList a1.data.toList).toArray⟩ 1 (a0.size + 1) (a0.size + 4)) := built_key 39 a0 a1 (.inr rfl) HN2.out HV.out
            have HS : Hid ((⟨(built 39 a0.data.toList a1.data.toList).toArray⟩ : ByteArray).size ≤ 4194304) := by
              show _ ≤ _
              rw [size_list, built_length, ← Lib.size_eq, ← Lib.size_eq]; omega
            have HQ : Hid (isQ (B ⟨(built 39 a0.data.toList a1.data.toList).toArray⟩ 0)) := .inr rfl
            generalize (⟨(built 39 a0.data.toList a1.data.toList).toArray⟩ : ByteArray) = c at *
            have HB : Hid (Below wz.heap.size wz we) := by
              have b1 : Below wz.heap.size wz wa := (Below.refl _ _).grown ga (Nat.le_refl _) (fun k hk => by cases hk)
              have b2 := (b1.alloc b1.size _).grown gb (by have := b1.size; simp; omega) (fun k hk => by injection hk with hk; omega)
              have b3 := b2.grown gc b2.size (fun k hk => by injection hk with hk; exact Nat.le_of_eq hk)
              have b4 := (b3.alloc b3.size _).grown gd (by have := b3.size; simp; omega) (fun k hk => by injection hk with hk; omega)
              exact b4.grown ge b4.size (fun k hk => by injection hk with hk; exact Nat.le_of_eq hk)
            clear owna ownb ownb1 ownc ownd owne ga gb gc gd ge HN2 HV
            go_wp2_with fail
            refine (zzQuoted c _ HS.out HK.out.1 HK.out.2.1 HQ.out).mono ?_
            rintro r wf ⟨hans, rfl⟩
            obtain rfl := HA.out _ hans
            clear hans HA HK
            go_wp2_with fail
            go_ret
            exact ⟨rfl, HB.out⟩
          · have Hbl : Hid (blankB (a1[0].toNat : Int) = true) := hbl
            clear hbl HB1
            go_wp2_with fail
            refine (isSpaceOrTab _ _).mono ?_
            rintro e wz ⟨rfl, rfl⟩
            rw [Hbl.out]
            go_wp2_with fail
            go_ret
            exact ⟨rfl, Below.refl _ _⟩

end Go.Proofs.Qxb6605392a.Yk

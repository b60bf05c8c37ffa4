import Derived.Test.Qxb6003813aDir
import Derived.Maps.OwnSet
namespace Go.Proofs.Qxb6003813a.Lk
open Go.RowKit Go.Maps Go.WideMaps
set_option linter.unusedVariables false

theorem law : Keyed Try.prog 9 := string_keyed Try.underlying9
theorem zero29 (w : World) : (zeroValue 29).run Try.prog w = .ok (.pointer none) w := by kernel_rfl

/-- What the last place below k at which 'e' stands says of it: is it a directory? -/
def upTo (ss : List ByteArray) (bs : List Bool) (e : ByteArray) : Nat → Option Bool
  | 0 => none
  | k + 1 => if ss.getD k ByteArray.empty = e then some (bs.getD k false) else upTo ss bs e k

def modeOf (x : Bool) : Int := if x then 2147484141 else 420

def tokR (v : Value) : Option (DataW Value × List MemPlace) := some (.held v, [])

def Found (wr : World) (B : Nat) (D : DataW Value) (e : ByteArray) : Option Bool → Prop
  | none => D.atKey (.string e.data.toList) (.held (.pointer none)) = .held (.pointer none)
  | some x => ∃ b, D.atKey (.string e.data.toList) (.held (.pointer none)) = .held (.pointer (some ⟨b, 0, none⟩)) ∧ B < b ∧ b < wr.heap.size ∧ wr.cell? ⟨b, 0, none⟩ = some (.int .u32 (modeOf x))

def MapAt (wr : World) (d : Nat) (e : ByteArray) (ss : List ByteArray) (bs : List Bool) (k : Nat) : Prop :=
  (k = 0 ∧ wr.cell? ⟨d, 8, none⟩ = some (.map none) ∧ wr.heap.size = d + 1) ∨
  (0 < k ∧ wr.cell? ⟨d, 8, none⟩ = some (.map (some (d + 1))) ∧ ∃ D, wr.ownsMap Try.prog 9 tokR (d + 1) k D ∧ Found wr (d + 1) D e (upTo ss bs e k))

theorem str_inj {a b : ByteArray} (h : (Lit.string a.data.toList) = Lit.string b.data.toList) : a = b := by
  injection h with h
  cases a; cases b; simp_all

/-- A round's store, in the words of the relation. -/
theorem Found.step {wr w1 : World} {B nb : Nat} {D : DataW Value} {e s : ByteArray} {o : Option Bool} {x : Bool} (hD : IsMap D) (h : Found wr B D e o)
    (hkeep : ∀ b, B < b → b < wr.heap.size → w1.cell? ⟨b, 0, none⟩ = wr.cell? ⟨b, 0, none⟩) (hsz : wr.heap.size ≤ w1.heap.size)
    (hn1 : B < nb) (hn2 : nb < w1.heap.size) (hn3 : w1.cell? ⟨nb, 0, none⟩ = some (.int .u32 (modeOf x))) :
    Found w1 B (D.put (.string s.data.toList) (.held (.pointer (some ⟨nb, 0, none⟩)))) e (if s = e then some x else o) := by
  by_cases he : s = e
  · rw [if_pos he]
    subst he
    exact ⟨nb, atKey_put_same hD (by simp [WideAt.IsKeyLit]) _ _, hn1, hn2, hn3⟩
  · rw [if_neg he]
    have hne : Lit.string e.data.toList ≠ Lit.string s.data.toList := fun h => he (str_inj h.symm)
    cases o with
    | none => exact (atKey_put_other hne _ _).trans h
    | some y =>
      obtain ⟨b, h1, h2, h3, h4⟩ := h
      exact ⟨b, (atKey_put_other hne _ _).trans h1, h2, by omega, by rw [hkeep b h2 h3]; exact h4⟩

/-- What holds at a round's head. -/
def Rel (w : World) (rm : Bool) (e : ByteArray) (ss : List ByteArray) (bs : List Bool) (k : Nat) (wr : World) : Prop :=
  Below w.heap.size w wr ∧ w.heap.size < wr.heap.size ∧ wr.cell? ⟨w.heap.size, 9, none⟩ = some (.bool rm) ∧ wr.frozen? ⟨w.heap.size, 8, none⟩ = false ∧ MapAt wr w.heap.size e ss bs k

theorem after {w wx w1 : World} {rm : Bool} {e s : ByteArray} {ss : List ByteArray} {bs : List Bool} {k B nb : Nat} {D : DataW Value} {x : Bool}
    (hB : B = w.heap.size + 1) (hbel : Below w.heap.size w wx) (hsz : w.heap.size < wx.heap.size)
    (c9 : wx.cell? ⟨w.heap.size, 9, none⟩ = some (.bool rm)) (f8 : wx.frozen? ⟨w.heap.size, 8, none⟩ = false) (c8 : wx.cell? ⟨w.heap.size, 8, none⟩ = some (.map (some B)))
    (hown : wx.ownsMap Try.prog 9 tokR B k D) (hf : Found wx B D e (upTo ss bs e k))
    (hn1 : B < nb) (hn2 : nb < wx.heap.size) (hn3 : wx.cell? ⟨nb, 0, none⟩ = some (.int .u32 (modeOf x)))
    (Hup : upTo ss bs e (k + 1) = if s = e then some x else upTo ss bs e k)
    (hown1 : w1.ownsMap Try.prog 9 tokR B (k + 1) (D.put (.string s.data.toList) (.held (.pointer (some ⟨nb, 0, none⟩))))) (hg : wx.grownBy w1 (some B)) :
    Rel w rm e ss bs (k + 1) w1 := by
  have hne : some w.heap.size ≠ some B := by intro h; injection h with h; omega
  have hcell : ∀ b o, b < wx.heap.size → b ≠ B → w1.cell? ⟨b, o, none⟩ = wx.cell? ⟨b, o, none⟩ := fun b o h1 h2 =>
    World.cell?_of_block (w := wx) (hg.block b h1 (by intro h; injection h with h; exact h2 h))
  refine ⟨hbel.grown hg (Nat.le_of_lt hsz) (fun j hj => by injection hj with hj; omega), Nat.lt_of_lt_of_le hsz hg.size, ?_, ?_, .inr ⟨Nat.succ_pos _, ?_, D.put (.string s.data.toList) (.held (.pointer (some ⟨nb, 0, none⟩))), ?_, ?_⟩⟩
  · rw [hcell _ _ hsz (by omega)]; exact c9
  · rw [World.frozen?_of_block (w := wx) (hg.block _ hsz hne)]; exact f8
  · rw [hcell _ _ hsz (by omega), ← hB]; exact c8
  · rw [← hB]; exact hown1
  · rw [Hup, ← hB]
    exact Found.step hown.isMap hf (fun b h1 h2 => hcell b 0 h2 (by omega)) hg.size hn1 (Nat.lt_of_lt_of_le hn2 hg.size) (by rw [hcell nb 0 hn2 (by omega)]; exact hn3)

theorem Found.alloc {wr : World} {B : Nat} {D : DataW Value} {e : ByteArray} {o : Option Bool} (h : Found wr B D e o) (ob : Obj) : Found (wr.alloc ob) B D e o := by
  cases o with
  | none => exact h
  | some y =>
    obtain ⟨b, h1, h2, h3, h4⟩ := h
    refine ⟨b, h1, h2, by simp; omega, ?_⟩
    rw [World.cell?_of_block (w := wr) (Below.heap_alloc _ _ _ h3)]
    exact h4

/-- The node that a round lays. -/
abbrev nodeObj (m : Int) : Obj := .cells #[.int .u32 m, .int .u64 0, .int .i64 0, .pointer none, .int .i64 0, .slice none 0 0, .map none, .string ⟨#[]⟩, .map none, .bool false] 57

theorem node_cell (wr : World) (m : Int) : (wr.alloc (nodeObj m)).cell? ⟨wr.heap.size, 0, none⟩ = some (.int .u32 m) := by go_simp

/-- A later round: the map is there. -/
theorem after_later {w wr w1 : World} {rm : Bool} {e s : ByteArray} {ss : List ByteArray} {bs : List Bool} {k : Nat} {D : DataW Value} {x : Bool} {md : Int} (hmd : md = modeOf x)
    (hbel : Below w.heap.size w wr) (hsz : w.heap.size < wr.heap.size)
    (c9 : wr.cell? ⟨w.heap.size, 9, none⟩ = some (.bool rm)) (f8 : wr.frozen? ⟨w.heap.size, 8, none⟩ = false) (c8 : wr.cell? ⟨w.heap.size, 8, none⟩ = some (.map (some (w.heap.size + 1))))
    (hown : wr.ownsMap Try.prog 9 tokR (w.heap.size + 1) k D) (hf : Found wr (w.heap.size + 1) D e (upTo ss bs e k))
    (Hup : upTo ss bs e (k + 1) = if s = e then some x else upTo ss bs e k)
    (hown1 : w1.ownsMap Try.prog 9 tokR (w.heap.size + 1) (k + 1) (D.put (.string s.data.toList) (.held (.pointer (some ⟨wr.heap.size, 0, none⟩))))) (hg : (wr.alloc (nodeObj md)).grownBy w1 (some (w.heap.size + 1))) :
    Rel w rm e ss bs (k + 1) w1 := by
  have hlt := hown.lt
  have ha : ∀ b o, b < wr.heap.size → (wr.alloc (nodeObj md)).cell? ⟨b, o, none⟩ = wr.cell? ⟨b, o, none⟩ := fun b o h => World.cell?_of_block (w := wr) (Below.heap_alloc _ _ _ h)
  refine after (wx := wr.alloc (nodeObj md)) (B := w.heap.size + 1) (nb := wr.heap.size) rfl (hbel.alloc (Nat.le_of_lt hsz) _) (by simp; omega) ?_ ?_ ?_ (hown.alloc _) (hf.alloc _) hlt (by simp) ?_ Hup hown1 hg
  · rw [ha _ _ hsz]; exact c9
  · rw [World.frozen?_of_block (w := wr) (Below.heap_alloc _ _ _ hsz)]; exact f8
  · rw [ha _ _ hsz]; exact c8
  · rw [node_cell, hmd]

/-- The first round: the map is made. -/
theorem after_first {w wr w1 : World} {rm : Bool} {e s : ByteArray} {ss : List ByteArray} {bs : List Bool} {k : Nat} {x : Bool} {md : Int} (hmd : md = modeOf x) (hk : k = 0)
    (hbel : Below w.heap.size w wr) (hsz : wr.heap.size = w.heap.size + 1)
    (c9 : wr.cell? ⟨w.heap.size, 9, none⟩ = some (.bool rm)) (f8 : wr.frozen? ⟨w.heap.size, 8, none⟩ = false) (c8 : wr.cell? ⟨w.heap.size, 8, none⟩ = some (.map none))
    (Hup : upTo ss bs e (k + 1) = if s = e then some x else upTo ss bs e k)
    (hown1 : w1.ownsMap Try.prog 9 tokR wr.heap.size (k + 1) ((DataW.map []).put (.string s.data.toList) (.held (.pointer (some ⟨wr.heap.size + 1, 0, none⟩)))))
    (hg : (((wr.setCell ⟨w.heap.size, 8, none⟩ (.map (some wr.heap.size))).alloc (.map #[] 0)).alloc (nodeObj md)).grownBy w1 (some wr.heap.size)) :
    Rel w rm e ss bs (k + 1) w1 := by
  subst hk
  have e1 : (wr.setCell ⟨w.heap.size, 8, none⟩ (.map (some wr.heap.size))).heap.size = wr.heap.size := by simp [World.setCell]
  generalize hwy : (wr.setCell ⟨w.heap.size, 8, none⟩ (.map (some wr.heap.size))) = wy at *
  have hy : Below w.heap.size w wy := by rw [← hwy]; exact hbel.setCell (by exact Nat.le_refl _) _
  have d8 : wy.cell? ⟨w.heap.size, 8, none⟩ = some (.map (some wr.heap.size)) := by rw [← hwy]; go_simp
  have d9 : wy.cell? ⟨w.heap.size, 9, none⟩ = some (.bool rm) := by rw [← hwy]; go_simp
  have g8 : wy.frozen? ⟨w.heap.size, 8, none⟩ = false := by rw [← hwy, World.frozen?_setCell]; exact f8
  have ho := World.ownsMap_made wy Try.prog 9 tokR
  rw [e1] at ho
  have ha : ∀ b o, b < wy.heap.size → ((wy.alloc (.map #[] 0)).alloc (nodeObj md)).cell? ⟨b, o, none⟩ = wy.cell? ⟨b, o, none⟩ := fun b o h =>
    World.cell?_of_block (w := wy) ((Below.heap_alloc _ _ _ (by simp; omega)).trans (Below.heap_alloc _ _ _ h))
  have hf : ∀ b o, b < wy.heap.size → ((wy.alloc (.map #[] 0)).alloc (nodeObj md)).frozen? ⟨b, o, none⟩ = wy.frozen? ⟨b, o, none⟩ := fun b o h =>
    World.frozen?_of_block (w := wy) ((Below.heap_alloc _ _ _ (by simp; omega)).trans (Below.heap_alloc _ _ _ h))
  have hlt : w.heap.size < wy.heap.size := by omega
  refine after (wx := (wy.alloc (.map #[] 0)).alloc (nodeObj md)) (B := wr.heap.size) (nb := wr.heap.size + 1) hsz ((hy.alloc (Nat.le_of_lt hlt) _).alloc (by simp; omega) _) (by simp; omega) ?_ ?_ ?_ (ho.alloc _) ?_ (by omega) (by simp; omega) ?_ Hup hown1 hg
  · rw [ha _ _ hlt]; exact d9
  · rw [hf _ _ hlt]; exact g8
  · rw [ha _ _ hlt]; exact d8
  · rfl
  · have := node_cell (wy.alloc (.map #[] 0)) md
    rw [World.size_alloc, e1] at this
    rw [this, hmd]

set_option maxRecDepth 100000 in
set_option maxHeartbeats 2000000 in
theorem dirWith (a2 : Option Addr) (nb noff n c1 m c2 : Nat) (ss : List ByteArray) (bs : List Bool) (rm : Bool) (e : ByteArray) (w : World) (hn : n ≤ 4096) (hm : m ≤ 1048576)
    (hnb : nb < w.heap.size) (hS : ∀ i, i < n → w.cell? ⟨nb, noff + i, none⟩ = some (.string (ss.getD i ByteArray.empty))) (hlen : ∀ i, (ss.getD i ByteArray.empty).size ≤ maxLen)
    (hbl : bs.length = m)
    (hB : ∀ i, i < m → ∃ db doff, a2 = some ⟨db, doff, none⟩ ∧ db < w.heap.size ∧ w.cell? ⟨db, doff + i, none⟩ = some (.bool (bs.getD i false))) :
    Calls Try.prog 11 #[.slice (some ⟨nb, noff, none⟩) n c1, .slice a2 m c2, .bool rm] w fun r w' => r = .returned (.pointer (some ⟨w.heap.size, 0, none⟩)) ∧ Rel w rm e ss bs n w' := by
  have hmm := @run_makeMap Try.prog
  have qn : ∀ (w : World) (r : Option Nat), (binOp .eql 55 (.map r) (.map none)).run Try.prog w = .ok (.bool r.isNone) w := fun w r => run_eql_map_nil w _ _ _ r Try.underlying55
  go_enter Try.func11, Try.ntmps11
  go_wp2_with (go_at_call 17; refine (newDir _).mono ?_; rintro e w' ⟨rfl, m0, rfl⟩)
  go_loopw [18] (fun i wr => ∃ k : Nat, k ≤ n ∧ i = .int .i64 k ∧ Rel w rm e ss bs k wr)
    (fun i _ => n - (intOf i).toNat)
  case atStart =>
    refine ⟨0, Nat.zero_le _, rfl, (Below.refl _ _).alloc (Nat.le_refl _) _, by simp, by go_simp, by go_simp, .inl ⟨rfl, by go_simp, by simp⟩⟩
  case round =>
    obtain ⟨k, hk, rfl, hrel⟩ := hrel
    by_cases hlt : k < n
    · obtain ⟨hbel, hws, c9, f8, hmap⟩ := hrel
      obtain ⟨s, hs⟩ : ∃ s, s = ss.getD k ByteArray.empty := ⟨_, rfl⟩
      have hcx : wr.cell? ⟨nb, noff + k, none⟩ = some (.string s) := by rw [hs]; exact (hbel.cell (by exact hnb)).trans (hS k hlt)
      have hkey : keyOf Try.prog 9 (.string s) = some (.string s.data.toList) := keyOf_string_mk Try.underlying9 (by rw [hs]; exact hlen k)
      obtain ⟨x, hx⟩ : ∃ x, x = bs.getD k false := ⟨_, rfl⟩
      have Hup : Hid (upTo ss bs e (k + 1) = if s = e then some x else upTo ss bs e k) := by rw [hs, hx]; rfl
      clear hs
      by_cases hkm : k < m
      · obtain ⟨db, doff, rfl, hdb, hcb⟩ := hB k hkm
        have hcy : wr.cell? ⟨db, doff + k, none⟩ = some (.bool x) := by rw [hx]; exact (hbel.cell (by exact hdb)).trans hcb
        clear hcb hx hS hB
        rcases hmap with ⟨hk0, c8, hsz⟩ | ⟨h0, c8, D, hown, hfd⟩
        · have Hk0 : Hid (k = 0) := hk0
          have Hsz : Hid (wr.heap.size = w.heap.size + 1) := hsz
          have hoz : ((wr.setCell ⟨w.heap.size, 8, none⟩ (.map (some wr.heap.size))).alloc (.map #[] 0)).ownsMap Try.prog 9 tokR wr.heap.size k (.map []) := by
            have ho := World.ownsMap_made (wr.setCell ⟨w.heap.size, 8, none⟩ (.map (some wr.heap.size))) Try.prog 9 tokR
            rw [show (wr.setCell ⟨w.heap.size, 8, none⟩ (.map (some wr.heap.size))).heap.size = wr.heap.size by simp [World.setCell]] at ho
            rw [hk0]; exact ho
          clear hk0 hsz
          cases x
          · go_wp2_with (first | (at_mapUpdate; refine wpList_mapUpdate_own _ rfl _ _ _ 55 rfl 9 29 law Try.underlying55 tokR wr.heap.size k (.map []) rfl (hoz.alloc _) (by unfold maxLen; omega) _ _ _ rfl rfl hkey _ [] rfl ?_) | go_in)
            intro w1 hown1 hgrow1
            have R1 := after_first (x := false) rfl Hk0 hbel Hsz c9 f8 c8 Hup hown1 hgrow1
            clear hown1 hgrow1 hoz hbel c9 f8 c8 hcx hcy
            go_wp2
            go_roundw
            case rel => exact ⟨k + 1, by omega, by go_num, R1⟩
            case measure => simp [intOf]; omega
          · go_wp2_with (first | (at_mapUpdate; refine wpList_mapUpdate_own _ rfl _ _ _ 55 rfl 9 29 law Try.underlying55 tokR wr.heap.size k (.map []) rfl (hoz.alloc _) (by unfold maxLen; omega) _ _ _ rfl rfl hkey _ [] rfl ?_) | go_in)
            intro w1 hown1 hgrow1
            have R1 := after_first (x := true) rfl Hk0 hbel Hsz c9 f8 c8 Hup hown1 hgrow1
            clear hown1 hgrow1 hoz hbel c9 f8 c8 hcx hcy
            go_wp2
            go_roundw
            case rel => exact ⟨k + 1, by omega, by go_num, R1⟩
            case measure => simp [intOf]; omega
        · cases x
          · go_wp2_with (first | (at_mapUpdate; refine wpList_mapUpdate_own _ rfl _ _ _ 55 rfl 9 29 law Try.underlying55 tokR (w.heap.size + 1) k D rfl (hown.alloc _) (by unfold maxLen; omega) _ _ _ rfl rfl hkey _ [] rfl ?_) | go_in)
            intro w1 hown1 hgrow1
            have R1 := after_later (x := false) rfl hbel hws c9 f8 c8 hown hfd Hup hown1 hgrow1
            clear hown1 hgrow1 hown hfd hbel c9 f8 c8 hcx hcy
            go_wp2
            go_roundw
            case rel => exact ⟨k + 1, by omega, by go_num, R1⟩
            case measure => simp [intOf]; omega
          · go_wp2_with (first | (at_mapUpdate; refine wpList_mapUpdate_own _ rfl _ _ _ 55 rfl 9 29 law Try.underlying55 tokR (w.heap.size + 1) k D rfl (hown.alloc _) (by unfold maxLen; omega) _ _ _ rfl rfl hkey _ [] rfl ?_) | go_in)
            intro w1 hown1 hgrow1
            have R1 := after_later (x := true) rfl hbel hws c9 f8 c8 hown hfd Hup hown1 hgrow1
            clear hown1 hgrow1 hown hfd hbel c9 f8 c8 hcx hcy
            go_wp2
            go_roundw
            case rel => exact ⟨k + 1, by omega, by go_num, R1⟩
            case measure => simp [intOf]; omega
      · have hxf : x = false := by rw [hx, List.getD, List.getElem?_eq_none (by omega)]; rfl
        subst hxf
        clear hx hS hB
        rcases hmap with ⟨hk0, c8, hsz⟩ | ⟨h0, c8, D, hown, hfd⟩
        · have Hk0 : Hid (k = 0) := hk0
          have Hsz : Hid (wr.heap.size = w.heap.size + 1) := hsz
          have hoz : ((wr.setCell ⟨w.heap.size, 8, none⟩ (.map (some wr.heap.size))).alloc (.map #[] 0)).ownsMap Try.prog 9 tokR wr.heap.size k (.map []) := by
            have ho := World.ownsMap_made (wr.setCell ⟨w.heap.size, 8, none⟩ (.map (some wr.heap.size))) Try.prog 9 tokR
            rw [show (wr.setCell ⟨w.heap.size, 8, none⟩ (.map (some wr.heap.size))).heap.size = wr.heap.size by simp [World.setCell]] at ho
            rw [hk0]; exact ho
          clear hk0 hsz
          · go_wp2_with (first | (at_mapUpdate; refine wpList_mapUpdate_own _ rfl _ _ _ 55 rfl 9 29 law Try.underlying55 tokR wr.heap.size k (.map []) rfl (hoz.alloc _) (by unfold maxLen; omega) _ _ _ rfl rfl hkey _ [] rfl ?_) | go_in)
            intro w1 hown1 hgrow1
            have R1 := after_first (x := false) rfl Hk0 hbel Hsz c9 f8 c8 Hup hown1 hgrow1
            clear hown1 hgrow1 hoz hbel c9 f8 c8 hcx 
            go_wp2
            go_roundw
            case rel => exact ⟨k + 1, by omega, by go_num, R1⟩
            case measure => simp [intOf]; omega
        · go_wp2_with (first | (at_mapUpdate; refine wpList_mapUpdate_own _ rfl _ _ _ 55 rfl 9 29 law Try.underlying55 tokR (w.heap.size + 1) k D rfl (hown.alloc _) (by unfold maxLen; omega) _ _ _ rfl rfl hkey _ [] rfl ?_) | go_in)
          intro w1 hown1 hgrow1
          have R1 := after_later (x := false) rfl hbel hws c9 f8 c8 hown hfd Hup hown1 hgrow1
          clear hown1 hgrow1 hown hfd hbel c9 f8 c8 hcx 
          go_wp2
          go_roundw
          case rel => exact ⟨k + 1, by omega, by go_num, R1⟩
          case measure => simp [intOf]; omega
    · have hkn : k = n := by omega
      subst hkn
      clear hS hB
      go_wp2
      go_ret
      exact ⟨rfl, hrel⟩

set_option maxRecDepth 100000 in
set_option maxHeartbeats 1000000 in
theorem dirWith0 (a1 a2 : Option Addr) (c1 m c2 : Nat) (ss : List ByteArray) (bs : List Bool) (rm : Bool) (e : ByteArray) (w : World) :
    Calls Try.prog 11 #[.slice a1 0 c1, .slice a2 m c2, .bool rm] w fun r w' => r = .returned (.pointer (some ⟨w.heap.size, 0, none⟩)) ∧ Rel w rm e ss bs 0 w' := by
  go_enter Try.func11, Try.ntmps11
  go_wp2_with (go_at_call 17; refine (newDir _).mono ?_; rintro e w' ⟨rfl, m0, rfl⟩)
  refine wp_loop_rounds 1 ?_
  rw [rounds_succ]
  go_wp2
  go_ret
  refine ⟨rfl, (Below.refl _ _).alloc (Nat.le_refl _) _, by simp, by go_simp, by go_simp, .inl ⟨rfl, by go_simp, by simp⟩⟩

theorem Rel.dir_none {w w' : World} {rm : Bool} {e : ByteArray} {ss : List ByteArray} {bs : List Bool} {n : Nat} (h : Rel w rm e ss bs n w') (he : e.size ≤ maxLen) (hu : upTo ss bs e n = none) :
    Dir w' w.heap.size rm e none := by
  obtain ⟨hbel, hws, c9, f8, hmap⟩ := h
  have hkey := keyOf_string_mk Try.underlying9 he
  rcases hmap with ⟨hk0, c8, hsz⟩ | ⟨h0, c8, D, hown, hfd⟩
  · exact ⟨hws, none, c8, c9, fun w1 hb => by simpa using Maps.look_nil (w := w1) false law Try.underlying55 (zero29 w1) hkey⟩
  · refine ⟨hws, _, c8, c9, fun w1 hb => ?_⟩
    rw [hu] at hfd
    have ho : w1.ownsMap Try.prog 9 tokR (w.heap.size + 1) n D := hown.kept (row := none) ⟨hb.os, hb.tape, hb.output, hb.size, fun k hk _ => hb.block k hk⟩ (by simp)
    obtain ⟨v, ps, hrun, hv⟩ := ho.lookup law Try.underlying55 (zero29 w1) (zd := .held (.pointer none)) (zp := []) rfl hkey
    rw [hrun]
    unfold Found at hfd
    rw [hfd] at hv
    simp [tokR] at hv
    rw [hv.1]

theorem Rel.dir_some {w w' : World} {rm x : Bool} {e : ByteArray} {ss : List ByteArray} {bs : List Bool} {n : Nat} (h : Rel w rm e ss bs n w') (he : e.size ≤ maxLen) (hu : upTo ss bs e n = some x) :
    ∃ b, Dir w' w.heap.size rm e (some ⟨b, 0, none⟩) ∧ b < w'.heap.size ∧ w'.cell? ⟨b, 0, none⟩ = some (.int .u32 (modeOf x)) := by
  obtain ⟨hbel, hws, c9, f8, hmap⟩ := h
  have hkey := keyOf_string_mk Try.underlying9 he
  rcases hmap with ⟨hk0, c8, hsz⟩ | ⟨h0, c8, D, hown, hfd⟩
  · subst hk0; simp [upTo] at hu
  · rw [hu] at hfd
    obtain ⟨b, h1, h2, h3, h4⟩ := hfd
    refine ⟨b, ⟨hws, _, c8, c9, fun w1 hb => ?_⟩, h3, h4⟩
    have ho : w1.ownsMap Try.prog 9 tokR (w.heap.size + 1) n D := hown.kept (row := none) ⟨hb.os, hb.tape, hb.output, hb.size, fun k hk _ => hb.block k hk⟩ (by simp)
    obtain ⟨v, ps, hrun, hv⟩ := ho.lookup law Try.underlying55 (zero29 w1) (zd := .held (.pointer none)) (zp := []) rfl hkey
    rw [hrun]
    rw [h1] at hv
    simp [tokR] at hv
    rw [hv.1]

end Go.Proofs.Qxb6003813a.Lk

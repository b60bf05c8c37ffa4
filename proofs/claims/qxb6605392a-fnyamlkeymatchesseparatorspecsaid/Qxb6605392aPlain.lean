import Derived.Lib.Bytealg
import Derived.Lib.IndexBytes
namespace Go.Proofs.Qxb6605392a.Yk

/-- The byte at place k, as a number; 0 beyond the end. -/
def B (c : ByteArray) (k : Nat) : Nat := (c.data.toList.getD k 0).toNat

theorem B_at {c : ByteArray} {k : Nat} (h : k < c.size) : B c k = c[k].toNat := by
  have hl : k < c.data.toList.length := by simpa using h
  unfold B
  rw [List.getD, List.getElem?_eq_getElem hl]
  rfl

theorem B_lt (c : ByteArray) (k : Nat) : B c k < 256 := UInt8.toNat_lt _

theorem B_drop (c : ByteArray) (a k : Nat) : B (c.extract a c.size) k = B c (a + k) := by
  unfold B
  rw [Lib.extract_to_end]
  simp [List.getD, List.getElem?_drop]

def blankB (x : Int) : Bool := decide (x = 32 ∨ x = 9)
def opensB (x : Int) : Bool := decide (x = 123 ∨ x = 91 ∨ x = 35 ∨ x = 38 ∨ x = 42 ∨ x = 33 ∨ x = 124 ∨ x = 62 ∨ x = 37 ∨ x = 64 ∨ x = 96 ∨ x = 45)

/-- What an index of a byte answers. -/
def Idx (s : ByteArray) (x : Nat) (v : Int) : Prop :=
  (v = -1 ∧ ∀ j, j < s.size → B s j ≠ x) ∨ ∃ k : Nat, k < s.size ∧ v = k ∧ B s k = x ∧ ∀ j, j < k → B s j ≠ x

def IsSkip (c : ByteArray) (i j : Nat) : Prop :=
  i ≤ j ∧ j ≤ c.size ∧ (∀ k, i ≤ k → k < j → blankB (B c k) = true) ∧ (j = c.size ∨ blankB (B c j) = false)

theorem IsSkip.one {c : ByteArray} {i j j' : Nat} (h : IsSkip c i j) (h' : IsSkip c i j') : j = j' := by
  obtain ⟨h1, h2, h3, h4⟩ := h
  obtain ⟨k1, k2, k3, k4⟩ := h'
  by_cases a : j < j'
  · have := k3 j h1 a
    rcases h4 with h4 | h4
    · omega
    · rw [h4] at this; cases this
  · by_cases b : j' < j
    · have := h3 j' k1 b
      rcases k4 with k4 | k4
      · omega
      · rw [k4] at this; cases this
    · omega

def isQ (x : Nat) : Prop := x = 34 ∨ x = 39
def Sep (c : ByteArray) (k : Nat) : Prop := B c k = 58 ∧ (k + 1 = c.size ∨ (k + 1 < c.size ∧ blankB (B c (k + 1)) = true))

def Quoted (c : ByteArray) (hi v : Nat) : Prop :=
  1 ≤ hi ∧ hi + 1 < c.size ∧ B c hi = B c 0 ∧ (∀ j, 1 ≤ j → j < hi → B c j ≠ B c 0) ∧ B c (hi + 1) = 58 ∧ (hi + 2 = c.size ∨ (hi + 2 < c.size ∧ blankB (B c (hi + 2)) = true)) ∧ IsSkip c (hi + 2) v

def Plain (c : ByteArray) (hi v : Nat) : Prop :=
  0 < hi ∧ hi < c.size ∧ Sep c hi ∧ (∀ j, j < hi → ¬ Sep c j) ∧ IsSkip c (hi + 1) v

def IsKey (c : ByteArray) (lo hi v : Nat) : Prop :=
  0 < c.size ∧ opensB (B c 0) = false ∧ ((isQ (B c 0) ∧ lo = 1 ∧ Quoted c hi v) ∨ (¬ isQ (B c 0) ∧ lo = 0 ∧ Plain c hi v))

theorem Quoted.one {c : ByteArray} {hi v hi' v' : Nat} (h : Quoted c hi v) (h' : Quoted c hi' v') : hi = hi' ∧ v = v' := by
  obtain ⟨a1, a2, a3, a4, a5, a6, a7⟩ := h
  obtain ⟨b1, b2, b3, b4, b5, b6, b7⟩ := h'
  have e : hi = hi' := by
    by_cases x : hi < hi'
    · exact absurd a3 (b4 hi a1 x)
    · by_cases y : hi' < hi
      · exact absurd b3 (a4 hi' b1 y)
      · omega
  subst e
  exact ⟨rfl, a7.one b7⟩

theorem Plain.one {c : ByteArray} {hi v hi' v' : Nat} (h : Plain c hi v) (h' : Plain c hi' v') : hi = hi' ∧ v = v' := by
  obtain ⟨a1, a2, a3, a4, a5⟩ := h
  obtain ⟨b1, b2, b3, b4, b5⟩ := h'
  have e : hi = hi' := by
    by_cases x : hi < hi'
    · exact absurd a3 (b4 hi x)
    · by_cases y : hi' < hi
      · exact absurd b3 (a4 hi' y)
      · omega
  subst e
  exact ⟨rfl, a5.one b5⟩

theorem IsKey.one {c : ByteArray} {lo hi v lo' hi' v' : Nat} (h : IsKey c lo hi v) (h' : IsKey c lo' hi' v') : lo = lo' ∧ hi = hi' ∧ v = v' := by
  obtain ⟨_, _, h | h⟩ := h <;> obtain ⟨_, _, h' | h'⟩ := h'
  · exact ⟨by omega, h.2.2.one h'.2.2⟩
  · exact absurd h.1 h'.1
  · exact absurd h'.1 h.1
  · exact ⟨by omega, h.2.2.one h'.2.2⟩

theorem opens_index : ∀ c : Fin 256, decide (0 ≤ Lib.indexByte [123, 91, 35, 38, 42, 33, 124, 62, 37, 64, 96, 45] ((c.val : Int).toNat.toUInt8)) = opensB c.val := by decide +kernel

/-- The index of a byte, as the library answers it. -/
theorem idx_list (x : UInt8) : ∀ l : List UInt8, (Lib.indexByte l x = -1 ∧ ∀ j, j < l.length → l.getD j 0 ≠ x) ∨ ∃ k : Nat, k < l.length ∧ Lib.indexByte l x = k ∧ l.getD k 0 = x ∧ ∀ j, j < k → l.getD j 0 ≠ x
  | [] => .inl ⟨rfl, fun j hj => absurd hj (Nat.not_lt_zero _)⟩
  | b :: l => by
    unfold Lib.indexByte
    by_cases hb : b = x
    · subst hb
      exact .inr ⟨0, by simp, by simp, by simp, fun j hj => absurd hj (Nat.not_lt_zero _)⟩
    · have hb' : (b == x) = false := by simp [hb]
      rw [hb']
      simp only [Bool.false_eq_true, if_false]
      rcases idx_list x l with ⟨h1, h2⟩ | ⟨k, h1, h2, h3, h4⟩
      · rw [h1]
        refine .inl ⟨rfl, fun j hj => ?_⟩
        cases j with
        | zero => simpa using hb
        | succ j => rw [List.getD_cons_succ]; exact h2 j (by simpa using hj)
      · have hne : (Lib.indexByte l x == -1) = false := by rw [h2, beq_eq_false_iff_ne]; omega
        rw [hne]
        simp only [Bool.false_eq_true, if_false]
        refine .inr ⟨k + 1, by simpa using h1, by rw [h2]; omega, by rw [List.getD_cons_succ]; exact h3, fun j hj => ?_⟩
        cases j with
        | zero => simpa using hb
        | succ j => rw [List.getD_cons_succ]; exact h4 j (by omega)

theorem idx_of (s : ByteArray) (x : UInt8) : Idx s x.toNat (Lib.indexByte s.data.toList x) := by
  have hs : s.data.toList.length = s.size := by simp
  have hB : ∀ j, B s j = x.toNat ↔ s.data.toList.getD j 0 = x := fun j => by unfold B; exact UInt8.toNat_inj
  rcases idx_list x s.data.toList with ⟨h1, h2⟩ | ⟨k, h1, h2, h3, h4⟩
  · exact .inl ⟨h1, fun j hj h => h2 j (by omega) ((hB j).1 h)⟩
  · exact .inr ⟨k, by omega, h2, (hB k).2 h3, fun j hj h => h4 j hj ((hB j).1 h)⟩

end Go.Proofs.Qxb6605392a.Yk

import Derived.Lib.Bytealg
namespace Go.Proofs.Qxb6605258a.Esc

def hexB (c : Int) : Bool := decide ((48 ≤ c ∧ c ≤ 57) ∨ (97 ≤ c ∧ c ≤ 102) ∨ (65 ≤ c ∧ c ≤ 70))
def simpleB (c : Int) : Bool := decide (c = 34 ∨ c = 92 ∨ c = 47 ∨ c = 98 ∨ c = 102 ∨ c = 110 ∨ c = 114 ∨ c = 116)

/-- All of z 2 .. z (k - 1) are hex digits. -/
def allHex (z : Nat → Int) : Nat → Bool
  | 0 => true
  | k + 1 => allHex z k && (decide (k < 2) || hexB (z k))

def preB (z : Nat → Int) (k : Nat) : Bool :=
  if k ≤ 1 then true else if z 1 = 117 then allHex z k && decide (k ≤ 6) else decide (k = 2) && simpleB (z 1)

def wholeB (z : Nat → Int) (k : Nat) : Bool :=
  (decide (k = 2) && simpleB (z 1)) || (decide (k = 6) && decide (z 1 = 117) && preB z 6)

def modF (z : Nat → Int) : Nat → Int × Bool
  | 0 => (0, false)
  | k + 1 => if preB z (k + 1) = true then ((k + 1 : Nat), wholeB z (k + 1)) else modF z k

def scanF (z : Nat → Int) (n : Nat) : Nat → Nat → Int × Bool
  | 0, _ => (6, true)
  | f + 1, i => if i = n ∨ hexB (z i) = false then ((i : Nat), false) else scanF z n f (i + 1)

def lenF (z : Nat → Int) (n : Nat) : Int × Bool :=
  if n < 2 then ((n : Nat), false) else if z 1 = 117 then scanF z n 4 2 else if simpleB (z 1) = true then (2, true) else (1, false)

def cutF (n : Nat) : Nat := if 6 < n then 6 else n

theorem lenF_modF (z : Nat → Int) (n : Nat) : lenF z n = modF z (cutF n) := by
  by_cases hu : z 1 = 117
  · have hs : simpleB 117 = false := by decide
    have hn : n = 0 ∨ n = 1 ∨ n = 2 ∨ n = 3 ∨ n = 4 ∨ n = 5 ∨ n = 6 ∨ 6 < n := by omega
    rcases hn with rfl | rfl | rfl | rfl | rfl | rfl | rfl | hn
    all_goals
      cases h2 : hexB (z 2) <;> cases h3 : hexB (z 3) <;> cases h4 : hexB (z 4) <;> cases h5 : hexB (z 5)
    all_goals first
      | (simp [lenF, cutF, modF, scanF, preB, wholeB, allHex, hu, hs, h2, h3, h4, h5]; done)
      | (simp [lenF, cutF, modF, scanF, preB, wholeB, allHex, hu, hs, h2, h3, h4, h5, hn]; omega)
      | (have e1 : ¬ n < 2 := by omega
         have e2 : ¬ 2 = n := by omega
         have e3 : ¬ 3 = n := by omega
         have e4 : ¬ 4 = n := by omega
         have e5 : ¬ 5 = n := by omega
         simp [lenF, cutF, modF, scanF, preB, wholeB, allHex, hu, hs, h2, h3, h4, h5, hn, e1, e2, e3, e4, e5])
  · cases hs : simpleB (z 1)
    all_goals
      have hn : n = 0 ∨ n = 1 ∨ n = 2 ∨ n = 3 ∨ n = 4 ∨ n = 5 ∨ n = 6 ∨ 6 < n := by omega
      rcases hn with rfl | rfl | rfl | rfl | rfl | rfl | rfl | hn
    all_goals first
      | (simp [lenF, cutF, modF, preB, wholeB, hu, hs]; done)
      | (have e1 : ¬ n < 2 := by omega
         simp [lenF, cutF, modF, preB, wholeB, hu, hs, hn, e1])

/-- The table of simple escapes as the code asks it. -/
theorem simple_index : ∀ c : Fin 256, decide (Lib.indexByte [34, 92, 47, 98, 102, 110, 114, 116] ((c.val : Int).toNat.toUInt8) < 0) = !simpleB c.val := by decide +kernel

end Go.Proofs.Qxb6605258a.Esc

/-
  The plain part of the escape laws: hex digits, what an escape stands for, how many bytes it uses.
-/
import Derived.WalkKit
import Derived.Laws.BytesArg
namespace Go.Proofs.Qxb6000604aDoor

/-- The value of a hex digit. -/
def hexV (c : Int) : Option Int := if 48 ≤ c ∧ c ≤ 57 then some (c - 48) else if 97 ≤ c ∧ c ≤ 102 then some (c - 87) else if 65 ≤ c ∧ c ≤ 70 then some (c - 55) else none
/-- What the first k of two hex digits say. -/
def hexPre (x y : Int) : Nat → Option Int
  | 0 => some 0
  | 1 => hexV x
  | _ => match hexV x, hexV y with
    | some a, some b => some (16 * a + b)
    | _, _ => none
theorem hexV_bd {c a : Int} (h : hexV c = some a) : 0 ≤ a ∧ a ≤ 15 := by
  unfold hexV at h
  split at h
  · simp at h; omega
  · split at h
    · simp at h; omega
    · split at h
      · simp at h; omega
      · cases h
theorem hexV_digit {c : Int} (h0 : 48 ≤ c) (h1 : c ≤ 57) : hexV c = some (c - 48) := by simp [hexV, h0, h1]
theorem hexV_lower {c : Int} (h0 : 97 ≤ c) (h1 : c ≤ 102) : hexV c = some (c - 87) := by
  have e : ¬ (48 ≤ c ∧ c ≤ 57) := by omega
  unfold hexV; rw [if_neg e, if_pos ⟨h0, h1⟩]
theorem hexV_upper {c : Int} (h0 : 65 ≤ c) (h1 : c ≤ 70) : hexV c = some (c - 55) := by
  have e : ¬ (48 ≤ c ∧ c ≤ 57) := by omega
  have e2 : ¬ (97 ≤ c ∧ c ≤ 102) := by omega
  unfold hexV; rw [if_neg e, if_neg e2, if_pos ⟨h0, h1⟩]
theorem hexV_none {c : Int} (h1 : ¬ (48 ≤ c ∧ c ≤ 57)) (h2 : ¬ (97 ≤ c ∧ c ≤ 102)) (h3 : ¬ (65 ≤ c ∧ c ≤ 70)) : hexV c = none := by
  unfold hexV; rw [if_neg h1, if_neg h2, if_neg h3]

/-! ### 'c | 32' on a byte -/
theorem low_all1 : ((List.range 6).all fun c => bits .or .u8 ((c + 97 : Nat) : Int) 32 == ((c + 97 : Nat) : Int)) = true := by kernel_rfl
theorem low_all2 : ((List.range 6).all fun c => bits .or .u8 ((c + 65 : Nat) : Int) 32 == ((c + 97 : Nat) : Int)) = true := by kernel_rfl
theorem low_all3 : ((List.range 256).all fun c => (decide (97 ≤ c) && decide (c ≤ 102)) || ((decide (65 ≤ c) && decide (c ≤ 70)) || (decide (bits .or .u8 (c : Int) 32 < 97) || decide (102 < bits .or .u8 (c : Int) 32)))) = true := by kernel_rfl
theorem low_lower {c : Int} (h0 : 97 ≤ c) (h1 : c ≤ 102) : bits .or .u8 c 32 = c := by
  obtain ⟨n, rfl⟩ : ∃ n : Nat, c = ((n + 97 : Nat) : Int) := ⟨(c - 97).toNat, by omega⟩
  have h := List.all_eq_true.1 low_all1 n (List.mem_range.2 (by omega))
  exact beq_iff_eq.1 h
theorem low_upper {c : Int} (h0 : 65 ≤ c) (h1 : c ≤ 70) : bits .or .u8 c 32 = c + 32 := by
  obtain ⟨n, rfl⟩ : ∃ n : Nat, c = ((n + 65 : Nat) : Int) := ⟨(c - 65).toNat, by omega⟩
  have h := List.all_eq_true.1 low_all2 n (List.mem_range.2 (by omega))
  rw [beq_iff_eq.1 h]; omega
theorem low_other {c : Int} (h0 : 0 ≤ c) (h1 : c ≤ 255) (h2 : ¬ (97 ≤ c ∧ c ≤ 102)) (h3 : ¬ (65 ≤ c ∧ c ≤ 70)) : bits .or .u8 c 32 < 97 ∨ 102 < bits .or .u8 c 32 := by
  obtain ⟨n, rfl⟩ : ∃ n : Nat, c = (n : Int) := ⟨c.toNat, by omega⟩
  have h := List.all_eq_true.1 low_all3 n (List.mem_range.2 (by omega))
  simp only [Bool.and_eq_true, Bool.or_eq_true, decide_eq_true_eq] at h
  omega

/-! ### Escapes -/
/-- What one letter behind a backslash stands for. -/
def letV (c : Int) : Int := if c = 110 then 10 else if c = 114 then 13 else if c = 116 then 9 else if c = 98 then 8 else if c = 97 then 7 else c
/-- 'x' and two hex digits: the byte; else nothing. -/
def hexE : List Int → Option Int
  | c :: x :: y :: _ => if c = 120 then hexPre x y 2 else none
  | _ => none
/-- What unescape answers at a list that is not empty. -/
def unV (xs : List Int) : Int := match hexE xs with | some v => v | none => letV (xs.getD 0 0)
def unN (xs : List Int) : Int := match hexE xs with | some _ => 3 | none => 1
end Go.Proofs.Qxb6000604aDoor

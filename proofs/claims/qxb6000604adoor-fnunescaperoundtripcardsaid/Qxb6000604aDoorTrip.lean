/-
  FnUnescapeRoundTrip, walked.
-/
import Derived.Test.Qxb6000604aDoorUse
namespace Go.Proofs.Qxb6000604aDoor
open Go.RowKit

theorem bytes9_ok (c : Int) (u : Bool) (a : Option Addr) (n k : Nat) (w : World) (h : n ≤ 1048576) : Calls Tryd.prog 9 #[.int .u8 c, .bool u, .slice a n k] w fun e w' => e = .returned (.bool true) ∧ w' = w := by
  go_enter Tryd.func9, Tryd.ntmps9
  go_wp2
  go_ret
  exact ⟨rfl, rfl⟩
theorem bytes9_big (c : Int) (u : Bool) (a : Option Addr) (n k : Nat) (w : World) (hn : n ≤ maxLen) (h : ¬ n ≤ 1048576) : Calls Tryd.prog 9 #[.int .u8 c, .bool u, .slice a n k] w fun e w' => e = .returned (.bool false) ∧ w' = w := by
  unfold maxLen at hn
  go_enter Tryd.func9, Tryd.ntmps9
  go_wp2
  go_ret
  exact ⟨rfl, rfl⟩
theorem trip_big (c : Int) (u : Bool) (a : Option Addr) (n k : Nat) (w : World) (hn : n ≤ maxLen) (h : ¬ n ≤ 1048576) :
    Calls Tryd.prog 3 #[.int .u8 c, .bool u, .slice a n k] w fun e w' => e = .returned (.bool true) ∧ Below w.heap.size w w' := by
  go_enter Tryd.func3, Tryd.ntmps3
  go_wp2_with (go_at_call 9; refine (bytes9_big _ _ _ _ _ _ hn h).mono ?_; rintro e w' ⟨rfl, rfl⟩)
  go_ret
  exact ⟨rfl, Below.refl _ _⟩

/-- The hex digit of a number below 16, lower or upper case. -/
def hexC (u : Bool) (d : Int) : Int := if d < 10 then 48 + d else if u then 55 + d else 87 + d
theorem hexDigit_any (d : Int) (u : Bool) (h0 : 0 ≤ d) (h1 : d ≤ 15) (w : World) : Calls Tryd.prog 11 #[.int .u8 d, .bool u] w fun e w' => e = .returned (.int .u8 (hexC u d)) ∧ w' = w := by
  by_cases h : d < 10
  · have e : hexC u d = 48 + d := by simp [hexC, h]
    rw [e]
    clear e
    go_enter Tryd.func11, Tryd.ntmps11
    go_wp2
    go_ret
    exact ⟨rfl, rfl⟩
  · cases u
    · have e : hexC false d = 97 + d - 10 := by simp [hexC, h]; omega
      rw [e]
      clear e
      go_enter Tryd.func11, Tryd.ntmps11
      go_wp2
      go_ret
      exact ⟨rfl, rfl⟩
    · have e : hexC true d = 65 + d - 10 := by simp [hexC, h]; omega
      rw [e]
      clear e
      go_enter Tryd.func11, Tryd.ntmps11
      go_wp2
      go_ret
      exact ⟨rfl, rfl⟩
theorem hexV_hexC (u : Bool) (d : Int) (h0 : 0 ≤ d) (h1 : d ≤ 15) : hexV (hexC u d) = some d := by
  unfold hexC
  by_cases h : d < 10
  · rw [if_pos h, hexV_digit (by omega) (by omega)]; congr 1; omega
  · rw [if_neg h]
    cases u
    · rw [if_neg (by decide), hexV_lower (by omega) (by omega)]; congr 1; omega
    · rw [if_pos rfl, hexV_upper (by omega) (by omega)]; congr 1; omega
theorem hexC_bd (u : Bool) (d : Int) (h0 : 0 ≤ d) (h1 : d ≤ 15) : 0 ≤ hexC u d ∧ hexC u d ≤ 255 := by
  unfold hexC; cases u <;> (repeat' split) <;> omega

/-- The letter of a control byte. -/
def letterOf (c : Int) : Option Int := if c = 10 then some 110 else if c = 13 then some 114 else if c = 9 then some 116 else if c = 8 then some 98 else if c = 7 then some 97 else none
theorem letterFor_some (c l : Int) (h : letterOf c = some l) (w : World) : Calls Tryd.prog 13 #[.int .u8 c] w fun e w' => e = .returned (.tuple #[.int .u8 l, .bool true]) ∧ w' = w := by
  have hc : (c = 10 ∧ l = 110) ∨ (c = 13 ∧ l = 114) ∨ (c = 9 ∧ l = 116) ∨ (c = 8 ∧ l = 98) ∨ (c = 7 ∧ l = 97) := by
    unfold letterOf at h
    (repeat' split at h) <;> simp_all
  clear h
  rcases hc with ⟨rfl, rfl⟩ | ⟨rfl, rfl⟩ | ⟨rfl, rfl⟩ | ⟨rfl, rfl⟩ | ⟨rfl, rfl⟩
  all_goals
    go_enter Tryd.func13, Tryd.ntmps13
    go_wp2
    go_ret2
    exact ⟨rfl, rfl⟩
theorem letterFor_none (c : Int) (h : letterOf c = none) (w : World) : Calls Tryd.prog 13 #[.int .u8 c] w fun e w' => e = .returned (.tuple #[.int .u8 0, .bool false]) ∧ w' = w := by
  have hc : (c == 10) = false ∧ (c == 13) = false ∧ (c == 9) = false ∧ (c == 8) = false ∧ (c == 7) = false := by
    unfold letterOf at h
    (repeat' split at h) <;> simp_all
  clear h
  obtain ⟨h1, h2, h3, h4, h5⟩ := hc
  go_enter Tryd.func13, Tryd.ntmps13
  go_wp2
  go_ret2
  exact ⟨rfl, rfl⟩
theorem letV_letter {c l : Int} (h : letterOf c = some l) : letV l = c ∧ ¬ l = 120 ∧ 0 ≤ l ∧ l ≤ 255 := by
  have hc : (c = 10 ∧ l = 110) ∨ (c = 13 ∧ l = 114) ∨ (c = 9 ∧ l = 116) ∨ (c = 8 ∧ l = 98) ∨ (c = 7 ∧ l = 97) := by
    unfold letterOf at h
    (repeat' split at h) <;> simp_all
  rcases hc with ⟨rfl, rfl⟩ | ⟨rfl, rfl⟩ | ⟨rfl, rfl⟩ | ⟨rfl, rfl⟩ | ⟨rfl, rfl⟩ <;> exact ⟨rfl, by decide, by decide, by decide⟩

/-! ### 'c >> 4', 'c & 15' on a byte -/
theorem nib_all : ((List.range 256).all fun c => bits .and .u8 (c : Int) 15 == ((c % 16 : Nat) : Int)) = true := by kernel_rfl
theorem nib_low {c : Int} (h0 : 0 ≤ c) (h1 : c ≤ 255) : bits .and .u8 c 15 = c % 16 := by
  obtain ⟨n, rfl⟩ : ∃ n : Nat, c = (n : Int) := ⟨c.toNat, by omega⟩
  have h := List.all_eq_true.1 nib_all n (List.mem_range.2 (by omega))
  rw [beq_iff_eq.1 h]; omega
end Go.Proofs.Qxb6000604aDoor

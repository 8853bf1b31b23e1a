/-
  The laws' small helpers by their contracts; slices that came in, read byte by byte.
-/
import Derived.Test.Qxb6000604aDoorRow
import Derived.Test.Qxb6000604aDoorUn
namespace Go.Proofs.Qxb6000604aDoor
open Go.RowKit

theorem reads_at {w : World} {v : Value} {n : Nat} {xs : List Int} (h : Reads w v n xs) (hn : 0 < n) :
    ∃ b off cap, v = .slice (some ⟨b, off, none⟩) n cap ∧ b < w.heap.size ∧ ∀ j, j < n → w.cell? ⟨b, off + j, none⟩ = some (.int .u8 (xs.getD j 0)) := by
  obtain ⟨_, h⟩ := h
  rcases h with ⟨_, h0⟩ | ⟨x, cap, rfl, hc⟩
  · omega
  · obtain ⟨b, off, spot⟩ := x
    have hspot : spot = none := by simpa [Addr.add] using World.cell?_spot (hc 0 hn)
    subst hspot
    have hc' : ∀ j, j < n → w.cell? ⟨b, off + j, none⟩ = some (.int .u8 (xs.getD j 0)) := fun j hj => by rw [← hc j hj, Addr.add_lit]
    exact ⟨b, off, cap, rfl, World.block_lt_of_cell? w _ (hc' 0 hn), hc'⟩

/-- What is read below a block stays read. -/
theorem Reads.below {w w' : World} {B n : Nat} {xs : List Int} {v : Value} (h : Reads w v n xs) (hb : Below B w w') (hv : 0 < n → ∀ k, v.ownBlock = some k → k < B) : Reads w' v n xs := by
  refine ⟨h.1, ?_⟩
  rcases h.2 with h0 | ⟨x, cap, rfl, hc⟩
  · exact .inl h0
  · refine .inr ⟨x, cap, rfl, fun j hj => ?_⟩
    have hbl : (x.add j).block = x.block := by unfold Addr.add; split <;> rfl
    rw [hb.cell (p := x.add j) (by rw [hbl]; exact hv (by omega) x.block rfl)]
    exact hc j hj

theorem isHex_yes (c a : Int) (h : hexV c = some a) (w : World) : Calls Tryd.prog 16 #[.int .u8 c] w fun e w' => e = .returned (.bool true) ∧ w' = w := by
  have hc : (48 ≤ c ∧ c ≤ 57) ∨ (97 ≤ c ∧ c ≤ 102) ∨ (65 ≤ c ∧ c ≤ 70) := by
    by_cases h1 : 48 ≤ c ∧ c ≤ 57
    · exact .inl h1
    · by_cases h2 : 97 ≤ c ∧ c ≤ 102
      · exact .inr (.inl h2)
      · by_cases h3 : 65 ≤ c ∧ c ≤ 70
        · exact .inr (.inr h3)
        · rw [hexV_none h1 h2 h3] at h; cases h
  clear h
  rcases hc with ⟨h1, h2⟩ | ⟨h1, h2⟩ | ⟨h1, h2⟩
  all_goals
    go_enter Tryd.func16, Tryd.ntmps16
    go_wp2
    go_ret
    exact ⟨rfl, rfl⟩
theorem isHex_no (c : Int) (h : hexV c = none) (w : World) : Calls Tryd.prog 16 #[.int .u8 c] w fun e w' => e = .returned (.bool false) ∧ w' = w := by
  have h1 : ¬ (48 ≤ c ∧ c ≤ 57) := fun h1 => by rw [hexV_digit h1.1 h1.2] at h; cases h
  have h2 : ¬ (97 ≤ c ∧ c ≤ 102) := fun h1 => by rw [hexV_lower h1.1 h1.2] at h; cases h
  have h3 : ¬ (65 ≤ c ∧ c ≤ 70) := fun h1 => by rw [hexV_upper h1.1 h1.2] at h; cases h
  have hc : c < 48 ∨ (57 < c ∧ c < 65) ∨ (70 < c ∧ c < 97) ∨ 102 < c := by omega
  clear h h1 h2 h3
  rcases hc with h1 | ⟨h1, h2⟩ | ⟨h1, h2⟩ | h1
  · go_enter Tryd.func16, Tryd.ntmps16
    go_wp2
    go_ret
    exact ⟨rfl, rfl⟩
  · have d1 : decide (c ≤ 57) = false := decide_eq_false (by omega)
    go_enter Tryd.func16, Tryd.ntmps16
    go_wp2
    go_ret
    exact ⟨rfl, rfl⟩
  · have d1 : decide (c ≤ 57) = false := decide_eq_false (by omega)
    have d2 : decide (c ≤ 70) = false := decide_eq_false (by omega)
    go_enter Tryd.func16, Tryd.ntmps16
    go_wp2
    go_ret
    exact ⟨rfl, rfl⟩
  · have d1 : decide (c ≤ 57) = false := decide_eq_false (by omega)
    have d2 : decide (c ≤ 70) = false := decide_eq_false (by omega)
    have d3 : decide (c ≤ 102) = false := decide_eq_false (by omega)
    go_enter Tryd.func16, Tryd.ntmps16
    go_wp2
    go_ret
    exact ⟨rfl, rfl⟩

/-- One of the five escape letters. -/
def isLet (c : Int) : Bool := c == 110 || c == 114 || c == 116 || c == 98 || c == 97
theorem isLet_yes (c : Int) (h : isLet c = true) (w : World) : Calls Tryd.prog 15 #[.int .u8 c] w fun e w' => e = .returned (.bool true) ∧ w' = w := by
  have hc : c = 110 ∨ c = 114 ∨ c = 116 ∨ c = 98 ∨ c = 97 := by simpa [isLet, or_assoc] using h
  clear h
  rcases hc with rfl | rfl | rfl | rfl | rfl
  all_goals
    go_enter Tryd.func15, Tryd.ntmps15
    go_wp2
    go_ret
    exact ⟨rfl, rfl⟩
theorem isLet_parts {c : Int} (h : isLet c = false) : (c == 110) = false ∧ (c == 114) = false ∧ (c == 116) = false ∧ (c == 98) = false ∧ (c == 97) = false := by
  simpa [isLet, and_assoc] using h
theorem isLet_no (c : Int) (h : isLet c = false) (w : World) : Calls Tryd.prog 15 #[.int .u8 c] w fun e w' => e = .returned (.bool false) ∧ w' = w := by
  obtain ⟨h1, h2, h3, h4, h5⟩ := isLet_parts h
  clear h
  go_enter Tryd.func15, Tryd.ntmps15
  go_wp2
  go_ret
  exact ⟨rfl, rfl⟩
end Go.Proofs.Qxb6000604aDoor

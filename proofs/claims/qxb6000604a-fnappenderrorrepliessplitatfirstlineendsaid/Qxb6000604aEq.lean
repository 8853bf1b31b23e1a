/-
  zzEqualBytes by its contract: two slices that read as one list of numbers are equal.
-/
import Derived.Test.Qxb6000604aProg
import Derived.WalkKit
import Derived.WalkSpells
import Derived.RegionTactic
import Derived.ChangeAlike
import Derived.Deep.QuietTactic
import Derived.BigQuiet
namespace Go.Proofs.Qxb6000604a
open Go.RowKit

set_option maxHeartbeats 400000 in
theorem equal_any (ba oa ca bb ob cb n : Nat) (xs : List Int) (w : World) (hn : n ≤ 1000000000)
    (ha : ∀ j, j < n → w.cell? ⟨ba, oa + j, none⟩ = some (.int .u8 (xs.getD j 0))) (hb : ∀ j, j < n → w.cell? ⟨bb, ob + j, none⟩ = some (.int .u8 (xs.getD j 0))) :
    Calls Try.prog 10 #[.slice (some ⟨ba, oa, none⟩) n ca, .slice (some ⟨bb, ob, none⟩) n cb] w fun e w' => e = .returned (.bool true) ∧ ∃ q, w' = w.drewN q := by
  go_enter Try.func10, Try.ntmps10
  go_wp2
  go_loopw [5] (fun i wr => ∃ k q : Nat, k ≤ n ∧ i = .int .i64 k ∧ wr = w.drewN q) (fun i _ => n - (intOf i).toNat)
  case atStart => exact ⟨0, 0, Nat.zero_le _, rfl, rfl⟩
  case round =>
    obtain ⟨k, q, hk, rfl, rfl⟩ := hrel
    by_cases hlt : k < n
    · have h1 := ha k hlt
      have h2 := hb k hlt
      obtain ⟨x, hx⟩ : ∃ x, x = xs.getD k 0 := ⟨_, rfl⟩
      rw [← hx] at h1 h2
      clear hx ha hb
      have hltI : (k : Int) < (n : Int) := by omega
      have hlt0 : (0 : Int) ≤ (k : Int) := by omega
      go_wp2
      go_quiet (fail)
      go_wp2
      go_roundw
      case rel => exact ⟨k + 1, _, by omega, by go_num, rfl⟩
      case measure => simp [intOf]; omega
    · clear ha hb
      go_wp2
      go_ret
      exact ⟨rfl, _, rfl⟩
end Go.Proofs.Qxb6000604a

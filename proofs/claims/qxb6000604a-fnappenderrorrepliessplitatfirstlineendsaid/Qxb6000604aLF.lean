/-
  zzIndexLF by its contract: the first line feed from a place on.
-/
import Derived.Test.Qxb6000604aProg
import Derived.WalkKit
import Derived.WalkSpells
namespace Go.Proofs.Qxb6000604a
open Go.RowKit

set_option maxHeartbeats 400000 in
/-- From 'from' up to p no byte is 10, the byte at p is 10: p. -/
theorem indexLF_any (b off n c fr p : Nat) (i : Int) (hi : i = (fr : Int)) (xs : List Int) (w : World) (hn : n ≤ 1000000000) (hf : fr ≤ p) (hp : p < n)
    (hc : ∀ j, j < n → w.cell? ⟨b, off + j, none⟩ = some (.int .u8 (xs.getD j 0))) (hno : ∀ j, fr ≤ j → j < p → xs.getD j 0 ≠ 10) (hyes : xs.getD p 0 = 10) :
    Calls Try.prog 12 #[.slice (some ⟨b, off, none⟩) n c, .int .i64 i] w fun e w' => e = .returned (.int .i64 (p : Int)) ∧ w' = w := by
  subst hi
  have HN : Hid (∀ j, fr ≤ j → j < p → xs.getD j 0 ≠ 10) := hno
  have HY : Hid (xs.getD p 0 = 10) := hyes
  have HC : Hid (∀ j, j < n → w.cell? ⟨b, off + j, none⟩ = some (.int .u8 (xs.getD j 0))) := hc
  clear hno hyes hc
  go_enter Try.func12, Try.ntmps12
  go_wp2
  go_loop [5] (fun i => ∃ k : Nat, fr ≤ k ∧ k ≤ p ∧ i = .int .i64 k) (fun i => n - (intOf i).toNat)
  case atStart => exact ⟨fr, Nat.le_refl _, hf, rfl⟩
  case round =>
    obtain ⟨k, hk0, hk, rfl⟩ := hrel
    by_cases hlt : k < p
    · have hcx := HC.out k (by omega)
      have hne := HN.out k hk0 hlt
      obtain ⟨x, hx⟩ : ∃ x, x = xs.getD k 0 := ⟨_, rfl⟩
      rw [← hx] at hcx hne
      clear hx
      have hb : (x == 10) = false := by simpa using hne
      clear hne
      go_wp2
      go_round
      case rel => exact ⟨k + 1, by omega, by omega, by go_num⟩
      case measure => simp [intOf]; omega
    · have hkp : k = p := by omega
      subst hkp
      have hcx := HC.out k hp
      rw [HY.out] at hcx
      go_wp2
      go_ret
      exact ⟨rfl, rfl⟩
end Go.Proofs.Qxb6000604a

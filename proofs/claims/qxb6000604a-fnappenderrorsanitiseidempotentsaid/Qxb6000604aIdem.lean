/-
  FnAppendErrorSanitiseIdempotent, walked.
-/
import Derived.Test.Qxb6000604aErr
import Derived.Test.Qxb6000604aEq
import Derived.WalkLawsBesides
namespace Go.Proofs.Qxb6000604a
open Go.RowKit

theorem bytes9_big (s : ByteArray) (w : World) (hs : s.size ≤ maxLen) (h : ¬ s.size ≤ 1048576) : Calls Try.prog 9 #[.string s] w fun e w' => e = .returned (.bool false) ∧ w' = w := by
  unfold maxLen at hs
  go_enter Try.func9, Try.ntmps9
  go_wp2
  go_ret
  exact ⟨rfl, rfl⟩
theorem bytes9_ok (s : ByteArray) (w : World) (h : s.size ≤ 1048576) : Calls Try.prog 9 #[.string s] w fun e w' => e = .returned (.bool true) ∧ w' = w := by
  go_enter Try.func9, Try.ntmps9
  go_wp2
  go_ret
  exact ⟨rfl, rfl⟩

theorem idem_big (s : ByteArray) (w : World) (hs : s.size ≤ maxLen) (h : ¬ s.size ≤ 1048576) : Calls Try.prog 4 #[.string s] w fun e w' => e = .returned (.bool true) ∧ Below w.heap.size w w' := by
  go_enter Try.func4, Try.ntmps4
  go_wp2_with (go_at_call 9; refine (bytes9_big _ _ hs h).mono ?_; rintro e w' ⟨rfl, rfl⟩)
  go_ret
  exact ⟨rfl, Below.refl _ _⟩

theorem body_string {w : World} {g cap : Nat} (s : ByteArray) (hc : ∀ j, j < s.size + 3 → w.cell? ⟨g, j, none⟩ = some (.int .u8 ((errI s).getD j 0))) :
    (convert 22 9 (.slice (some ⟨g, 1, none⟩) s.size cap)).run Try.prog w = .ok (.string (bodyOf s)) w :=
  run_convert_bytes_arg w 22 5 Try.underlying22 Try.underlying5 g 1 s.size cap ((bytesI s).map sanI) (by rw [List.length_map, bytesI_length])
    (fun i hi => by rw [hc (1 + i) (by omega), errI_mid s i hi]) 9 Try.underlying9

set_option maxHeartbeats 800000 in
theorem idem_ok (s : ByteArray) (w : World) (h : s.size ≤ 1048576) : Calls Try.prog 4 #[.string s] w fun e w' => e = .returned (.bool true) ∧ Below w.heap.size w w' := by
  go_enter Try.func4, Try.ntmps4
  go_wp2_with (go_at_call 9; refine (bytes9_ok _ _ h).mono ?_; rintro e w' ⟨rfl, rfl⟩)
  refine (appendError_nil s s.size rfl _ (by omega)).mono ?_
  rintro e w1 ⟨g, cap, rfl, hg0, hg1, hcap, hcapm, hc, hb⟩
  have hconv := fun c => body_string (cap := c) s hc
  have hne : ¬ cap = 1 := by omega
  go_wp2_with fail
  clear hconv hne
  refine (appendError_nil (bodyOf s) s.size (bodyOf_size s) _ (by omega)).mono ?_
  rintro e w2 ⟨g2, cap2, rfl, hg20, hg21, hcap2, hcapm2, hc2, hb2⟩
  rw [errI_body] at hc2
  have hc' : ∀ j, j < s.size + 3 → w2.cell? ⟨g, 0 + j, none⟩ = some (.int .u8 ((errI s).getD j 0)) := fun j hj => by rw [Nat.zero_add]; exact (hb2.cell (by exact hg1)).trans (hc j hj)
  have hc2' : ∀ j, j < s.size + 3 → w2.cell? ⟨g2, 0 + j, none⟩ = some (.int .u8 ((errI s).getD j 0)) := fun j hj => by rw [Nat.zero_add]; exact hc2 j hj
  have HB : Hid (Below w'.heap.size w' w2) := hb.trans (hb2.mono hb.size)
  clear hc hc2 hb hb2
  go_wp2_with fail
  refine (equal_any g 0 cap g2 0 cap2 (s.size + 3) (errI s) _ (by omega) hc' hc2').mono ?_
  rintro e w3 ⟨rfl, q, rfl⟩
  go_wp2
  go_ret
  exact ⟨rfl, below_drewN HB.out _⟩
end Go.Proofs.Qxb6000604a

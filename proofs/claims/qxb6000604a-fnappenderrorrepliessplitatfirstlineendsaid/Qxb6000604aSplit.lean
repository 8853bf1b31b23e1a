/-
  FnAppendErrorRepliesSplitAtFirstLineEnd, walked.
-/
import Derived.Test.Qxb6000604aErr
import Derived.Test.Qxb6000604aEq
import Derived.Test.Qxb6000604aLF
import Derived.WalkLawsBesides
import Derived.Deep.RegionWith
namespace Go.Proofs.Qxb6000604a
open Go.RowKit

theorem bytes11_ok (s t : ByteArray) (w : World) (h : s.size + t.size ≤ 1048576) : Calls Try.prog 11 #[.string s, .string t] w fun e w' => e = .returned (.bool true) ∧ w' = w := by
  go_enter Try.func11, Try.ntmps11
  go_wp2
  go_ret
  exact ⟨rfl, rfl⟩
theorem bytes11_big (s t : ByteArray) (w : World) (hs : s.size ≤ maxLen) (ht : t.size ≤ maxLen) (h : ¬ s.size + t.size ≤ 1048576) : Calls Try.prog 11 #[.string s, .string t] w fun e w' => e = .returned (.bool false) ∧ w' = w := by
  unfold maxLen at hs ht
  go_enter Try.func11, Try.ntmps11
  go_wp2
  all_goals (go_ret; exact ⟨rfl, rfl⟩)

theorem split_big (s t : ByteArray) (w : World) (hs : s.size ≤ maxLen) (ht : t.size ≤ maxLen) (h : ¬ s.size + t.size ≤ 1048576) :
    Calls Try.prog 5 #[.string s, .string t] w fun e w' => e = .returned (.bool true) ∧ Below w.heap.size w w' := by
  go_enter Try.func5, Try.ntmps5
  go_wp2_with (go_at_call 11; refine (bytes11_big _ _ _ hs ht h).mono ?_; rintro e w' ⟨rfl, rfl⟩)
  go_ret
  exact ⟨rfl, Below.refl _ _⟩

/-! ### The two replies, byte by byte -/
theorem getDl (xs ys : List Int) (j : Nat) (h : j < xs.length) : (xs ++ ys).getD j 0 = xs.getD j 0 := by
  rw [List.getD_eq_getElem?_getD, List.getD_eq_getElem?_getD, List.getElem?_append_left h]
theorem getDr (xs ys : List Int) (n j : Nat) (h : xs.length = n) : (xs ++ ys).getD (n + j) 0 = ys.getD j 0 := by
  rw [List.getD_eq_getElem?_getD, List.getD_eq_getElem?_getD, List.getElem?_append_right (by omega)]
  congr 2; omega
theorem err_at_cr (s : ByteArray) : (errI s).getD (s.size + 1) 0 = 13 := by
  unfold errI
  rw [List.getD_cons_succ, List.getD_eq_getElem?_getD, List.getElem?_append_right (by simp [bytesI_length])]
  simp [bytesI_length]
theorem err_at_lf (s : ByteArray) : (errI s).getD (s.size + 2) 0 = 10 := by
  unfold errI
  rw [show s.size + 2 = (s.size + 1) + 1 from rfl, List.getD_cons_succ, List.getD_eq_getElem?_getD, List.getElem?_append_right (by simp [bytesI_length])]
  simp [bytesI_length]
/-- Ahead of the CR there is neither CR nor LF. -/
theorem err_at_text (s : ByteArray) (j : Nat) (h : j < s.size + 1) : (errI s).getD j 0 ≠ 13 ∧ (errI s).getD j 0 ≠ 10 := by
  match j, h with
  | 0, _ => exact ⟨by rw [show (errI s).getD 0 0 = 45 from rfl]; decide, by rw [show (errI s).getD 0 0 = 45 from rfl]; decide⟩
  | j + 1, h =>
    have hl : j < ((bytesI s).map sanI).length := by rw [List.length_map, bytesI_length]; omega
    rw [Nat.add_comm, errI_mid s j (by omega), List.getD_eq_getElem?_getD, List.getElem?_eq_getElem hl, List.getElem_map]
    exact sanI_ne _
theorem err_no_lf (s : ByteArray) (j : Nat) (h : j < s.size + 2) : (errI s).getD j 0 ≠ 10 := by
  rcases Nat.lt_or_ge j (s.size + 1) with h1 | h1
  · exact (err_at_text s j h1).2
  · obtain rfl : j = s.size + 1 := by omega
    rw [err_at_cr]; decide

def two (s t : ByteArray) : List Int := errI s ++ errI t
theorem two_l (s t : ByteArray) (j : Nat) (h : j < s.size + 3) : (two s t).getD j 0 = (errI s).getD j 0 := getDl _ _ j (by rw [errI_length]; exact h)
theorem two_r (s t : ByteArray) (j : Nat) : (two s t).getD (s.size + 3 + j) 0 = (errI t).getD j 0 := getDr _ _ _ j (errI_length s)

theorem cut_head (g n cap : Nat) (s : ByteArray) (h : s.size + 3 ≤ cap) (W : World) :
    (Instr.sliceAt 22 (.slice (some ⟨g, 0, none⟩) n cap) none (some (.int .i64 ((s.size : Int) + 2 + 1))) none).run Try.prog W = .ok (.slice (some ⟨g, 0, none⟩) (s.size + 3) cap) W := by
  have e : ((s.size : Int) + 2 + 1).toNat = s.size + 3 := by omega
  have hsz : (sizeOf (Try.prog.elem 22)).run Try.prog W = .ok 1 W := by kernel_rfl
  rw [run_sliceAt_slice W 22 _ _ _ _ (by kernel_rfl), run_slice_h W 22 _ _ _ (by kernel_rfl) _ _ (by omega) (by omega), hsz, e]
  simp [sliced, Addr.add]
theorem cut_tail (g n cap : Nat) (s : ByteArray) (h : s.size + 3 < n) (hc : n ≤ cap) (W : World) :
    (Instr.sliceAt 22 (.slice (some ⟨g, 0, none⟩) n cap) (some (.int .i64 ((s.size : Int) + 2 + 1))) none none).run Try.prog W = .ok (.slice (some ⟨g, s.size + 3, none⟩) (n - (s.size + 3)) (cap - (s.size + 3))) W := by
  have e : ((s.size : Int) + 2 + 1).toNat = s.size + 3 := by omega
  have hsz : (sizeOf (Try.prog.elem 22)).run Try.prog W = .ok 1 W := by kernel_rfl
  rw [run_sliceAt_slice W 22 _ _ _ _ (by kernel_rfl), run_slice_l W 22 _ _ _ (by kernel_rfl) _ _ (by omega) (by omega), hsz, e]
  have hne : ¬ cap = s.size + 3 := by omega
  simp [sliced, Addr.add, hne]

set_option maxHeartbeats 1600000 in
set_option maxRecDepth 100000 in
theorem split_ok (s t : ByteArray) (w : World) (h : s.size + t.size ≤ 1048576) :
    Calls Try.prog 5 #[.string s, .string t] w fun e w' => e = .returned (.bool true) ∧ Below w.heap.size w w' := by
  go_enter Try.func5, Try.ntmps5
  go_wp2_with (go_at_call 11; refine (bytes11_ok _ _ _ h).mono ?_; rintro e w' ⟨rfl, rfl⟩)
  refine (appendError_any w'.heap.size 0 (.slice none 0 0) [] s _ (World.ownsRow_nil _ _ _ _) (Nat.le_refl _) (by omega)).mono ?_
  rintro e w1 ⟨v1, rfl, hown1, hg1⟩
  rw [Nat.zero_add, List.nil_append] at hown1
  have hs1 := hg1.size
  go_wp2_with fail
  refine (appendError_any w'.heap.size (s.size + 3) v1 (errI s) t _ hown1 (by omega) (by omega)).mono ?_
  rintro e w2 ⟨v2, rfl, hown2, hg2⟩
  have HB : Hid (Below w'.heap.size w' w2) := ((Below.refl _ _).grown hg1 (Nat.le_refl _) (fun k h => by cases h)).grown hg2 hs1 (fun k hk => (hown1.lt k hk).1)
  obtain ⟨g, cap, rfl, hg0, hgl, hc0, hcm, hl2, hcell⟩ := row_open hown2 (by omega)
  have HC : Hid (∀ j, j < s.size + 3 + t.size + 3 → w2.cell? ⟨g, j, none⟩ = some (.int .u8 ((two s t).getD j 0))) := hcell
  clear hown1 hown2 hg1 hg2 hs1 hl2 hcell
  go_wp2_with fail
  refine (indexLF_any g 0 _ cap 0 (s.size + 2) 0 rfl (two s t) _ (by omega) (Nat.zero_le _) (by omega) (fun j hj => by rw [Nat.zero_add]; exact HC.out j hj)
    (fun j _ hj => by rw [two_l s t j (by omega)]; exact err_no_lf s j hj) (by rw [two_l s t _ (by omega), err_at_lf])).mono ?_
  rintro e w3 ⟨rfl, rfl⟩
  have cCR : w3.cell? ⟨g, s.size + 1, none⟩ = some (.int .u8 13) := by rw [HC.out _ (by omega), two_l s t _ (by omega), err_at_cr]
  go_wp2_with fail
  go_loop [7] (fun i => ∃ k : Nat, k ≤ s.size + 1 ∧ i = .int .i64 k) (fun i => s.size + 1 - (intOf i).toNat)
  case atStart => exact ⟨0, Nat.zero_le _, rfl⟩
  case round =>
    clear cCR
    obtain ⟨k, hk, rfl⟩ := hrel
    by_cases hlt : k < s.size + 1
    · have hcx := HC.out k (by omega)
      have hne := (err_at_text s k hlt).1
      rw [two_l s t k (by omega)] at hcx
      obtain ⟨x, hx⟩ : ∃ x, x = (errI s).getD k 0 := ⟨_, rfl⟩
      rw [← hx] at hcx hne
      clear hx
      have hb : (x == 13) = false := by simpa using hne
      clear hne
      go_wp2
      go_round
      case rel => exact ⟨k + 1, by omega, by go_num⟩
      case measure => simp [intOf]; omega
    · have c45 : w3.cell? ⟨g, s.size + 3, none⟩ = some (.int .u8 45) := by rw [HC.out _ (by omega), ← Nat.add_zero (s.size + 3), two_r]; rfl
      go_wp2_with fail
      refine (indexLF_any g 0 _ cap (s.size + 3) (s.size + 3 + (t.size + 2)) _ (by omega) (two s t) _ (by omega) (by omega) (by omega) (fun j hj => by rw [Nat.zero_add]; exact HC.out j hj)
        (fun j h1 hj => by
          obtain ⟨i, rfl⟩ : ∃ i, j = s.size + 3 + i := ⟨j - (s.size + 3), by omega⟩
          rw [two_r]; exact err_no_lf t i (by omega)) (by rw [two_r, err_at_lf])).mono ?_
      rintro e w4 ⟨rfl, rfl⟩
      clear c45
      have cCR2 : w4.cell? ⟨g, s.size + 3 + t.size + 1, none⟩ = some (.int .u8 13) := by rw [HC.out _ (by omega), Nat.add_assoc, two_r, err_at_cr]
      go_wp2_with fail
      go_loop [9] (fun i => ∃ m : Nat, m ≤ t.size + 1 ∧ i = .int .i64 ((s.size : Int) + 3 + (m : Int))) (fun i => s.size + t.size + 4 - (intOf i).toNat)
      case atStart => exact ⟨0, Nat.zero_le _, by go_num⟩
      case round =>
        clear cCR2
        obtain ⟨m, hm, rfl⟩ := hrel
        by_cases hlm : m < t.size + 1
        · have hcx := HC.out (s.size + 3 + m) (by omega)
          have hne := (err_at_text t m hlm).1
          rw [two_r s t m] at hcx
          obtain ⟨x, hx⟩ : ∃ x, x = (errI t).getD m 0 := ⟨_, rfl⟩
          rw [← hx] at hcx hne
          clear hx
          have hb : (x == 13) = false := by simpa using hne
          clear hne
          go_wp2
          go_round
          case rel => exact ⟨m + 1, by omega, by go_num⟩
          case measure => simp [intOf]; omega
        · have hsl := cut_head g (s.size + 3 + t.size + 3) cap s (by omega)
          have hwr : IntKind.i64.wrap ((s.size : Int) + 2 + 1) = (s.size : Int) + 2 + 1 := by rw [IntKind.wrap_i64]; omega
          go_wp2_with fail
          go_region_with (first
            | (go_at_call 8; refine (appendError_nil s s.size rfl _ (by omega)).mono ?_; rintro e w5 ⟨g5, cap5, rfl, hg50, hg51, hcap5, hcapm5, hc5, hb5⟩)
            | (go_at_call 10; refine (equal_any g 0 _ g5 0 cap5 (s.size + 3) (errI s) _ (by omega) ?_ ?_).mono ?_; (intro j hj; rw [Nat.zero_add]; exact (hb5.cell (by exact hgl)).trans ((HC.out j (by omega)).trans (by rw [two_l s t j hj]))); (intro j hj; rw [Nat.zero_add]; exact hc5 j hj); rintro e w6 ⟨rfl, q6, rfl⟩))
          all_goals
            have HB2 : Hid (Below w'.heap.size w' w5) := HB.out.drew.trans (hb5.mono HB.out.size)
            have HC2 : Hid (∀ j, j < t.size + 3 → w5.cell? ⟨g, s.size + 3 + j, none⟩ = some (.int .u8 ((errI t).getD j 0))) := fun j hj => (hb5.cell (by exact hgl)).trans ((HC.out _ (by omega)).trans (by rw [two_r]))
            have hgl5 : g < w5.heap.size := Nat.lt_of_lt_of_le hgl (by simpa using hb5.size)
            have hsl2 := cut_tail g (s.size + 3 + t.size + 3) cap s (by omega) hc0
            have hln : s.size + 3 + t.size + 3 - (s.size + 3) = t.size + 3 := by omega
            rw [hln] at hsl2
            clear hsl hb5 hc5 HB HC hln
            go_wp2_with fail
            go_region_with (first
              | (go_at_call 8; refine (appendError_nil t t.size rfl _ (by omega)).mono ?_; rintro e w7 ⟨g7, cap7, rfl, hg70, hg71, hcap7, hcapm7, hc7, hb7⟩)
              | (go_at_call 10; refine (equal_any g (s.size + 3) _ g7 0 cap7 (t.size + 3) (errI t) _ (by omega) ?_ ?_).mono ?_; (intro j hj; exact (hb7.cell (by exact hgl5)).trans (HC2.out j hj)); (intro j hj; rw [Nat.zero_add]; exact hc7 j hj); rintro e w8 ⟨rfl, q8, rfl⟩))
            all_goals
              have HB3 : Hid (Below w'.heap.size w' w7) := (below_drewN HB2.out _).trans (hb7.mono HB2.out.size)
              clear hsl2 hb7 hc7
              go_wp2
              go_ret
              exact ⟨rfl, below_drewN HB3.out _⟩
end Go.Proofs.Qxb6000604a

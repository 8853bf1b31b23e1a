/-
  FnAppendErrorFramesOneLine, walked.
-/
import Derived.Test.Qxb6000604aClone
import Derived.WalkLawsBesides
namespace Go.Proofs.Qxb6000604a
open Go.RowKit

/-- In w the slice value v, of n bytes, reads as xs. -/
def Reads (w : World) (v : Value) (n : Nat) (xs : List Int) : Prop :=
  xs.length = n ∧ ((v = .slice none 0 0 ∧ n = 0) ∨ ∃ x cap, v = .slice (some x) n cap ∧ ∀ j, j < n → w.cell? (x.add j) = some (.int .u8 (xs.getD j 0)))

theorem reads_of_row {w : World} {B n : Nat} {v : Value} {xs : List Int} (h : w.ownsRow B 5 1 v n (cellsI xs)) : Reads w v n xs := by
  have hl : xs.length = n := by have := h.1; simpa [cellsI] using this
  refine ⟨hl, ?_⟩
  rcases h.2 with h0 | ⟨g, cap, cur, rfl, _⟩
  · exact .inl h0
  · refine .inr ⟨⟨g, 0, none⟩, cap, rfl, fun j hj => ?_⟩
    rw [Addr.add_lit, Nat.zero_add, h.cellAt j (by omega)]
    unfold cellsI
    rw [List.getElem?_map, List.getElem?_eq_getElem (by omega), List.getD_eq_getElem?_getD, List.getElem?_eq_getElem (by omega)]
    rfl

/-- zzCloneBytes at every slice of at most a thousand million bytes: nil, empty or not. -/
theorem clone_any (v : Value) (n : Nat) (xs : List Int) (w : World) (hn : n ≤ 1000000000) (h : Reads w v n xs) :
    Calls Try.prog 7 #[v] w fun e w' => ∃ a c, e = .returned (.slice a n c) ∧ w'.ownsRow w.heap.size 5 1 (.slice a n c) n (cellsI xs) ∧ Below w.heap.size w w' := by
  obtain ⟨hl, h⟩ := h
  rcases h with ⟨rfl, rfl⟩ | ⟨x, cap, rfl, hc⟩
  · obtain rfl : xs = [] := List.eq_nil_of_length_eq_zero hl
    refine (clone_nil w).mono ?_
    rintro e w' ⟨rfl, rfl⟩
    exact ⟨none, 0, rfl, World.ownsRow_nil _ _ _ _, Below.refl _ _⟩
  · rcases Nat.eq_zero_or_pos n with rfl | hp
    · obtain rfl : xs = [] := List.eq_nil_of_length_eq_zero hl
      refine (clone_empty x cap w).mono ?_
      rintro e w' ⟨rfl, h1, h2⟩
      exact ⟨_, _, rfl, h1, h2⟩
    · obtain ⟨b, off, spot⟩ := x
      have hspot : spot = none := by simpa [Addr.add] using World.cell?_spot (hc 0 hp)
      subst hspot
      have hc' : ∀ j, j < n → w.cell? ⟨b, off + j, none⟩ = some (.int .u8 (xs.getD j 0)) := fun j hj => by rw [← hc j hj, Addr.add_lit]
      refine (clone_some b off n cap xs w hn hl (World.block_lt_of_cell? w _ (hc' 0 hp)) hc').mono ?_
      rintro e w' ⟨rfl, h1, h2⟩
      exact ⟨_, _, rfl, h1, h2⟩

theorem bytes6_ok (a : Option Addr) (n c : Nat) (s : ByteArray) (w : World) (h : n + s.size ≤ 1048576) : Calls Try.prog 6 #[.slice a n c, .string s] w fun e w' => e = .returned (.bool true) ∧ w' = w := by
  go_enter Try.func6, Try.ntmps6
  go_wp2
  go_ret
  exact ⟨rfl, rfl⟩
theorem bytes6_big (a : Option Addr) (n c : Nat) (s : ByteArray) (w : World) (hn : n ≤ maxLen) (hs : s.size ≤ maxLen) (h : ¬ n + s.size ≤ 1048576) : Calls Try.prog 6 #[.slice a n c, .string s] w fun e w' => e = .returned (.bool false) ∧ w' = w := by
  unfold maxLen at hs hn
  go_enter Try.func6, Try.ntmps6
  go_wp2
  all_goals (go_ret; exact ⟨rfl, rfl⟩)

theorem frame_big (a : Option Addr) (n c : Nat) (s : ByteArray) (w : World) (hn : n ≤ maxLen) (hs : s.size ≤ maxLen) (h : ¬ n + s.size ≤ 1048576) :
    Calls Try.prog 3 #[.slice a n c, .string s] w fun e w' => e = .returned (.bool true) ∧ Below w.heap.size w w' := by
  go_enter Try.func3, Try.ntmps3
  go_wp2_with (go_at_call 6; refine (bytes6_big _ _ _ _ _ hn hs h).mono ?_; rintro e w' ⟨rfl, rfl⟩)
  go_ret
  exact ⟨rfl, Below.refl _ _⟩

theorem getD_app_left (xs ys : List Int) (j : Nat) (h : j < xs.length) : (xs ++ ys).getD j 0 = xs.getD j 0 := by
  rw [List.getD_eq_getElem?_getD, List.getD_eq_getElem?_getD, List.getElem?_append_left h]
theorem getD_app_right (xs ys : List Int) (n j : Nat) (h : xs.length = n) : (xs ++ ys).getD (n + j) 0 = ys.getD j 0 := by
  rw [List.getD_eq_getElem?_getD, List.getD_eq_getElem?_getD, List.getElem?_append_right (by omega)]
  congr 2; omega

theorem errI_zero (s : ByteArray) : (errI s).getD 0 0 = 45 := rfl
theorem errI_byte (s : ByteArray) (k : Nat) (h : k < s.size) : (errI s).getD (1 + k) 0 = sanI ((s[k].toNat : Nat) : Int) := by
  rw [errI_mid s k h, List.getD_eq_getElem?_getD, List.getElem?_map, bytesI_get s k h]; rfl
theorem errI_cr (s : ByteArray) : (errI s).getD (s.size + 1) 0 = 13 := by
  unfold errI
  rw [List.getD_cons_succ, List.getD_eq_getElem?_getD, List.getElem?_append_right (by simp [bytesI_length])]
  simp [bytesI_length]
theorem errI_lf (s : ByteArray) : (errI s).getD (s.size + 2) 0 = 10 := by
  unfold errI
  rw [show s.size + 2 = (s.size + 1) + 1 from rfl, List.getD_cons_succ, List.getD_eq_getElem?_getD, List.getElem?_append_right (by simp [bytesI_length])]
  simp [bytesI_length]

set_option maxHeartbeats 1600000 in
set_option maxRecDepth 100000 in
theorem frame_ok (a : Option Addr) (n c : Nat) (xs : List Int) (s : ByteArray) (w : World) (h : n + s.size ≤ 1048576) (hr : Reads w (.slice a n c) n xs) :
    Calls Try.prog 3 #[.slice a n c, .string s] w fun e w' => e = .returned (.bool true) ∧ Below w.heap.size w w' := by
  go_enter Try.func3, Try.ntmps3
  go_wp2_with (go_at_call 6; refine (bytes6_ok _ _ _ _ _ h).mono ?_; rintro e w' ⟨rfl, rfl⟩)
  refine (clone_any _ n xs _ (by omega) hr).mono ?_
  rintro e w1 ⟨a1, c1, rfl, hown1, hb1⟩
  have HR1 := reads_of_row hown1
  have hlt1 := hown1.lt
  go_wp2_with fail
  refine (clone_any _ n xs _ (by omega) HR1).mono ?_
  rintro e w2 ⟨a2, c2, rfl, hown2, hb2⟩
  have hown1' : w2.ownsRow w'.heap.size 5 1 (.slice a1 n c1) n (cellsI xs) := hown1.kept (row := none) ⟨hb2.os, hb2.tape, hb2.output, hb2.size, fun k hk _ => hb2.block k hk⟩ (by cases (Value.slice a1 n c1).ownBlock <;> simp)
  have hne : (Value.slice a2 n c2).ownBlock = none ∨ (Value.slice a2 n c2).ownBlock ≠ (Value.slice a1 n c1).ownBlock := by
    cases e2 : (Value.slice a2 n c2).ownBlock with
    | none => exact .inl rfl
    | some k =>
      refine .inr fun e1 => ?_
      have := (hlt1 k e1.symm).2
      have := (hown2.lt k e2).1
      omega
  have hs1 := hb1.size
  have hs2 := hb2.size
  clear HR1 hown1 hr
  go_wp2_with fail
  refine (appendError_any w'.heap.size n _ xs s _ hown1' (by omega) (by omega)).mono ?_
  rintro e w3 ⟨v3, rfl, hown3, hg3⟩
  have hown2' := hown2.kept hg3 hne
  obtain ⟨g3, cap3, rfl, hg30, hg31, hc30, hc31, hl3, hcell3⟩ := row_open hown3 (by omega)
  have HB : Hid (Below w'.heap.size w' w3) := (hb1.trans (hb2.mono hs1)).grown hg3 (by omega) (fun k hk => (hlt1 k hk).1)
  have hl : xs.length = n := by have := hown2.1; simpa [cellsI] using this
  have c45 : w3.cell? ⟨g3, n, none⟩ = some (.int .u8 45) := by rw [hcell3 n (by omega), ← Nat.add_zero n, getD_app_right xs _ n 0 hl]; rfl
  have c13 : w3.cell? ⟨g3, n + s.size + 1, none⟩ = some (.int .u8 13) := by rw [hcell3 _ (by omega), Nat.add_assoc, getD_app_right xs _ n _ hl, errI_cr]
  have c10 : w3.cell? ⟨g3, n + s.size + 2, none⟩ = some (.int .u8 10) := by rw [hcell3 _ (by omega), Nat.add_assoc, getD_app_right xs _ n _ hl, errI_lf]
  have HL : Hid (xs.length = n) := hl
  clear hl hown1' hne hown2 hown3 hg3 hlt1 hb1 hb2 hs1 hs2 hl3
  go_wp2_with fail
  go_loopw [8] (fun i wr => ∃ k q : Nat, k ≤ n ∧ i = .int .i64 k ∧ wr = w3.drewN q) (fun i _ => n - (intOf i).toNat)
  case atStart => exact ⟨0, 0, Nat.zero_le _, rfl, rfl⟩
  case round =>
    obtain ⟨k, q, hk, rfl, rfl⟩ := hrel
    by_cases hlt : k < n
    · obtain ⟨g2, cap2, e2, _, _, hc20, hc21, _, hcell2⟩ := row_open hown2' (by omega)
      simp only [Value.slice.injEq, true_and] at e2
      obtain ⟨rfl, rfl⟩ := e2
      have h1 := hcell2 k hlt
      have h2 := hcell3 k (by omega)
      rw [getD_app_left xs _ k (by have := HL.out; omega)] at h2
      obtain ⟨x, hx⟩ : ∃ x, x = xs.getD k 0 := ⟨_, rfl⟩
      rw [← hx] at h1 h2
      clear hx hcell2 hcell3 c45 c13 c10
      have hltI : (k : Int) < (n : Int) := by omega
      have hltJ : (k : Int) < (n : Int) + (s.size : Int) + 3 := by omega
      have hlt0 : (0 : Int) ≤ (k : Int) := by omega
      go_wp2
      go_quiet (fail)
      go_wp2
      go_roundw
      case rel => exact ⟨k + 1, _, by omega, by go_num, rfl⟩
      case measure => simp [intOf]; omega
    · clear hown2'
      have hnI : (n : Int) < (n : Int) + (s.size : Int) + 3 := by omega
      have HC : Hid (∀ j, j < s.size → ∀ hj : j < s.size, w3.cell? ⟨g3, n + 1 + j, none⟩ = some (.int .u8 (sanI ((s[j].toNat : Nat) : Int)))) := fun j hj _ => by
        rw [hcell3 (n + 1 + j) (by omega), Nat.add_assoc, getD_app_right xs _ n _ HL.out, errI_byte s j hj]
      clear hcell3
      go_wp2_with fail
      go_loop [9] (fun i => ∃ k : Nat, k ≤ s.size ∧ i = .int .i64 k) (fun i => s.size - (intOf i).toNat)
      case atStart => exact ⟨0, Nat.zero_le _, rfl⟩
      case round =>
        obtain ⟨m, hm, rfl⟩ := hrel
        by_cases hlm : m < s.size
        · have hcm := HC.out m hlm hlm
          have hI1 : (n : Int) + 1 + (m : Int) < (n : Int) + (s.size : Int) + 3 := by omega
          clear c45 c13 c10
          rcases (show ((s[m].toNat : Nat) : Int) = 13 ∨ ((s[m].toNat : Nat) : Int) = 10 ∨ (¬ ((s[m].toNat : Nat) : Int) = 13 ∧ ¬ ((s[m].toNat : Nat) : Int) = 10) from by omega) with hc | hc | ⟨hc, hc'⟩
          · rw [sanI_hit (.inl hc)] at hcm
            have hcb : (((s[m].toNat : Nat) : Int) == 13) = true := by simpa using hc
            clear hc
            go_wp2
            go_round
            case rel => exact ⟨m + 1, by omega, by go_num⟩
            case measure => simp [intOf]; omega
          · rw [sanI_hit (.inr hc)] at hcm
            have hcb : (((s[m].toNat : Nat) : Int) == 10) = true := by simpa using hc
            have hcc : (((s[m].toNat : Nat) : Int) == 13) = false := by rw [hc]; rfl
            clear hc
            go_wp2
            go_round
            case rel => exact ⟨m + 1, by omega, by go_num⟩
            case measure => simp [intOf]; omega
          · rw [sanI_miss hc hc'] at hcm
            have hcb : (((s[m].toNat : Nat) : Int) == 13) = false := by simpa using hc
            have hcc : (((s[m].toNat : Nat) : Int) == 10) = false := by simpa using hc'
            clear hc hc'
            go_wp2
            go_round
            case rel => exact ⟨m + 1, by omega, by go_num⟩
            case measure => simp [intOf]; omega
        · clear c45 HC
          go_wp2
          go_ret
          exact ⟨rfl, below_drewN HB.out _⟩
end Go.Proofs.Qxb6000604a

/-
  strconv.ParseUint at two bytes, base 16, 8 bits; unescape by its contract.
-/
import Derived.Test.Qxb6000604aDoorHex
import Derived.WalkLawsBesides
import Derived.WalkSpells
namespace Go.Proofs.Qxb6000604aDoor
open Go.RowKit

set_option maxHeartbeats 800000 in
theorem pu_some (x y v : Int) (hx0 : 0 ≤ x) (hx1 : x ≤ 255) (hy0 : 0 ≤ y) (hy1 : y ≤ 255) (h : hexPre x y 2 = some v) (w : World) :
    Calls Tryd.prog 26 #[.string (strOfNums [x, y]), .int .i64 16, .int .i64 8] w fun e w' => e = .returned (.tuple #[.int .u64 v, .nilIface]) ∧ Below w.heap.size w w' := by
  have H := inner_hex x y hx0 hx1 hy0 hy1 w
  rw [hexRes_some h] at H
  obtain ⟨t, ht⟩ : ∃ t, t = strOfNums [x, y] := ⟨_, rfl⟩
  rw [← ht] at H ⊢
  clear ht
  have HH := Lib.hid H
  clear H h
  go_enter Tryd.func26, Tryd.ntmps26
  go_wp2_with (go_at_call 30; refine HH.out.mono ?_; rintro e w1 ⟨rfl, hb⟩)
  go_ret2
  exact ⟨rfl, hb⟩

set_option maxHeartbeats 800000 in
theorem pu_none (x y : Int) (hx0 : 0 ≤ x) (hx1 : x ≤ 255) (hy0 : 0 ≤ y) (hy1 : y ≤ 255) (h : hexPre x y 2 = none) (w : World) (te : TypeId) (pe : Value) (h0 : 0 < w.heap.size) (hv : w.cell? ⟨0, 0, none⟩ = some (.iface te pe)) :
    Calls Tryd.prog 26 #[.string (strOfNums [x, y]), .int .i64 16, .int .i64 8] w fun e w' => ∃ N, e = .returned (.tuple #[.int .u64 0, .iface 50 (.pointer (some ⟨N, 0, none⟩))]) ∧ Below w.heap.size w w' := by
  have H := inner_hex x y hx0 hx1 hy0 hy1 w
  rw [hexRes_none h] at H
  obtain ⟨t, ht⟩ : ∃ t, t = strOfNums [x, y] := ⟨_, rfl⟩
  have hsz : t.size ≤ 281474976710656 := by rw [ht, two_size]; decide
  rw [← ht] at H ⊢
  clear ht
  have HH := Lib.hid H
  clear H h
  go_enter Tryd.func26, Tryd.ntmps26
  go_wp2_with (go_at_call 30; refine HH.out.mono ?_; rintro e w1 ⟨rfl, hb⟩)
  have hv1 : w1.cell? ⟨0, 0, none⟩ = some (.iface te pe) := (hb.cell (by exact h0)).trans hv
  refine (Tryd.strconv_toError_syntax _ t 16 8 (.iface te pe) w1 hsz hv1 (.inr ⟨te, pe, rfl⟩)).mono ?_
  rintro e w2 ⟨N, rfl, _, _, hb2⟩
  have HB : Hid (Below w.heap.size w w2) := hb.trans (hb2.mono hb.size)
  clear hb hb2 hv hv1
  go_wp2
  go_ret2
  exact ⟨N, rfl, HB.out⟩

set_option maxHeartbeats 800000 in
/-- 'x' and two hex digits. -/
theorem un_hex (b off n cap : Nat) (x y v : Int) (w : World) (hn : 3 ≤ n) (hcap : n ≤ cap) (hc0 : w.cell? ⟨b, off, none⟩ = some (.int .u8 120)) (hc1 : w.cell? ⟨b, off + 1, none⟩ = some (.int .u8 x)) (hc2 : w.cell? ⟨b, off + 2, none⟩ = some (.int .u8 y))
    (hx0 : 0 ≤ x) (hx1 : x ≤ 255) (hy0 : 0 ≤ y) (hy1 : y ≤ 255) (h : hexPre x y 2 = some v) (v0 : 0 ≤ v) (v1 : v ≤ 255) :
    Calls Tryd.prog 23 #[.slice (some ⟨b, off, none⟩) n cap] w fun e w' => e = .returned (.tuple #[.int .u8 v, .int .i64 3]) ∧ Below w.heap.size w w' := by
  have hconv : ∀ c, (convert 22 9 (.slice (some ⟨b, off + 1, none⟩) 2 c)).run Tryd.prog w = .ok (.string (strOfNums [x, y])) w := fun c =>
    run_convert_bytes_arg w 22 5 Tryd.underlying22 Tryd.underlying5 b (off + 1) 2 c [x, y] rfl (fun i hi => by
      match i, hi with
      | 0, _ => exact hc1
      | 1, _ => exact hc2) 9 Tryd.underlying9
  have H := fun W => pu_some x y v hx0 hx1 hy0 hy1 h W
  obtain ⟨t, ht⟩ : ∃ t, t = strOfNums [x, y] := ⟨_, rfl⟩
  rw [← ht] at hconv
  have H' : ∀ W, Calls Tryd.prog 26 #[.string t, .int .i64 16, .int .i64 8] W fun e w' => e = .returned (.tuple #[.int .u64 v, .nilIface]) ∧ Below W.heap.size W w' := by rw [ht]; exact H
  have HH := Lib.hid H'
  have hne : ¬ cap = 1 := by omega
  clear H H' ht h hc1 hc2
  go_enter Tryd.func23, Tryd.ntmps23
  go_wp2_with (go_at_call 26; refine (HH.out _).mono ?_; rintro e w1 ⟨rfl, hb⟩)
  go_ret2
  exact ⟨rfl, hb⟩

set_option maxHeartbeats 800000 in
/-- 'x' and two bytes that are no hex digits. -/
theorem un_bad (b off n cap : Nat) (x y : Int) (w : World) (hn : 3 ≤ n) (hcap : n ≤ cap) (hc0 : w.cell? ⟨b, off, none⟩ = some (.int .u8 120)) (hc1 : w.cell? ⟨b, off + 1, none⟩ = some (.int .u8 x)) (hc2 : w.cell? ⟨b, off + 2, none⟩ = some (.int .u8 y))
    (hx0 : 0 ≤ x) (hx1 : x ≤ 255) (hy0 : 0 ≤ y) (hy1 : y ≤ 255) (h : hexPre x y 2 = none) (te : TypeId) (pe : Value) (h0 : 0 < w.heap.size) (hv : w.cell? ⟨0, 0, none⟩ = some (.iface te pe)) :
    Calls Tryd.prog 23 #[.slice (some ⟨b, off, none⟩) n cap] w fun e w' => e = .returned (.tuple #[.int .u8 120, .int .i64 1]) ∧ Below w.heap.size w w' := by
  have hconv : ∀ c, (convert 22 9 (.slice (some ⟨b, off + 1, none⟩) 2 c)).run Tryd.prog w = .ok (.string (strOfNums [x, y])) w := fun c =>
    run_convert_bytes_arg w 22 5 Tryd.underlying22 Tryd.underlying5 b (off + 1) 2 c [x, y] rfl (fun i hi => by
      match i, hi with
      | 0, _ => exact hc1
      | 1, _ => exact hc2) 9 Tryd.underlying9
  have H := pu_none x y hx0 hx1 hy0 hy1 h w te pe h0 hv
  obtain ⟨t, ht⟩ : ∃ t, t = strOfNums [x, y] := ⟨_, rfl⟩
  rw [← ht] at hconv H
  have HH := Lib.hid H
  have hbw : b < w.heap.size := World.block_lt_of_cell? w _ hc0
  have HC := Lib.hid hc0
  have hne : ¬ cap = 1 := by omega
  clear H ht h hc1 hc2 hv
  go_enter Tryd.func23, Tryd.ntmps23
  go_wp2_with (go_at_call 26; refine HH.out.mono ?_; rintro e w1 ⟨N, rfl, hb⟩; have hcc := (hb.cell (p := ⟨b, off, none⟩) hbw).trans HC.out)
  go_ret2
  exact ⟨rfl, hb⟩

set_option maxHeartbeats 800000 in
/-- 'x' with fewer than two bytes behind it. -/
theorem un_short (b off n cap : Nat) (w : World) (hn : 1 ≤ n) (hn2 : n < 3) (hc0 : w.cell? ⟨b, off, none⟩ = some (.int .u8 120)) :
    Calls Tryd.prog 23 #[.slice (some ⟨b, off, none⟩) n cap] w fun e w' => e = .returned (.tuple #[.int .u8 120, .int .i64 1]) ∧ Below w.heap.size w w' := by
  go_enter Tryd.func23, Tryd.ntmps23
  go_wp2
  go_ret2
  exact ⟨rfl, Below.refl _ _⟩

theorem letV_n {c : Int} (h : (c == 110) = true) : letV c = 10 := by rw [beq_iff_eq.1 h]; rfl
theorem letV_r {c : Int} (h : (c == 114) = true) : letV c = 13 := by rw [beq_iff_eq.1 h]; rfl
theorem letV_t {c : Int} (h : (c == 116) = true) : letV c = 9 := by rw [beq_iff_eq.1 h]; rfl
theorem letV_b {c : Int} (h : (c == 98) = true) : letV c = 8 := by rw [beq_iff_eq.1 h]; rfl
theorem letV_a {c : Int} (h : (c == 97) = true) : letV c = 7 := by rw [beq_iff_eq.1 h]; rfl
theorem letV_self {c : Int} (h1 : (c == 110) = false) (h2 : (c == 114) = false) (h3 : (c == 116) = false) (h4 : (c == 98) = false) (h5 : (c == 97) = false) : letV c = c := by
  unfold letV
  rw [if_neg (by simpa using h1), if_neg (by simpa using h2), if_neg (by simpa using h3), if_neg (by simpa using h4), if_neg (by simpa using h5)]

set_option maxHeartbeats 800000 in
/-- No 'x'. -/
theorem un_let (b off n cap : Nat) (c : Int) (w : World) (hn : 1 ≤ n) (hn2 : n ≤ 1000000000) (hc0 : w.cell? ⟨b, off, none⟩ = some (.int .u8 c)) (hx : (c == 120) = false) :
    Calls Tryd.prog 23 #[.slice (some ⟨b, off, none⟩) n cap] w fun e w' => e = .returned (.tuple #[.int .u8 (letV c), .int .i64 1]) ∧ Below w.heap.size w w' := by
  go_enter Tryd.func23, Tryd.ntmps23
  go_wp2
  · go_ret2
    exact ⟨by rw [letV_n (c := c) (by assumption)]; rfl, Below.refl _ _⟩
  · go_ret2
    exact ⟨by rw [letV_r (c := c) (by assumption)]; rfl, Below.refl _ _⟩
  · go_ret2
    exact ⟨by rw [letV_t (c := c) (by assumption)]; rfl, Below.refl _ _⟩
  · go_ret2
    exact ⟨by rw [letV_b (c := c) (by assumption)]; rfl, Below.refl _ _⟩
  · go_ret2
    exact ⟨by rw [letV_a (c := c) (by assumption)]; rfl, Below.refl _ _⟩
  · go_ret2
    exact ⟨by rw [letV_self (c := c) (by assumption) (by assumption) (by assumption) (by assumption) (by assumption)]; rfl, Below.refl _ _⟩

theorem hexPre2_bd {x y v : Int} (h : hexPre x y 2 = some v) : 0 ≤ v ∧ v ≤ 255 := by
  have h' : (match hexV x, hexV y with | some a, some b => some (16 * a + b) | _, _ => none) = some v := h
  cases hx : hexV x with
  | none => rw [hx] at h'; cases h'
  | some a =>
    cases hy : hexV y with
    | none => rw [hx, hy] at h'; cases h'
    | some b =>
      rw [hx, hy] at h'
      have := hexV_bd hx
      have := hexV_bd hy
      simp at h'
      omega

/-- unescape at a slice that is not empty and reads as xs. -/
theorem unescape_any (b off n cap : Nat) (xs : List Int) (w : World) (hl : xs.length = n) (hn : 1 ≤ n) (hn2 : n ≤ 1000000000) (hcap : n ≤ cap)
    (hc : ∀ j, j < n → w.cell? ⟨b, off + j, none⟩ = some (.int .u8 (xs.getD j 0))) (hr : ∀ x ∈ xs, 0 ≤ x ∧ x ≤ 255) (te : TypeId) (pe : Value) (h0 : 0 < w.heap.size) (hv : w.cell? ⟨0, 0, none⟩ = some (.iface te pe)) :
    Calls Tryd.prog 23 #[.slice (some ⟨b, off, none⟩) n cap] w fun e w' => e = .returned (.tuple #[.int .u8 (unV xs), .int .i64 (unN xs)]) ∧ Below w.heap.size w w' := by
  subst hl
  match xs, hn, hn2, hcap, hc, hr with
  | c :: rest, hn, hn2, hcap, hc, hr =>
    have hc0 : w.cell? ⟨b, off, none⟩ = some (.int .u8 c) := hc 0 (by omega)
    by_cases hx : c = 120
    · subst hx
      match rest, hn, hn2, hcap, hc, hr with
      | [], hn, _, _, _, _ => exact un_short b off 1 cap w hn (by decide) hc0
      | [_], _, _, _, _, _ => exact un_short b off 2 cap w (by decide) (by decide) hc0
      | x :: y :: r, _, _, hcap, hc, hr =>
        have hc1 : w.cell? ⟨b, off + 1, none⟩ = some (.int .u8 x) := hc 1 (by simp)
        have hc2 : w.cell? ⟨b, off + 2, none⟩ = some (.int .u8 y) := hc 2 (by simp)
        have hxr := hr x (by simp)
        have hyr := hr y (by simp)
        have e : hexE (120 :: x :: y :: r) = hexPre x y 2 := by simp [hexE]
        cases h : hexPre x y 2 with
        | some v =>
          have hb := hexPre2_bd h
          have e1 : unV (120 :: x :: y :: r) = v := by unfold unV; rw [e, h]
          have e2 : unN (120 :: x :: y :: r) = 3 := by unfold unN; rw [e, h]
          rw [e1, e2]
          exact un_hex b off _ cap x y v w (by simp) hcap hc0 hc1 hc2 hxr.1 hxr.2 hyr.1 hyr.2 h hb.1 hb.2
        | none =>
          have e1 : unV (120 :: x :: y :: r) = 120 := by unfold unV; rw [e, h]; rfl
          have e2 : unN (120 :: x :: y :: r) = 1 := by unfold unN; rw [e, h]
          rw [e1, e2]
          exact un_bad b off _ cap x y w (by simp) hcap hc0 hc1 hc2 hxr.1 hxr.2 hyr.1 hyr.2 h te pe h0 hv
    · have e : hexE (c :: rest) = none := by
        match rest with
        | [] => rfl
        | [_] => rfl
        | _ :: _ :: _ => simp [hexE, hx]
      have e1 : unV (c :: rest) = letV c := by unfold unV; rw [e]; rfl
      have e2 : unN (c :: rest) = 1 := by unfold unN; rw [e]
      rw [e1, e2]
      exact un_let b off _ cap c w hn hn2 hc0 (by simpa using hx)

/-- ZZunescape hands on. -/
theorem zz_any (b off n cap : Nat) (xs : List Int) (w : World) (hl : xs.length = n) (hn : 1 ≤ n) (hn2 : n ≤ 1000000000) (hcap : n ≤ cap)
    (hc : ∀ j, j < n → w.cell? ⟨b, off + j, none⟩ = some (.int .u8 (xs.getD j 0))) (hr : ∀ x ∈ xs, 0 ≤ x ∧ x ≤ 255) (te : TypeId) (pe : Value) (h0 : 0 < w.heap.size) (hv : w.cell? ⟨0, 0, none⟩ = some (.iface te pe)) :
    Calls Tryd.prog 12 #[.slice (some ⟨b, off, none⟩) n cap] w fun e w' => e = .returned (.tuple #[.int .u8 (unV xs), .int .i64 (unN xs)]) ∧ Below w.heap.size w w' := by
  have HH := Lib.hid (unescape_any b off n cap xs w hl hn hn2 hcap hc hr te pe h0 hv)
  obtain ⟨u, hu⟩ : ∃ u, u = unV xs := ⟨_, rfl⟩
  obtain ⟨m, hm⟩ : ∃ m, m = unN xs := ⟨_, rfl⟩
  rw [← hu, ← hm] at HH ⊢
  clear hl hc hr hv hu hm
  go_enter Tryd.func12, Tryd.ntmps12
  go_wp2_with (go_at_call 23; refine HH.out.mono ?_; rintro e w1 ⟨rfl, hb⟩)
  go_ret2
  exact ⟨rfl, hb⟩
end Go.Proofs.Qxb6000604aDoor

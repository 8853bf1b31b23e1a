/-
  FnUnescapeUnknownStandsForItself, walked.
-/
import Derived.Test.Qxb6000604aDoorSmall
namespace Go.Proofs.Qxb6000604aDoor
open Go.RowKit

theorem bytes14_ok (a : Option Addr) (n c : Nat) (w : World) (h : n ≤ 1048576) : Calls Tryd.prog 14 #[.slice a n c] w fun e w' => e = .returned (.bool true) ∧ w' = w := by
  go_enter Tryd.func14, Tryd.ntmps14
  go_wp2
  go_ret
  exact ⟨rfl, rfl⟩
theorem bytes14_big (a : Option Addr) (n c : Nat) (w : World) (hn : n ≤ maxLen) (h : ¬ n ≤ 1048576) : Calls Tryd.prog 14 #[.slice a n c] w fun e w' => e = .returned (.bool false) ∧ w' = w := by
  unfold maxLen at hn
  go_enter Tryd.func14, Tryd.ntmps14
  go_wp2
  go_ret
  exact ⟨rfl, rfl⟩

theorem unk_big (a : Option Addr) (n c : Nat) (w : World) (hn : n ≤ maxLen) (h : ¬ n ≤ 1048576) : Calls Tryd.prog 4 #[.slice a n c] w fun e w' => e = .returned (.bool true) ∧ Below w.heap.size w w' := by
  go_enter Tryd.func4, Tryd.ntmps4
  go_wp2_with (go_at_call 14; refine (bytes14_big _ _ _ _ hn h).mono ?_; rintro e w' ⟨rfl, rfl⟩)
  go_ret
  exact ⟨rfl, Below.refl _ _⟩

theorem unk_empty (a : Option Addr) (c : Nat) (w : World) : Calls Tryd.prog 4 #[.slice a 0 c] w fun e w' => e = .returned (.bool true) ∧ Below w.heap.size w w' := by
  go_enter Tryd.func4, Tryd.ntmps4
  go_wp2_with (go_at_call 14; refine (bytes14_ok _ _ _ _ (by omega)).mono ?_; rintro e w' ⟨rfl, rfl⟩)
  go_ret
  exact ⟨rfl, Below.refl _ _⟩

/-- It opens with an escape letter. -/
theorem unk_let (b off n cap : Nat) (c0 : Int) (w : World) (h : n ≤ 1048576) (hn : 0 < n) (hc0 : w.cell? ⟨b, off, none⟩ = some (.int .u8 c0)) (hl : isLet c0 = true) :
    Calls Tryd.prog 4 #[.slice (some ⟨b, off, none⟩) n cap] w fun e w' => e = .returned (.bool true) ∧ Below w.heap.size w w' := by
  go_enter Tryd.func4, Tryd.ntmps4
  go_wp2_with (first | (go_at_call 14; refine (bytes14_ok _ _ _ _ h).mono ?_; rintro e w' ⟨rfl, rfl⟩) | (go_at_call 15; refine (isLet_yes _ hl _).mono ?_; rintro e w' ⟨rfl, rfl⟩))
  go_ret
  exact ⟨rfl, Below.refl _ _⟩

/-- It opens with 'x' and two hex digits. -/
theorem unk_hex (b off n cap : Nat) (x y a d : Int) (w : World) (h : n ≤ 1048576) (hn : 3 ≤ n) (hc0 : w.cell? ⟨b, off, none⟩ = some (.int .u8 120)) (hc1 : w.cell? ⟨b, off + 1, none⟩ = some (.int .u8 x)) (hc2 : w.cell? ⟨b, off + 2, none⟩ = some (.int .u8 y))
    (hx : hexV x = some a) (hy : hexV y = some d) :
    Calls Tryd.prog 4 #[.slice (some ⟨b, off, none⟩) n cap] w fun e w' => e = .returned (.bool true) ∧ Below w.heap.size w w' := by
  have HX := Lib.hid hx
  have HY := Lib.hid hy
  clear hx hy
  go_enter Tryd.func4, Tryd.ntmps4
  go_wp2_with (first | (go_at_call 14; refine (bytes14_ok _ _ _ _ h).mono ?_; rintro e w' ⟨rfl, rfl⟩) | (go_at_call 15; refine (isLet_no 120 rfl _).mono ?_; rintro e w' ⟨rfl, rfl⟩))
  refine (isHex_yes x a HX.out _).mono ?_
  rintro e w' ⟨rfl, rfl⟩
  go_wp2_with fail
  refine (isHex_yes y d HY.out _).mono ?_
  rintro e w' ⟨rfl, rfl⟩
  go_wp2_with fail
  go_ret
  exact ⟨rfl, Below.refl _ _⟩

/-- The rest: clone, unescape, compare. -/
theorem unk_zz (g n cap : Nat) (xs : List Int) (c0 : Int) (w : World) (hu : unV xs = c0) (hm : unN xs = 1) (hl : xs.length = n) (hn : 0 < n) (h : n ≤ 1048576) (hcap : n ≤ cap) (hc : ∀ j, j < n → w.cell? ⟨g, j, none⟩ = some (.int .u8 (xs.getD j 0))) (hr : ∀ x ∈ xs, 0 ≤ x ∧ x ≤ 255)
    (te : TypeId) (pe : Value) (h0 : 0 < w.heap.size) (hv : w.cell? ⟨0, 0, none⟩ = some (.iface te pe)) :
    Calls Tryd.prog 12 #[.slice (some ⟨g, 0, none⟩) n cap] w fun e w' => e = .returned (.tuple #[.int .u8 c0, .int .i64 1]) ∧ Below w.heap.size w w' := by
  have H := zz_any g 0 n cap xs w hl hn (by omega) hcap (fun j hj => by rw [Nat.zero_add]; exact hc j hj) hr te pe h0 hv
  rw [hu, hm] at H
  exact H

set_option maxHeartbeats 1600000 in
theorem unk_rest (b off n cap : Nat) (xs : List Int) (c0 x y a : Int) (w : World) (h : n ≤ 1048576) (hn : 0 < n) (hl : xs.length = n) (hbw : b < w.heap.size) (hc : ∀ j, j < n → w.cell? ⟨b, off + j, none⟩ = some (.int .u8 (xs.getD j 0))) (hr : ∀ x ∈ xs, 0 ≤ x ∧ x ≤ 255)
    (hc0 : w.cell? ⟨b, off, none⟩ = some (.int .u8 c0)) (hx0 : xs.getD 0 0 = c0) (hlet : isLet c0 = false) (hu : unV xs = c0) (hm : unN xs = 1)
    (hcase : (c0 == 120) = false ∨ (c0 = 120 ∧ n < 3) ∨ (c0 = 120 ∧ 3 ≤ n ∧ w.cell? ⟨b, off + 1, none⟩ = some (.int .u8 x) ∧ Hid (hexV x = none)) ∨
      (c0 = 120 ∧ 3 ≤ n ∧ w.cell? ⟨b, off + 1, none⟩ = some (.int .u8 x) ∧ w.cell? ⟨b, off + 2, none⟩ = some (.int .u8 y) ∧ Hid (hexV x = some a) ∧ Hid (hexV y = none)))
    (te : TypeId) (pe : Value) (h0 : 0 < w.heap.size) (hv : w.cell? ⟨0, 0, none⟩ = some (.iface te pe)) :
    Calls Tryd.prog 4 #[.slice (some ⟨b, off, none⟩) n cap] w fun e w' => e = .returned (.bool true) ∧ Below w.heap.size w w' := by
  have HR : Hid (Reads w (.slice (some ⟨b, off, none⟩) n cap) n xs) := ⟨hl, .inr ⟨⟨b, off, none⟩, cap, rfl, fun j hj => by rw [Addr.add_lit]; exact hc j hj⟩⟩
  have HC := Lib.hid hx0
  have HL := Lib.hid hlet
  have HU := Lib.hid hu
  have HM := Lib.hid hm
  have HLN := Lib.hid hl
  have HRG := Lib.hid hr
  have HV := Lib.hid hv
  clear hc hx0 hlet hu hm hl hr hv
  rcases hcase with h1 | ⟨rfl, h1⟩ | ⟨rfl, h1, hc1, hx⟩ | ⟨rfl, h1, hc1, hc2, hx, hy⟩
  · go_enter Tryd.func4, Tryd.ntmps4
    go_wp2_with (first | (go_at_call 14; refine (bytes14_ok _ _ _ _ h).mono ?_; rintro e w' ⟨rfl, rfl⟩) | (go_at_call 15; refine (isLet_no _ HL.out _).mono ?_; rintro e w' ⟨rfl, rfl⟩))
    refine (clone_any _ n xs _ (by omega) HR.out).mono ?_
    rintro e w1 ⟨a1, c1, rfl, hown1, hb1⟩
    obtain ⟨g, cap1, e1, hg0, hg1, hcap1, _, _, hcell⟩ := row_open hown1 hn
    simp only [Value.slice.injEq, true_and] at e1
    obtain ⟨rfl, rfl⟩ := e1
    have hv1 := (hb1.cell (p := ⟨0, 0, none⟩) (by exact h0)).trans HV.out
    have HZ := Lib.hid (unk_zz g n c1 xs c0 w1 HU.out HM.out HLN.out hn h hcap1 hcell HRG.out te pe (Nat.lt_of_lt_of_le h0 hb1.size) hv1)
    have hcg : w1.cell? ⟨g, 0, none⟩ = some (.int .u8 c0) := by rw [hcell 0 hn, HC.out]
    have HB1 := Lib.hid hb1
    clear hown1 hcell hv1 hb1 HR
    go_wp2_with (go_at_call 12; refine HZ.out.mono ?_; rintro e w2 ⟨rfl, hb2⟩; have hcg2 := (hb2.cell (p := ⟨g, 0, none⟩) hg1).trans hcg)
    go_ret
    exact ⟨rfl, HB1.out.trans (hb2.mono HB1.out.size)⟩
  · go_enter Tryd.func4, Tryd.ntmps4
    go_wp2_with (first | (go_at_call 14; refine (bytes14_ok _ _ _ _ h).mono ?_; rintro e w' ⟨rfl, rfl⟩) | (go_at_call 15; refine (isLet_no _ HL.out _).mono ?_; rintro e w' ⟨rfl, rfl⟩))
    refine (clone_any _ n xs _ (by omega) HR.out).mono ?_
    rintro e w1 ⟨a1, c1, rfl, hown1, hb1⟩
    obtain ⟨g, cap1, e1, hg0, hg1, hcap1, _, _, hcell⟩ := row_open hown1 hn
    simp only [Value.slice.injEq, true_and] at e1
    obtain ⟨rfl, rfl⟩ := e1
    have hv1 := (hb1.cell (p := ⟨0, 0, none⟩) (by exact h0)).trans HV.out
    have HZ := Lib.hid (unk_zz g n c1 xs 120 w1 HU.out HM.out HLN.out hn h hcap1 hcell HRG.out te pe (Nat.lt_of_lt_of_le h0 hb1.size) hv1)
    have hcg : w1.cell? ⟨g, 0, none⟩ = some (.int .u8 120) := by rw [hcell 0 hn, HC.out]
    have HB1 := Lib.hid hb1
    clear hown1 hcell hv1 hb1 HR
    go_wp2_with (go_at_call 12; refine HZ.out.mono ?_; rintro e w2 ⟨rfl, hb2⟩; have hcg2 := (hb2.cell (p := ⟨g, 0, none⟩) hg1).trans hcg)
    go_ret
    exact ⟨rfl, HB1.out.trans (hb2.mono HB1.out.size)⟩
  · go_enter Tryd.func4, Tryd.ntmps4
    go_wp2_with (first | (go_at_call 14; refine (bytes14_ok _ _ _ _ h).mono ?_; rintro e w' ⟨rfl, rfl⟩) | (go_at_call 15; refine (isLet_no _ HL.out _).mono ?_; rintro e w' ⟨rfl, rfl⟩))
    refine (isHex_no x hx.out _).mono ?_
    rintro e w' ⟨rfl, rfl⟩
    go_wp2_with fail
    refine (clone_any _ n xs _ (by omega) HR.out).mono ?_
    rintro e w1 ⟨a1, c1, rfl, hown1, hb1⟩
    obtain ⟨g, cap1, e1, hg0, hg1, hcap1, _, _, hcell⟩ := row_open hown1 hn
    simp only [Value.slice.injEq, true_and] at e1
    obtain ⟨rfl, rfl⟩ := e1
    have hv1 := (hb1.cell (p := ⟨0, 0, none⟩) (by exact h0)).trans HV.out
    have HZ := Lib.hid (unk_zz g n c1 xs 120 w1 HU.out HM.out HLN.out hn h hcap1 hcell HRG.out te pe (Nat.lt_of_lt_of_le h0 hb1.size) hv1)
    have hcg : w1.cell? ⟨g, 0, none⟩ = some (.int .u8 120) := by rw [hcell 0 hn, HC.out]
    have HB1 := Lib.hid hb1
    clear hown1 hcell hv1 hb1 HR
    go_wp2_with (go_at_call 12; refine HZ.out.mono ?_; rintro e w2 ⟨rfl, hb2⟩; have hcg2 := (hb2.cell (p := ⟨g, 0, none⟩) hg1).trans hcg)
    go_ret
    exact ⟨rfl, HB1.out.trans (hb2.mono HB1.out.size)⟩
  · go_enter Tryd.func4, Tryd.ntmps4
    go_wp2_with (first | (go_at_call 14; refine (bytes14_ok _ _ _ _ h).mono ?_; rintro e w' ⟨rfl, rfl⟩) | (go_at_call 15; refine (isLet_no _ HL.out _).mono ?_; rintro e w' ⟨rfl, rfl⟩))
    refine (isHex_yes x a hx.out _).mono ?_
    rintro e w' ⟨rfl, rfl⟩
    go_wp2_with fail
    refine (isHex_no y hy.out _).mono ?_
    rintro e w' ⟨rfl, rfl⟩
    go_wp2_with fail
    refine (clone_any _ n xs _ (by omega) HR.out).mono ?_
    rintro e w1 ⟨a1, c1, rfl, hown1, hb1⟩
    obtain ⟨g, cap1, e1, hg0, hg1, hcap1, _, _, hcell⟩ := row_open hown1 hn
    simp only [Value.slice.injEq, true_and] at e1
    obtain ⟨rfl, rfl⟩ := e1
    have hv1 := (hb1.cell (p := ⟨0, 0, none⟩) (by exact h0)).trans HV.out
    have HZ := Lib.hid (unk_zz g n c1 xs 120 w1 HU.out HM.out HLN.out hn h hcap1 hcell HRG.out te pe (Nat.lt_of_lt_of_le h0 hb1.size) hv1)
    have hcg : w1.cell? ⟨g, 0, none⟩ = some (.int .u8 120) := by rw [hcell 0 hn, HC.out]
    have HB1 := Lib.hid hb1
    clear hown1 hcell hv1 hb1 HR
    go_wp2_with (go_at_call 12; refine HZ.out.mono ?_; rintro e w2 ⟨rfl, hb2⟩; have hcg2 := (hb2.cell (p := ⟨g, 0, none⟩) hg1).trans hcg)
    go_ret
    exact ⟨rfl, HB1.out.trans (hb2.mono HB1.out.size)⟩

theorem unV_none {xs : List Int} (h : hexE xs = none) : unV xs = letV (xs.getD 0 0) ∧ unN xs = 1 := by
  unfold unV unN; rw [h]; exact ⟨rfl, rfl⟩
theorem letV_other {c : Int} (h : isLet c = false) : letV c = c := by
  obtain ⟨h1, h2, h3, h4, h5⟩ := isLet_parts h
  exact letV_self h1 h2 h3 h4 h5
theorem hexPre2_none_l {x y : Int} (h : hexV x = none) : hexPre x y 2 = none := by
  show (match hexV x, hexV y with | some a, some b => some (16 * a + b) | _, _ => none) = none
  rw [h]
theorem hexPre2_none_r {x y : Int} (h : hexV y = none) : hexPre x y 2 = none := by
  show (match hexV x, hexV y with | some a, some b => some (16 * a + b) | _, _ => none) = none
  rw [h]; cases hexV x <;> rfl

/-- FnUnescapeUnknownStandsForItself at every slice of bytes. -/
theorem unk_any (v : Value) (n : Nat) (xs : List Int) (w : World) (hmax : n ≤ maxLen) (hR : Reads w v n xs) (hr : ∀ x ∈ xs, 0 ≤ x ∧ x ≤ 255) (te : TypeId) (pe : Value) (h0 : 0 < w.heap.size) (hv : w.cell? ⟨0, 0, none⟩ = some (.iface te pe)) :
    Calls Tryd.prog 4 #[v] w fun e w' => e = .returned (.bool true) ∧ Below w.heap.size w w' := by
  have hsh : ∃ a c, v = .slice a n c := by
    rcases hR.2 with ⟨rfl, rfl⟩ | ⟨x, cap, rfl, _⟩
    · exact ⟨_, _, rfl⟩
    · exact ⟨_, _, rfl⟩
  by_cases h : n ≤ 1048576
  · by_cases hn : 0 < n
    · obtain ⟨b, off, cap, rfl, hbw, hc⟩ := reads_at hR hn
      have hl := hR.1
      match xs, hl, hc, hr with
      | [], hl, _, _ => exact absurd hl (by simp; omega)
      | c0 :: rest, hl, hc, hr =>
        have hc0 : w.cell? ⟨b, off, none⟩ = some (.int .u8 c0) := hc 0 hn
        cases hlet : isLet c0 with
        | true => exact unk_let b off n cap c0 w h hn hc0 hlet
        | false =>
          by_cases hx : c0 = 120
          · subst hx
            match rest, hl, hc, hr with
            | [], hl, hc, hr =>
              have e := unV_none (xs := [120]) rfl
              exact unk_rest b off n cap [120] 120 0 0 0 w h hn hl hbw hc hr hc0 rfl hlet (e.1.trans rfl) e.2 (.inr (.inl ⟨rfl, by simp at hl; omega⟩)) te pe h0 hv
            | [z], hl, hc, hr =>
              have e := unV_none (xs := [120, z]) rfl
              exact unk_rest b off n cap [120, z] 120 0 0 0 w h hn hl hbw hc hr hc0 rfl hlet (e.1.trans rfl) e.2 (.inr (.inl ⟨rfl, by simp at hl; omega⟩)) te pe h0 hv
            | x :: y :: r, hl, hc, hr =>
              have h3 : 3 ≤ n := by simp at hl; omega
              have hc1 : w.cell? ⟨b, off + 1, none⟩ = some (.int .u8 x) := hc 1 (by omega)
              have hc2 : w.cell? ⟨b, off + 2, none⟩ = some (.int .u8 y) := hc 2 (by omega)
              have e0 : hexE (120 :: x :: y :: r) = hexPre x y 2 := by simp [hexE]
              cases hxv : hexV x with
              | none =>
                have e := unV_none (xs := 120 :: x :: y :: r) (e0.trans (hexPre2_none_l hxv))
                exact unk_rest b off n cap (120 :: x :: y :: r) 120 x 0 0 w h hn hl hbw hc hr hc0 rfl hlet (e.1.trans rfl) e.2 (.inr (.inr (.inl ⟨rfl, h3, hc1, hxv⟩))) te pe h0 hv
              | some a =>
                cases hyv : hexV y with
                | none =>
                  have e := unV_none (xs := 120 :: x :: y :: r) (e0.trans (hexPre2_none_r hyv))
                  exact unk_rest b off n cap (120 :: x :: y :: r) 120 x y a w h hn hl hbw hc hr hc0 rfl hlet (e.1.trans rfl) e.2 (.inr (.inr (.inr ⟨rfl, h3, hc1, hc2, hxv, hyv⟩))) te pe h0 hv
                | some d => exact unk_hex b off n cap x y a d w h h3 hc0 hc1 hc2 hxv hyv
          · have e0 : hexE (c0 :: rest) = none := by
              match rest with
              | [] => rfl
              | [_] => rfl
              | _ :: _ :: _ => simp [hexE, hx]
            have e := unV_none e0
            exact unk_rest b off n cap (c0 :: rest) c0 0 0 0 w h hn hl hbw hc hr hc0 rfl hlet (e.1.trans (letV_other hlet)) e.2 (.inl (by simpa using hx)) te pe h0 hv
    · obtain rfl : n = 0 := by omega
      obtain ⟨a, c, rfl⟩ := hsh
      exact unk_empty a c w
  · obtain ⟨a, c, rfl⟩ := hsh
    exact unk_big a n c w hmax h
end Go.Proofs.Qxb6000604aDoor

/-
  FnUnescapeRoundTrip, walked: the two roads.
-/
import Derived.Test.Qxb6000604aDoorTrip
namespace Go.Proofs.Qxb6000604aDoor
open Go.RowKit

set_option maxHeartbeats 1600000 in
theorem trip_none (c : Int) (u : Bool) (a : Option Addr) (n k0 : Nat) (ts : List Int) (w : World) (h : n ≤ 1048576) (c0 : 0 ≤ c) (c1 : c ≤ 255) (R : Reads w (.slice a n k0) n ts) (hr : ∀ x ∈ ts, 0 ≤ x ∧ x ≤ 255) (hlet : letterOf c = none)
    (te : TypeId) (pe : Value) (h0 : 0 < w.heap.size) (hv : w.cell? ⟨0, 0, none⟩ = some (.iface te pe)) :
    Calls Tryd.prog 3 #[.int .u8 c, .bool u, .slice a n k0] w fun e w' => e = .returned (.bool true) ∧ Below w.heap.size w w' := by
  obtain ⟨i0, hi, hz0, hz1, hz2⟩ := info_parts info5
  have HR := Lib.hid R
  have HLT := Lib.hid R.1
  have HRG := Lib.hid hr
  have HV := Lib.hid hv
  have HLET := Lib.hid hlet
  have HNIB := Lib.hid (nib_low c0 c1)
  clear R hr hv hlet
  go_enter Tryd.func3, Tryd.ntmps3
  go_wp2_with (go_at_call 9; refine (bytes9_ok _ _ _ _ _ _ h).mono ?_; rintro e w' ⟨rfl, rfl⟩)
  refine (clone_any _ n ts _ (by omega) HR.out).mono ?_
  rintro e w1 ⟨b1, d1, rfl, hown1, hb1⟩
  have HT1 := Lib.hid (reads_of_row hown1)
  have HT1b : Hid (∀ k, (Value.slice b1 n d1).ownBlock = some k → k < w1.heap.size) := fun k hk => (hown1.lt k hk).2
  have HB1 := Lib.hid hb1
  have HV1 : Hid (w1.cell? ⟨0, 0, none⟩ = some (.iface te pe)) := (hb1.cell (p := ⟨0, 0, none⟩) h0).trans HV.out
  have h01 : 0 < w1.heap.size := Nat.lt_of_lt_of_le h0 hb1.size
  clear hown1 hb1 HR HV
  go_wp2_with (at_make; refine wpList_make_own _ rfl _ _ 22 rfl w1.heap.size 5 i0 (.int .u8 0) 1 Tryd.underlying22 hi hz0 hz1 _ _ _ (3 + n) rfl rfl (by omega) ?b1 ?b2 ?b3 ?_)
  case b1 => rw [hz2]; omega
  case b2 => unfold maxLen; omega
  case b3 => exact Nat.le_refl _
  intro w2 hown2 hg2
  have HB2 : Hid (Below w1.heap.size w1 w2) := (Below.refl _ _).grown hg2 (Nat.le_refl _) (fun k h => by cases h)
  clear hg2
  have HO2 : Hid (w2.ownsRow w1.heap.size 5 1 (.slice (some ⟨w1.heap.size, 0, none⟩) 0 (3 + n)) 0 (cellsI [])) := hown2
  clear hown2
  go_wp2_with (at_builtin; refine wpList_append_fits _ rfl (.tmp 31) (.tmp 32) 22 rfl w1.heap.size 5 i0 1 Tryd.underlying22 hi hz1 w1.heap.size 0 (3 + n) _ rfl (HO2.out.alloc _) ⟨w2.heap.size, 0, none⟩ 1 1 [.int .u8 120] rfl rfl (cell_one_new _ _ _) ?d2 ?d3 ?_)
  case d2 => intro z hz; simp at hz; subst hz; rfl
  case d3 => omega
  intro w3 hown3 hg3
  have R3 := fit_step HB2.out HB2.out.size hown3 hg3
  have HO3 : Hid (w3.ownsRow w1.heap.size 5 1 (.slice (some ⟨w1.heap.size, 0, none⟩) 1 (3 + n)) 1 (cellsI [120])) := R3.1
  have HB3 := Lib.hid R3.2
  clear hown3 hg3 R3 HO2 HB2
  go_wp2_with fail
  have HH1 := Lib.hid (hexDigit_any (c / 16) u (by omega) (by omega))
  have HH2 := Lib.hid (hexDigit_any (c % 16) u (by omega) (by omega))
  have HX1 := Lib.hid (hexV_hexC u (c / 16) (by omega) (by omega))
  have HX2 := Lib.hid (hexV_hexC u (c % 16) (by omega) (by omega))
  have HD1 := Lib.hid (hexC_bd u (c / 16) (by omega) (by omega))
  have HD2 := Lib.hid (hexC_bd u (c % 16) (by omega) (by omega))
  obtain ⟨y1, hy1⟩ : ∃ y1, y1 = hexC u (c / 16) := ⟨_, rfl⟩
  obtain ⟨y2, hy2⟩ : ∃ y2, y2 = hexC u (c % 16) := ⟨_, rfl⟩
  rw [← hy1] at HH1 HX1 HD1
  rw [← hy2] at HH2 HX2 HD2
  clear hy1 hy2
  refine (HH1.out _).mono ?_
  rintro e w3' ⟨rfl, rfl⟩
  go_wp2_with (at_builtin; refine wpList_append_fits _ rfl (.tmp 34) (.tmp 39) 22 rfl w1.heap.size 5 i0 1 Tryd.underlying22 hi hz1 w1.heap.size 1 (3 + n) _ rfl (HO3.out.alloc _) ⟨_, 0, none⟩ 1 1 [.int .u8 y1] rfl rfl (cell_one_new _ _ _) ?e2 ?e3 ?_)
  case e2 => intro z hz; simp at hz; subst hz; rfl
  case e3 => omega
  intro w4 hown4 hg4
  have R4 := fit_step HB3.out HB3.out.size hown4 hg4
  have HO4 : Hid (w4.ownsRow w1.heap.size 5 1 (.slice (some ⟨w1.heap.size, 0, none⟩) 2 (3 + n)) 2 (cellsI [120, y1])) := R4.1
  have HB4 := Lib.hid R4.2
  clear hown4 hg4 R4 HO3 HB3
  have hnib := HNIB.out
  go_wp2_with fail
  clear hnib
  refine (HH2.out _).mono ?_
  rintro e w4' ⟨rfl, rfl⟩
  go_wp2_with (at_builtin; refine wpList_append_fits _ rfl (.tmp 41) (.tmp 46) 22 rfl w1.heap.size 5 i0 1 Tryd.underlying22 hi hz1 w1.heap.size 2 (3 + n) _ rfl (HO4.out.alloc _) ⟨_, 0, none⟩ 1 1 [.int .u8 y2] rfl rfl (cell_one_new _ _ _) ?f2 ?f3 ?_)
  case f2 => intro z hz; simp at hz; subst hz; rfl
  case f3 => omega
  intro w5 hown5 hg5
  have R5 := fit_step HB4.out HB4.out.size hown5 hg5
  have HO5 : Hid (w5.ownsRow w1.heap.size 5 1 (.slice (some ⟨w1.heap.size, 0, none⟩) (3 + 0) (3 + n)) (3 + 0) (cellsI ([120, y1, y2] ++ ts.take 0))) := by rw [List.take_zero, List.append_nil]; exact R5.1
  have HB5 := Lib.hid R5.2
  clear hown5 hg5 R5 HO4 HB4 HH1 HH2 HNIB
  go_wp2_with fail
  go_loopw [7, 8] (fun v i wr => ∃ j : Nat, j ≤ n ∧ i = .int .i64 j ∧ v = .slice (some ⟨w1.heap.size, 0, none⟩) (3 + j) (3 + n) ∧ wr.ownsRow w1.heap.size 5 1 (.slice (some ⟨w1.heap.size, 0, none⟩) (3 + j) (3 + n)) (3 + j) (cellsI ([120, y1, y2] ++ ts.take j)) ∧ Below w1.heap.size w1 wr) (fun _ i _ => n - (intOf i).toNat)
  case atStart => exact ⟨0, Nat.zero_le _, rfl, rfl, HO5.out, HB5.out⟩
  case round =>
    clear HO5 HB5
    obtain ⟨j, hj, rfl, rfl, hownj, hbj⟩ := hrel
    have hGj : w1.heap.size ≤ wr.heap.size := hbj.size
    by_cases hltj : j < n
    · obtain ⟨bt, ot, capt, et, hbt, hct⟩ := reads_at HT1.out (by omega)
      simp only [Value.slice.injEq, true_and] at et
      obtain ⟨rfl, rfl⟩ := et
      have hbt1 : bt < w1.heap.size := HT1b.out bt rfl
      have hcx : wr.cell? ⟨bt, ot + j, none⟩ = some (.int .u8 (ts.getD j 0)) := (hbj.cell (p := ⟨bt, ot + j, none⟩) hbt1).trans (hct j hltj)
      have HT := Lib.hid (take_snoc ts j (by have := HLT.out; omega))
      obtain ⟨x, hx⟩ : ∃ x, x = ts.getD j 0 := ⟨_, rfl⟩
      rw [← hx] at hcx HT
      clear hx hct
      go_wp2_with (at_builtin; refine wpList_append_fits _ rfl (.tmp 54) (.tmp 59) 22 rfl w1.heap.size 5 i0 1 Tryd.underlying22 hi hz1 w1.heap.size (3 + j) (3 + n) _ rfl (hownj.alloc _) ⟨wr.heap.size, 0, none⟩ 1 1 [.int .u8 x] rfl rfl (cell_one_new _ _ _) ?g2 ?g3 ?_)
      case g2 => intro z hz; simp at hz; subst hz; rfl
      case g3 => omega
      intro w6 hown6 hg6
      have R6 := fit_step hbj hGj hown6 hg6
      simp only [List.cons_append, ← HT.out] at R6
      have HR6 := Lib.hid R6
      clear hown6 hg6 hownj hbj hcx R6
      go_wp2
      go_roundw
      case rel => exact ⟨j + 1, by omega, by go_num, rfl, HR6.out.1, HR6.out.2⟩
      case measure => simp [intOf]; omega
    · have hjn : j = n := by omega
      subst hjn
      rw [List.take_of_length_le (l := ts) (i := j) (by rw [HLT.out]; exact Nat.le_refl _)] at hownj
      obtain ⟨g5, cap5, e5, hg50, hg51, hcap5, _, hl5, hcell5⟩ := row_open hownj (by omega)
      simp only [Value.slice.injEq, Option.some.injEq, Addr.mk.injEq, true_and, and_true] at e5
      obtain ⟨rfl, rfl⟩ := e5
      have hE := unV_yes ts (hexPre_step1 HX1.out HX2.out)
      rw [show 16 * (c / 16) + c % 16 = c from by omega] at hE
      have HZ := Lib.hid (zz_row w1.heap.size (3 + j) (3 + j) ([120, y1, y2] ++ ts) c 3 wr hE.1 hE.2 hl5 (by omega) (by omega) (Nat.le_refl _) hcell5
        (fun x hx => by
          rcases List.mem_append.1 hx with hx | hx
          · simp only [List.mem_cons, List.not_mem_nil, or_false] at hx
            rcases hx with rfl | rfl | rfl
            · exact ⟨by decide, by decide⟩
            · exact HD1.out
            · exact HD2.out
          · exact HRG.out x hx) te pe (Nat.lt_of_lt_of_le h01 hGj) ((hbj.cell (p := ⟨0, 0, none⟩) h01).trans HV1.out))
      have HBJ := Lib.hid hbj
      clear hownj hcell5 hbj hl5 hE HX1 HX2 HD1 HD2
      go_wp2_with fail
      refine HZ.out.mono ?_
      rintro e w7 ⟨rfl, hb7⟩
      have HB7 : Hid (Below w1.heap.size w1 w7) := HBJ.out.trans (hb7.mono hGj)
      have HBall : Hid (Below w'.heap.size w' w7) := HB1.out.trans (HB7.out.mono HB1.out.size)
      clear hb7 HZ HBJ
      go_wp2_with (go_at_call 13; refine (letterFor_none _ HLET.out _).mono ?_; rintro e w8 ⟨rfl, rfl⟩)
      go_ret
      exact ⟨rfl, HBall.out⟩

set_option maxHeartbeats 1600000 in
theorem trip_some (c l : Int) (u : Bool) (a : Option Addr) (n k0 : Nat) (ts : List Int) (w : World) (h : n ≤ 1048576) (c0 : 0 ≤ c) (c1 : c ≤ 255) (R : Reads w (.slice a n k0) n ts) (hr : ∀ x ∈ ts, 0 ≤ x ∧ x ≤ 255) (hlet : letterOf c = some l)
    (te : TypeId) (pe : Value) (h0 : 0 < w.heap.size) (hv : w.cell? ⟨0, 0, none⟩ = some (.iface te pe)) :
    Calls Tryd.prog 3 #[.int .u8 c, .bool u, .slice a n k0] w fun e w' => e = .returned (.bool true) ∧ Below w.heap.size w w' := by
  obtain ⟨i0, hi, hz0, hz1, hz2⟩ := info_parts info5
  have HR := Lib.hid R
  have HLT := Lib.hid R.1
  have HRG := Lib.hid hr
  have HV := Lib.hid hv
  have HLET := Lib.hid hlet
  have HNIB := Lib.hid (nib_low c0 c1)
  clear R hr hv hlet
  go_enter Tryd.func3, Tryd.ntmps3
  go_wp2_with (go_at_call 9; refine (bytes9_ok _ _ _ _ _ _ h).mono ?_; rintro e w' ⟨rfl, rfl⟩)
  refine (clone_any _ n ts _ (by omega) HR.out).mono ?_
  rintro e w1 ⟨b1, d1, rfl, hown1, hb1⟩
  have HT1 := Lib.hid (reads_of_row hown1)
  have HT1b : Hid (∀ k, (Value.slice b1 n d1).ownBlock = some k → k < w1.heap.size) := fun k hk => (hown1.lt k hk).2
  have HB1 := Lib.hid hb1
  have HV1 : Hid (w1.cell? ⟨0, 0, none⟩ = some (.iface te pe)) := (hb1.cell (p := ⟨0, 0, none⟩) h0).trans HV.out
  have h01 : 0 < w1.heap.size := Nat.lt_of_lt_of_le h0 hb1.size
  clear hown1 hb1 HR HV
  go_wp2_with (at_make; refine wpList_make_own _ rfl _ _ 22 rfl w1.heap.size 5 i0 (.int .u8 0) 1 Tryd.underlying22 hi hz0 hz1 _ _ _ (3 + n) rfl rfl (by omega) ?b1 ?b2 ?b3 ?_)
  case b1 => rw [hz2]; omega
  case b2 => unfold maxLen; omega
  case b3 => exact Nat.le_refl _
  intro w2 hown2 hg2
  have HB2 : Hid (Below w1.heap.size w1 w2) := (Below.refl _ _).grown hg2 (Nat.le_refl _) (fun k h => by cases h)
  clear hg2
  have HO2 : Hid (w2.ownsRow w1.heap.size 5 1 (.slice (some ⟨w1.heap.size, 0, none⟩) 0 (3 + n)) 0 (cellsI [])) := hown2
  clear hown2
  go_wp2_with (at_builtin; refine wpList_append_fits _ rfl (.tmp 31) (.tmp 32) 22 rfl w1.heap.size 5 i0 1 Tryd.underlying22 hi hz1 w1.heap.size 0 (3 + n) _ rfl (HO2.out.alloc _) ⟨w2.heap.size, 0, none⟩ 1 1 [.int .u8 120] rfl rfl (cell_one_new _ _ _) ?d2 ?d3 ?_)
  case d2 => intro z hz; simp at hz; subst hz; rfl
  case d3 => omega
  intro w3 hown3 hg3
  have R3 := fit_step HB2.out HB2.out.size hown3 hg3
  have HO3 : Hid (w3.ownsRow w1.heap.size 5 1 (.slice (some ⟨w1.heap.size, 0, none⟩) 1 (3 + n)) 1 (cellsI [120])) := R3.1
  have HB3 := Lib.hid R3.2
  clear hown3 hg3 R3 HO2 HB2
  go_wp2_with fail
  have HH1 := Lib.hid (hexDigit_any (c / 16) u (by omega) (by omega))
  have HH2 := Lib.hid (hexDigit_any (c % 16) u (by omega) (by omega))
  have HX1 := Lib.hid (hexV_hexC u (c / 16) (by omega) (by omega))
  have HX2 := Lib.hid (hexV_hexC u (c % 16) (by omega) (by omega))
  have HD1 := Lib.hid (hexC_bd u (c / 16) (by omega) (by omega))
  have HD2 := Lib.hid (hexC_bd u (c % 16) (by omega) (by omega))
  obtain ⟨y1, hy1⟩ : ∃ y1, y1 = hexC u (c / 16) := ⟨_, rfl⟩
  obtain ⟨y2, hy2⟩ : ∃ y2, y2 = hexC u (c % 16) := ⟨_, rfl⟩
  rw [← hy1] at HH1 HX1 HD1
  rw [← hy2] at HH2 HX2 HD2
  clear hy1 hy2
  refine (HH1.out _).mono ?_
  rintro e w3' ⟨rfl, rfl⟩
  go_wp2_with (at_builtin; refine wpList_append_fits _ rfl (.tmp 34) (.tmp 39) 22 rfl w1.heap.size 5 i0 1 Tryd.underlying22 hi hz1 w1.heap.size 1 (3 + n) _ rfl (HO3.out.alloc _) ⟨_, 0, none⟩ 1 1 [.int .u8 y1] rfl rfl (cell_one_new _ _ _) ?e2 ?e3 ?_)
  case e2 => intro z hz; simp at hz; subst hz; rfl
  case e3 => omega
  intro w4 hown4 hg4
  have R4 := fit_step HB3.out HB3.out.size hown4 hg4
  have HO4 : Hid (w4.ownsRow w1.heap.size 5 1 (.slice (some ⟨w1.heap.size, 0, none⟩) 2 (3 + n)) 2 (cellsI [120, y1])) := R4.1
  have HB4 := Lib.hid R4.2
  clear hown4 hg4 R4 HO3 HB3
  have hnib := HNIB.out
  go_wp2_with fail
  clear hnib
  refine (HH2.out _).mono ?_
  rintro e w4' ⟨rfl, rfl⟩
  go_wp2_with (at_builtin; refine wpList_append_fits _ rfl (.tmp 41) (.tmp 46) 22 rfl w1.heap.size 5 i0 1 Tryd.underlying22 hi hz1 w1.heap.size 2 (3 + n) _ rfl (HO4.out.alloc _) ⟨_, 0, none⟩ 1 1 [.int .u8 y2] rfl rfl (cell_one_new _ _ _) ?f2 ?f3 ?_)
  case f2 => intro z hz; simp at hz; subst hz; rfl
  case f3 => omega
  intro w5 hown5 hg5
  have R5 := fit_step HB4.out HB4.out.size hown5 hg5
  have HO5 : Hid (w5.ownsRow w1.heap.size 5 1 (.slice (some ⟨w1.heap.size, 0, none⟩) (3 + 0) (3 + n)) (3 + 0) (cellsI ([120, y1, y2] ++ ts.take 0))) := by rw [List.take_zero, List.append_nil]; exact R5.1
  have HB5 := Lib.hid R5.2
  clear hown5 hg5 R5 HO4 HB4 HH1 HH2 HNIB
  go_wp2_with fail
  go_loopw [7, 8] (fun v i wr => ∃ j : Nat, j ≤ n ∧ i = .int .i64 j ∧ v = .slice (some ⟨w1.heap.size, 0, none⟩) (3 + j) (3 + n) ∧ wr.ownsRow w1.heap.size 5 1 (.slice (some ⟨w1.heap.size, 0, none⟩) (3 + j) (3 + n)) (3 + j) (cellsI ([120, y1, y2] ++ ts.take j)) ∧ Below w1.heap.size w1 wr) (fun _ i _ => n - (intOf i).toNat)
  case atStart => exact ⟨0, Nat.zero_le _, rfl, rfl, HO5.out, HB5.out⟩
  case round =>
    clear HO5 HB5
    obtain ⟨j, hj, rfl, rfl, hownj, hbj⟩ := hrel
    have hGj : w1.heap.size ≤ wr.heap.size := hbj.size
    by_cases hltj : j < n
    · obtain ⟨bt, ot, capt, et, hbt, hct⟩ := reads_at HT1.out (by omega)
      simp only [Value.slice.injEq, true_and] at et
      obtain ⟨rfl, rfl⟩ := et
      have hbt1 : bt < w1.heap.size := HT1b.out bt rfl
      have hcx : wr.cell? ⟨bt, ot + j, none⟩ = some (.int .u8 (ts.getD j 0)) := (hbj.cell (p := ⟨bt, ot + j, none⟩) hbt1).trans (hct j hltj)
      have HT := Lib.hid (take_snoc ts j (by have := HLT.out; omega))
      obtain ⟨x, hx⟩ : ∃ x, x = ts.getD j 0 := ⟨_, rfl⟩
      rw [← hx] at hcx HT
      clear hx hct
      go_wp2_with (at_builtin; refine wpList_append_fits _ rfl (.tmp 54) (.tmp 59) 22 rfl w1.heap.size 5 i0 1 Tryd.underlying22 hi hz1 w1.heap.size (3 + j) (3 + n) _ rfl (hownj.alloc _) ⟨wr.heap.size, 0, none⟩ 1 1 [.int .u8 x] rfl rfl (cell_one_new _ _ _) ?g2 ?g3 ?_)
      case g2 => intro z hz; simp at hz; subst hz; rfl
      case g3 => omega
      intro w6 hown6 hg6
      have R6 := fit_step hbj hGj hown6 hg6
      simp only [List.cons_append, ← HT.out] at R6
      have HR6 := Lib.hid R6
      clear hown6 hg6 hownj hbj hcx R6
      go_wp2
      go_roundw
      case rel => exact ⟨j + 1, by omega, by go_num, rfl, HR6.out.1, HR6.out.2⟩
      case measure => simp [intOf]; omega
    · have hjn : j = n := by omega
      subst hjn
      rw [List.take_of_length_le (l := ts) (i := j) (by rw [HLT.out]; exact Nat.le_refl _)] at hownj
      obtain ⟨g5, cap5, e5, hg50, hg51, hcap5, _, hl5, hcell5⟩ := row_open hownj (by omega)
      simp only [Value.slice.injEq, Option.some.injEq, Addr.mk.injEq, true_and, and_true] at e5
      obtain ⟨rfl, rfl⟩ := e5
      have hE := unV_yes ts (hexPre_step1 HX1.out HX2.out)
      rw [show 16 * (c / 16) + c % 16 = c from by omega] at hE
      have HZ := Lib.hid (zz_row w1.heap.size (3 + j) (3 + j) ([120, y1, y2] ++ ts) c 3 wr hE.1 hE.2 hl5 (by omega) (by omega) (Nat.le_refl _) hcell5
        (fun x hx => by
          rcases List.mem_append.1 hx with hx | hx
          · simp only [List.mem_cons, List.not_mem_nil, or_false] at hx
            rcases hx with rfl | rfl | rfl
            · exact ⟨by decide, by decide⟩
            · exact HD1.out
            · exact HD2.out
          · exact HRG.out x hx) te pe (Nat.lt_of_lt_of_le h01 hGj) ((hbj.cell (p := ⟨0, 0, none⟩) h01).trans HV1.out))
      have HBJ := Lib.hid hbj
      clear hownj hcell5 hbj hl5 hE HX1 HX2 HD1 HD2
      go_wp2_with fail
      refine HZ.out.mono ?_
      rintro e w7 ⟨rfl, hb7⟩
      have HB7 : Hid (Below w1.heap.size w1 w7) := HBJ.out.trans (hb7.mono hGj)
      have HBall : Hid (Below w'.heap.size w' w7) := HB1.out.trans (HB7.out.mono HB1.out.size)
      clear hb7 HZ HBJ
      refine Hid.out ?_
      refine Lib.hid ?_
      go_wp2_with (go_at_call 13; refine (letterFor_some _ _ HLET.out _).mono ?_; rintro e w8 ⟨rfl, rfl⟩; refine Hid.out ?_)
      refine Lib.hid ?_
      have HL2 := Lib.hid (letV_letter HLET.out)
      have HV7 : Hid (w8.cell? ⟨0, 0, none⟩ = some (.iface te pe)) := (HB7.out.cell (p := ⟨0, 0, none⟩) h01).trans HV1.out
      have h07 : 0 < w8.heap.size := Nat.lt_of_lt_of_le h01 HB7.out.size
      have HT7 : Hid (Reads w8 (.slice b1 j d1) j ts) := HT1.out.below HB7.out (fun _ => HT1b.out)
      have HT7b : Hid (∀ k, (Value.slice b1 j d1).ownBlock = some k → k < w8.heap.size) := fun k hk => Nat.lt_of_lt_of_le (HT1b.out k hk) HB7.out.size
      clear HT1 HT1b HV1 HB7 HB1
      go_wp2_with (at_make; refine wpList_make_own _ rfl _ _ 22 rfl w8.heap.size 5 i0 (.int .u8 0) 1 Tryd.underlying22 hi hz0 hz1 _ _ _ (1 + j) rfl rfl (by omega) ?p1 ?p2 ?p3 ?_)
      case p1 => rw [hz2]; omega
      case p2 => unfold maxLen; omega
      case p3 => exact Nat.le_refl _
      intro w9 hown9 hg9
      have HB9 : Hid (Below w8.heap.size w8 w9) := (Below.refl _ _).grown hg9 (Nat.le_refl _) (fun k h => by cases h)
      have HO9 : Hid (w9.ownsRow w8.heap.size 5 1 (.slice (some ⟨w8.heap.size, 0, none⟩) 0 (1 + j)) 0 (cellsI [])) := hown9
      clear hg9 hown9
      go_wp2_with (at_builtin; refine wpList_append_fits _ rfl (.tmp 83) (.tmp 85) 22 rfl w8.heap.size 5 i0 1 Tryd.underlying22 hi hz1 w8.heap.size 0 (1 + j) _ rfl (HO9.out.alloc _) ⟨_, 0, none⟩ 1 1 [.int .u8 l] rfl rfl (cell_one_new _ _ _) ?q2 ?q3 ?_)
      case q2 => intro z hz; simp at hz; subst hz; rfl
      case q3 => omega
      intro w10 hown10 hg10
      have R10 := fit_step HB9.out HB9.out.size hown10 hg10
      have HO10 : Hid (w10.ownsRow w8.heap.size 5 1 (.slice (some ⟨w8.heap.size, 0, none⟩) (1 + 0) (1 + j)) (1 + 0) (cellsI ([l] ++ ts.take 0))) := by rw [List.take_zero, List.append_nil]; exact R10.1
      have HB10 := Lib.hid R10.2
      clear hown10 hg10 R10 HO9 HB9
      go_wp2_with fail
      go_loopw [13, 14] (fun v i wr => ∃ k : Nat, k ≤ j ∧ i = .int .i64 k ∧ v = .slice (some ⟨w8.heap.size, 0, none⟩) (1 + k) (1 + j) ∧ wr.ownsRow w8.heap.size 5 1 (.slice (some ⟨w8.heap.size, 0, none⟩) (1 + k) (1 + j)) (1 + k) (cellsI ([l] ++ ts.take k)) ∧ Below w8.heap.size w8 wr) (fun _ i _ => j - (intOf i).toNat)
      case atStart => exact ⟨0, Nat.zero_le _, rfl, rfl, HO10.out, HB10.out⟩
      case round =>
        clear HO10 HB10
        obtain ⟨k, hk, rfl, rfl, hownk, hbk⟩ := hrel
        have hGk : w8.heap.size ≤ wr.heap.size := hbk.size
        by_cases hltk : k < j
        · obtain ⟨bt, ot, capt, et, hbt, hct⟩ := reads_at HT7.out (by omega)
          simp only [Value.slice.injEq, true_and] at et
          obtain ⟨rfl, rfl⟩ := et
          have hbt1 : bt < w8.heap.size := HT7b.out bt rfl
          have hcx : wr.cell? ⟨bt, ot + k, none⟩ = some (.int .u8 (ts.getD k 0)) := (hbk.cell (p := ⟨bt, ot + k, none⟩) hbt1).trans (hct k hltk)
          have HT := Lib.hid (take_snoc ts k (by have := HLT.out; omega))
          obtain ⟨x, hx⟩ : ∃ x, x = ts.getD k 0 := ⟨_, rfl⟩
          rw [← hx] at hcx HT
          clear hx hct
          go_wp2_with (at_builtin; refine wpList_append_fits _ rfl (.tmp 93) (.tmp 98) 22 rfl w8.heap.size 5 i0 1 Tryd.underlying22 hi hz1 w8.heap.size (1 + k) (1 + j) _ rfl (hownk.alloc _) ⟨wr.heap.size, 0, none⟩ 1 1 [.int .u8 x] rfl rfl (cell_one_new _ _ _) ?r2 ?r3 ?_)
          case r2 => intro z hz; simp at hz; subst hz; rfl
          case r3 => omega
          intro w11 hown11 hg11
          have R11 := fit_step hbk hGk hown11 hg11
          simp only [List.cons_append, ← HT.out] at R11
          have HR11 := Lib.hid R11
          clear hown11 hg11 hownk hbk hcx R11
          go_wp2
          go_roundw
          case rel => exact ⟨k + 1, by omega, by go_num, rfl, HR11.out.1, HR11.out.2⟩
          case measure => simp [intOf]; omega
        · have hkj : k = j := by omega
          subst hkj
          rw [List.take_of_length_le (l := ts) (i := k) (by rw [HLT.out]; exact Nat.le_refl _)] at hownk
          obtain ⟨g6, cap6, e6, hg60, hg61, hcap6, _, hl6, hcell6⟩ := row_open hownk (by omega)
          simp only [Value.slice.injEq, Option.some.injEq, Addr.mk.injEq, true_and, and_true] at e6
          obtain ⟨rfl, rfl⟩ := e6
          have hE := unV_not ts HL2.out.2.1
          rw [HL2.out.1] at hE
          have HZ := Lib.hid (zz_row w8.heap.size (1 + k) (1 + k) ([l] ++ ts) c 1 wr hE.1 hE.2 hl6 (by omega) (by omega) (Nat.le_refl _) hcell6
            (fun x hx => by
              rcases List.mem_append.1 hx with hx | hx
              · simp only [List.mem_cons, List.not_mem_nil, or_false] at hx
                subst hx
                exact HL2.out.2.2
              · exact HRG.out x hx) te pe (Nat.lt_of_lt_of_le h07 hGk) ((hbk.cell (p := ⟨0, 0, none⟩) h07).trans HV7.out))
          have HBK := Lib.hid hbk
          clear hownk hcell6 hbk hl6 hE
          go_wp2_with (go_at_call 12; refine HZ.out.mono ?_; rintro e w12 ⟨rfl, hb12⟩)
          go_ret
          exact ⟨rfl, (HBall.out.trans (HBK.out.mono HBall.out.size)).trans (hb12.mono (Nat.le_trans HBall.out.size hGk))⟩

/-- FnUnescapeRoundTrip at every byte, case and slice of bytes. -/
theorem trip_any (c : Int) (u : Bool) (v : Value) (n : Nat) (ts : List Int) (w : World) (hmax : n ≤ maxLen) (c0 : 0 ≤ c) (c1 : c ≤ 255) (R : Reads w v n ts) (hr : ∀ x ∈ ts, 0 ≤ x ∧ x ≤ 255)
    (te : TypeId) (pe : Value) (h0 : 0 < w.heap.size) (hv : w.cell? ⟨0, 0, none⟩ = some (.iface te pe)) :
    Calls Tryd.prog 3 #[.int .u8 c, .bool u, v] w fun e w' => e = .returned (.bool true) ∧ Below w.heap.size w w' := by
  have sh : ∃ a k, v = .slice a n k := by
    rcases R.2 with ⟨rfl, rfl⟩ | ⟨x, cap, rfl, _⟩
    · exact ⟨_, _, rfl⟩
    · exact ⟨_, _, rfl⟩
  obtain ⟨a, k, rfl⟩ := sh
  by_cases h : n ≤ 1048576
  · cases hl : letterOf c with
    | none => exact trip_none c u a n k ts w h c0 c1 R hr hl te pe h0 hv
    | some l => exact trip_some c l u a n k ts w h c0 c1 R hr hl te pe h0 hv
  · exact trip_big c u a n k w hmax h
end Go.Proofs.Qxb6000604aDoor

/-
  FnUnescapeUsesOnlyWhatItCounts, walked.
-/
import Derived.Test.Qxb6000604aDoorUnk
namespace Go.Proofs.Qxb6000604aDoor
open Go.RowKit

theorem bytes17_ok (a : Option Addr) (n c : Nat) (a' : Option Addr) (n' c' : Nat) (w : World) (h : n + n' ≤ 1048576) : Calls Tryd.prog 17 #[.slice a n c, .slice a' n' c'] w fun e w' => e = .returned (.bool true) ∧ w' = w := by
  go_enter Tryd.func17, Tryd.ntmps17
  go_wp2
  go_ret
  exact ⟨rfl, rfl⟩
theorem bytes17_big (a : Option Addr) (n c : Nat) (a' : Option Addr) (n' c' : Nat) (w : World) (hn : n ≤ maxLen) (hn' : n' ≤ maxLen) (h : ¬ n + n' ≤ 1048576) : Calls Tryd.prog 17 #[.slice a n c, .slice a' n' c'] w fun e w' => e = .returned (.bool false) ∧ w' = w := by
  unfold maxLen at hn hn'
  go_enter Tryd.func17, Tryd.ntmps17
  go_wp2
  all_goals (go_ret; exact ⟨rfl, rfl⟩)

theorem use_big (a : Option Addr) (n c : Nat) (a' : Option Addr) (n' c' : Nat) (w : World) (hn : n ≤ maxLen) (hn' : n' ≤ maxLen) (h : ¬ n + n' ≤ 1048576) :
    Calls Tryd.prog 5 #[.slice a n c, .slice a' n' c'] w fun e w' => e = .returned (.bool true) ∧ Below w.heap.size w w' := by
  go_enter Tryd.func5, Tryd.ntmps5
  go_wp2_with (go_at_call 17; refine (bytes17_big _ _ _ _ _ _ _ hn hn' h).mono ?_; rintro e w' ⟨rfl, rfl⟩)
  go_ret
  exact ⟨rfl, Below.refl _ _⟩
theorem use_empty (a : Option Addr) (c : Nat) (a' : Option Addr) (n' c' : Nat) (w : World) (h : n' ≤ 1048576) :
    Calls Tryd.prog 5 #[.slice a 0 c, .slice a' n' c'] w fun e w' => e = .returned (.bool true) ∧ Below w.heap.size w w' := by
  go_enter Tryd.func5, Tryd.ntmps5
  go_wp2_with (go_at_call 17; refine (bytes17_ok _ _ _ _ _ _ _ (by omega)).mono ?_; rintro e w' ⟨rfl, rfl⟩)
  go_ret
  exact ⟨rfl, Below.refl _ _⟩

/-- ZZunescape at a row of the call's own. -/
theorem zz_row (g n cap : Nat) (xs : List Int) (u mi : Int) (w : World) (hu : unV xs = u) (hm : unN xs = mi) (hl : xs.length = n) (hn : 0 < n) (h : n ≤ 2000000) (hcap : n ≤ cap) (hc : ∀ j, j < n → w.cell? ⟨g, j, none⟩ = some (.int .u8 (xs.getD j 0))) (hr : ∀ x ∈ xs, 0 ≤ x ∧ x ≤ 255)
    (te : TypeId) (pe : Value) (h0 : 0 < w.heap.size) (hv : w.cell? ⟨0, 0, none⟩ = some (.iface te pe)) :
    Calls Tryd.prog 12 #[.slice (some ⟨g, 0, none⟩) n cap] w fun e w' => e = .returned (.tuple #[.int .u8 u, .int .i64 mi]) ∧ Below w.heap.size w w' := by
  have H := zz_any g 0 n cap xs w hl hn (by omega) hcap (fun j hj => by rw [Nat.zero_add]; exact hc j hj) hr te pe h0 hv
  rw [hu, hm] at H
  exact H

/-- One byte more on a row with room. -/
theorem fit_step {G k cap : Nat} {l : List Int} {x : Int} {w0 wr w' : World} {o : Obj} (hb : Below G w0 wr) (hG : G ≤ wr.heap.size)
    (hown : w'.ownsRow G 5 1 (.slice (some ⟨G, 0, none⟩) (k + 1) cap) (k + 1) (cellsI l ++ [.int .u8 x])) (hg : (wr.alloc o).grownBy w' (some G)) :
    w'.ownsRow G 5 1 (.slice (some ⟨G, 0, none⟩) (k + 1) cap) (k + 1) (cellsI (l ++ [x])) ∧ Below G w0 w' := by
  refine ⟨by simpa [cellsI] using hown, (hb.alloc hG o).grown hg (by simp; omega) (fun j hj => by simp at hj; omega)⟩

theorem take_snoc (xs : List Int) (k : Nat) (h : k < xs.length) : xs.take (k + 1) = xs.take k ++ [xs.getD k 0] := by
  rw [List.take_add_one, List.getElem?_eq_getElem h, List.getD_eq_getElem?_getD, List.getElem?_eq_getElem h]; rfl

/-- The head that both roads share ends behind the first unescape. 'x' with one byte used: no two hex digits follow. -/
theorem use_x (a1 : Option Addr) (n1 c1 : Nat) (a2 : Option Addr) (n2 c2 : Nat) (xs ts : List Int) (x y av : Int) (w : World) (h : n1 + n2 ≤ 1048576) (hn : 0 < n1) (R1 : Reads w (.slice a1 n1 c1) n1 xs) (R2 : Reads w (.slice a2 n2 c2) n2 ts) (hr : ∀ x ∈ xs, 0 ≤ x ∧ x ≤ 255)
    (hx0 : xs.getD 0 0 = 120) (hu : unV xs = 120) (hm : unN xs = 1)
    (hcase : n1 < 3 ∨ (3 ≤ n1 ∧ Hid (xs.getD 1 0 = x) ∧ Hid (hexV x = none)) ∨ (3 ≤ n1 ∧ Hid (xs.getD 1 0 = x) ∧ Hid (xs.getD 2 0 = y) ∧ Hid (hexV x = some av) ∧ Hid (hexV y = none)))
    (te : TypeId) (pe : Value) (h0 : 0 < w.heap.size) (hv : w.cell? ⟨0, 0, none⟩ = some (.iface te pe)) :
    Calls Tryd.prog 5 #[.slice a1 n1 c1, .slice a2 n2 c2] w fun e w' => e = .returned (.bool true) ∧ Below w.heap.size w w' := by
  have HR2 := Lib.hid R2
  have HX := Lib.hid hx0
  have HU := Lib.hid hu
  have HM := Lib.hid hm
  have HLN := Lib.hid R1.1
  have HRG := Lib.hid hr
  have HV := Lib.hid hv
  have HR1 := Lib.hid R1
  have HCA := Lib.hid hcase
  clear R1 R2 hx0 hu hm hr hv hcase
  go_enter Tryd.func5, Tryd.ntmps5
  go_wp2_with (go_at_call 17; refine (bytes17_ok _ _ _ _ _ _ _ h).mono ?_; rintro e w' ⟨rfl, rfl⟩)
  refine (clone_any _ n1 xs _ (by omega) HR1.out).mono ?_
  rintro e w1 ⟨b1, d1, rfl, hown1, hb1⟩
  obtain ⟨g, cap1, e1, hg0, hg1, hcap1, _, _, hcell⟩ := row_open hown1 hn
  simp only [Value.slice.injEq, true_and] at e1
  obtain ⟨rfl, rfl⟩ := e1
  have HB1 := Lib.hid hb1
  have HC := Lib.hid hcell
  have HR2' : Hid (Reads w1 (.slice a2 n2 c2) n2 ts) := HR2.out.below hb1 (fun hp k hk => by
    obtain ⟨b', _, _, e', hb', _⟩ := reads_at HR2.out hp
    rw [e'] at hk
    simp [Value.ownBlock] at hk
    omega)
  clear hown1 hcell hb1 HR1 HR2
  go_wp2_with fail
  refine (clone_any _ n2 ts _ (by omega) HR2'.out).mono ?_
  rintro e w2 ⟨b2, d2, rfl, hown2, hb2⟩
  have hcell2 : ∀ j, j < n1 → w2.cell? ⟨g, j, none⟩ = some (.int .u8 (xs.getD j 0)) := fun j hj => (hb2.cell (p := ⟨g, j, none⟩) (by exact hg1)).trans (HC.out j hj)
  have hv2 := (hb2.cell (p := ⟨0, 0, none⟩) (by exact Nat.lt_of_lt_of_le h0 HB1.out.size)).trans ((HB1.out.cell (p := ⟨0, 0, none⟩) (by exact h0)).trans HV.out)
  have HZ := Lib.hid (zz_row g n1 d1 xs 120 1 w2 HU.out HM.out HLN.out hn (by omega) hcap1 hcell2 HRG.out te pe (Nat.lt_of_lt_of_le h0 (Nat.le_trans HB1.out.size hb2.size)) hv2)
  have HB2 : Hid (Below w'.heap.size w' w2) := HB1.out.trans (hb2.mono HB1.out.size)
  have hg2 : g < w2.heap.size := Nat.lt_of_lt_of_le hg1 hb2.size
  have HC2 := Lib.hid hcell2
  clear hown2 hb2 hcell2 hv2 HR2' HC HB1
  rcases HCA.out with hca | ⟨hca, hx1, hx2⟩ | ⟨hca, hx1, hy1, hx2, hy2⟩
  · go_wp2_with (go_at_call 12; refine HZ.out.mono ?_; rintro e w3 ⟨rfl, hb3⟩; have hcg0 := (hb3.cell (p := ⟨g, 0, none⟩) hg2).trans ((HC2.out 0 hn).trans (by rw [HX.out])))
    go_ret
    exact ⟨rfl, HB2.out.trans (hb3.mono HB2.out.size)⟩
  · go_wp2_with (go_at_call 12; refine HZ.out.mono ?_; rintro e w3 ⟨rfl, hb3⟩; have hcg0 := (hb3.cell (p := ⟨g, 0, none⟩) hg2).trans ((HC2.out 0 hn).trans (by rw [HX.out])); have hcg1 := (hb3.cell (p := ⟨g, 1, none⟩) hg2).trans ((HC2.out 1 (by omega)).trans (by rw [hx1.out])))
    refine (isHex_no x hx2.out _).mono ?_
    rintro e w4 ⟨rfl, rfl⟩
    go_wp2_with fail
    go_ret
    exact ⟨rfl, HB2.out.trans (hb3.mono HB2.out.size)⟩
  · go_wp2_with (go_at_call 12; refine HZ.out.mono ?_; rintro e w3 ⟨rfl, hb3⟩; have hcg0 := (hb3.cell (p := ⟨g, 0, none⟩) hg2).trans ((HC2.out 0 hn).trans (by rw [HX.out])); have hcg1 := (hb3.cell (p := ⟨g, 1, none⟩) hg2).trans ((HC2.out 1 (by omega)).trans (by rw [hx1.out])); have hcg2 := (hb3.cell (p := ⟨g, 2, none⟩) hg2).trans ((HC2.out 2 (by omega)).trans (by rw [hy1.out])))
    refine (isHex_yes x av hx2.out _).mono ?_
    rintro e w4 ⟨rfl, rfl⟩
    go_wp2_with fail
    refine (isHex_no y hy2.out _).mono ?_
    rintro e w4 ⟨rfl, rfl⟩
    go_wp2_with fail
    go_ret
    exact ⟨rfl, HB2.out.trans (hb3.mono HB2.out.size)⟩

set_option maxHeartbeats 1600000 in
/-- The other road: what is counted is copied, the tail is put behind it, and the answer is the same. -/
theorem use_one (a1 : Option Addr) (n1 c1 : Nat) (a2 : Option Addr) (n2 c2 : Nat) (xs ts : List Int) (c0 u : Int) (w : World) (h : n1 + n2 ≤ 1048576) (hn : 0 < n1) (R1 : Reads w (.slice a1 n1 c1) n1 xs) (R2 : Reads w (.slice a2 n2 c2) n2 ts) (hr : ∀ x ∈ xs, 0 ≤ x ∧ x ≤ 255) (hr2 : ∀ x ∈ ts, 0 ≤ x ∧ x ≤ 255)
    (hx0 : xs.getD 0 0 = c0) (hu : unV xs = u) (hm : unN xs = 1) (hcase : (c0 == 120) = false)
    (hu2 : unV (xs.take 1 ++ ts) = u) (hm2 : unN (xs.take 1 ++ ts) = 1)
    (te : TypeId) (pe : Value) (h0 : 0 < w.heap.size) (hv : w.cell? ⟨0, 0, none⟩ = some (.iface te pe)) :
    Calls Tryd.prog 5 #[.slice a1 n1 c1, .slice a2 n2 c2] w fun e w' => e = .returned (.bool true) ∧ Below w.heap.size w w' := by
  obtain ⟨i0, hi, hz0, hz1, hz2⟩ := info_parts info5
  have HR2 := Lib.hid R2
  have HX := Lib.hid hx0
  have HU := Lib.hid hu
  have HM := Lib.hid hm
  have HU2 := Lib.hid hu2
  have HM2 := Lib.hid hm2
  have HLN := Lib.hid R1.1
  have HLT := Lib.hid R2.1
  have HRG := Lib.hid hr
  have HRT := Lib.hid hr2
  have HV := Lib.hid hv
  have HR1 := Lib.hid R1
  clear R1 R2 hx0 hu hm hr hr2 hv hu2 hm2
  go_enter Tryd.func5, Tryd.ntmps5
  go_wp2_with (go_at_call 17; refine (bytes17_ok _ _ _ _ _ _ _ h).mono ?_; rintro e w' ⟨rfl, rfl⟩)
  refine (clone_any _ n1 xs _ (by omega) HR1.out).mono ?_
  rintro e w1 ⟨b1, d1, rfl, hown1, hb1⟩
  obtain ⟨g, cap1, e1, hg0, hg1, hcap1, _, _, hcell⟩ := row_open hown1 hn
  simp only [Value.slice.injEq, true_and] at e1
  obtain ⟨rfl, rfl⟩ := e1
  have HB1 := Lib.hid hb1
  have HC := Lib.hid hcell
  have HR2' : Hid (Reads w1 (.slice a2 n2 c2) n2 ts) := HR2.out.below hb1 (fun hp k hk => by
    obtain ⟨b', _, _, e', hb', _⟩ := reads_at HR2.out hp
    rw [e'] at hk
    simp [Value.ownBlock] at hk
    omega)
  clear hown1 hcell hb1 HR1 HR2
  go_wp2_with fail
  refine (clone_any _ n2 ts _ (by omega) HR2'.out).mono ?_
  rintro e w2 ⟨b2, d2, rfl, hown2, hb2⟩
  have hcell2 : ∀ j, j < n1 → w2.cell? ⟨g, j, none⟩ = some (.int .u8 (xs.getD j 0)) := fun j hj => (hb2.cell (p := ⟨g, j, none⟩) (by exact hg1)).trans (HC.out j hj)
  have hv2 := (hb2.cell (p := ⟨0, 0, none⟩) (by exact Nat.lt_of_lt_of_le h0 HB1.out.size)).trans ((HB1.out.cell (p := ⟨0, 0, none⟩) (by exact h0)).trans HV.out)
  have hz2w : 0 < w2.heap.size := Nat.lt_of_lt_of_le h0 (Nat.le_trans HB1.out.size hb2.size)
  have HZ := Lib.hid (zz_row g n1 d1 xs u 1 w2 HU.out HM.out HLN.out hn (by omega) hcap1 hcell2 HRG.out te pe hz2w hv2)
  have HB2 : Hid (Below w'.heap.size w' w2) := HB1.out.trans (hb2.mono HB1.out.size)
  have hg2 : g < w2.heap.size := Nat.lt_of_lt_of_le hg1 hb2.size
  have HC2 := Lib.hid hcell2
  have HV2 := Lib.hid hv2
  have HT2 := Lib.hid (reads_of_row hown2)
  have HT2b : Hid (∀ k, (Value.slice b2 n2 d2).ownBlock = some k → k < w2.heap.size) := fun k hk => (hown2.lt k hk).2
  clear hown2 hb2 hcell2 hv2 HR2' HC HB1
  go_wp2_with fail
  refine HZ.out.mono ?_
  rintro e w3 ⟨rfl, hb3⟩
  have hcg0 : w3.cell? ⟨g, 0, none⟩ = some (.int .u8 c0) := (hb3.cell (p := ⟨g, 0, none⟩) hg2).trans ((HC2.out 0 hn).trans (by rw [HX.out]))
  have HC3 : Hid (∀ j, j < n1 → w3.cell? ⟨g, j, none⟩ = some (.int .u8 (xs.getD j 0))) := fun j hj => (hb3.cell (p := ⟨g, j, none⟩) hg2).trans (HC2.out j hj)
  have HT3 : Hid (Reads w3 (.slice b2 n2 d2) n2 ts) := HT2.out.below hb3 (fun _ => HT2b.out)
  have HT3b : Hid (∀ k, (Value.slice b2 n2 d2).ownBlock = some k → k < w3.heap.size) := fun k hk => Nat.lt_of_lt_of_le (HT2b.out k hk) hb3.size
  have HB3 : Hid (Below w'.heap.size w' w3) := HB2.out.trans (hb3.mono HB2.out.size)
  have HV3 : Hid (w3.cell? ⟨0, 0, none⟩ = some (.iface te pe)) := (hb3.cell (p := ⟨0, 0, none⟩) (by exact hz2w)).trans HV2.out
  have hg3 : g < w3.heap.size := Nat.lt_of_lt_of_le hg2 hb3.size
  have h03 : 0 < w3.heap.size := Nat.lt_of_lt_of_le hz2w hb3.size
  clear HZ HC2 HT2 HT2b HB2 HV2 hb3 hz2w hg2
  go_wp2_with (at_make; refine wpList_make_own _ rfl _ _ 22 rfl w3.heap.size 5 i0 (.int .u8 0) 1 Tryd.underlying22 hi hz0 hz1 _ _ _ (1 + n2) rfl rfl (by omega) ?b1 ?b2 ?b3 ?_)
  case b1 => rw [hz2]; omega
  case b2 => unfold maxLen; omega
  case b3 => exact Nat.le_refl _
  intro w4 hown4 hg4
  have HO4 : Hid (w4.ownsRow w3.heap.size 5 1 (.slice (some ⟨w3.heap.size, 0, none⟩) 0 (1 + n2)) 0 (cellsI (xs.take 0))) := hown4
  have HB4 : Hid (Below w3.heap.size w3 w4) := (Below.refl _ _).grown hg4 (Nat.le_refl _) (fun k h => by cases h)
  clear hown4 hg4 hcg0
  go_wp2_with fail
  go_loopw [7, 8] (fun v i wr => ∃ k : Nat, k ≤ 1 ∧ i = .int .i64 k ∧ v = .slice (some ⟨w3.heap.size, 0, none⟩) k (1 + n2) ∧ wr.ownsRow w3.heap.size 5 1 (.slice (some ⟨w3.heap.size, 0, none⟩) k (1 + n2)) k (cellsI (xs.take k)) ∧ Below w3.heap.size w3 wr) (fun _ i _ => 1 - (intOf i).toNat)
  case atStart => exact ⟨0, Nat.zero_le _, rfl, rfl, HO4.out, HB4.out⟩
  case round =>
    clear HO4 HB4
    obtain ⟨k, hk, rfl, rfl, hownk, hbk⟩ := hrel
    have hGk : w3.heap.size ≤ wr.heap.size := hbk.size
    by_cases hlt : k < 1
    · have hcx : wr.cell? ⟨g, k, none⟩ = some (.int .u8 (xs.getD k 0)) := (hbk.cell (p := ⟨g, k, none⟩) hg3).trans (HC3.out k (by omega))
      have HT := Lib.hid (take_snoc xs k (by have := HLN.out; omega))
      obtain ⟨x, hx⟩ : ∃ x, x = xs.getD k 0 := ⟨_, rfl⟩
      rw [← hx] at hcx HT
      clear hx
      go_wp2_with (at_builtin; refine wpList_append_fits _ rfl (.tmp 85) (.tmp 90) 22 rfl w3.heap.size 5 i0 1 Tryd.underlying22 hi hz1 w3.heap.size k (1 + n2) _ rfl (hownk.alloc _) ⟨wr.heap.size, 0, none⟩ 1 1 [.int .u8 x] rfl rfl (cell_one_new _ _ _) ?d2 ?d3 ?_)
      case d2 => intro z hz; simp at hz; subst hz; rfl
      case d3 => omega
      intro w5 hown5 hg5
      have R := fit_step hbk hGk hown5 hg5
      rw [← HT.out] at R
      have HR := Lib.hid R
      clear hown5 hg5 hownk hbk hcx R
      go_wp2
      go_roundw
      case rel => exact ⟨k + 1, by omega, by go_num, rfl, HR.out.1, HR.out.2⟩
      case measure => simp [intOf]; omega
    · have hkm : k = 1 := by omega
      subst hkm
      have HO5 : Hid (wr.ownsRow w3.heap.size 5 1 (.slice (some ⟨w3.heap.size, 0, none⟩) (1 + 0) (1 + n2)) (1 + 0) (cellsI (xs.take 1 ++ ts.take 0))) := by rw [List.take_zero, List.append_nil]; exact hownk
      have HB5 := Lib.hid hbk
      clear hownk hbk
      go_wp2_with fail
      go_loopw [7, 9] (fun v i wq => ∃ j : Nat, j ≤ n2 ∧ i = .int .i64 j ∧ v = .slice (some ⟨w3.heap.size, 0, none⟩) (1 + j) (1 + n2) ∧ wq.ownsRow w3.heap.size 5 1 (.slice (some ⟨w3.heap.size, 0, none⟩) (1 + j) (1 + n2)) (1 + j) (cellsI (xs.take 1 ++ ts.take j)) ∧ Below w3.heap.size w3 wq) (fun _ i _ => n2 - (intOf i).toNat)
      case atStart => exact ⟨0, Nat.zero_le _, rfl, rfl, HO5.out, HB5.out⟩
      case round =>
        clear HO5 HB5
        obtain ⟨j, hj, rfl, rfl, hownj, hbj⟩ := hrel
        have hGj : w3.heap.size ≤ wr.heap.size := hbj.size
        by_cases hltj : j < n2
        · obtain ⟨bt, ot, capt, et, hbt, hct⟩ := reads_at HT3.out (by omega)
          simp only [Value.slice.injEq, true_and] at et
          obtain ⟨rfl, rfl⟩ := et
          have hbt3 : bt < w3.heap.size := HT3b.out bt rfl
          have hcx : wr.cell? ⟨bt, ot + j, none⟩ = some (.int .u8 (ts.getD j 0)) := (hbj.cell (p := ⟨bt, ot + j, none⟩) hbt3).trans (hct j hltj)
          have HT := Lib.hid (take_snoc ts j (by have := HLT.out; omega))
          obtain ⟨x, hx⟩ : ∃ x, x = ts.getD j 0 := ⟨_, rfl⟩
          rw [← hx] at hcx HT
          clear hx hct
          go_wp2_with (at_builtin; refine wpList_append_fits _ rfl (.tmp 98) (.tmp 103) 22 rfl w3.heap.size 5 i0 1 Tryd.underlying22 hi hz1 w3.heap.size (1 + j) (1 + n2) _ rfl (hownj.alloc _) ⟨wr.heap.size, 0, none⟩ 1 1 [.int .u8 x] rfl rfl (cell_one_new _ _ _) ?f2 ?f3 ?_)
          case f2 => intro z hz; simp at hz; subst hz; rfl
          case f3 => omega
          intro w5 hown5 hg5
          have R := fit_step hbj hGj hown5 hg5
          rw [List.append_assoc, ← HT.out] at R
          have HR := Lib.hid R
          clear hown5 hg5 hownj hbj hcx R
          go_wp2
          go_roundw
          case rel =>
            (repeat apply Exists.intro)
            exact ⟨⟨j + 1, by omega, by go_num, rfl, HR.out.1, HR.out.2⟩, rfl⟩
          case measure => simp [intOf]; omega
        · have hjn : j = n2 := by omega
          subst hjn
          rw [List.take_of_length_le (l := ts) (i := j) (by rw [HLT.out]; exact Nat.le_refl _)] at hownj
          obtain ⟨g5, cap5, e5, hg50, hg51, hcap5, _, hl5, hcell5⟩ := row_open hownj (by omega)
          simp only [Value.slice.injEq, Option.some.injEq, Addr.mk.injEq, true_and, and_true] at e5
          obtain ⟨rfl, rfl⟩ := e5
          have HZ2 := Lib.hid (zz_row w3.heap.size (1 + j) (1 + j) (xs.take 1 ++ ts) u 1 wr HU2.out HM2.out hl5 (by omega) (by omega) (Nat.le_refl _) hcell5
            (fun x hx => by rcases List.mem_append.1 hx with hx | hx; exact HRG.out x (List.mem_of_mem_take hx); exact HRT.out x hx) te pe (Nat.lt_of_lt_of_le h03 hGj) ((hbj.cell (p := ⟨0, 0, none⟩) h03).trans HV3.out))
          have HBJ := Lib.hid hbj
          clear hownj hcell5 hbj hl5
          go_wp2_with (go_at_call 12; refine HZ2.out.mono ?_; rintro e w6 ⟨rfl, hb6⟩)
          go_ret
          exact ⟨rfl, (HB3.out.trans (HBJ.out.mono HB3.out.size)).trans (hb6.mono (Nat.le_trans HB3.out.size hGj))⟩

set_option maxHeartbeats 1600000 in
theorem use_three (a1 : Option Addr) (n1 c1 : Nat) (a2 : Option Addr) (n2 c2 : Nat) (xs ts : List Int) (u : Int) (w : World) (h : n1 + n2 ≤ 1048576) (hn : 0 < n1) (R1 : Reads w (.slice a1 n1 c1) n1 xs) (R2 : Reads w (.slice a2 n2 c2) n2 ts) (hr : ∀ x ∈ xs, 0 ≤ x ∧ x ≤ 255) (hr2 : ∀ x ∈ ts, 0 ≤ x ∧ x ≤ 255)
    (hx0 : xs.getD 0 0 = 120) (hu : unV xs = u) (hm : unN xs = 3) (hmn : 3 ≤ n1)
    (hu2 : unV (xs.take 3 ++ ts) = u) (hm2 : unN (xs.take 3 ++ ts) = 3)
    (te : TypeId) (pe : Value) (h0 : 0 < w.heap.size) (hv : w.cell? ⟨0, 0, none⟩ = some (.iface te pe)) :
    Calls Tryd.prog 5 #[.slice a1 n1 c1, .slice a2 n2 c2] w fun e w' => e = .returned (.bool true) ∧ Below w.heap.size w w' := by
  obtain ⟨i0, hi, hz0, hz1, hz2⟩ := info_parts info5
  have HR2 := Lib.hid R2
  have HX := Lib.hid hx0
  have HU := Lib.hid hu
  have HM := Lib.hid hm
  have HU2 := Lib.hid hu2
  have HM2 := Lib.hid hm2
  have HLN := Lib.hid R1.1
  have HLT := Lib.hid R2.1
  have HRG := Lib.hid hr
  have HRT := Lib.hid hr2
  have HV := Lib.hid hv
  have HR1 := Lib.hid R1
  clear R1 R2 hx0 hu hm hr hr2 hv  hu2 hm2
  go_enter Tryd.func5, Tryd.ntmps5
  go_wp2_with (go_at_call 17; refine (bytes17_ok _ _ _ _ _ _ _ h).mono ?_; rintro e w' ⟨rfl, rfl⟩)
  refine (clone_any _ n1 xs _ (by omega) HR1.out).mono ?_
  rintro e w1 ⟨b1, d1, rfl, hown1, hb1⟩
  obtain ⟨g, cap1, e1, hg0, hg1, hcap1, _, _, hcell⟩ := row_open hown1 hn
  simp only [Value.slice.injEq, true_and] at e1
  obtain ⟨rfl, rfl⟩ := e1
  have HB1 := Lib.hid hb1
  have HC := Lib.hid hcell
  have HR2' : Hid (Reads w1 (.slice a2 n2 c2) n2 ts) := HR2.out.below hb1 (fun hp k hk => by
    obtain ⟨b', _, _, e', hb', _⟩ := reads_at HR2.out hp
    rw [e'] at hk
    simp [Value.ownBlock] at hk
    omega)
  clear hown1 hcell hb1 HR1 HR2
  go_wp2_with fail
  refine (clone_any _ n2 ts _ (by omega) HR2'.out).mono ?_
  rintro e w2 ⟨b2, d2, rfl, hown2, hb2⟩
  have hcell2 : ∀ j, j < n1 → w2.cell? ⟨g, j, none⟩ = some (.int .u8 (xs.getD j 0)) := fun j hj => (hb2.cell (p := ⟨g, j, none⟩) (by exact hg1)).trans (HC.out j hj)
  have hv2 := (hb2.cell (p := ⟨0, 0, none⟩) (by exact Nat.lt_of_lt_of_le h0 HB1.out.size)).trans ((HB1.out.cell (p := ⟨0, 0, none⟩) (by exact h0)).trans HV.out)
  have hz2w : 0 < w2.heap.size := Nat.lt_of_lt_of_le h0 (Nat.le_trans HB1.out.size hb2.size)
  have HZ := Lib.hid (zz_row g n1 d1 xs u 3 w2 HU.out HM.out HLN.out hn (by omega) hcap1 hcell2 HRG.out te pe hz2w hv2)
  have HB2 : Hid (Below w'.heap.size w' w2) := HB1.out.trans (hb2.mono HB1.out.size)
  have hg2 : g < w2.heap.size := Nat.lt_of_lt_of_le hg1 hb2.size
  have HC2 := Lib.hid hcell2
  have HV2 := Lib.hid hv2
  have HT2 := Lib.hid (reads_of_row hown2)
  have HT2b : Hid (∀ k, (Value.slice b2 n2 d2).ownBlock = some k → k < w2.heap.size) := fun k hk => (hown2.lt k hk).2
  clear hown2 hb2 hcell2 hv2 HR2' HC HB1
  go_wp2_with fail
  refine HZ.out.mono ?_
  rintro e w3 ⟨rfl, hb3⟩
  have hcg0 : w3.cell? ⟨g, 0, none⟩ = some (.int .u8 120) := (hb3.cell (p := ⟨g, 0, none⟩) hg2).trans ((HC2.out 0 hn).trans (by rw [HX.out]))
  have HC3 : Hid (∀ j, j < n1 → w3.cell? ⟨g, j, none⟩ = some (.int .u8 (xs.getD j 0))) := fun j hj => (hb3.cell (p := ⟨g, j, none⟩) hg2).trans (HC2.out j hj)
  have HT3 : Hid (Reads w3 (.slice b2 n2 d2) n2 ts) := HT2.out.below hb3 (fun _ => HT2b.out)
  have HT3b : Hid (∀ k, (Value.slice b2 n2 d2).ownBlock = some k → k < w3.heap.size) := fun k hk => Nat.lt_of_lt_of_le (HT2b.out k hk) hb3.size
  have HB3 : Hid (Below w'.heap.size w' w3) := HB2.out.trans (hb3.mono HB2.out.size)
  have HV3 : Hid (w3.cell? ⟨0, 0, none⟩ = some (.iface te pe)) := (hb3.cell (p := ⟨0, 0, none⟩) (by exact hz2w)).trans HV2.out
  have hg3 : g < w3.heap.size := Nat.lt_of_lt_of_le hg2 hb3.size
  have h03 : 0 < w3.heap.size := Nat.lt_of_lt_of_le hz2w hb3.size
  clear HZ HC2 HT2 HT2b HB2 HV2 hb3 hz2w hg2
  go_wp2_with (at_make; refine wpList_make_own _ rfl _ _ 22 rfl w3.heap.size 5 i0 (.int .u8 0) 1 Tryd.underlying22 hi hz0 hz1 _ _ _ (3 + n2) rfl rfl (by omega) ?b1 ?b2 ?b3 ?_)
  case b1 => rw [hz2]; omega
  case b2 => unfold maxLen; omega
  case b3 => exact Nat.le_refl _
  intro w4 hown4 hg4
  have HO4 : Hid (w4.ownsRow w3.heap.size 5 1 (.slice (some ⟨w3.heap.size, 0, none⟩) 0 (3 + n2)) 0 (cellsI (xs.take 0))) := hown4
  have HB4 : Hid (Below w3.heap.size w3 w4) := (Below.refl _ _).grown hg4 (Nat.le_refl _) (fun k h => by cases h)
  clear hown4 hg4 hcg0
  go_wp2_with fail
  go_loopw [7, 8] (fun v i wr => ∃ k : Nat, k ≤ 3 ∧ i = .int .i64 k ∧ v = .slice (some ⟨w3.heap.size, 0, none⟩) k (3 + n2) ∧ wr.ownsRow w3.heap.size 5 1 (.slice (some ⟨w3.heap.size, 0, none⟩) k (3 + n2)) k (cellsI (xs.take k)) ∧ Below w3.heap.size w3 wr) (fun _ i _ => 3 - (intOf i).toNat)
  case atStart => exact ⟨0, Nat.zero_le _, rfl, rfl, HO4.out, HB4.out⟩
  case round =>
    clear HO4 HB4
    obtain ⟨k, hk, rfl, rfl, hownk, hbk⟩ := hrel
    have hGk : w3.heap.size ≤ wr.heap.size := hbk.size
    by_cases hlt : k < 3
    · have hcx : wr.cell? ⟨g, k, none⟩ = some (.int .u8 (xs.getD k 0)) := (hbk.cell (p := ⟨g, k, none⟩) hg3).trans (HC3.out k (by omega))
      have HT := Lib.hid (take_snoc xs k (by have := HLN.out; omega))
      obtain ⟨x, hx⟩ : ∃ x, x = xs.getD k 0 := ⟨_, rfl⟩
      rw [← hx] at hcx HT
      clear hx
      go_wp2_with (at_builtin; refine wpList_append_fits _ rfl (.tmp 85) (.tmp 90) 22 rfl w3.heap.size 5 i0 1 Tryd.underlying22 hi hz1 w3.heap.size k (3 + n2) _ rfl (hownk.alloc _) ⟨wr.heap.size, 0, none⟩ 1 1 [.int .u8 x] rfl rfl (cell_one_new _ _ _) ?d2 ?d3 ?_)
      case d2 => intro z hz; simp at hz; subst hz; rfl
      case d3 => omega
      intro w5 hown5 hg5
      have R := fit_step hbk hGk hown5 hg5
      rw [← HT.out] at R
      have HR := Lib.hid R
      clear hown5 hg5 hownk hbk hcx R
      go_wp2
      go_roundw
      case rel => exact ⟨k + 1, by omega, by go_num, rfl, HR.out.1, HR.out.2⟩
      case measure => simp [intOf]; omega
    · have hkm : k = 3 := by omega
      subst hkm
      have HO5 : Hid (wr.ownsRow w3.heap.size 5 1 (.slice (some ⟨w3.heap.size, 0, none⟩) (3 + 0) (3 + n2)) (3 + 0) (cellsI (xs.take 3 ++ ts.take 0))) := by rw [List.take_zero, List.append_nil]; exact hownk
      have HB5 := Lib.hid hbk
      clear hownk hbk
      go_wp2_with fail
      go_loopw [7, 9] (fun v i wq => ∃ j : Nat, j ≤ n2 ∧ i = .int .i64 j ∧ v = .slice (some ⟨w3.heap.size, 0, none⟩) (3 + j) (3 + n2) ∧ wq.ownsRow w3.heap.size 5 1 (.slice (some ⟨w3.heap.size, 0, none⟩) (3 + j) (3 + n2)) (3 + j) (cellsI (xs.take 3 ++ ts.take j)) ∧ Below w3.heap.size w3 wq) (fun _ i _ => n2 - (intOf i).toNat)
      case atStart => exact ⟨0, Nat.zero_le _, rfl, rfl, HO5.out, HB5.out⟩
      case round =>
        clear HO5 HB5
        obtain ⟨j, hj, rfl, rfl, hownj, hbj⟩ := hrel
        have hGj : w3.heap.size ≤ wr.heap.size := hbj.size
        by_cases hltj : j < n2
        · obtain ⟨bt, ot, capt, et, hbt, hct⟩ := reads_at HT3.out (by omega)
          simp only [Value.slice.injEq, true_and] at et
          obtain ⟨rfl, rfl⟩ := et
          have hbt3 : bt < w3.heap.size := HT3b.out bt rfl
          have hcx : wr.cell? ⟨bt, ot + j, none⟩ = some (.int .u8 (ts.getD j 0)) := (hbj.cell (p := ⟨bt, ot + j, none⟩) hbt3).trans (hct j hltj)
          have HT := Lib.hid (take_snoc ts j (by have := HLT.out; omega))
          obtain ⟨x, hx⟩ : ∃ x, x = ts.getD j 0 := ⟨_, rfl⟩
          rw [← hx] at hcx HT
          clear hx hct
          go_wp2_with (at_builtin; refine wpList_append_fits _ rfl (.tmp 98) (.tmp 103) 22 rfl w3.heap.size 5 i0 1 Tryd.underlying22 hi hz1 w3.heap.size (3 + j) (3 + n2) _ rfl (hownj.alloc _) ⟨wr.heap.size, 0, none⟩ 1 1 [.int .u8 x] rfl rfl (cell_one_new _ _ _) ?f2 ?f3 ?_)
          case f2 => intro z hz; simp at hz; subst hz; rfl
          case f3 => omega
          intro w5 hown5 hg5
          have R := fit_step hbj hGj hown5 hg5
          rw [List.append_assoc, ← HT.out] at R
          have HR := Lib.hid R
          clear hown5 hg5 hownj hbj hcx R
          go_wp2
          go_roundw
          case rel =>
            (repeat apply Exists.intro)
            exact ⟨⟨j + 1, by omega, by go_num, rfl, HR.out.1, HR.out.2⟩, rfl⟩
          case measure => simp [intOf]; omega
        · have hjn : j = n2 := by omega
          subst hjn
          rw [List.take_of_length_le (l := ts) (i := j) (by rw [HLT.out]; exact Nat.le_refl _)] at hownj
          obtain ⟨g5, cap5, e5, hg50, hg51, hcap5, _, hl5, hcell5⟩ := row_open hownj (by omega)
          simp only [Value.slice.injEq, Option.some.injEq, Addr.mk.injEq, true_and, and_true] at e5
          obtain ⟨rfl, rfl⟩ := e5
          have HZ2 := Lib.hid (zz_row w3.heap.size (3 + j) (3 + j) (xs.take 3 ++ ts) u 3 wr HU2.out HM2.out hl5 (by omega) (by omega) (Nat.le_refl _) hcell5
            (fun x hx => by rcases List.mem_append.1 hx with hx | hx; exact HRG.out x (List.mem_of_mem_take hx); exact HRT.out x hx) te pe (Nat.lt_of_lt_of_le h03 hGj) ((hbj.cell (p := ⟨0, 0, none⟩) h03).trans HV3.out))
          have HBJ := Lib.hid hbj
          clear hownj hcell5 hbj hl5
          go_wp2_with (go_at_call 12; refine HZ2.out.mono ?_; rintro e w6 ⟨rfl, hb6⟩)
          go_ret
          exact ⟨rfl, (HB3.out.trans (HBJ.out.mono HB3.out.size)).trans (hb6.mono (Nat.le_trans HB3.out.size hGj))⟩

/-! ### The plain law -/
theorem hexE_not {c : Int} {r : List Int} (h : ¬ c = 120) : hexE (c :: r) = none := by
  match r with
  | [] => rfl
  | [_] => rfl
  | _ :: _ :: _ => simp [hexE, h]
theorem unV_not {c : Int} (r : List Int) (h : ¬ c = 120) : unV (c :: r) = letV c ∧ unN (c :: r) = 1 := unV_none (hexE_not h)
theorem unV_yes {x y v : Int} (r : List Int) (h : hexPre x y 2 = some v) : unV (120 :: x :: y :: r) = v ∧ unN (120 :: x :: y :: r) = 3 := by
  have e : hexE (120 :: x :: y :: r) = some v := by simp [hexE, h]
  unfold unV unN; rw [e]; exact ⟨rfl, rfl⟩

/-- FnUnescapeUsesOnlyWhatItCounts at every two slices of bytes. -/
theorem use_any (v1 : Value) (n1 : Nat) (xs : List Int) (v2 : Value) (n2 : Nat) (ts : List Int) (w : World) (hmax1 : n1 ≤ maxLen) (hmax2 : n2 ≤ maxLen) (R1 : Reads w v1 n1 xs) (R2 : Reads w v2 n2 ts) (hr : ∀ x ∈ xs, 0 ≤ x ∧ x ≤ 255) (hr2 : ∀ x ∈ ts, 0 ≤ x ∧ x ≤ 255)
    (te : TypeId) (pe : Value) (h0 : 0 < w.heap.size) (hv : w.cell? ⟨0, 0, none⟩ = some (.iface te pe)) :
    Calls Tryd.prog 5 #[v1, v2] w fun e w' => e = .returned (.bool true) ∧ Below w.heap.size w w' := by
  have sh1 : ∃ a c, v1 = .slice a n1 c := by
    rcases R1.2 with ⟨rfl, rfl⟩ | ⟨x, cap, rfl, _⟩
    · exact ⟨_, _, rfl⟩
    · exact ⟨_, _, rfl⟩
  have sh2 : ∃ a c, v2 = .slice a n2 c := by
    rcases R2.2 with ⟨rfl, rfl⟩ | ⟨x, cap, rfl, _⟩
    · exact ⟨_, _, rfl⟩
    · exact ⟨_, _, rfl⟩
  obtain ⟨a1, c1, rfl⟩ := sh1
  obtain ⟨a2, c2, rfl⟩ := sh2
  by_cases h : n1 + n2 ≤ 1048576
  · by_cases hn : 0 < n1
    · have hl := R1.1
      match xs, hl, R1, hr with
      | [], hl, _, _ => exact absurd hl (by simp; omega)
      | c0 :: rest, hl, R1, hr =>
        by_cases hx : c0 = 120
        · subst hx
          match rest, hl, R1, hr with
          | [], hl, R1, hr =>
            have e := unV_none (xs := [120]) rfl
            exact use_x a1 n1 c1 a2 n2 c2 [120] ts 0 0 0 w h hn R1 R2 hr rfl (e.1.trans rfl) e.2 (.inl (by simp at hl; omega)) te pe h0 hv
          | [z], hl, R1, hr =>
            have e := unV_none (xs := [120, z]) rfl
            exact use_x a1 n1 c1 a2 n2 c2 [120, z] ts 0 0 0 w h hn R1 R2 hr rfl (e.1.trans rfl) e.2 (.inl (by simp at hl; omega)) te pe h0 hv
          | x :: y :: r, hl, R1, hr =>
            have h3 : 3 ≤ n1 := by simp at hl; omega
            have e0 : hexE (120 :: x :: y :: r) = hexPre x y 2 := by simp [hexE]
            cases hp : hexPre x y 2 with
            | some v =>
              have e1 := unV_yes r hp
              have e2 := unV_yes ts hp
              exact use_three a1 n1 c1 a2 n2 c2 (120 :: x :: y :: r) ts v w h hn R1 R2 hr hr2 rfl e1.1 e1.2 h3 e2.1 e2.2 te pe h0 hv
            | none =>
              have e := unV_none (xs := 120 :: x :: y :: r) (e0.trans hp)
              cases hxv : hexV x with
              | none => exact use_x a1 n1 c1 a2 n2 c2 (120 :: x :: y :: r) ts x 0 0 w h hn R1 R2 hr rfl (e.1.trans rfl) e.2 (.inr (.inl ⟨h3, rfl, hxv⟩)) te pe h0 hv
              | some av =>
                cases hyv : hexV y with
                | none => exact use_x a1 n1 c1 a2 n2 c2 (120 :: x :: y :: r) ts x y av w h hn R1 R2 hr rfl (e.1.trans rfl) e.2 (.inr (.inr ⟨h3, rfl, rfl, hxv, hyv⟩)) te pe h0 hv
                | some bv => exact absurd (hp.symm.trans (hexPre_step1 hxv hyv)) (by intro hc; cases hc)
        · have e1 := unV_not rest hx
          have e2 := unV_not ts hx
          exact use_one a1 n1 c1 a2 n2 c2 (c0 :: rest) ts c0 (letV c0) w h hn R1 R2 hr hr2 rfl e1.1 e1.2 (by simpa using hx) e2.1 e2.2 te pe h0 hv
    · obtain rfl : n1 = 0 := by omega
      exact use_empty a1 c1 a2 n2 c2 w (by omega)
  · exact use_big a1 n1 c1 a2 n2 c2 w hmax1 hmax2 h
end Go.Proofs.Qxb6000604aDoor

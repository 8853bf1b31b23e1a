/-
  zzCanonParse by its contract; FnParseIntMatchesCanonicalModel.
-/
import Derived.Test.Qxb6000604aDoorResp
import Derived.Test.Qxb6000604aDoorNum2
namespace Go.Proofs.Qxb6000604aDoor
open Go.RowKit Go.Lib

/-- What zzCanonParse hands back for an answer of the model. -/
def canonRes : Option Int → Value
  | some x => .tuple #[.int .i64 x, .bool true]
  | none => .tuple #[.int .i64 0, .bool false]
theorem canonRes_some {o : Option Int} {x : Int} (h : o = some x) : canonRes o = .tuple #[.int .i64 x, .bool true] := by rw [h]; rfl
theorem canonRes_none {o : Option Int} (h : o = none) : canonRes o = .tuple #[.int .i64 0, .bool false] := by rw [h]; rfl


theorem canon_empty (s : ByteArray) (hs : s.size = 0) (w : World) : Calls Tryd.prog 21 #[.string s] w fun e w' => e = .returned (canonRes none) ∧ w' = w := by
  go_enter Tryd.func21, Tryd.ntmps21
  go_wp2
  go_ret2
  exact ⟨rfl, rfl⟩

set_option maxHeartbeats 1600000 in
theorem canon_pos (s : ByteArray) (hs : 0 < s.size) (h19 : s.size ≤ 19) (h45 : (((s[0]'hs).toNat : Int) == 45) = false) (h48 : (((s[0]'hs).toNat : Int) == 48) = false) (h3 : ¬ ((s.data.toList.drop 0).head? = some 48 ∧ (1 < (s.data.toList.drop 0).length ∨ false = true))) (w : World) :
    Calls Tryd.prog 21 #[.string s] w fun e w' => e = .returned (canonRes (canonN false (s.data.toList.drop 0))) ∧ w' = w := by
  obtain ⟨D, hD⟩ : ∃ D, D = (s.data.toList.drop 0) := ⟨_, rfl⟩
  have HDL : Hid (D.length = s.size - 0) := by rw [hD, List.length_drop, Array.length_toList]; rfl
  have HB : Hid (∀ k (hk : k < s.size), 0 ≤ k → D.take (k + 1 - 0) = D.take (k - 0) ++ [s[k]]) := fun k hk hi => by rw [hD]; exact bytes_take s 0 k hi hk
  have HG : Hid (∀ k (hk : k < s.size), 0 ≤ k → isDig s[k] = false → ¬ D.all isDig = true) := fun k hk hi hf => by
    rw [hD]
    have hj : k - 0 < (s.data.toList.drop 0).length := by rw [List.length_drop, Array.length_toList]; have : s.data.size = s.size := rfl; omega
    exact not_all hj (by rw [get_drop s 0 k hi hk hj]; exact hf)
  rw [← hD] at h3
  have H3 := Lib.hid h3
  have hz : ((s.size : Int) == 0) = false := beq_eq_false_iff_ne.2 (by omega)
  have hd : decide (19 < (s.size : Int)) = false := decide_eq_false (by omega)
  rw [← hD]
  clear hD h3
  go_enter Tryd.func21, Tryd.ntmps21
  go_wp2_with fail
  go_loop [7, 8] (fun vu vj => ∃ (k a : Nat), vu = .int .u64 (a : Int) ∧ vj = .int .i64 (k : Int) ∧ 0 ≤ k ∧ k ≤ s.size ∧ Hid (a = dval 0 (D.take (k - 0)) ∧ (D.take (k - 0)).all isDig = true)) (fun _ vj => s.size - (RowKit.intOf vj).toNat)
  case atStart => exact ⟨0, 0, rfl, rfl, Nat.le_refl _, by omega, by rw [Nat.sub_self]; rfl, by rw [Nat.sub_self]; rfl⟩
  case round =>
    obtain ⟨k, a, rfl, rfl, hik, hk, hh⟩ := hrel
    by_cases hlt : k < s.size
    · have ha : a < 1000000000000000000 := by rw [hh.out.1]; exact dval_lt19 _ hh.out.2 (by rw [List.length_take]; omega)
      have HT := Lib.hid (HB.out k hlt hik)
      by_cases hdig : 48 ≤ (s[k].toNat : Int) ∧ (s[k].toNat : Int) ≤ 57
      · obtain ⟨d0, d1⟩ := hdig
        have HN : Hid (a * 10 + (s[k].toNat - 48) = dval 0 (D.take (k + 1 - 0)) ∧ (D.take (k + 1 - 0)).all isDig = true) := by
          rw [HT.out]
          refine ⟨by rw [dval_snoc, ← hh.out.1], ?_⟩
          rw [all_snoc, hh.out.2]
          exact decide_eq_true (by omega)
        clear hh HT
        go_wp2
        go_round
        case rel => exact ⟨k + 1, a * 10 + (s[k].toNat - 48), by go_num, by go_num, by omega, by omega, HN.out⟩
        case measure => simp [RowKit.intOf]; omega
      · have HE : Hid (canonN false D = none) := canonN_notdig _ _ (HG.out k hlt hik (decide_eq_false (by omega)))
        have hd2 : (s[k].toNat : Int) < 48 ∨ 57 < (s[k].toNat : Int) := by omega
        clear hdig hh HT
        rcases hd2 with hd2 | hd2
        · go_wp2
          go_ret2
          exact ⟨by rw [canonRes_none HE.out]; rfl, rfl⟩
        · go_wp2
          go_ret2
          exact ⟨by rw [canonRes_none HE.out]; rfl, rfl⟩
    · have hks : k = s.size := by omega
      subst hks
      have hfull : D.take (s.size - 0) = D := List.take_of_length_le (by rw [HDL.out]; exact Nat.le_refl _)
      have hA : a = dval 0 D := by rw [← hfull]; exact hh.out.1
      have hall : D.all isDig = true := by rw [← hfull]; exact hh.out.2
      have hlD := HDL.out
      have hE := canonN_eval false D (fun e => by rw [e] at hlD; simp at hlD; omega) (by omega) (fun hc => H3.out ⟨hc.1, by simpa using hc.2⟩) hall
      clear hh hfull hall hlD
      by_cases hle : a ≤ 9223372036854775807
      · have HE := Lib.hid (show canonN false D = some (a : Int) from by rw [hE, if_neg (by decide), if_pos (by rw [← hA]; exact hle), ← hA])
        clear hE hA
        go_wp2
        go_ret2
        exact ⟨by rw [canonRes_some HE.out]; rfl, rfl⟩
      · have HE := Lib.hid (show canonN false D = none from by rw [hE, if_neg (by decide), if_neg (by rw [← hA]; exact hle)])
        have hle2 : (9223372036854775807 : Int) < (a : Int) := by omega
        clear hE hA hle
        go_wp2
        go_ret2
        exact ⟨by rw [canonRes_none HE.out]; rfl, rfl⟩

set_option maxHeartbeats 1600000 in
theorem canon_one (s : ByteArray) (hs : 0 < s.size) (h1 : s.size ≤ 1) (h45 : (((s[0]'hs).toNat : Int) == 45) = false) (h48 : (((s[0]'hs).toNat : Int) == 48) = true) (h3 : ¬ ((s.data.toList.drop 0).head? = some 48 ∧ (1 < (s.data.toList.drop 0).length ∨ false = true))) (w : World) :
    Calls Tryd.prog 21 #[.string s] w fun e w' => e = .returned (canonRes (canonN false (s.data.toList.drop 0))) ∧ w' = w := by
  obtain ⟨D, hD⟩ : ∃ D, D = (s.data.toList.drop 0) := ⟨_, rfl⟩
  have HDL : Hid (D.length = s.size - 0) := by rw [hD, List.length_drop, Array.length_toList]; rfl
  have HB : Hid (∀ k (hk : k < s.size), 0 ≤ k → D.take (k + 1 - 0) = D.take (k - 0) ++ [s[k]]) := fun k hk hi => by rw [hD]; exact bytes_take s 0 k hi hk
  have HG : Hid (∀ k (hk : k < s.size), 0 ≤ k → isDig s[k] = false → ¬ D.all isDig = true) := fun k hk hi hf => by
    rw [hD]
    have hj : k - 0 < (s.data.toList.drop 0).length := by rw [List.length_drop, Array.length_toList]; have : s.data.size = s.size := rfl; omega
    exact not_all hj (by rw [get_drop s 0 k hi hk hj]; exact hf)
  rw [← hD] at h3
  have H3 := Lib.hid h3
  have hz : ((s.size : Int) == 0) = false := beq_eq_false_iff_ne.2 (by omega)
  have hd : decide (19 < (s.size : Int)) = false := decide_eq_false (by omega)
  have hd1 : decide (1 < (s.size : Int)) = false := decide_eq_false (by omega)
  rw [← hD]
  clear hD h3
  go_enter Tryd.func21, Tryd.ntmps21
  go_wp2_with fail
  go_loop [7, 8] (fun vu vj => ∃ (k a : Nat), vu = .int .u64 (a : Int) ∧ vj = .int .i64 (k : Int) ∧ 0 ≤ k ∧ k ≤ s.size ∧ Hid (a = dval 0 (D.take (k - 0)) ∧ (D.take (k - 0)).all isDig = true)) (fun _ vj => s.size - (RowKit.intOf vj).toNat)
  case atStart => exact ⟨0, 0, rfl, rfl, Nat.le_refl _, by omega, by rw [Nat.sub_self]; rfl, by rw [Nat.sub_self]; rfl⟩
  case round =>
    obtain ⟨k, a, rfl, rfl, hik, hk, hh⟩ := hrel
    by_cases hlt : k < s.size
    · have ha : a < 1000000000000000000 := by rw [hh.out.1]; exact dval_lt19 _ hh.out.2 (by rw [List.length_take]; omega)
      have HT := Lib.hid (HB.out k hlt hik)
      by_cases hdig : 48 ≤ (s[k].toNat : Int) ∧ (s[k].toNat : Int) ≤ 57
      · obtain ⟨d0, d1⟩ := hdig
        have HN : Hid (a * 10 + (s[k].toNat - 48) = dval 0 (D.take (k + 1 - 0)) ∧ (D.take (k + 1 - 0)).all isDig = true) := by
          rw [HT.out]
          refine ⟨by rw [dval_snoc, ← hh.out.1], ?_⟩
          rw [all_snoc, hh.out.2]
          exact decide_eq_true (by omega)
        clear hh HT
        go_wp2
        go_round
        case rel => exact ⟨k + 1, a * 10 + (s[k].toNat - 48), by go_num, by go_num, by omega, by omega, HN.out⟩
        case measure => simp [RowKit.intOf]; omega
      · have HE : Hid (canonN false D = none) := canonN_notdig _ _ (HG.out k hlt hik (decide_eq_false (by omega)))
        have hd2 : (s[k].toNat : Int) < 48 ∨ 57 < (s[k].toNat : Int) := by omega
        clear hdig hh HT
        rcases hd2 with hd2 | hd2
        · go_wp2
          go_ret2
          exact ⟨by rw [canonRes_none HE.out]; rfl, rfl⟩
        · go_wp2
          go_ret2
          exact ⟨by rw [canonRes_none HE.out]; rfl, rfl⟩
    · have hks : k = s.size := by omega
      subst hks
      have hfull : D.take (s.size - 0) = D := List.take_of_length_le (by rw [HDL.out]; exact Nat.le_refl _)
      have hA : a = dval 0 D := by rw [← hfull]; exact hh.out.1
      have hall : D.all isDig = true := by rw [← hfull]; exact hh.out.2
      have hlD := HDL.out
      have hE := canonN_eval false D (fun e => by rw [e] at hlD; simp at hlD; omega) (by omega) (fun hc => H3.out ⟨hc.1, by simpa using hc.2⟩) hall
      clear hh hfull hall hlD
      by_cases hle : a ≤ 9223372036854775807
      · have HE := Lib.hid (show canonN false D = some (a : Int) from by rw [hE, if_neg (by decide), if_pos (by rw [← hA]; exact hle), ← hA])
        clear hE hA
        go_wp2
        go_ret2
        exact ⟨by rw [canonRes_some HE.out]; rfl, rfl⟩
      · have HE := Lib.hid (show canonN false D = none from by rw [hE, if_neg (by decide), if_neg (by rw [← hA]; exact hle)])
        have hle2 : (9223372036854775807 : Int) < (a : Int) := by omega
        clear hE hA hle
        go_wp2
        go_ret2
        exact ⟨by rw [canonRes_none HE.out]; rfl, rfl⟩

set_option maxHeartbeats 1600000 in
theorem canon_neg (s : ByteArray) (hs : 0 < s.size) (hs1 : 1 < s.size) (h20 : s.size ≤ 20) (h45 : (((s[0]'hs).toNat : Int) == 45) = true) (h48 : (((s[1]'hs1).toNat : Int) == 48) = false) (h3 : ¬ ((s.data.toList.drop 1).head? = some 48 ∧ (1 < (s.data.toList.drop 1).length ∨ true = true))) (w : World) :
    Calls Tryd.prog 21 #[.string s] w fun e w' => e = .returned (canonRes (canonN true (s.data.toList.drop 1))) ∧ w' = w := by
  obtain ⟨D, hD⟩ : ∃ D, D = (s.data.toList.drop 1) := ⟨_, rfl⟩
  have HDL : Hid (D.length = s.size - 1) := by rw [hD, List.length_drop, Array.length_toList]; rfl
  have HB : Hid (∀ k (hk : k < s.size), 1 ≤ k → D.take (k + 1 - 1) = D.take (k - 1) ++ [s[k]]) := fun k hk hi => by rw [hD]; exact bytes_take s 1 k hi hk
  have HG : Hid (∀ k (hk : k < s.size), 1 ≤ k → isDig s[k] = false → ¬ D.all isDig = true) := fun k hk hi hf => by
    rw [hD]
    have hj : k - 1 < (s.data.toList.drop 1).length := by rw [List.length_drop, Array.length_toList]; have : s.data.size = s.size := rfl; omega
    exact not_all hj (by rw [get_drop s 1 k hi hk hj]; exact hf)
  rw [← hD] at h3
  have H3 := Lib.hid h3
  have hz : ((s.size : Int) - 1 == 0) = false := beq_eq_false_iff_ne.2 (by omega)
  have hd : decide (19 < (s.size : Int) - 1) = false := decide_eq_false (by omega)
  rw [← hD]
  clear hD h3
  go_enter Tryd.func21, Tryd.ntmps21
  go_wp2_with fail
  go_loop [7, 8] (fun vu vj => ∃ (k a : Nat), vu = .int .u64 (a : Int) ∧ vj = .int .i64 (k : Int) ∧ 1 ≤ k ∧ k ≤ s.size ∧ Hid (a = dval 0 (D.take (k - 1)) ∧ (D.take (k - 1)).all isDig = true)) (fun _ vj => s.size - (RowKit.intOf vj).toNat)
  case atStart => exact ⟨1, 0, rfl, rfl, Nat.le_refl _, by omega, by rw [Nat.sub_self]; rfl, by rw [Nat.sub_self]; rfl⟩
  case round =>
    obtain ⟨k, a, rfl, rfl, hik, hk, hh⟩ := hrel
    by_cases hlt : k < s.size
    · have ha : a < 1000000000000000000 := by rw [hh.out.1]; exact dval_lt19 _ hh.out.2 (by rw [List.length_take]; omega)
      have HT := Lib.hid (HB.out k hlt hik)
      by_cases hdig : 48 ≤ (s[k].toNat : Int) ∧ (s[k].toNat : Int) ≤ 57
      · obtain ⟨d0, d1⟩ := hdig
        have HN : Hid (a * 10 + (s[k].toNat - 48) = dval 0 (D.take (k + 1 - 1)) ∧ (D.take (k + 1 - 1)).all isDig = true) := by
          rw [HT.out]
          refine ⟨by rw [dval_snoc, ← hh.out.1], ?_⟩
          rw [all_snoc, hh.out.2]
          exact decide_eq_true (by omega)
        clear hh HT
        go_wp2
        go_round
        case rel => exact ⟨k + 1, a * 10 + (s[k].toNat - 48), by go_num, by go_num, by omega, by omega, HN.out⟩
        case measure => simp [RowKit.intOf]; omega
      · have HE : Hid (canonN true D = none) := canonN_notdig _ _ (HG.out k hlt hik (decide_eq_false (by omega)))
        have hd2 : (s[k].toNat : Int) < 48 ∨ 57 < (s[k].toNat : Int) := by omega
        clear hdig hh HT
        rcases hd2 with hd2 | hd2
        · go_wp2
          go_ret2
          exact ⟨by rw [canonRes_none HE.out]; rfl, rfl⟩
        · go_wp2
          go_ret2
          exact ⟨by rw [canonRes_none HE.out]; rfl, rfl⟩
    · have hks : k = s.size := by omega
      subst hks
      have hfull : D.take (s.size - 1) = D := List.take_of_length_le (by rw [HDL.out]; exact Nat.le_refl _)
      have hA : a = dval 0 D := by rw [← hfull]; exact hh.out.1
      have hall : D.all isDig = true := by rw [← hfull]; exact hh.out.2
      have hlD := HDL.out
      have hE := canonN_eval true D (fun e => by rw [e] at hlD; simp at hlD; omega) (by omega) (fun hc => H3.out ⟨hc.1, by simp⟩) hall
      clear hh hfull hall hlD
      by_cases hle : a ≤ 9223372036854775808
      · have HE := Lib.hid (show canonN true D = some (-(a : Int)) from by rw [hE, if_pos rfl, if_pos (by rw [← hA]; exact hle), ← hA])
        have hwr : IntKind.i64.wrap (IntKind.u64.wrap (-(a : Int))) = -(a : Int) := by rw [IntKind.wrap_u64, IntKind.wrap_i64]; omega
        have hle2 : decide ((9223372036854775808 : Int) < (a : Int)) = false := decide_eq_false (by omega)
        clear hE hA hle
        go_wp2
        go_ret2
        exact ⟨by rw [canonRes_some HE.out]; rfl, rfl⟩
      · have HE := Lib.hid (show canonN true D = none from by rw [hE, if_pos rfl, if_neg (by rw [← hA]; exact hle)])
        have hle2 : decide ((9223372036854775808 : Int) < (a : Int)) = true := decide_eq_true (by omega)
        clear hE hA hle
        go_wp2
        go_ret2
        exact ⟨by rw [canonRes_none HE.out]; rfl, rfl⟩

/-! ### The roads that end early -/
theorem canon_dash (s : ByteArray) (hs : 0 < s.size) (h1 : s.size ≤ 1) (h45 : (((s[0]'hs).toNat : Int) == 45) = true) (w : World) : Calls Tryd.prog 21 #[.string s] w fun e w' => e = .returned (canonRes none) ∧ w' = w := by
  have hz : ((s.size : Int) - 1 == 0) = true := beq_iff_eq.2 (by omega)
  go_enter Tryd.func21, Tryd.ntmps21
  go_wp2
  go_ret2
  exact ⟨rfl, rfl⟩
theorem canon_dash_long (s : ByteArray) (hs : 0 < s.size) (h1 : 20 < s.size) (h2 : s.size ≤ 2000000) (h45 : (((s[0]'hs).toNat : Int) == 45) = true) (w : World) : Calls Tryd.prog 21 #[.string s] w fun e w' => e = .returned (canonRes none) ∧ w' = w := by
  have hz : ((s.size : Int) - 1 == 0) = false := beq_eq_false_iff_ne.2 (by omega)
  have hd : decide (19 < (s.size : Int) - 1) = true := decide_eq_true (by omega)
  go_enter Tryd.func21, Tryd.ntmps21
  go_wp2
  go_ret2
  exact ⟨rfl, rfl⟩
theorem canon_dash_zero (s : ByteArray) (hs : 0 < s.size) (hs1 : 1 < s.size) (h20 : s.size ≤ 20) (h45 : (((s[0]'hs).toNat : Int) == 45) = true) (h48 : (((s[1]'hs1).toNat : Int) == 48) = true) (w : World) : Calls Tryd.prog 21 #[.string s] w fun e w' => e = .returned (canonRes none) ∧ w' = w := by
  have hz : ((s.size : Int) - 1 == 0) = false := beq_eq_false_iff_ne.2 (by omega)
  have hd : decide (19 < (s.size : Int) - 1) = false := decide_eq_false (by omega)
  go_enter Tryd.func21, Tryd.ntmps21
  go_wp2
  all_goals
    go_ret2
    exact ⟨rfl, rfl⟩
theorem canon_long (s : ByteArray) (hs : 0 < s.size) (h1 : 19 < s.size) (h2 : s.size ≤ 2000000) (h45 : (((s[0]'hs).toNat : Int) == 45) = false) (w : World) : Calls Tryd.prog 21 #[.string s] w fun e w' => e = .returned (canonRes none) ∧ w' = w := by
  have hz : ((s.size : Int) == 0) = false := beq_eq_false_iff_ne.2 (by omega)
  have hd : decide (19 < (s.size : Int)) = true := decide_eq_true (by omega)
  go_enter Tryd.func21, Tryd.ntmps21
  go_wp2
  go_ret2
  exact ⟨rfl, rfl⟩
theorem canon_zeros (s : ByteArray) (hs : 0 < s.size) (h1 : 1 < s.size) (h19 : s.size ≤ 19) (h45 : (((s[0]'hs).toNat : Int) == 45) = false) (h48 : (((s[0]'hs).toNat : Int) == 48) = true) (w : World) : Calls Tryd.prog 21 #[.string s] w fun e w' => e = .returned (canonRes none) ∧ w' = w := by
  have hz : ((s.size : Int) == 0) = false := beq_eq_false_iff_ne.2 (by omega)
  have hd : decide (19 < (s.size : Int)) = false := decide_eq_false (by omega)
  have hd1 : decide (1 < (s.size : Int)) = true := decide_eq_true (by omega)
  go_enter Tryd.func21, Tryd.ntmps21
  go_wp2
  go_ret2
  exact ⟨rfl, rfl⟩

theorem byte_is {c : UInt8} {n : Nat} (h : ((c.toNat : Int) == (n : Int)) = true) : c = UInt8.ofNat n := by
  have : c.toNat = n := by have := beq_iff_eq.1 h; omega
  rw [← this]; simp
theorem byte_not {c : UInt8} {n : Nat} (h : ((c.toNat : Int) == (n : Int)) = false) : c.toNat ≠ n := by
  intro e; rw [e] at h; simp at h

/-- zzCanonParse at every string of at most two million bytes. -/
theorem canon_any (s : ByteArray) (h2 : s.size ≤ 2000000) (w : World) : Calls Tryd.prog 21 #[.string s] w fun e w' => e = .returned (canonRes (canonP s.data.toList)) ∧ w' = w := by
  have hlen : s.data.toList.length = s.size := by rw [Array.length_toList]; rfl
  rcases Nat.eq_zero_or_pos s.size with h0 | hs
  · have e : canonP s.data.toList = none := by
      have : s.data.toList = [] := List.eq_nil_of_length_eq_zero (by omega)
      rw [this]; rfl
    rw [e]; exact canon_empty s h0 w
  · have hh := head_drop s 0 hs
    rw [List.drop_zero] at hh
    cases h45 : (((s[0]'hs).toNat : Int) == 45) with
    | true =>
      have e : canonP s.data.toList = canonN true (s.data.toList.drop 1) := by
        unfold canonP
        rw [if_pos (by rw [hh, byte_is (n := 45) h45]; rfl), List.drop_one]
      rw [e]
      have hl1 : (s.data.toList.drop 1).length = s.size - 1 := by rw [List.length_drop, hlen]
      rcases Nat.lt_or_ge 1 s.size with hs1 | hs1
      · rcases Nat.lt_or_ge 20 s.size with h20 | h20
        · rw [canonN_long _ _ (.inr (by omega))]; exact canon_dash_long s hs h20 h2 h45 w
        · have hh1 := head_drop s 1 hs1
          cases h48 : (((s[1]'hs1).toNat : Int) == 48) with
          | true =>
            rw [canonN_zero _ _ ⟨by rw [hh1, byte_is (n := 48) h48]; rfl, .inr rfl⟩]
            exact canon_dash_zero s hs hs1 h20 h45 h48 w
          | false =>
            exact canon_neg s hs hs1 h20 h45 h48 (fun hc => byte_not (n := 48) h48 (by rw [Option.some.inj (hh1.symm.trans hc.1)]; rfl)) w
      · rw [canonN_long _ _ (.inl (List.eq_nil_of_length_eq_zero (by omega)))]; exact canon_dash s hs hs1 h45 w
    | false =>
      have e : canonP s.data.toList = canonN false (s.data.toList.drop 0) := by
        unfold canonP
        rw [if_neg (fun hc => byte_not (n := 45) h45 (by rw [Option.some.inj (hh.symm.trans hc)]; rfl)), List.drop_zero]
      rw [e]
      have hl0 : (s.data.toList.drop 0).length = s.size := by rw [List.drop_zero, hlen]
      rcases Nat.lt_or_ge 19 s.size with h19 | h19
      · rw [canonN_long _ _ (.inr (by omega))]; exact canon_long s hs h19 h2 h45 w
      · cases h48 : (((s[0]'hs).toNat : Int) == 48) with
        | true =>
          rcases Nat.lt_or_ge 1 s.size with h1 | h1
          · rw [canonN_zero _ _ ⟨by rw [head_drop s 0 hs, byte_is (n := 48) h48]; rfl, .inl (by omega)⟩]
            exact canon_zeros s hs h1 h19 h45 h48 w
          · exact canon_one s hs h1 h45 h48 (fun hc => by rcases hc.2 with hc | hc; omega; cases hc) w
        | false => exact canon_pos s hs h19 h45 h48 (fun hc => byte_not (n := 48) h48 (by rw [Option.some.inj ((head_drop s 0 hs).symm.trans hc.1)]; rfl)) w

theorem bytes20_ok (s : ByteArray) (w : World) (h : s.size ≤ 1048576) : Calls Tryd.prog 20 #[.string s] w fun e w' => e = .returned (.bool true) ∧ w' = w := by
  go_enter Tryd.func20, Tryd.ntmps20
  go_wp2
  go_ret
  exact ⟨rfl, rfl⟩
theorem bytes20_big (s : ByteArray) (w : World) (hs : s.size ≤ maxLen) (h : ¬ s.size ≤ 1048576) : Calls Tryd.prog 20 #[.string s] w fun e w' => e = .returned (.bool false) ∧ w' = w := by
  unfold maxLen at hs
  go_enter Tryd.func20, Tryd.ntmps20
  go_wp2
  go_ret
  exact ⟨rfl, rfl⟩
theorem match_big (s : ByteArray) (w : World) (hs : s.size ≤ maxLen) (h : ¬ s.size ≤ 1048576) : Calls Tryd.prog 7 #[.string s] w fun e w' => e = .returned (.bool true) ∧ Below w.heap.size w w' := by
  go_enter Tryd.func7, Tryd.ntmps7
  go_wp2_with (go_at_call 20; refine (bytes20_big _ _ hs h).mono ?_; rintro e w' ⟨rfl, rfl⟩)
  go_ret
  exact ⟨rfl, Below.refl _ _⟩

set_option maxHeartbeats 800000 in
/-- FnParseIntMatchesCanonicalModel at every string of at most 1<<20 bytes. -/
theorem match_ok (s : ByteArray) (w : World) (h : s.size ≤ 1048576) (hnd : ND w) (te tr : TypeId) (pe pr : Value) (hv0 : w.cell? ⟨0, 0, none⟩ = some (.iface te pe)) (hv1 : w.cell? ⟨1, 0, none⟩ = some (.iface tr pr)) :
    Calls Tryd.prog 7 #[.string s] w fun e w' => e = .returned (.bool true) ∧ Below w.heap.size w w' := by
  have HP := Lib.hid (resp_any s w (by omega) hnd te tr pe pr hv0 hv1)
  have HC := Lib.hid (canon_any s (by omega))
  rw [canonOk_eq] at HP
  clear hnd hv0 hv1
  cases hc : canonP s.data.toList with
  | some x =>
    rw [hc] at HP HC
    clear hc
    go_enter Tryd.func7, Tryd.ntmps7
    go_wp2_with (go_at_call 20; refine (bytes20_ok _ _ h).mono ?_; rintro e w' ⟨rfl, rfl⟩)
    refine HP.out.mono ?_
    rintro e w1 ⟨v, rfl, hv, hb⟩
    obtain rfl := hv x rfl
    clear hv
    go_wp2_with fail
    refine (HC.out _).mono ?_
    rintro e w2 ⟨rfl, rfl⟩
    rw [canonRes_some rfl]
    go_wp2
    go_ret
    exact ⟨rfl, hb⟩
  | none =>
    rw [hc] at HP HC
    clear hc
    go_enter Tryd.func7, Tryd.ntmps7
    go_wp2_with (go_at_call 20; refine (bytes20_ok _ _ h).mono ?_; rintro e w' ⟨rfl, rfl⟩)
    refine HP.out.mono ?_
    rintro e w1 ⟨v, rfl, hv, hb⟩
    clear hv
    go_wp2_with fail
    refine (HC.out _).mono ?_
    rintro e w2 ⟨rfl, rfl⟩
    rw [canonRes_none rfl]
    go_wp2
    go_ret
    exact ⟨rfl, hb⟩
end Go.Proofs.Qxb6000604aDoor

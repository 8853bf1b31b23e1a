/-
  AppendError by its contract: onto nil, or onto a slice that the call itself owns.
-/
import Derived.Test.Qxb6000604aProg
import Derived.Test.Qxb6000604aOwn
import Derived.Test.Qxb6000604aPlain
import Derived.WalkSpells
namespace Go.Proofs.Qxb6000604a
open Go.RowKit Go.Lib

theorem info5 : (Try.prog.info? 5).map (fun i => (i.zero, i.size, i.bytes)) = some (some (.int .u8 0), 1, 1) := by kernel_rfl

/-- Cells of numbers. -/
def cellsI (l : List Int) : List Value := l.map (Value.int .u8)

theorem crlf : strCells { data := #[13, 10] } = [Value.int .u8 13, Value.int .u8 10] := rfl

theorem err_start {B n : Nat} {v0 v1 : Value} {xs : List Int} {s : ByteArray} {w w1 : World} {o : Obj}
    (hown' : w1.ownsRow B 5 1 v1 (n + 1) (cellsI xs ++ [.int .u8 45])) (hg : Grew (w.alloc o) w1 v0 v1) :
    w1.ownsRow B 5 1 v1 (n + 1 + 0) (cellsI (xs ++ headI s 0)) ∧ Grew w w1 v0 v1 :=
  ⟨by rw [headI_zero]; simpa [cellsI] using hown', (Grew.alloc w v0 o).trans hg⟩

theorem err_step {B n k : Nat} {v0 v v' : Value} {xs : List Int} {s : ByteArray} {w wr w1 : World} {o : Obj} {c : Int} (hk : k < s.size) (hc : sanI ((s[k].toNat : Nat) : Int) = c)
    (hgr : Grew w wr v0 v) (hown' : w1.ownsRow B 5 1 v' (n + 1 + k + 1) (cellsI (xs ++ headI s k) ++ [.int .u8 c])) (hg : Grew (wr.alloc o) w1 v v') :
    w1.ownsRow B 5 1 v' (n + 1 + (k + 1)) (cellsI (xs ++ headI s (k + 1))) ∧ Grew w w1 v0 v' := by
  refine ⟨?_, hgr.trans ((Grew.alloc wr v o).trans hg)⟩
  rw [headI_succ s k hk, hc]
  simpa [cellsI, Nat.add_assoc] using hown'

theorem err_end {B n : Nat} {v0 v v' : Value} {xs : List Int} {s : ByteArray} {w wr w1 : World}
    (hgr : Grew w wr v0 v) (hown' : w1.ownsRow B 5 1 v' (n + 1 + s.size + 2) (cellsI (xs ++ headI s s.size) ++ strCells { data := #[13, 10] })) (hg : wr.grownBy w1 v.ownBlock) :
    w1.ownsRow B 5 1 v' (n + s.size + 3) (cellsI (xs ++ errI s)) ∧ w.grownBy w1 v0.ownBlock := by
  refine ⟨?_, ?_⟩
  · rw [← headI_full s]
    rw [crlf] at hown'
    have e : n + s.size + 3 = n + 1 + s.size + 2 := by omega
    rw [e]
    simpa [cellsI] using hown'
  · have h := hgr
    have hs := h.1.size
    refine ⟨hg.os.trans h.1.os, hg.tape.trans h.1.tape, hg.output.trans h.1.output, Nat.le_trans hs hg.size, fun j hj hne => ?_⟩
    refine (hg.block j (by omega) fun e => ?_).trans (h.1.block j hj hne)
    rcases h.2 j e.symm with h1 | h1
    · exact hne h1.symm
    · omega

set_option maxHeartbeats 800000 in
set_option maxRecDepth 100000 in
theorem appendError_any (B n : Nat) (v0 : Value) (xs : List Int) (s : ByteArray) (w : World) (hown : w.ownsRow B 5 1 v0 n (cellsI xs)) (hB : B ≤ w.heap.size) (hlim : n + s.size + 3 ≤ 1000000000) :
    Calls Try.prog 8 #[v0, .string s] w fun e w' => ∃ v', e = .returned v' ∧ w'.ownsRow B 5 1 v' (n + s.size + 3) (cellsI (xs ++ errI s)) ∧ w.grownBy w' v0.ownBlock := by
  obtain ⟨i0, hi, hz0, hz1, hz2⟩ := info_parts info5
  go_enter Try.func8, Try.ntmps8
  go_wp2_with (at_builtin; refine wpList_append_grew _ rfl (.tmp 7) (.tmp 8) 22 rfl B 5 i0 (.int .u8 0) 1 1 Try.underlying22 hi hz0 hz1 hz2 rfl (by decide) _ _ _ rfl (hown.alloc _) ⟨w.heap.size, 0, none⟩ 1 1 [.int .u8 45] rfl rfl ?c1 ?c2 ?c3 ?c4 ?c5 ?_)
  case c1 =>
    intro j u hj
    match j, hj with
    | 0, hj => simp at hj; subst hj; simp [Addr.add]
  case c2 => intro u hu; simp at hu; subst hu; rfl
  case c3 => unfold maxLen; omega
  case c4 => omega
  case c5 => simp; omega
  intro v1 w1 hown1 hg1
  have R := err_start (s := s) hown1 hg1
  clear hown1 hg1
  obtain ⟨R1, R2⟩ := R
  have hB1 : B ≤ w1.heap.size := Nat.le_trans hB R2.1.size
  go_wp2
  go_loopw [0, 12] (fun v i wr => ∃ k : Nat, k ≤ s.size ∧ i = .int .i64 k ∧ wr.ownsRow B 5 1 v (n + 1 + k) (cellsI (xs ++ headI s k)) ∧ Grew w wr v0 v) (fun _ i _ => s.size - (intOf i).toNat)
  case atStart => exact ⟨0, Nat.zero_le _, rfl, R1, R2⟩
  case round =>
    clear R1 R2 hB1
    obtain ⟨k, hk, rfl, hownk, hgr⟩ := hrel
    have hBr : B ≤ wr.heap.size := Nat.le_trans hB hgr.1.size
    by_cases hlt : k < s.size
    · rcases (show ((s[k].toNat : Nat) : Int) = 13 ∨ ((s[k].toNat : Nat) : Int) = 10 ∨ (¬ ((s[k].toNat : Nat) : Int) = 13 ∧ ¬ ((s[k].toNat : Nat) : Int) = 10) from by omega) with hc | hc | ⟨hc, hc'⟩
      · have HC : Hid (sanI ((s[k].toNat : Nat) : Int) = 32) := sanI_hit (.inl hc)
        have hcb : (((s[k].toNat : Nat) : Int) == 13) = true := by simpa using hc
        clear hc
        go_wp2_with (at_builtin; refine wpList_append_grew _ rfl (.tmp 24) (.tmp 26) 22 rfl B 5 i0 (.int .u8 0) 1 1 Try.underlying22 hi hz0 hz1 hz2 rfl (by decide) _ _ _ rfl (hownk.alloc _) ⟨wr.heap.size, 0, none⟩ 1 1 [.int .u8 32] rfl rfl (cell_one_new _ _ _) ?d2 ?d3 ?d4 ?d5 ?_)
        case d2 => intro u hu; simp at hu; subst hu; rfl
        case d3 => unfold maxLen; omega
        case d4 => omega
        case d5 => simp; omega
        intro v2 w2 hown2 hg2
        have R := err_step hlt HC.out hgr hown2 hg2
        clear hown2 hg2 hownk hgr
        go_wp2
        go_roundw
        case rel => exact ⟨k + 1, by omega, by go_num, R.1, R.2⟩
        case measure => simp [intOf]; omega
      · have HC : Hid (sanI ((s[k].toNat : Nat) : Int) = 32) := sanI_hit (.inr hc)
        have hcb : (((s[k].toNat : Nat) : Int) == 10) = true := by simpa using hc
        have hcc : (((s[k].toNat : Nat) : Int) == 13) = false := by rw [hc]; rfl
        clear hc
        go_wp2_with (at_builtin; refine wpList_append_grew _ rfl (.tmp 24) (.tmp 26) 22 rfl B 5 i0 (.int .u8 0) 1 1 Try.underlying22 hi hz0 hz1 hz2 rfl (by decide) _ _ _ rfl (hownk.alloc _) ⟨wr.heap.size, 0, none⟩ 1 1 [.int .u8 32] rfl rfl (cell_one_new _ _ _) ?f2 ?f3 ?f4 ?f5 ?_)
        case f2 => intro u hu; simp at hu; subst hu; rfl
        case f3 => unfold maxLen; omega
        case f4 => omega
        case f5 => simp; omega
        intro v2 w2 hown2 hg2
        have R := err_step hlt HC.out hgr hown2 hg2
        clear hown2 hg2 hownk hgr
        go_wp2
        go_roundw
        case rel => exact ⟨k + 1, by omega, by go_num, R.1, R.2⟩
        case measure => simp [intOf]; omega
      · have HC : Hid (sanI ((s[k].toNat : Nat) : Int) = ((s[k].toNat : Nat) : Int)) := sanI_miss hc hc'
        have hcb : (((s[k].toNat : Nat) : Int) == 13) = false := by simpa using hc
        have hcc : (((s[k].toNat : Nat) : Int) == 10) = false := by simpa using hc'
        clear hc hc'
        go_wp2_with (at_builtin; refine wpList_append_grew _ rfl (.tmp 24) (.tmp 26) 22 rfl B 5 i0 (.int .u8 0) 1 1 Try.underlying22 hi hz0 hz1 hz2 rfl (by decide) _ _ _ rfl (hownk.alloc _) ⟨wr.heap.size, 0, none⟩ 1 1 [.int .u8 ((s[k].toNat : Nat) : Int)] rfl rfl (cell_one_new _ _ _) ?g2 ?g3 ?g4 ?g5 ?_)
        case g2 => intro u hu; simp at hu; subst hu; rfl
        case g3 => unfold maxLen; omega
        case g4 => omega
        case g5 => simp; omega
        intro v2 w2 hown2 hg2
        have R := err_step hlt HC.out hgr hown2 hg2
        clear hown2 hg2 hownk hgr
        go_wp2
        go_roundw
        case rel => exact ⟨k + 1, by omega, by go_num, R.1, R.2⟩
        case measure => simp [intOf]; omega
    · have hke : k = s.size := by omega
      have HK : Hid (k = s.size) := hke
      clear hke
      go_wp2_with (at_builtin; refine wpList_append_own_string _ rfl (.tmp 29) (.const (.string { data := #[13, 10] })) 22 9 rfl B 5 i0 Try.underlying22 Try.underlying9 hi hz0 hz1 hz2 _ _ _ rfl hownk { data := #[13, 10] } rfl ?e1 ?e2 ?e3 ?_)
      case e1 => have hs2 : (ByteArray.size { data := #[13, 10] }) = 2 := rfl; rw [hs2]; unfold maxLen; omega
      case e2 => have hs2 : (ByteArray.size { data := #[13, 10] }) = 2 := rfl; rw [hs2]; omega
      case e3 => omega
      intro v2 w2 hown2 hg2 _
      have hke := HK.out
      subst hke
      have R := err_end hgr hown2 hg2
      clear hown2 hg2 hownk hgr
      go_wp2
      go_ret
      exact ⟨_, rfl, R.1, R.2⟩
/-- An owned row that is not empty, cell by cell. -/
theorem row_open {w : World} {B n : Nat} {v : Value} {xs : List Int} (h : w.ownsRow B 5 1 v n (cellsI xs)) (hn : 0 < n) :
    ∃ g cap, v = .slice (some ⟨g, 0, none⟩) n cap ∧ B ≤ g ∧ g < w.heap.size ∧ n ≤ cap ∧ cap ≤ maxLen ∧ xs.length = n ∧ ∀ j, j < n → w.cell? ⟨g, j, none⟩ = some (.int .u8 (xs.getD j 0)) := by
  have hl : xs.length = n := by have := h.1; simpa [cellsI] using this
  rcases h.2 with ⟨_, h0⟩ | ⟨g, cap, cur, rfl, hb, hg, hnc, hcm, _⟩
  · omega
  · refine ⟨g, cap, rfl, hb, (Array.getElem?_eq_some_iff.1 hg).1, hnc, hcm, hl, fun j hj => ?_⟩
    rw [h.cellAt j (by omega)]
    unfold cellsI
    rw [List.getElem?_map, List.getElem?_eq_getElem (by omega), List.getD_eq_getElem?_getD, List.getElem?_eq_getElem (by omega)]
    rfl

/-- AppendError(nil, s): a new row that holds the reply. -/
theorem appendError_nil (s : ByteArray) (m : Nat) (hm : s.size = m) (w : World) (hlim : m + 3 ≤ 1000000000) :
    Calls Try.prog 8 #[.slice none 0 0, .string s] w fun e w' => ∃ g cap, e = .returned (.slice (some ⟨g, 0, none⟩) (m + 3) cap) ∧ w.heap.size ≤ g ∧ g < w'.heap.size ∧ m + 3 ≤ cap ∧ cap ≤ maxLen ∧
      (∀ j, j < m + 3 → w'.cell? ⟨g, j, none⟩ = some (.int .u8 ((errI s).getD j 0))) ∧ Below w.heap.size w w' := by
  subst hm
  refine (appendError_any w.heap.size 0 (.slice none 0 0) [] s w (World.ownsRow_nil _ _ _ _) (Nat.le_refl _) (by omega)).mono ?_
  rintro e w' ⟨v', rfl, hown, hg⟩
  rw [Nat.zero_add, List.nil_append] at hown
  obtain ⟨g, cap, rfl, h1, h2, h3, h4, _, h5⟩ := row_open hown (by omega)
  exact ⟨g, cap, rfl, h1, h2, h3, h4, h5, (Below.refl _ _).grown hg (Nat.le_refl _) (fun k h => by cases h)⟩
end Go.Proofs.Qxb6000604a

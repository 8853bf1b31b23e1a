/-
  Rows of bytes that the call owns; zzCloneBytes by its contract.
-/
import Derived.Test.Qxb6000604aDoorProg
import Derived.WalkKit
import Derived.WalkSpells
import Derived.RegionTactic
import Derived.ChangeAlike
import Derived.Deep.QuietTactic
import Derived.BigQuiet
namespace Go.Proofs.Qxb6000604aDoor
open Go.RowKit

theorem info5 : (Tryd.prog.info? 5).map (fun i => (i.zero, i.size, i.bytes)) = some (some (.int .u8 0), 1, 1) := by kernel_rfl

/-- Cells of numbers. -/
def cellsI (l : List Int) : List Value := l.map (Value.int .u8)

/-- An owned row that is not empty, cell by cell. -/
theorem row_open {w : World} {B n : Nat} {v : Value} {xs : List Int} (h : w.ownsRow B 5 1 v n (cellsI xs)) (hn : 0 < n) :
    ∃ g cap, v = .slice (some ⟨g, 0, none⟩) n cap ∧ B ≤ g ∧ g < w.heap.size ∧ n ≤ cap ∧ cap ≤ maxLen ∧ xs.length = n ∧ ∀ j, j < n → w.cell? ⟨g, j, none⟩ = some (.int .u8 (xs.getD j 0)) := by
  have hl : xs.length = n := by have := h.1; simpa [cellsI] using this
  rcases h.2 with ⟨_, h0⟩ | ⟨g, cap, cur, rfl, hb, hg, hnc, hcm, _⟩
  · omega
  · refine ⟨g, cap, rfl, hb, (Array.getElem?_eq_some_iff.1 hg).1, hnc, hcm, hl, fun j hj => ?_⟩
    rw [h.cellAt j (by omega)]
    unfold cellsI
    rw [List.getElem?_map, List.getElem?_eq_getElem (by omega), List.getD_eq_getElem?_getD, List.getElem?_eq_getElem (by omega)]
    rfl

theorem eqNil (w : World) (a : Option Addr) (n c : Nat) : (binOp .eql 22 (.slice a n c) (.slice none 0 0)).run Tryd.prog w = .ok (.bool a.isNone) w := Lib.run_eql_slice_nil w _ _ a n c 0 0 Tryd.underlying22

theorem clone_nil (w : World) : Calls Tryd.prog 10 #[.slice none 0 0] w fun e w' => e = .returned (.slice none 0 0) ∧ w' = w := by
  have q := eqNil
  go_enter Tryd.func10, Tryd.ntmps10
  go_wp2
  go_ret
  exact ⟨rfl, rfl⟩

/-- k bytes are copied, the rest is zero. -/
def part (xs : List Int) (k : Nat) : List Int := xs.take k ++ List.replicate (xs.length - k) 0
theorem part_zero (xs : List Int) : part xs 0 = List.replicate xs.length 0 := by simp [part]
theorem part_full (xs : List Int) : part xs xs.length = xs := by simp [part]
theorem part_succ (xs : List Int) (k : Nat) (h : k < xs.length) : (part xs k).set k (xs.getD k 0) = part xs (k + 1) := by
  unfold part
  rw [List.set_append_right _ _ (by simp; omega)]
  rw [List.take_add_one, List.getElem?_eq_getElem h]
  have e : xs.length - k = (xs.length - (k + 1)) + 1 := by omega
  have e2 : k - (xs.take k).length = 0 := by simp; omega
  rw [e, e2, List.replicate_succ, List.set_cons_zero, List.append_assoc, List.getD_eq_getElem?_getD, List.getElem?_eq_getElem h]
  rfl

theorem made_cells (n : Nat) : (madeCells #[Value.int .u8 0] n).toList = cellsI (List.replicate n 0) := by
  rw [toList_madeCells_one, cellsI, List.map_replicate]

theorem clone_start {w w1 : World} {v : Value} {xs : List Int} {n : Nat} (hl : xs.length = n)
    (hown : w1.ownsRow w.heap.size 5 1 v n (madeCells #[Value.int .u8 0] n).toList) : w1.ownsRow w.heap.size 5 1 v n (cellsI (part xs 0)) := by
  rw [part_zero, hl, ← made_cells]; exact hown

theorem clone_step {B g n cap k : Nat} {wr : World} {xs : List Int} (hl : xs.length = n) (hk : k < n)
    (hown : wr.ownsRow B 5 1 (.slice (some ⟨g, 0, none⟩) n cap) n (cellsI (part xs k))) :
    (wr.setCell ⟨g, k, none⟩ (.int .u8 (xs.getD k 0))).ownsRow B 5 1 (.slice (some ⟨g, 0, none⟩) n cap) n (cellsI (part xs (k + 1))) := by
  have h := (hown.stored k (.int .u8 (xs.getD k 0))).1
  rw [← part_succ xs k (by omega)]
  unfold cellsI at h ⊢
  rwa [List.map_set]

theorem clone_cell {B g n cap k : Nat} {wr : World} {ys : List Int} (hown : wr.ownsRow B 5 1 (.slice (some ⟨g, 0, none⟩) n cap) n (cellsI ys)) (hk : k < n) :
    ∃ u, wr.cell? ⟨g, k, none⟩ = some u := by
  have h := hown.cellAt k (by omega)
  have hl : k < (cellsI ys).length := by rw [hown.1]; omega
  rw [List.getElem?_eq_getElem hl] at h
  exact ⟨_, h⟩

theorem clone_empty (x : Addr) (cap : Nat) (w : World) :
    Calls Tryd.prog 10 #[.slice (some x) 0 cap] w fun e w' => e = .returned (.slice (some ⟨w.heap.size, 0, none⟩) 0 0) ∧
      w'.ownsRow w.heap.size 5 1 (.slice (some ⟨w.heap.size, 0, none⟩) 0 0) 0 (cellsI []) ∧ Below w.heap.size w w' := by
  have q := eqNil
  obtain ⟨i0, hi, hz0, hz1, hz2⟩ := info_parts info5
  go_enter Tryd.func10, Tryd.ntmps10
  go_wp2_with (at_make; refine wpList_make_full _ rfl _ _ 22 rfl w.heap.size 5 i0 (.int .u8 0) 1 Tryd.underlying22 hi hz0 hz1 _ _ _ _ 0 rfl rfl rfl rfl ?c1 ?c2 ?c3 ?_)
  case c1 => simp
  case c2 => simp
  case c3 => simp
  intro w1 hown hg
  go_wp2
  refine wp_loop_rounds 1 ?_
  rw [rounds_succ]
  go_wp2
  go_ret
  exact ⟨rfl, clone_start (xs := []) rfl hown, (Below.refl _ _).grown hg (Nat.le_refl _) (fun k h => by cases h)⟩

set_option maxHeartbeats 800000 in
set_option maxRecDepth 100000 in
theorem clone_some (b off n cap : Nat) (xs : List Int) (w : World) (hn : n ≤ 1000000000) (hl : xs.length = n) (hbw : b < w.heap.size)
    (hc : ∀ j, j < n → w.cell? ⟨b, off + j, none⟩ = some (.int .u8 (xs.getD j 0))) :
    Calls Tryd.prog 10 #[.slice (some ⟨b, off, none⟩) n cap] w fun e w' => e = .returned (.slice (some ⟨w.heap.size, 0, none⟩) n n) ∧
      w'.ownsRow w.heap.size 5 1 (.slice (some ⟨w.heap.size, 0, none⟩) n n) n (cellsI xs) ∧ Below w.heap.size w w' := by
  have q := eqNil
  obtain ⟨i0, hi, hz0, hz1, hz2⟩ := info_parts info5
  have HL : Hid (xs.length = n) := hl
  clear hl
  go_enter Tryd.func10, Tryd.ntmps10
  go_wp2_with (at_make; refine wpList_make_full _ rfl _ _ 22 rfl w.heap.size 5 i0 (.int .u8 0) 1 Tryd.underlying22 hi hz0 hz1 _ _ _ _ n rfl rfl rfl rfl ?c1 ?c2 ?c3 ?_)
  case c1 => rw [hz2]; omega
  case c2 => unfold maxLen; omega
  case c3 => simp
  intro w1 hown hg
  have R1 := clone_start HL.out hown
  have R2 : Below w.heap.size w w1 := (Below.refl _ _).grown hg (Nat.le_refl _) (fun k h => by cases h)
  clear hown hg
  go_wp2
  go_loopw [4] (fun i wr => ∃ k : Nat, k ≤ n ∧ i = .int .i64 k ∧ wr.ownsRow w.heap.size 5 1 (.slice (some ⟨w.heap.size, 0, none⟩) n n) n (cellsI (part xs k)) ∧ Below w.heap.size w wr) (fun i _ => n - (intOf i).toNat)
  case atStart => exact ⟨0, Nat.zero_le _, rfl, R1, R2⟩
  case round =>
    clear R1 R2
    obtain ⟨k, hk, rfl, hownk, hbel⟩ := hrel
    by_cases hlt : k < n
    · have hcx : wr.cell? ⟨b, off + k, none⟩ = some (.int .u8 (xs.getD k 0)) := (hbel.cell (by exact hbw)).trans (hc k hlt)
      obtain ⟨u, hu⟩ := clone_cell hownk hlt
      have hf := hownk.frozenAt k
      have R := clone_step HL.out hlt hownk
      have hltI : (k : Int) < (n : Int) := by omega
      have R' : Below w.heap.size w (wr.setCell ⟨w.heap.size, k, none⟩ (.int .u8 (xs.getD k 0))) := hbel.setCell (Nat.le_refl _) _
      clear hc hownk hbel
      have HR := And.intro R R'
      have HR' : Hid _ := HR
      clear R R' HR
      obtain ⟨x, hx⟩ : ∃ x, x = xs.getD k 0 := ⟨_, rfl⟩
      rw [← hx] at hcx HR'
      clear hx
      go_wp2
      go_roundw
      case rel => exact ⟨k + 1, by omega, by go_num, HR'.out.1, HR'.out.2⟩
      case measure => simp [intOf]; omega
    · have hke : k = n := by omega
      go_wp2
      go_ret
      subst hke
      have hl := HL.out
      rw [← hl, part_full] at hownk
      exact ⟨rfl, hl ▸ hownk, hbel⟩

/-- In w the slice value v, of n bytes, reads as xs. -/
def Reads (w : World) (v : Value) (n : Nat) (xs : List Int) : Prop :=
  xs.length = n ∧ ((v = .slice none 0 0 ∧ n = 0) ∨ ∃ x cap, v = .slice (some x) n cap ∧ ∀ j, j < n → w.cell? (x.add j) = some (.int .u8 (xs.getD j 0)))

theorem reads_of_row {w : World} {B n : Nat} {v : Value} {xs : List Int} (h : w.ownsRow B 5 1 v n (cellsI xs)) : Reads w v n xs := by
  have hl : xs.length = n := by have := h.1; simpa [cellsI] using this
  refine ⟨hl, ?_⟩
  rcases h.2 with h0 | ⟨g, cap, cur, rfl, _⟩
  · exact .inl h0
  · refine .inr ⟨⟨g, 0, none⟩, cap, rfl, fun j hj => ?_⟩
    rw [Addr.add_lit, Nat.zero_add, h.cellAt j (by omega)]
    unfold cellsI
    rw [List.getElem?_map, List.getElem?_eq_getElem (by omega), List.getD_eq_getElem?_getD, List.getElem?_eq_getElem (by omega)]
    rfl

/-- zzCloneBytes at every slice of at most a thousand million bytes: nil, empty or not. -/
theorem clone_any (v : Value) (n : Nat) (xs : List Int) (w : World) (hn : n ≤ 1000000000) (h : Reads w v n xs) :
    Calls Tryd.prog 10 #[v] w fun e w' => ∃ a c, e = .returned (.slice a n c) ∧ w'.ownsRow w.heap.size 5 1 (.slice a n c) n (cellsI xs) ∧ Below w.heap.size w w' := by
  obtain ⟨hl, h⟩ := h
  rcases h with ⟨rfl, rfl⟩ | ⟨x, cap, rfl, hc⟩
  · obtain rfl : xs = [] := List.eq_nil_of_length_eq_zero hl
    refine (clone_nil w).mono ?_
    rintro e w' ⟨rfl, rfl⟩
    exact ⟨none, 0, rfl, World.ownsRow_nil _ _ _ _, Below.refl _ _⟩
  · rcases Nat.eq_zero_or_pos n with rfl | hp
    · obtain rfl : xs = [] := List.eq_nil_of_length_eq_zero hl
      refine (clone_empty x cap w).mono ?_
      rintro e w' ⟨rfl, h1, h2⟩
      exact ⟨_, _, rfl, h1, h2⟩
    · obtain ⟨b, off, spot⟩ := x
      have hspot : spot = none := by simpa [Addr.add] using World.cell?_spot (hc 0 hp)
      subst hspot
      have hc' : ∀ j, j < n → w.cell? ⟨b, off + j, none⟩ = some (.int .u8 (xs.getD j 0)) := fun j hj => by rw [← hc j hj, Addr.add_lit]
      refine (clone_some b off n cap xs w hn hl (World.block_lt_of_cell? w _ (hc' 0 hp)) hc').mono ?_
      rintro e w' ⟨rfl, h1, h2⟩
      exact ⟨_, _, rfl, h1, h2⟩

end Go.Proofs.Qxb6000604aDoor

/-
  zzCloneBytes by its contract: nil stays nil; else a new row, as long as what was read, and full.
-/
import Derived.Test.Qxb6000604aErr
import Derived.RegionTactic
import Derived.ChangeAlike
import Derived.Deep.QuietTactic
import Derived.BigQuiet
namespace Go.Proofs.Qxb6000604a
open Go.RowKit

theorem eqNil (w : World) (a : Option Addr) (n c : Nat) : (binOp .eql 22 (.slice a n c) (.slice none 0 0)).run Try.prog w = .ok (.bool a.isNone) w := Lib.run_eql_slice_nil w _ _ a n c 0 0 Try.underlying22

theorem clone_nil (w : World) : Calls Try.prog 7 #[.slice none 0 0] w fun e w' => e = .returned (.slice none 0 0) ∧ w' = w := by
  have q := eqNil
  go_enter Try.func7, Try.ntmps7
  go_wp2
  go_ret
  exact ⟨rfl, rfl⟩

/-- k bytes are copied, the rest is zero. -/
def part (xs : List Int) (k : Nat) : List Int := xs.take k ++ List.replicate (xs.length - k) 0
theorem part_zero (xs : List Int) : part xs 0 = List.replicate xs.length 0 := by simp [part]
theorem part_full (xs : List Int) : part xs xs.length = xs := by simp [part]
theorem part_succ (xs : List Int) (k : Nat) (h : k < xs.length) : (part xs k).set k (xs.getD k 0) = part xs (k + 1) := by
  unfold part
  rw [List.set_append_right _ _ (by simp; omega)]
  rw [List.take_add_one, List.getElem?_eq_getElem h]
  have e : xs.length - k = (xs.length - (k + 1)) + 1 := by omega
  have e2 : k - (xs.take k).length = 0 := by simp; omega
  rw [e, e2, List.replicate_succ, List.set_cons_zero, List.append_assoc, List.getD_eq_getElem?_getD, List.getElem?_eq_getElem h]
  rfl

theorem made_cells (n : Nat) : (madeCells #[Value.int .u8 0] n).toList = cellsI (List.replicate n 0) := by
  rw [toList_madeCells_one, cellsI, List.map_replicate]

theorem clone_start {w w1 : World} {v : Value} {xs : List Int} {n : Nat} (hl : xs.length = n)
    (hown : w1.ownsRow w.heap.size 5 1 v n (madeCells #[Value.int .u8 0] n).toList) : w1.ownsRow w.heap.size 5 1 v n (cellsI (part xs 0)) := by
  rw [part_zero, hl, ← made_cells]; exact hown

theorem clone_step {B g n cap k : Nat} {wr : World} {xs : List Int} (hl : xs.length = n) (hk : k < n)
    (hown : wr.ownsRow B 5 1 (.slice (some ⟨g, 0, none⟩) n cap) n (cellsI (part xs k))) :
    (wr.setCell ⟨g, k, none⟩ (.int .u8 (xs.getD k 0))).ownsRow B 5 1 (.slice (some ⟨g, 0, none⟩) n cap) n (cellsI (part xs (k + 1))) := by
  have h := (hown.stored k (.int .u8 (xs.getD k 0))).1
  rw [← part_succ xs k (by omega)]
  unfold cellsI at h ⊢
  rwa [List.map_set]

theorem clone_cell {B g n cap k : Nat} {wr : World} {ys : List Int} (hown : wr.ownsRow B 5 1 (.slice (some ⟨g, 0, none⟩) n cap) n (cellsI ys)) (hk : k < n) :
    ∃ u, wr.cell? ⟨g, k, none⟩ = some u := by
  have h := hown.cellAt k (by omega)
  have hl : k < (cellsI ys).length := by rw [hown.1]; omega
  rw [List.getElem?_eq_getElem hl] at h
  exact ⟨_, h⟩

theorem clone_empty (x : Addr) (cap : Nat) (w : World) :
    Calls Try.prog 7 #[.slice (some x) 0 cap] w fun e w' => e = .returned (.slice (some ⟨w.heap.size, 0, none⟩) 0 0) ∧
      w'.ownsRow w.heap.size 5 1 (.slice (some ⟨w.heap.size, 0, none⟩) 0 0) 0 (cellsI []) ∧ Below w.heap.size w w' := by
  have q := eqNil
  obtain ⟨i0, hi, hz0, hz1, hz2⟩ := info_parts info5
  go_enter Try.func7, Try.ntmps7
  go_wp2_with (at_make; refine wpList_make_full _ rfl _ _ 22 rfl w.heap.size 5 i0 (.int .u8 0) 1 Try.underlying22 hi hz0 hz1 _ _ _ _ 0 rfl rfl rfl rfl ?c1 ?c2 ?c3 ?_)
  case c1 => simp
  case c2 => simp
  case c3 => simp
  intro w1 hown hg
  go_wp2
  refine wp_loop_rounds 1 ?_
  rw [rounds_succ]
  go_wp2
  go_ret
  exact ⟨rfl, clone_start (xs := []) rfl hown, (Below.refl _ _).grown hg (Nat.le_refl _) (fun k h => by cases h)⟩

set_option maxHeartbeats 800000 in
set_option maxRecDepth 100000 in
theorem clone_some (b off n cap : Nat) (xs : List Int) (w : World) (hn : n ≤ 1000000000) (hl : xs.length = n) (hbw : b < w.heap.size)
    (hc : ∀ j, j < n → w.cell? ⟨b, off + j, none⟩ = some (.int .u8 (xs.getD j 0))) :
    Calls Try.prog 7 #[.slice (some ⟨b, off, none⟩) n cap] w fun e w' => e = .returned (.slice (some ⟨w.heap.size, 0, none⟩) n n) ∧
      w'.ownsRow w.heap.size 5 1 (.slice (some ⟨w.heap.size, 0, none⟩) n n) n (cellsI xs) ∧ Below w.heap.size w w' := by
  have q := eqNil
  obtain ⟨i0, hi, hz0, hz1, hz2⟩ := info_parts info5
  have HL : Hid (xs.length = n) := hl
  clear hl
  go_enter Try.func7, Try.ntmps7
  go_wp2_with (at_make; refine wpList_make_full _ rfl _ _ 22 rfl w.heap.size 5 i0 (.int .u8 0) 1 Try.underlying22 hi hz0 hz1 _ _ _ _ n rfl rfl rfl rfl ?c1 ?c2 ?c3 ?_)
  case c1 => rw [hz2]; omega
  case c2 => unfold maxLen; omega
  case c3 => simp
  intro w1 hown hg
  have R1 := clone_start HL.out hown
  have R2 : Below w.heap.size w w1 := (Below.refl _ _).grown hg (Nat.le_refl _) (fun k h => by cases h)
  clear hown hg
  go_wp2
  go_loopw [4] (fun i wr => ∃ k : Nat, k ≤ n ∧ i = .int .i64 k ∧ wr.ownsRow w.heap.size 5 1 (.slice (some ⟨w.heap.size, 0, none⟩) n n) n (cellsI (part xs k)) ∧ Below w.heap.size w wr) (fun i _ => n - (intOf i).toNat)
  case atStart => exact ⟨0, Nat.zero_le _, rfl, R1, R2⟩
  case round =>
    clear R1 R2
    obtain ⟨k, hk, rfl, hownk, hbel⟩ := hrel
    by_cases hlt : k < n
    · have hcx : wr.cell? ⟨b, off + k, none⟩ = some (.int .u8 (xs.getD k 0)) := (hbel.cell (by exact hbw)).trans (hc k hlt)
      obtain ⟨u, hu⟩ := clone_cell hownk hlt
      have hf := hownk.frozenAt k
      have R := clone_step HL.out hlt hownk
      have hltI : (k : Int) < (n : Int) := by omega
      have R' : Below w.heap.size w (wr.setCell ⟨w.heap.size, k, none⟩ (.int .u8 (xs.getD k 0))) := hbel.setCell (Nat.le_refl _) _
      clear hc hownk hbel
      have HR := And.intro R R'
      have HR' : Hid _ := HR
      clear R R' HR
      obtain ⟨x, hx⟩ : ∃ x, x = xs.getD k 0 := ⟨_, rfl⟩
      rw [← hx] at hcx HR'
      clear hx
      go_wp2
      go_roundw
      case rel => exact ⟨k + 1, by omega, by go_num, HR'.out.1, HR'.out.2⟩
      case measure => simp [intOf]; omega
    · have hke : k = n := by omega
      go_wp2
      go_ret
      subst hke
      have hl := HL.out
      rw [← hl, part_full] at hownk
      exact ⟨rfl, hl ▸ hownk, hbel⟩
end Go.Proofs.Qxb6000604a

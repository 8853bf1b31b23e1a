/-
  zzItoa by its contract: the decimal numeral.
-/
import Derived.Test.Qxb6000604aDoorResp
namespace Go.Proofs.Qxb6000604aDoor
open Go.RowKit Go.Lib

/-- Block g is the array of twenty bytes; from place k on it holds suf. -/
def Arr (w : World) (g k : Nat) (suf : List UInt8) : Prop := ∃ cur : Array Value, w.heap[g]? = some (.cells cur 39 (0, 0)) ∧ cur.size = 20 ∧ k + suf.length = 20 ∧ cur.toList.drop k = byteCells suf

theorem Arr.new (w : World) (cs : Array Value) (h : cs.size = 20) : Arr (w.alloc (.cells cs 39)) w.heap.size 20 [] :=
  ⟨cs, by show (w.heap.push _)[w.heap.size]? = _; simp, h, rfl, by rw [List.drop_of_length_le (by rw [Array.length_toList]; omega)]; rfl⟩
theorem Arr.there {w : World} {g k : Nat} {suf : List UInt8} (h : Arr w g k suf) (j : Nat) (hj : j < 20) : ∃ u, w.cell? ⟨g, j, none⟩ = some u := by
  obtain ⟨cur, hg, hs, _⟩ := h
  exact ⟨cur[j]'(by omega), by rw [cell_of_row w g j cur 39 (0, 0) hg, Array.getElem?_eq_getElem]⟩
theorem Arr.free {w : World} {g k : Nat} {suf : List UInt8} (h : Arr w g k suf) (j : Nat) : w.frozen? ⟨g, j, none⟩ = false := by
  obtain ⟨cur, hg, _⟩ := h
  exact frozen_of_row w g j cur 39 hg
theorem Arr.store {w : World} {g k : Nat} {suf : List UInt8} {b : UInt8} {x : Int} (h : Arr w g (k + 1) suf) (hx : x = (b.toNat : Int)) : Arr (w.setCell ⟨g, k, none⟩ (.int .u8 x)) g k (b :: suf) := by
  obtain ⟨cur, hg, hs, hk, hd⟩ := h
  refine ⟨cur.setIfInBounds k (.int .u8 x), heap_setCell_same w g k cur 39 _ hg, by simpa using hs, by rw [List.length_cons]; omega, ?_⟩
  rw [Array.toList_setIfInBounds]
  have hlen : k < (cur.toList.set k (Value.int .u8 x)).length := by rw [List.length_set, Array.length_toList]; omega
  rw [List.drop_eq_getElem_cons hlen, List.getElem_set_self]
  have e : (cur.toList.set k (Value.int .u8 x)).drop (k + 1) = cur.toList.drop (k + 1) := List.drop_set_of_lt (by omega)
  rw [e, hd, hx]
  rfl
theorem Arr.cell {w : World} {g k : Nat} {suf : List UInt8} (h : Arr w g k suf) (j : Nat) (hj : j < suf.length) : w.cell? ⟨g, k + j, none⟩ = some (.int .u8 ((suf[j]'hj).toNat : Int)) := by
  obtain ⟨cur, hg, hs, hk, hd⟩ := h
  rw [cell_of_row w g (k + j) cur 39 (0, 0) hg, ← Array.getElem?_toList, ← List.getElem?_drop, hd]
  simp [byteCells, hj]
theorem Arr.string {w : World} {g k : Nat} {suf : List UInt8} {c : Nat} (h : Arr w g k suf) : (convert 22 9 (.slice (some ⟨g, k, none⟩) (20 - k) c)).run Tryd.prog w = .ok (.string ⟨suf.toArray⟩) w := by
  have hl : 20 - k = suf.length := by obtain ⟨_, _, _, hk, _⟩ := h; omega
  rw [hl]
  exact run_convert_bytes_back (P := Tryd.prog) w 22 9 5 ⟨g, k, none⟩ c suf Tryd.underlying22 Tryd.underlying5 Tryd.underlying9 (fun j hj => by rw [Addr.add_lit]; exact h.cell j hj)

/-- The digits still to come. -/
def restD (r : Nat) : List UInt8 := if r = 0 then [] else decDigits r
theorem restD_step (r : Nat) (h : 0 < r) : restD r = restD (r / 10) ++ [UInt8.ofNat (48 + r % 10)] := by
  unfold restD
  rw [if_neg (by omega)]
  by_cases h10 : r < 10
  · rw [if_pos (by omega), dec_small h10, Nat.mod_eq_of_lt h10]; rfl
  · rw [if_neg (by omega), dec_big h10]

theorem cutk (g k : Nat) (hk : k < 20) (W : World) : (Instr.sliceAt 39 (.pointer (some ⟨g, 0, none⟩)) (some (.int .i64 (k : Int))) none none).run Tryd.prog W = .ok (.slice (some ⟨g, k, none⟩) (20 - k) (20 - k)) W := by
  have hal : Tryd.prog.arrayLen 39 = 20 := by simp [Program.arrayLen, Tryd.underlying39]
  have hsz : (sizeOf (Tryd.prog.elem 39)).run Tryd.prog W = .ok 1 W := by kernel_rfl
  rw [run_sliceAt_array_l W 39 ⟨g, 0, none⟩ (by simp [Program.arrayLen, Program.elem, Tryd.underlying39]) .i64 (k : Int) (by omega) (by rw [hal]; omega), hsz, hal]
  have hne : ¬ 20 = k := by omega
  simp [slicedAt, hne, Addr.add]
  omega

set_option maxHeartbeats 1600000 in
theorem itoa_zero (w : World) : Calls Tryd.prog 19 #[.int .i64 0] w fun e w' => e = .returned (.string ⟨(itoa 0).toArray⟩) ∧ Below w.heap.size w w' := by
  have hsl : ∀ W, (Instr.sliceAt 39 (.pointer (some ⟨w.heap.size, 0, none⟩)) (some (.int .i64 19)) none none).run Tryd.prog W = .ok (.slice (some ⟨w.heap.size, 19, none⟩) 1 1) W := fun W => cutk w.heap.size 19 (by decide) W
  have ha : Arr (w.alloc (.cells #[.int .u8 0, .int .u8 0, .int .u8 0, .int .u8 0, .int .u8 0, .int .u8 0, .int .u8 0, .int .u8 0, .int .u8 0, .int .u8 0, .int .u8 0, .int .u8 0, .int .u8 0, .int .u8 0, .int .u8 0, .int .u8 0, .int .u8 0, .int .u8 0, .int .u8 0, .int .u8 48] 39)) w.heap.size 19 [48] :=
    ⟨_, by show (w.heap.push _)[w.heap.size]? = _; simp; rfl, rfl, rfl, rfl⟩
  have hcv := ha.string (c := 1)
  have e0 : itoa 0 = [48] := by unfold itoa; rw [if_neg (by decide), show (0 : Int).toNat = 0 from rfl, dec_small (by decide)]; rfl
  rw [e0]
  clear ha e0
  go_enter Tryd.func19, Tryd.ntmps19
  go_wp2_with fail
  refine wp_loop_rounds 1 ?_
  rw [rounds_succ]
  go_wp2
  go_ret
  exact ⟨rfl, (Below.refl _ w).alloc (Nat.le_refl _) _⟩

/-- What one round of the loop does. -/
theorem itoa_round {r k u0 : Nat} {suf : List UInt8} (hr : 0 < r) (hk : k + suf.length = 20) (h : restD r ++ suf = decDigits u0) (hu : u0 ≤ 9223372036854775808) :
    ∃ k1, k = k1 + 1 ∧ 1 ≤ k1 ∧ k1 < 20 ∧ restD (r / 10) ++ UInt8.ofNat (48 + r % 10) :: suf = decDigits u0 := by
  have hl := dec_len u0 hu
  rw [restD_step r hr] at h
  have hlen : (decDigits u0).length = (restD (r / 10)).length + 1 + suf.length := by rw [← h]; simp; omega
  refine ⟨k - 1, by omega, by omega, by omega, ?_⟩
  rw [← h]; simp

set_option maxHeartbeats 1600000 in
theorem itoa_pos (u0 : Nat) (h0 : 0 < u0) (h1 : u0 ≤ 9223372036854775807) (w : World) : Calls Tryd.prog 19 #[.int .i64 (u0 : Int)] w fun e w' => e = .returned (.string ⟨(itoa (u0 : Int)).toArray⟩) ∧ Below w.heap.size w w' := by
  rw [itoa_nonneg]
  have HN := Arr.new w #[.int .u8 0, .int .u8 0, .int .u8 0, .int .u8 0, .int .u8 0, .int .u8 0, .int .u8 0, .int .u8 0, .int .u8 0, .int .u8 0, .int .u8 0, .int .u8 0, .int .u8 0, .int .u8 0, .int .u8 0, .int .u8 0, .int .u8 0, .int .u8 0, .int .u8 0, .int .u8 0] rfl
  have HA := Lib.hid HN
  have hz : ((u0 : Int) == 0) = false := by simp; omega
  obtain ⟨D, hD⟩ : ∃ D, D = decDigits u0 := ⟨_, rfl⟩
  have HST : Hid (restD u0 ++ [] = D) := by rw [hD, List.append_nil]; unfold restD; rw [if_neg (by omega)]; rfl
  have HD := Lib.hid hD
  rw [← hD]
  clear HN hD
  go_enter Tryd.func19, Tryd.ntmps19
  go_wp2_with fail
  go_loopw [4, 5] (fun vi vu wr => ∃ (k r : Nat) (suf : List UInt8), vi = .int .i64 (k : Int) ∧ vu = .int .u64 (r : Int) ∧ r ≤ u0 ∧ k ≤ 20 ∧ Arr wr w.heap.size k suf ∧ Hid (restD r ++ suf = D) ∧ Below w.heap.size w wr) (fun _ vu _ => (RowKit.intOf vu).toNat)
  case atStart => exact ⟨20, u0, [], rfl, rfl, Nat.le_refl _, Nat.le_refl _, HA.out, HST.out, (Below.refl _ w).alloc (Nat.le_refl _) _⟩
  case round =>
    clear HA HST hz
    obtain ⟨k, r, suf, rfl, rfl, hru, hk20, harr, hh, hbel⟩ := hrel
    by_cases hr : 0 < r
    · have hks : k + suf.length = 20 := by obtain ⟨_, _, _, hk, _⟩ := harr; exact hk
      obtain ⟨k1, rfl, hk1, hk19, hh'⟩ := itoa_round hr hks (by rw [hh.out]; exact HD.out) (by omega)
      have HH' : Hid (restD (r / 10) ++ UInt8.ofNat (48 + r % 10) :: suf = D) := hh'.trans HD.out.symm
      have hx : (48 + (r : Int) % 10) = ((UInt8.ofNat (48 + r % 10)).toNat : Int) := by rw [dig_of_nat _ (by omega)]; omega
      have HS := Lib.hid (harr.store hx)
      obtain ⟨u, hu⟩ := harr.there k1 (by omega)
      have hf := harr.free k1
      have HB : Hid (Below w.heap.size w (wr.setCell ⟨w.heap.size, k1, none⟩ (.int .u8 (48 + (r : Int) % 10)))) := hbel.setCell (Nat.le_refl _) _
      have hr0 : (0 : Int) < (r : Int) := by omega
      clear harr hbel hh hh' hx hks
      go_wp2
      go_roundw
      case rel => exact ⟨k1, r / 10, UInt8.ofNat (48 + r % 10) :: suf, by go_num, by go_num, by omega, by omega, HS.out, HH'.out, HB.out⟩
      case measure => simp [RowKit.intOf]; omega
    · have hr0 : r = 0 := by omega
      subst hr0
      have hks : k + suf.length = 20 := by obtain ⟨_, _, _, hk, _⟩ := harr; exact hk
      have hs : suf = D := hh.out
      have hl := dec_len u0 (by omega)
      have hpos := List.length_pos_iff.2 (dec_ne_nil u0)
      rw [← HD.out, ← hs] at hl hpos
      have hsl := cutk w.heap.size k (by omega)
      have hcv := harr.string (c := 20 - k)
      rw [hs] at hcv
      have HB := Lib.hid hbel
      clear harr hbel hh hks hl hpos hs
      go_wp2
      go_ret
      exact ⟨rfl, HB.out⟩
set_option maxHeartbeats 1600000 in
theorem itoa_minus (u0 : Nat) (h0 : 0 < u0) (h1 : u0 ≤ 9223372036854775808) (w : World) : Calls Tryd.prog 19 #[.int .i64 (-(u0 : Int))] w fun e w' => e = .returned (.string ⟨(itoa (-(u0 : Int))).toArray⟩) ∧ Below w.heap.size w w' := by
  rw [itoa_neg u0 h0]
  have hwr : IntKind.u64.wrap (-IntKind.u64.wrap (-(u0 : Int))) = (u0 : Int) := by rw [IntKind.wrap_u64, IntKind.wrap_u64]; omega
  have HN := Arr.new w #[.int .u8 0, .int .u8 0, .int .u8 0, .int .u8 0, .int .u8 0, .int .u8 0, .int .u8 0, .int .u8 0, .int .u8 0, .int .u8 0, .int .u8 0, .int .u8 0, .int .u8 0, .int .u8 0, .int .u8 0, .int .u8 0, .int .u8 0, .int .u8 0, .int .u8 0, .int .u8 0] rfl
  have HA := Lib.hid HN
  have hz : ((u0 : Int) == 0) = false := by simp; omega
  obtain ⟨D, hD⟩ : ∃ D, D = decDigits u0 := ⟨_, rfl⟩
  have HST : Hid (restD u0 ++ [] = D) := by rw [hD, List.append_nil]; unfold restD; rw [if_neg (by omega)]; rfl
  have HD := Lib.hid hD
  rw [← hD]
  clear HN hD
  go_enter Tryd.func19, Tryd.ntmps19
  go_wp2_with fail
  go_loopw [4, 5] (fun vi vu wr => ∃ (k r : Nat) (suf : List UInt8), vi = .int .i64 (k : Int) ∧ vu = .int .u64 (r : Int) ∧ r ≤ u0 ∧ k ≤ 20 ∧ Arr wr w.heap.size k suf ∧ Hid (restD r ++ suf = D) ∧ Below w.heap.size w wr) (fun _ vu _ => (RowKit.intOf vu).toNat)
  case atStart => exact ⟨20, u0, [], rfl, rfl, Nat.le_refl _, Nat.le_refl _, HA.out, HST.out, (Below.refl _ w).alloc (Nat.le_refl _) _⟩
  case round =>
    clear HA HST hz hwr
    obtain ⟨k, r, suf, rfl, rfl, hru, hk20, harr, hh, hbel⟩ := hrel
    by_cases hr : 0 < r
    · have hks : k + suf.length = 20 := by obtain ⟨_, _, _, hk, _⟩ := harr; exact hk
      obtain ⟨k1, rfl, hk1, hk19, hh'⟩ := itoa_round hr hks (by rw [hh.out]; exact HD.out) (by omega)
      have HH' : Hid (restD (r / 10) ++ UInt8.ofNat (48 + r % 10) :: suf = D) := hh'.trans HD.out.symm
      have hx : (48 + (r : Int) % 10) = ((UInt8.ofNat (48 + r % 10)).toNat : Int) := by rw [dig_of_nat _ (by omega)]; omega
      have HS := Lib.hid (harr.store hx)
      obtain ⟨u, hu⟩ := harr.there k1 (by omega)
      have hf := harr.free k1
      have HB : Hid (Below w.heap.size w (wr.setCell ⟨w.heap.size, k1, none⟩ (.int .u8 (48 + (r : Int) % 10)))) := hbel.setCell (Nat.le_refl _) _
      have hr0 : (0 : Int) < (r : Int) := by omega
      clear harr hbel hh hh' hx hks
      go_wp2
      go_roundw
      case rel => exact ⟨k1, r / 10, UInt8.ofNat (48 + r % 10) :: suf, by go_num, by go_num, by omega, by omega, HS.out, HH'.out, HB.out⟩
      case measure => simp [RowKit.intOf]; omega
    · have hr0 : r = 0 := by omega
      subst hr0
      have hks : k + suf.length = 20 := by obtain ⟨_, _, _, hk, _⟩ := harr; exact hk
      have hs : suf = D := hh.out
      have hl := dec_len u0 (by omega)
      have hpos := List.length_pos_iff.2 (dec_ne_nil u0)
      rw [← HD.out, ← hs] at hl hpos
      obtain ⟨k1, rfl⟩ : ∃ k1, k = k1 + 1 := ⟨k - 1, by omega⟩
      have hsl := cutk w.heap.size k1 (by omega)
      have hs1 := harr.store (b := 45) (x := 45) rfl
      have hcv := hs1.string (c := 20 - k1)
      rw [hs] at hcv
      obtain ⟨u, hu⟩ := harr.there k1 (by omega)
      have hf := harr.free k1
      have HB : Hid (Below w.heap.size w (wr.setCell ⟨w.heap.size, k1, none⟩ (.int .u8 45))) := hbel.setCell (Nat.le_refl _) _
      clear harr hbel hh hks hl hpos hs hs1
      go_wp2
      go_ret
      exact ⟨rfl, HB.out⟩

/-- zzItoa at every int64. -/
theorem itoa_any (n : Int) (h0 : -9223372036854775808 ≤ n) (h1 : n ≤ 9223372036854775807) (w : World) : Calls Tryd.prog 19 #[.int .i64 n] w fun e w' => e = .returned (.string ⟨(itoa n).toArray⟩) ∧ Below w.heap.size w w' := by
  rcases (show n < 0 ∨ n = 0 ∨ 0 < n from by omega) with h | rfl | h
  · obtain ⟨u, rfl⟩ : ∃ u : Nat, n = -(u : Int) := ⟨n.natAbs, by omega⟩
    exact itoa_minus u (by omega) (by omega) w
  · exact itoa_zero w
  · obtain ⟨u, rfl⟩ : ∃ u : Nat, n = (u : Int) := ⟨n.toNat, by omega⟩
    exact itoa_pos u (by omega) (by omega) w

set_option maxHeartbeats 800000 in
/-- FnParseIntRoundTrip at every int64. -/
theorem round_any (n : Int) (h0 : -9223372036854775808 ≤ n) (h1 : n ≤ 9223372036854775807) (w : World) (hnd : ND w) (te tr : TypeId) (pe pr : Value) (hv0 : w.cell? ⟨0, 0, none⟩ = some (.iface te pe)) (hv1 : w.cell? ⟨1, 0, none⟩ = some (.iface tr pr)) :
    Calls Tryd.prog 6 #[.int .i64 n] w fun e w' => e = .returned (.bool true) ∧ Below w.heap.size w w' := by
  have hb0 : 0 < w.heap.size := World.block_lt_of_cell? w _ hv0
  have hb1 : 1 < w.heap.size := World.block_lt_of_cell? w _ hv1
  have hok : canonOk (itoa n) = some n := by rw [canonOk_eq, canonP_itoa n h0 h1]
  obtain ⟨s, hs⟩ : ∃ s : ByteArray, s = ⟨(itoa n).toArray⟩ := ⟨_, rfl⟩
  have hsl : s.data.toList = itoa n := by rw [hs]
  have hsz : s.size ≤ 281474976710656 := by
    have e : s.size = (itoa n).length := by rw [← hsl, Array.length_toList]; rfl
    have hl : (itoa n).length ≤ 21 := itoa_length_le n h0 h1
    omega
  have HI := Lib.hid (itoa_any n h0 h1 w)
  rw [← hs] at HI
  have HP : Hid (∀ W, Below w.heap.size w W → Calls Tryd.prog 18 #[.string s] W fun e w' => e = .returned (.tuple #[.int .i64 n, .bool true]) ∧ Below W.heap.size W w') := fun W hW => by
    have hndW : ND W := fun W' u a b hb => hnd W' u a b (hW.trans (hb.mono hW.size))
    refine (resp_any s W hsz hndW te tr pe pr ((hW.cell (p := ⟨0, 0, none⟩) hb0).trans hv0) ((hW.cell (p := ⟨1, 0, none⟩) hb1).trans hv1)).mono ?_
    rintro e w' ⟨v, rfl, hv, hB⟩
    rw [hsl, hok] at hv ⊢
    rw [hv n rfl]
    exact ⟨rfl, hB⟩
  clear hnd hv0 hv1 hok hs hsl hsz
  go_enter Tryd.func6, Tryd.ntmps6
  go_wp2_with (first | (go_at_call 19; refine HI.out.mono ?_; rintro e w1 ⟨rfl, hb1⟩) | (go_at_call 18; refine (HP.out _ hb1).mono ?_; rintro e w2 ⟨rfl, hb2⟩))
  go_ret
  exact ⟨rfl, hb1.trans (hb2.mono hb1.size)⟩
end Go.Proofs.Qxb6000604aDoor

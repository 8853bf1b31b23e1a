/-
  strconv.AppendInt at base 10 onto a buffer of twenty bytes: the numeral is laid in the buffer itself.
-/
import Derived.Test.Qxb6000604aDoorBuf
import Derived.Test.Qxb6000604aDoorShelf2
import Derived.Lib.Walk
import Derived.Lib.ItoaWalk
import Derived.Lib.ItoaMem
import Derived.Lib.ItoaLen
import Derived.Lib.AppendIntMem
import Derived.Lib.Slices
import Derived.Lib.Hide
import Derived.OwnWalk
import Derived.WalkKit
import Derived.WalkSpells
import Derived.BigCall
import Derived.BigGuard
import Derived.CellFam
namespace Go.Proofs.Qxb6000604aDoor
open Go.RowKit Go.Sort Go.Lib

theorem info5u : (Tryd.prog.info? 5).map (fun i => (i.zero, i.size, i.bytes)) = some (some (.int .u8 0), 1, 1) := by kernel_rfl

/-- In every world that is as w0 was below w0's own size, numDigits counts the digits: what the table of powers of ten gives. -/
def ND (w0 : World) : Prop := ∀ (W : World) (u : Nat), 1 ≤ u → u < 18446744073709551616 → Below w0.heap.size w0 W → Calls Tryd.prog 42 #[.int .u64 u] W fun e w' => e = .returned (.int .i64 (nDigits u)) ∧ w' = W

set_option maxHeartbeats 1600000 in
set_option maxRecDepth 100000 in
theorem appendUint_small (g n u : Nat) (hu : u < 100) (T : TypeId) (xs : List Value) (w : World) (hb : Buf w g n T xs) (hroom : n + (decDigits u).length ≤ 20) :
    Calls Tryd.prog 35 #[.slice (some ⟨g, 0, none⟩) n 20, .int .u64 u, .int .i64 10] w fun e w' =>
      e = .returned (.slice (some ⟨g, 0, none⟩) (n + (decDigits u).length) 20) ∧ Buf w' g (n + (decDigits u).length) T (xs ++ byteCells (decDigits u)) ∧ w.grownBy w' (some g) := by
  obtain ⟨i0, hi, hz0, hz1, hz2⟩ := info_parts info5u
  have hsz : (⟨(decDigits u).toArray⟩ : ByteArray).size = (decDigits u).length := by simp [ByteArray.size]
  obtain ⟨s, hs⟩ : ∃ s : ByteArray, s = ⟨(decDigits u).toArray⟩ := ⟨_, rfl⟩
  have HS := Lib.hid hs
  have H := fun W => Tryd.internal_strconv_small u hu W
  rw [← hs] at H hsz
  have HH := Lib.hid H
  have hr2 : n + s.size ≤ 20 := by rw [hsz]; exact hroom
  have HSZ := Lib.hid hsz
  have HB := Lib.hid hb
  clear H hs hsz hb hroom
  go_enter Tryd.func35, Tryd.ntmps35
  go_wp2_with (first
    | (go_at_call 41; refine (HH.out _).mono ?_; rintro e w' ⟨rfl, rfl⟩)
    | (at_builtin; refine wpList_append_buf_string _ rfl (.tmp 13) (.tmp 16) 22 9 rfl 5 i0 Tryd.underlying22 Tryd.underlying9 hi hz1 g n T xs rfl HB.out s rfl hr2 ?_))
  intro w1 hb1 hg1
  have HB1 := Lib.hid hb1
  have HG1 := Lib.hid hg1
  clear hb1 hg1
  go_wp2
  go_ret
  have e1 := HSZ.out
  have e2 := HS.out
  refine ⟨by rw [e1]; rfl, ?_, HG1.out⟩
  have h := HB1.out
  rw [e1] at h
  rw [e2, strCells_toArray] at h
  exact h

set_option maxHeartbeats 3200000 in
set_option maxRecDepth 100000 in
theorem appendUint_big (g n u : Nat) (hu : 100 ≤ u) (hu64 : u < 18446744073709551616) (T : TypeId) (xs : List Value) (w0 w : World) (hnd : ND w0) (h0 : Below w0.heap.size w0 w) (hb : Buf w g n T xs) (hroom : n + (decDigits u).length ≤ 20) :
    Calls Tryd.prog 35 #[.slice (some ⟨g, 0, none⟩) n 20, .int .u64 u, .int .i64 10] w fun e w' =>
      e = .returned (.slice (some ⟨g, 0, none⟩) (n + (decDigits u).length) 20) ∧ Buf w' g (n + (decDigits u).length) T (xs ++ byteCells (decDigits u)) ∧ w.grownBy w' (some g) := by
  obtain ⟨i0, hi, hz0, hz1, hz2⟩ := info_parts info5u
  have hu1 : 1 ≤ u := by omega
  have hnd20 : nDigits u ≤ 20 := by rw [← decDigits_length]; omega
  have hal : Tryd.prog.arrayLen 60 = 24 := by simp [Program.arrayLen, Tryd.underlying60]
  have hsl : ∀ W, (Instr.sliceAt 60 (.pointer (some ⟨w.heap.size, 0, none⟩)) none (some (.int .i64 (nDigits u : Int))) none).run Tryd.prog W = .ok (.slice (some ⟨w.heap.size, 0, none⟩) (nDigits u) 24) W := fun W => by
    rw [run_sliceAt_array_h W 60 ⟨w.heap.size, 0, none⟩ (by simp [Program.arrayLen, Program.elem, Tryd.underlying60]) .i64 (nDigits u : Int) (by omega) (by rw [hal]; omega)]
    go_simp
  have hH0 := holds_zero0 w 60 (nDigits u) (by omega)
  have hfmt := Tryd.internal_strconv_formatBase10 w.heap.size 0 24 u (Array.replicate (nDigits u) 0) (w.alloc (.cells zeros24 60)) hH0 (by rw [Array.size_replicate]; exact lt_pow_nDigits u) hu64 (by rw [Array.size_replicate]; omega)
  rw [Array.size_replicate] at hfmt
  have HH0 := Lib.hid hH0
  have HN := Lib.hid (hnd (w.alloc (.cells zeros24 60)) u hu1 hu64 (h0.alloc h0.size _))
  have HFMT := Lib.hid hfmt
  have HBUF := Lib.hid hb
  have iu : (100 : Int) ≤ (u : Int) := by omega
  clear hH0 hal hnd h0 hfmt hb
  go_enter Tryd.func35, Tryd.ntmps35
  go_wp2_with (first
    | (go_at_call 42; refine HN.out.mono ?_; rintro e w' ⟨rfl, rfl⟩))
  refine HFMT.out.mono ?_
  rintro e w' ⟨rfl, k, v', dk, rfl, hF⟩
  have hcells : ∀ j u', (byteCells (decDigits u))[j]? = some u' → ((putRow (fun (b : UInt8) => Value.int .u8 (b.toNat : Int)) (w.alloc (.cells zeros24 60)) w.heap.size 0 dk).drewN k).cell? ((⟨w.heap.size, 0, none⟩ : Addr).add j) = some u' := by
    intro j u' hj
    have hjl : j < (decDigits u).length := by
      have h5 := (List.getElem?_eq_some_iff.1 hj).1
      rwa [byteCells_length] at h5
    have e5 : (byteCells (decDigits u))[j]? = some (Value.int .u8 ((decDigits u)[j].toNat : Int)) := by simp [byteCells, hjl]
    rw [e5] at hj
    cases hj
    rw [row_is_numeral hF j hjl, Lib.add_plain, World.cell?_drewN]
    exact cell?_putRow (fun (b : UInt8) => Value.int .u8 (b.toNat : Int)) _ w.heap.size 0 _ dk HH0.out (by rw [hF.size, Array.size_replicate]) j (by rw [hF.size]; rw [decDigits_length] at hjl; exact hjl)
  obtain ⟨os, eo⟩ := fin_at w (.cells zeros24 60) dk k 0
  have hnx2 : Below w.heap.size w ((putRow (fun (b : UInt8) => Value.int .u8 (b.toNat : Int)) (w.alloc (.cells zeros24 60)) w.heap.size 0 dk).drewN k) := by rw [eo]; exact below_grow w.heap.size w (Nat.le_refl _) k os
  generalize (putRow (fun (b : UInt8) => Value.int .u8 (b.toNat : Int)) (w.alloc (.cells zeros24 60)) w.heap.size 0 dk).drewN k = W2 at hcells hnx2 ⊢
  have hb2 : Buf W2 g n T xs := HBUF.out.below hnx2 HBUF.out.lt
  have HG2 := Lib.hid (kept_below (some g) hnx2)
  clear eo HH0 HFMT hnx2 HBUF
  go_wp2_with (at_builtin; refine wpList_append_buf _ rfl (.tmp 24) (.tmp 26) 22 rfl 5 i0 Tryd.underlying22 hi hz1 g n T xs rfl hb2 ⟨w.heap.size, 0, none⟩ (nDigits u) 24 (byteCells (decDigits u)) rfl ?c0 hcells ?c2 ?c3 ?_)
  case c0 => rw [byteCells_length, decDigits_length]
  case c2 => intro u' hu'; simp only [byteCells, List.mem_map] at hu'; obtain ⟨b, _, rfl⟩ := hu'; rfl
  case c3 => rw [← decDigits_length]; exact hroom
  intro w3 hb3 hg3
  have HB3 := Lib.hid hb3
  have HG3 := Lib.hid (kept_trans HG2.out hg3)
  clear hb3 hg3 hcells hb2 hsl
  go_wp2
  go_ret
  exact ⟨by rw [decDigits_length]; rfl, by rw [decDigits_length]; exact HB3.out, HG3.out⟩

theorem nDigits_le : ∀ (k u : Nat), u < 10 ^ (k + 1) → nDigits u ≤ k + 1
  | 0, u, h => by rw [nDigits_small (by simpa using h)]; exact Nat.le_refl _
  | k + 1, u, h => by
    by_cases h10 : u < 10
    · rw [nDigits_small h10]; omega
    · rw [nDigits_big h10]
      have := nDigits_le k (u / 10) (by rw [Nat.pow_succ] at h; omega)
      omega
theorem dec_le19 (u : Nat) (h : u ≤ 9223372036854775808) : (decDigits u).length ≤ 19 := by
  rw [decDigits_length]; exact nDigits_le 18 u (by omega)

theorem appendUint_any (g n u : Nat) (hu64 : u < 18446744073709551616) (T : TypeId) (xs : List Value) (w0 w : World) (hnd : ND w0) (h0 : Below w0.heap.size w0 w) (hb : Buf w g n T xs) (hroom : n + (decDigits u).length ≤ 20) :
    Calls Tryd.prog 35 #[.slice (some ⟨g, 0, none⟩) n 20, .int .u64 u, .int .i64 10] w fun e w' =>
      e = .returned (.slice (some ⟨g, 0, none⟩) (n + (decDigits u).length) 20) ∧ Buf w' g (n + (decDigits u).length) T (xs ++ byteCells (decDigits u)) ∧ w.grownBy w' (some g) := by
  by_cases h : u < 100
  · exact appendUint_small g n u h T xs w hb hroom
  · exact appendUint_big g n u (by omega) hu64 T xs w0 w hnd h0 hb hroom

set_option maxHeartbeats 1600000 in
set_option maxRecDepth 100000 in
theorem appendInt_inner (g : Nat) (i : Int) (h0 : -9223372036854775808 ≤ i) (h1 : i ≤ 9223372036854775807) (T : TypeId) (w0 w : World) (hnd : ND w0) (hw : Below w0.heap.size w0 w) (hg0 : w0.heap.size ≤ g) (hb : Buf w g 0 T []) :
    Calls Tryd.prog 29 #[.slice (some ⟨g, 0, none⟩) 0 20, .int .i64 i, .int .i64 10] w fun e w' =>
      e = .returned (.slice (some ⟨g, 0, none⟩) (itoa i).length 20) ∧ Buf w' g (itoa i).length T (byteCells (itoa i)) ∧ w.grownBy w' (some g) := by
  obtain ⟨i0, hi, hz0, hz1, hz2⟩ := info_parts info5u
  have HND := Lib.hid hnd
  have HW := Lib.hid hw
  have HB := Lib.hid hb
  clear hnd hw hb
  by_cases hneg : i < 0
  · obtain ⟨u, rfl⟩ : ∃ u : Nat, i = -(u : Int) := ⟨i.natAbs, by omega⟩
    have hu1 : 1 ≤ u := by omega
    have hu64 : u < 18446744073709551616 := by omega
    have hlen := dec_le19 u (by omega)
    have hwr : IntKind.u64.wrap (-IntKind.u64.wrap (-(u : Int))) = (u : Int) := by rw [IntKind.wrap_u64, IntKind.wrap_u64]; omega
    rw [itoa_neg u hu1]
    go_enter Tryd.func29, Tryd.ntmps29
    go_wp2_with (at_builtin; refine wpList_append_buf _ rfl (.tmp 12) (.tmp 13) 22 rfl 5 i0 Tryd.underlying22 hi hz1 g 0 T [] rfl (HB.out.alloc _) ⟨w.heap.size, 0, none⟩ 1 1 [.int .u8 45] rfl rfl (cell_one_new _ _ _) ?c2 ?c3 ?_)
    case c2 => intro u' hu'; simp at hu'; subst hu'; rfl
    case c3 => decide
    intro w1 hb1 hg1
    have hk1 : w.grownBy w1 (some g) := kept_trans (World.grownBy_alloc w _ (some g)) hg1
    have hw1 : Below w0.heap.size w0 w1 := HW.out.grown hk1 HW.out.size (fun k hk => by simp at hk; omega)
    have HU := Lib.hid (appendUint_any g 1 u hu64 T [.int .u8 45] w0 w1 HND.out hw1 hb1 (by omega))
    have HK1 := Lib.hid hk1
    clear hb1 hg1 hk1 hw1
    go_wp2_with (go_at_call 35; refine HU.out.mono ?_; rintro e w2 ⟨rfl, hb2, hg2⟩)
    go_ret
    have e1 : (decDigits u).length + 1 = 1 + (decDigits u).length := Nat.add_comm _ _
    exact ⟨by rw [e1]; rfl, by rw [e1]; exact hb2, kept_trans HK1.out hg2⟩
  · obtain ⟨u, rfl⟩ : ∃ u : Nat, i = u := ⟨i.toNat, by omega⟩
    have hu64 : u < 18446744073709551616 := by omega
    have hlen := dec_le19 u (by omega)
    rw [itoa_nonneg]
    have HU := Lib.hid (appendUint_any g 0 u hu64 T [] w0 w HND.out HW.out HB.out (by omega))
    rw [Nat.zero_add, List.nil_append] at HU
    go_enter Tryd.func29, Tryd.ntmps29
    go_wp2_with (go_at_call 35; refine HU.out.mono ?_; rintro e w2 ⟨rfl, hb2, hg2⟩)
    go_ret
    exact ⟨rfl, hb2, hg2⟩

/-- strconv.AppendInt(buf[:0], i, 10). -/
theorem appendInt_any (g : Nat) (i : Int) (h0 : -9223372036854775808 ≤ i) (h1 : i ≤ 9223372036854775807) (T : TypeId) (w0 w : World) (hnd : ND w0) (hw : Below w0.heap.size w0 w) (hg0 : w0.heap.size ≤ g) (hb : Buf w g 0 T []) :
    Calls Tryd.prog 25 #[.slice (some ⟨g, 0, none⟩) 0 20, .int .i64 i, .int .i64 10] w fun e w' =>
      e = .returned (.slice (some ⟨g, 0, none⟩) (itoa i).length 20) ∧ Buf w' g (itoa i).length T (byteCells (itoa i)) ∧ w.grownBy w' (some g) := by
  have HI := Lib.hid (appendInt_inner g i h0 h1 T w0 w hnd hw hg0 hb)
  obtain ⟨m, hm⟩ : ∃ m, m = (itoa i).length := ⟨_, rfl⟩
  obtain ⟨bs, hbs⟩ : ∃ bs, bs = byteCells (itoa i) := ⟨_, rfl⟩
  rw [← hm, ← hbs] at HI ⊢
  clear hm hbs hnd hw hb
  go_enter Tryd.func25, Tryd.ntmps25
  go_wp2_with (go_at_call 29; refine HI.out.mono ?_; rintro e w2 ⟨rfl, hb2, hg2⟩)
  go_ret
  exact ⟨rfl, hb2, hg2⟩
end Go.Proofs.Qxb6000604aDoor

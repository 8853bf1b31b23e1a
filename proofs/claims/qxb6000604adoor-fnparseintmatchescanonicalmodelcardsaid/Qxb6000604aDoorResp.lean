/-
  resp.ParseInt by its contract.
-/
import Derived.Test.Qxb6000604aDoorAppInt
import Derived.Test.Qxb6000604aDoorNum
import Derived.Lib.ConvBytes
import Derived.Laws.IdiomStrings
import Derived.RegionTactic
import Derived.ChangeAlike
import Derived.Deep.RegionWith
import Derived.Deep.QuietTactic
import Derived.BigQuiet
import Derived.WalkLawsBesides
namespace Go.Proofs.Qxb6000604aDoor
open Go.RowKit Go.Lib

/-- The twenty zeros of 'var canonical [20]byte'. -/
theorem buf_new (w : World) (cs : Array Value) (h : cs.size = 20) : Buf (w.alloc (.cells cs 39)) w.heap.size 0 39 [] :=
  ⟨cs, by show (w.heap.push _)[w.heap.size]? = _; simp, h, by omega, by simp⟩

theorem cut0 (g : Nat) (W : World) : (Instr.sliceAt 39 (.pointer (some ⟨g, 0, none⟩)) none (some (.int .i64 0)) none).run Tryd.prog W = .ok (.slice (some ⟨g, 0, none⟩) 0 20) W := by
  have hal : Tryd.prog.arrayLen 39 = 20 := by simp [Program.arrayLen, Tryd.underlying39]
  rw [run_sliceAt_array_h W 39 ⟨g, 0, none⟩ (by simp [Program.arrayLen, Program.elem, Tryd.underlying39]) .i64 0 (by omega) (by rw [hal]; omega)]
  go_simp

theorem conv_itoa {w : World} {g m : Nat} {l : List UInt8} {t : ByteArray} (hm : m = l.length) (ht : t = ⟨l.toArray⟩) (hb : Buf w g m 39 (byteCells l)) :
    (convert 22 9 (.slice (some ⟨g, 0, none⟩) m 20)).run Tryd.prog w = .ok (.string t) w := by
  subst hm ht
  refine run_convert_bytes_back (P := Tryd.prog) w 22 9 5 ⟨g, 0, none⟩ 20 l Tryd.underlying22 Tryd.underlying5 Tryd.underlying9 (fun j hj => ?_)
  rw [Addr.add_lit, Nat.zero_add, hb.cell j hj]
  simp [byteCells, hj]

/-- Behind the alloc and strconv.ParseInt: the buffer stands, all that was there stands. -/
theorem after_parse {w w1 : World} {cs : Array Value} (hcs : cs.size = 20) (h : w1 = w.alloc (.cells cs 39) ∨ ∃ t, w1 = bytesWorld (w.alloc (.cells cs 39)) 5 t) : Below w.heap.size w w1 ∧ Buf w1 w.heap.size 0 39 [] := by
  have hB : Below (w.heap.size + 1) (w.alloc (.cells cs 39)) w1 := by
    rcases h with rfl | ⟨t, rfl⟩
    · exact Below.refl _ _
    · have := bytesWorld_below (w.alloc (.cells cs 39)) 5 t
      simpa using this
  exact ⟨((Below.refl _ w).alloc (Nat.le_refl _) _).trans (hB.mono (by omega)), (buf_new w cs hcs).below hB (by omega)⟩

set_option maxHeartbeats 1600000 in
theorem resp_ok (s : ByteArray) (v : Int) (b : Bool) (w : World) (hs : s.size ≤ 9223372036854775806) (h : parseIntB 64 s.data.toList = .ok v) (h0 : -9223372036854775808 ≤ v) (h1 : v ≤ 9223372036854775807) (hnd : ND w)
    (hcmp : (ByteArray.toList ⟨(itoa v).toArray⟩ == s.toList) = b) :
    Calls Tryd.prog 18 #[.string s] w fun e w' => e = .returned (.tuple #[.int .i64 v, .bool b]) ∧ Below w.heap.size w w' := by
  have HP := Lib.hid (fun W => Tryd.strconv_ParseInt_10_at64_ok s hs v h W)
  have HND := Lib.hid hnd
  obtain ⟨m, hm⟩ : ∃ m, m = (itoa v).length := ⟨_, rfl⟩
  obtain ⟨t, ht⟩ : ∃ t : ByteArray, t = ⟨(itoa v).toArray⟩ := ⟨_, rfl⟩
  rw [← ht] at hcmp
  have HA : Hid (∀ W, Below w.heap.size w W → Buf W w.heap.size 0 39 [] → Calls Tryd.prog 25 #[.slice (some ⟨w.heap.size, 0, none⟩) 0 20, .int .i64 v, .int .i64 10] W fun e w' =>
      e = .returned (.slice (some ⟨w.heap.size, 0, none⟩) m 20) ∧ (convert 22 9 (.slice (some ⟨w.heap.size, 0, none⟩) m 20)).run Tryd.prog w' = .ok (.string t) w' ∧ Below w.heap.size w w') := fun W hW hB => by
    refine (appendInt_any w.heap.size v h0 h1 39 w W HND.out hW (Nat.le_refl _) hB).mono ?_
    rintro e w' ⟨he, hb', hg'⟩
    rw [← hm] at he hb'
    exact ⟨he, conv_itoa hm ht hb', hW.grown hg' hW.size (fun k hk => by simp at hk; omega)⟩
  have hsl := cut0 w.heap.size
  clear h hnd hm ht HND
  go_enter Tryd.func18, Tryd.ntmps18
  go_wp2_with fail
  refine (HP.out _).mono ?_
  rintro e w1 ⟨rfl, hw1⟩
  obtain ⟨hb1, hB1⟩ := after_parse rfl hw1
  have HB1 := Lib.hid hb1
  have HBU := Lib.hid hB1
  clear hw1 hb1 hB1 HP
  go_wp2_with fail
  go_region_with (go_at_call 25; refine (HA.out _ ?_ ?_).mono ?_; exact HB1.out.drew; exact HBU.out; rintro e w2 ⟨rfl, hcv, hb2⟩)
  all_goals
    go_wp2
    go_ret2
    exact ⟨rfl, hb2⟩

set_option maxHeartbeats 1600000 in
/-- strconv.ParseInt fails. -/
theorem resp_bad (s : ByteArray) (v : Int) (w : World)
    (hp : ∀ W, Below w.heap.size w W → Calls Tryd.prog 24 #[.string s, .int .i64 10, .int .i64 64] W fun e w' => ∃ N, e = .returned (.tuple #[.int .i64 v, .iface 50 (.pointer (some ⟨N, 0, none⟩))]) ∧ Below W.heap.size W w') :
    Calls Tryd.prog 18 #[.string s] w fun e w' => e = .returned (.tuple #[.int .i64 v, .bool false]) ∧ Below w.heap.size w w' := by
  have HP := Lib.hid hp
  clear hp
  go_enter Tryd.func18, Tryd.ntmps18
  go_wp2_with fail
  refine (HP.out _ ((Below.refl _ w).alloc (Nat.le_refl _) _)).mono ?_
  rintro e w1 ⟨N, rfl, hb1⟩
  have HB1 : Hid (Below w.heap.size w w1) := ((Below.refl _ w).alloc (Nat.le_refl _) _).trans (hb1.mono (by simp))
  clear hb1 HP
  go_wp2_with fail
  go_quiet (fail)
  go_wp2
  go_ret2
  exact ⟨rfl, below_drewN HB1.out _⟩

/-- resp.ParseInt at every string. -/
theorem resp_any (s : ByteArray) (w : World) (hs : s.size ≤ 281474976710656) (hnd : ND w) (te tr : TypeId) (pe pr : Value) (hv0 : w.cell? ⟨0, 0, none⟩ = some (.iface te pe)) (hv1 : w.cell? ⟨1, 0, none⟩ = some (.iface tr pr)) :
    Calls Tryd.prog 18 #[.string s] w fun e w' => ∃ v, e = .returned (.tuple #[.int .i64 v, .bool (canonOk s.data.toList).isSome]) ∧ (∀ x, canonOk s.data.toList = some x → v = x) ∧ Below w.heap.size w w' := by
  have hb0 : 0 < w.heap.size := World.block_lt_of_cell? w _ hv0
  have hb1 : 1 < w.heap.size := World.block_lt_of_cell? w _ hv1
  rcases hp : parseIntB 64 s.data.toList with v | _ | _
  · have hb := parseIntB_bounds hp
    have e : canonOk s.data.toList = if itoa v = s.data.toList then some v else none := by unfold canonOk; rw [hp]
    have hcmp : (ByteArray.toList ⟨(itoa v).toArray⟩ == s.toList) = (canonOk s.data.toList).isSome := by
      rw [toList_data, toList_data, e]
      show (itoa v == s.data.toList) = _
      by_cases h : itoa v = s.data.toList
      · rw [if_pos h, h]; simp
      · rw [if_neg h]; simpa using h
    refine (resp_ok s v _ w (by omega) hp (by omega) (by omega) hnd hcmp).mono ?_
    rintro e' w' ⟨rfl, hB⟩
    refine ⟨v, rfl, fun x hx => ?_, hB⟩
    rw [e] at hx
    split at hx
    · exact Option.some.inj hx
    · cases hx
  · have e : canonOk s.data.toList = none := by unfold canonOk; rw [hp]
    refine (resp_bad s 0 w (fun W hW => ?_)).mono ?_
    · refine (Any.strconv_ParseInt_10_at64_syntax Tryd.laysC174 s hs hp (.iface te pe) W ((hW.cell (p := ⟨0, 0, none⟩) hb0).trans hv0) (.inr ⟨te, pe, rfl⟩)).mono ?_
      rintro e' w' ⟨N, he, _, _, hB⟩
      exact ⟨N, he, hB⟩
    · rintro e' w' ⟨rfl, hB⟩
      exact ⟨0, by rw [e]; rfl, (fun x hx => by rw [e] at hx; cases hx), hB⟩
  · have e : canonOk s.data.toList = none := by unfold canonOk; rw [hp]
    refine (resp_bad s (intSat 64 s.data.toList) w (fun W hW => ?_)).mono ?_
    · refine (Any.strconv_ParseInt_10_at64_range Tryd.laysC174 s hs hp (.iface tr pr) W ((hW.cell (p := ⟨1, 0, none⟩) hb1).trans hv1) (.inr ⟨tr, pr, rfl⟩)).mono ?_
      rintro e' w' ⟨N, he, _, _, hB⟩
      exact ⟨N, he, hB⟩
    · rintro e' w' ⟨rfl, hB⟩
      exact ⟨_, by rw [e]; rfl, (fun x hx => by rw [e] at hx; cases hx), hB⟩
end Go.Proofs.Qxb6000604aDoor

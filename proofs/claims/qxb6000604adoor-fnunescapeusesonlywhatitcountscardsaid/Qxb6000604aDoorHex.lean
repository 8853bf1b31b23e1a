/-
  internal/strconv.ParseUint at two bytes, base 16, 8 bits: walked by hand.
-/
import Derived.Test.Qxb6000604aDoorShelf
import Derived.Test.Qxb6000604aDoorPlain
import Derived.Lib.ConvBytes
import Derived.Lib.Strings
import Derived.Lib.Walk
import Derived.Lib.Hide
import Derived.Laws.Strings3
import Derived.Laws.Closers25
import Derived.Laws.Closers25b
import Derived.WalkKit
import Derived.BigCall
import Derived.BigGuard
namespace Go.Proofs.Qxb6000604aDoor
open Go.RowKit

theorem two_size (x y : Int) : (strOfNums [x, y]).size = 2 := rfl
theorem two_get0 (x y : Int) : ((strOfNums [x, y]).data.toList.getD 0 0).toNat = (UInt8.ofNat x.toNat).toNat := rfl
theorem two_get1 (x y : Int) : ((strOfNums [x, y]).data.toList.getD 1 0).toNat = (UInt8.ofNat y.toNat).toNat := rfl
theorem byte_back {x : Int} (h0 : 0 ≤ x) (h1 : x ≤ 255) : (((UInt8.ofNat x.toNat).toNat : Nat) : Int) = x := by
  have e : (UInt8.ofNat x.toNat).toNat = x.toNat := UInt8.toNat_ofNat_of_lt' (by show x.toNat < 256; omega)
  rw [e]; omega

theorem hexPre_step0 {x y : Int} : hexPre x y 1 = hexV x := rfl
theorem hexPre_step1 {x y a b : Int} (ha : hexV x = some a) (hb : hexV y = some b) : hexPre x y 2 = some (16 * a + b) := by
  show (match hexV x, hexV y with | some a, some b => some (16 * a + b) | _, _ => none) = _
  rw [ha, hb]

/-- What the inner ParseUint hands back. -/
def hexRes : Option Int → Value
  | some v => .tuple #[.int .u64 v, .nilIface]
  | none => .tuple #[.int .u64 0, .iface 49 (.int .i64 2)]
theorem hexRes_some {o : Option Int} {v : Int} (h : o = some v) : hexRes o = .tuple #[.int .u64 v, .nilIface] := by rw [h]; rfl
theorem hexRes_none {o : Option Int} (h : o = none) : hexRes o = .tuple #[.int .u64 0, .iface 49 (.int .i64 2)] := by rw [h]; rfl

/-- What one more byte does to the number so far. -/
theorem hex_round {x y a : Int} {k : Nat} (hk : k < 2) (h : hexPre x y k = some a) (hx0 : 0 ≤ x) (hx1 : x ≤ 255) (hy0 : 0 ≤ y) (hy1 : y ≤ 255) {W : World} {g : Nat}
    (hc0 : W.cell? ⟨g, 0, none⟩ = some (.int .u8 x)) (hc1 : W.cell? ⟨g, 1, none⟩ = some (.int .u8 y)) :
    ∃ c, W.cell? ⟨g, k, none⟩ = some (.int .u8 c) ∧ 0 ≤ c ∧ c ≤ 255 ∧ 0 ≤ a ∧ a ≤ 15 ∧ Hid (∀ d, hexV c = some d → hexPre x y (k + 1) = some (a * 16 + d)) ∧ Hid (hexV c = none → hexPre x y 2 = none) := by
  match k, hk, h with
  | 0, _, h =>
    obtain rfl : 0 = a := Option.some.inj h
    refine ⟨x, hc0, hx0, hx1, by omega, by omega, fun d hd => ?_, fun hn => ?_⟩
    · rw [hexPre_step0, hd]; simp
    · show (match hexV x, hexV y with | some a, some b => some (16 * a + b) | _, _ => none) = _
      rw [hn]
  | 1, _, h =>
    rw [hexPre_step0] at h
    have hb := hexV_bd h
    refine ⟨y, hc1, hy0, hy1, hb.1, hb.2, fun d hd => ?_, fun hn => ?_⟩
    · rw [hexPre_step1 h hd, Int.mul_comm]
    · show (match hexV x, hexV y with | some a, some b => some (16 * a + b) | _, _ => none) = _
      rw [hn]; cases hexV x <;> rfl

set_option maxHeartbeats 4000000 in
set_option maxRecDepth 100000 in
theorem inner_hex (x y : Int) (hx0 : 0 ≤ x) (hx1 : x ≤ 255) (hy0 : 0 ≤ y) (hy1 : y ≤ 255) (w : World) :
    Calls Tryd.prog 30 #[.string (strOfNums [x, y]), .int .i64 16, .int .i64 8] w fun e w' =>
      e = .returned (hexRes (hexPre x y 2)) ∧ Below w.heap.size w w' := by
  have hcv := Lib.run_convert_string_bytes (P := Tryd.prog) w 9 22 5 (strOfNums [x, y]) (u := .string) Tryd.underlying9 Tryd.underlying22 Tryd.underlying5
  have hb : Below w.heap.size w (Lib.bytesWorld w 5 (strOfNums [x, y])) := Lib.bytesWorld_below w 5 (strOfNums [x, y])
  have hc0 : (Lib.bytesWorld w 5 (strOfNums [x, y])).cell? ⟨w.heap.size, 0, none⟩ = some (.int .u8 x) := by
    rw [Lib.bytesWorld_cell w 5 _ 0 (by rw [two_size]; decide), two_get0, byte_back hx0 hx1]
  have hc1 : (Lib.bytesWorld w 5 (strOfNums [x, y])).cell? ⟨w.heap.size, 1, none⟩ = some (.int .u8 y) := by
    rw [Lib.bytesWorld_cell w 5 _ 1 (by rw [two_size]; decide), two_get1, byte_back hy0 hy1]
  have hsz := two_size x y
  obtain ⟨W1, hW1⟩ : ∃ W1, W1 = Lib.bytesWorld w 5 (strOfNums [x, y]) := ⟨_, rfl⟩
  rw [← hW1] at hcv hb hc0 hc1
  clear hW1
  obtain ⟨t, ht⟩ : ∃ t, t = strOfNums [x, y] := ⟨_, rfl⟩
  rw [← ht] at hcv hsz ⊢
  clear ht
  have hemp : t.toList.isEmpty = false := by
    rw [← decide_eq_emptyBytes]
    exact decide_eq_false (fun h => by rw [h] at hsz; exact absurd hsz (by decide))
  have hmv : IntKind.u64.wrap (IntKind.u64.wrap 256 - 1) = 255 := by
    rw [IntKind.wrap_u64, IntKind.wrap_u64]
    decide
  rw [hsz] at hcv
  have HB : Hid (Below w.heap.size w W1) := hb
  clear hb hsz
  go_enter Tryd.func30, Tryd.ntmps30
  go_wp2_with fail
  go_loop [12, 13, 101] (fun vu vn vi => ∃ (k : Nat) (a : Int), vu = .bool false ∧ vn = .int .u64 a ∧ vi = .int .i64 k ∧ k ≤ 2 ∧ Hid (hexPre x y k = some a)) (fun _ _ vi => 2 - (intOf vi).toNat)
  case atStart => exact ⟨0, 0, rfl, rfl, rfl, by omega, rfl⟩
  case round =>
    obtain ⟨k, a, rfl, rfl, rfl, hk, hh⟩ := hrel
    by_cases hk2 : k < 2
    · obtain ⟨c, hc, c0, c1, a0, a1, Hs, Hn⟩ := hex_round hk2 hh.out hx0 hx1 hy0 hy1 hc0 hc1
      clear hc0 hc1 hcv
      by_cases hd : 48 ≤ c ∧ c ≤ 57
      · obtain ⟨d0, d1⟩ := hd
        have HS : Hid (hexPre x y (k + 1) = some (a * 16 + (c - 48))) := Hs.out _ (hexV_digit d0 d1)
        clear Hs Hn
        go_wp2_with (go_at_call 36; refine (Tryd.internal_strconv_lower _ _).mono ?_; rintro e w' ⟨rfl, rfl⟩)
        go_round
        case rel => exact ⟨k + 1, a * 16 + (c - 48), rfl, by go_num, by go_num, by omega, HS⟩
        case measure => simp [intOf]; omega
      · by_cases hl : 97 ≤ c ∧ c ≤ 102
        · obtain ⟨d0, d1⟩ := hl
          have HS : Hid (hexPre x y (k + 1) = some (a * 16 + (c - 87))) := Hs.out _ (hexV_lower d0 d1)
          have hlow := low_lower d0 d1
          have hd' : 57 < c := by omega
          clear Hs Hn hd
          go_wp2_with (go_at_call 36; refine (Tryd.internal_strconv_lower _ _).mono ?_; rintro e w' ⟨rfl, rfl⟩)
          go_round
          case rel => exact ⟨k + 1, a * 16 + (c - 87), rfl, by go_num, by go_num, by omega, HS⟩
          case measure => simp [intOf]; omega
        · by_cases hu : 65 ≤ c ∧ c ≤ 70
          · obtain ⟨d0, d1⟩ := hu
            have HS : Hid (hexPre x y (k + 1) = some (a * 16 + (c - 55))) := Hs.out _ (hexV_upper d0 d1)
            have hlow := low_upper d0 d1
            have hd' : 57 < c := by omega
            clear Hs Hn hd hl
            go_wp2_with (go_at_call 36; refine (Tryd.internal_strconv_lower _ _).mono ?_; rintro e w' ⟨rfl, rfl⟩)
            go_round
            case rel => exact ⟨k + 1, a * 16 + (c - 55), rfl, by go_num, by go_num, by omega, HS⟩
            case measure => simp [intOf]; omega
          · have HN : Hid (hexPre x y 2 = none) := Hn.out (hexV_none hd hl hu)
            have hlow := low_other c0 c1 hl hu
            have hv0 := bits_lo_u8 .or c 32
            have hv1 := bits_hi_u8 .or c 32
            clear Hs Hn hl hu
            have hd2 : c < 48 ∨ 57 < c := by omega
            clear hd
            rcases hlow with hlow | hlow <;> rcases hd2 with hd2 | hd2
            all_goals
              go_wp2_with (go_at_call 36; refine (Tryd.internal_strconv_lower _ _).mono ?_; rintro e w' ⟨rfl, rfl⟩)
            all_goals go_ret2
            all_goals exact ⟨by rw [hexRes_none HN.out]; rfl, HB.out⟩
    · have hkk : k = 2 := by omega
      subst hkk
      go_wp2
      go_ret2
      exact ⟨by rw [hexRes_some hh.out]; rfl, HB.out⟩
end Go.Proofs.Qxb6000604aDoor

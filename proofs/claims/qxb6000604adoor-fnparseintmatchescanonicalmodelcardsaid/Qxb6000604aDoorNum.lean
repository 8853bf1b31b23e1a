/-
  The plain part of the ParseInt laws: canonical decimals, as lists of bytes; no Go in sight.
-/
import Derived.Lib.ParseIntB
import Derived.Lib.ParseIntBTie
import Derived.Lib.ItoaNum
import Derived.Lib.ItoaMem
namespace Go.Proofs.Qxb6000604aDoor
open Go.Lib

def isDig (c : UInt8) : Bool := decide (48 ≤ c.toNat ∧ c.toNat ≤ 57)
/-- The number that digits spell, behind 'acc'. -/
def dval (acc : Nat) : List UInt8 → Nat
  | [] => acc
  | c :: r => dval (acc * 10 + (c.toNat - 48)) r

theorem dval_append (a : Nat) (l r : List UInt8) : dval a (l ++ r) = dval (dval a l) r := by
  induction l generalizing a with
  | nil => rfl
  | cons c l ih => exact ih _
theorem dval_snoc (a : Nat) (l : List UInt8) (c : UInt8) : dval a (l ++ [c]) = dval a l * 10 + (c.toNat - 48) := by rw [dval_append]; rfl
theorem dval_ge (l : List UInt8) : ∀ a, a ≤ dval a l := by
  induction l with
  | nil => exact fun a => Nat.le_refl _
  | cons c l ih => exact fun a => Nat.le_trans (by omega) (ih (a * 10 + (c.toNat - 48)))
theorem dig_of_nat (d : Nat) (h : d < 10) : (UInt8.ofNat (48 + d)).toNat = 48 + d := UInt8.toNat_ofNat_of_lt' (by show 48 + d < 256; omega)
theorem isDig_of_nat (d : Nat) (h : d < 10) : isDig (UInt8.ofNat (48 + d)) = true := by
  unfold isDig; rw [dig_of_nat d h]; exact decide_eq_true (by omega)
theorem of_isDig {c : UInt8} (h : isDig c = true) : 48 ≤ c.toNat ∧ c.toNat ≤ 57 := of_decide_eq_true h

theorem dec_small {u : Nat} (h : u < 10) : decDigits u = [UInt8.ofNat (48 + u)] := by rw [decDigits, dif_pos h]
theorem dec_big {u : Nat} (h : ¬ u < 10) : decDigits u = decDigits (u / 10) ++ [UInt8.ofNat (48 + u % 10)] := by rw [decDigits, dif_neg h]

theorem dec_ne_nil (u : Nat) : decDigits u ≠ [] := by
  by_cases h : u < 10
  · rw [dec_small h]; simp
  · rw [dec_big h]; simp
theorem dec_all (u : Nat) : (decDigits u).all isDig = true := by
  induction u using Nat.strongRecOn with
  | _ u ih =>
    by_cases h : u < 10
    · rw [dec_small h, List.all_cons, isDig_of_nat u h]; rfl
    · rw [dec_big h, List.all_append, ih (u / 10) (by omega), List.all_cons, isDig_of_nat (u % 10) (by omega)]; rfl
theorem dec_val (u : Nat) : dval 0 (decDigits u) = u := by
  induction u using Nat.strongRecOn with
  | _ u ih =>
    by_cases h : u < 10
    · rw [dec_small h]; show 0 * 10 + ((UInt8.ofNat (48 + u)).toNat - 48) = u; rw [dig_of_nat u h]; omega
    · rw [dec_big h, dval_snoc, ih (u / 10) (by omega), dig_of_nat (u % 10) (by omega)]; omega
theorem byte_eq {c : UInt8} (d : Nat) (hc : c.toNat = 48 + d) : c = UInt8.ofNat (48 + d) := by
  rw [← hc]; simp
theorem dec_head (u : Nat) (h : 0 < u) : (decDigits u).head? ≠ some 48 := by
  induction u using Nat.strongRecOn with
  | _ u ih =>
    by_cases h10 : u < 10
    · rw [dec_small h10]
      intro e
      have e2 : UInt8.ofNat (48 + u) = 48 := by simpa using e
      have := congrArg UInt8.toNat e2
      rw [dig_of_nat u h10] at this
      have h48 : (48 : UInt8).toNat = 48 := rfl
      omega
    · rw [dec_big h10]
      have hne := dec_ne_nil (u / 10)
      have := ih (u / 10) (by omega) (by omega)
      cases hd : decDigits (u / 10) with
      | nil => exact absurd hd hne
      | cons a r => rw [hd] at this; simpa using this
/-- Canonical digits are the numeral of what they spell. -/
theorem dec_of (n : Nat) : ∀ ds : List UInt8, ds.length = n → ds ≠ [] → ds.all isDig = true → (ds.head? ≠ some 48 ∨ ds.length = 1) → decDigits (dval 0 ds) = ds := by
  induction n with
  | zero => intro ds hl hne; exact absurd (List.eq_nil_of_length_eq_zero hl) hne
  | succ n ih =>
    intro ds hl hne hall hh
    obtain ⟨l, c, rfl⟩ : ∃ l c, ds = l ++ [c] := ⟨ds.dropLast, ds.getLast hne, (List.dropLast_concat_getLast hne).symm⟩
    rw [List.all_append, Bool.and_eq_true] at hall
    have hc : isDig c = true := by simpa using hall.2
    have hcd := of_isDig hc
    rw [dval_snoc]
    cases hl0 : l with
    | nil =>
      have e : dval 0 ([] : List UInt8) = 0 := rfl
      rw [e, dec_small (by omega)]
      rw [← byte_eq (c := c) (0 * 10 + (c.toNat - 48)) (by omega)]
      rfl
    | cons a r =>
      have hln : l ≠ [] := by rw [hl0]; simp
      have hlh : l.head? ≠ some 48 := by
        rcases hh with hh | hh
        · rw [hl0] at hh ⊢; simpa using hh
        · have h1 : 0 < l.length := List.length_pos_iff.2 hln
          rw [List.length_append, List.length_singleton] at hh
          omega
      have IH := ih l (by rw [List.length_append] at hl; simpa using hl) hln hall.1 (.inl hlh)
      have hpos : 0 < dval 0 l := by
        rcases Nat.eq_zero_or_pos (dval 0 l) with e | e
        · rw [e, dec_small (by omega)] at IH
          exact absurd (by rw [← IH]; rfl) hlh
        · exact e
      rw [← hl0, dec_big (by omega)]
      have e1 : (dval 0 l * 10 + (c.toNat - 48)) / 10 = dval 0 l := by omega
      have e2 : (dval 0 l * 10 + (c.toNat - 48)) % 10 = c.toNat - 48 := by omega
      rw [e1, e2, IH, ← byte_eq (c := c) (c.toNat - 48) (by omega)]

/-! ### The model -/
def canonN (neg : Bool) (ds : List UInt8) : Option Int :=
  if ds = [] ∨ 19 < ds.length then none
  else if ds.head? = some 48 ∧ (1 < ds.length ∨ neg = true) then none
  else if ds.all isDig = true then
    (if neg = true then (if dval 0 ds ≤ 9223372036854775808 then some (-(dval 0 ds : Int)) else none)
     else (if dval 0 ds ≤ 9223372036854775807 then some (dval 0 ds : Int) else none))
  else none
def canonP (l : List UInt8) : Option Int := if l.head? = some 45 then canonN true l.tail else canonN false l

theorem dec_len (u : Nat) (h : u ≤ 9223372036854775808) : (decDigits u).length ≤ 19 := by
  have aux : ∀ (k u : Nat), u < 10 ^ (k + 1) → nDigits u ≤ k + 1 := by
    intro k
    induction k with
    | zero => intro u h; rw [nDigits_small (by simpa using h)]; exact Nat.le_refl _
    | succ k ih =>
      intro u h
      by_cases h10 : u < 10
      · rw [nDigits_small h10]; omega
      · rw [nDigits_big h10]
        have := ih (u / 10) (by rw [Nat.pow_succ] at h; omega)
        omega
  rw [decDigits_length]; exact aux 18 u (by omega)
theorem dec_head45 (u : Nat) : (decDigits u).head? ≠ some 45 := by
  intro e
  have hall := dec_all u
  cases hd : decDigits u with
  | nil => rw [hd] at e; cases e
  | cons a r =>
    rw [hd] at e hall
    obtain rfl : a = 45 := by simpa using e
    simp [isDig] at hall
theorem canonN_dec (neg : Bool) (u : Nat) (h : u ≤ 9223372036854775808) (hz : u = 0 → neg = false) : canonN neg (decDigits u) =
    (if neg = true then some (-(u : Int)) else if u ≤ 9223372036854775807 then some (u : Int) else none) := by
  unfold canonN
  have hl := dec_len u h
  rw [if_neg (by intro hc; rcases hc with hc | hc; exact dec_ne_nil u hc; omega)]
  have hnz : ¬ ((decDigits u).head? = some 48 ∧ (1 < (decDigits u).length ∨ neg = true)) := by
    intro ⟨h1, h2⟩
    rcases Nat.eq_zero_or_pos u with rfl | hp
    · rw [hz rfl, dec_small (by omega)] at h2
      simp at h2
    · exact dec_head u hp h1
  rw [if_neg hnz, if_pos (dec_all u), dec_val, if_pos h]
/-- A canonical numeral is read as its number. -/
theorem canonP_itoa (v : Int) (h0 : -9223372036854775808 ≤ v) (h1 : v ≤ 9223372036854775807) : canonP (itoa v) = some v := by
  unfold canonP
  by_cases hn : v < 0
  · obtain ⟨u, rfl⟩ : ∃ u : Nat, v = -(u : Int) := ⟨v.natAbs, by omega⟩
    rw [itoa_neg u (by omega)]
    show (if (45 :: decDigits u).head? = some 45 then canonN true (decDigits u) else _) = _
    rw [if_pos (show (45 :: decDigits u).head? = some 45 from rfl), canonN_dec true u (by omega) (by omega), if_pos rfl]
  · obtain ⟨u, rfl⟩ : ∃ u : Nat, v = u := ⟨v.toNat, by omega⟩
    rw [itoa_nonneg, if_neg (dec_head45 u), canonN_dec false u (by omega) (fun _ => rfl), if_neg (by decide), if_pos (by omega)]
theorem canonN_some {neg : Bool} {ds : List UInt8} {x : Int} (h : canonN neg ds = some x) :
    decDigits (dval 0 ds) = ds ∧ ((neg = true ∧ x = -(dval 0 ds : Int) ∧ dval 0 ds ≤ 9223372036854775808 ∧ 0 < dval 0 ds) ∨ (neg = false ∧ x = (dval 0 ds : Int) ∧ dval 0 ds ≤ 9223372036854775807)) := by
  unfold canonN at h
  by_cases c1 : ds = [] ∨ 19 < ds.length
  · rw [if_pos c1] at h; cases h
  rw [if_neg c1] at h
  by_cases c2 : ds.head? = some 48 ∧ (1 < ds.length ∨ neg = true)
  · rw [if_pos c2] at h; cases h
  rw [if_neg c2] at h
  by_cases c3 : ds.all isDig = true
  case neg => rw [if_neg c3] at h; cases h
  rw [if_pos c3] at h
  have hne : ds ≠ [] := fun e => c1 (.inl e)
  have hD : decDigits (dval 0 ds) = ds := dec_of ds.length ds rfl hne c3 (by
    by_cases hh : ds.head? = some 48
    · right
      have hp := List.length_pos_iff.2 hne
      rcases Nat.lt_or_ge 1 ds.length with h1 | h1
      · exact absurd ⟨hh, .inl h1⟩ c2
      · omega
    · exact .inl hh)
  refine ⟨hD, ?_⟩
  cases neg with
  | true =>
    rw [if_pos rfl] at h
    by_cases c4 : dval 0 ds ≤ 9223372036854775808
    · rw [if_pos c4] at h
      refine .inl ⟨rfl, (Option.some.inj h).symm, c4, ?_⟩
      rcases Nat.eq_zero_or_pos (dval 0 ds) with e | e
      · rw [e, dec_small (by omega)] at hD
        exact absurd ⟨by rw [← hD]; rfl, .inr rfl⟩ c2
      · exact e
    · rw [if_neg c4] at h; cases h
  | false =>
    rw [if_neg (by decide)] at h
    by_cases c4 : dval 0 ds ≤ 9223372036854775807
    · rw [if_pos c4] at h
      exact .inr ⟨rfl, (Option.some.inj h).symm, c4⟩
    · rw [if_neg c4] at h; cases h
theorem canonP_some {l : List UInt8} {x : Int} (h : canonP l = some x) : itoa x = l ∧ -9223372036854775808 ≤ x ∧ x ≤ 9223372036854775807 := by
  unfold canonP at h
  by_cases hh : l.head? = some 45
  · rw [if_pos hh] at h
    obtain ⟨hD, hc⟩ := canonN_some h
    rcases hc with ⟨_, rfl, h2, h3⟩ | ⟨h1, _⟩
    · rw [itoa_neg _ h3, hD]
      refine ⟨?_, by omega, by omega⟩
      cases l with
      | nil => cases hh
      | cons a r => obtain rfl : a = 45 := by simpa using hh
                    rfl
    · cases h1
  · rw [if_neg hh] at h
    obtain ⟨hD, hc⟩ := canonN_some h
    rcases hc with ⟨h1, _⟩ | ⟨_, rfl, h2⟩
    · cases h1
    · rw [itoa_nonneg, hD]
      exact ⟨rfl, by omega, by omega⟩

/-! ### strconv.ParseInt -/
theorem parseUintM_dig (M : Nat) (hM : M ≤ 18446744073709551615) (ds : List UInt8) : ∀ acc, ds.all isDig = true → dval acc ds ≤ M → parseUintM M acc ds = .ok (dval acc ds) := by
  induction ds with
  | nil => intro acc _ _; rfl
  | cons c r ih =>
    intro acc hall hv
    rw [List.all_cons, Bool.and_eq_true] at hall
    have hc := of_isDig hall.1
    have hge := dval_ge r (acc * 10 + (c.toNat - 48))
    have hv' : dval (acc * 10 + (c.toNat - 48)) r ≤ M := hv
    show (if 48 ≤ c.toNat ∧ c.toNat ≤ 57 then (if 1844674407370955162 ≤ acc then NumEnd.range else if M < acc * 10 + (c.toNat - 48) then NumEnd.range else parseUintM M (acc * 10 + (c.toNat - 48)) r) else _) = _
    rw [if_pos hc, if_neg (by omega), if_neg (by omega)]
    exact ih _ hall.2 hv'
theorem parseUintB_dec (u : Nat) (h : u ≤ 18446744073709551615) : parseUintB 64 (decDigits u) = .ok u := by
  unfold parseUintB
  rw [if_neg (dec_ne_nil u), parseUintM_dig (2 ^ 64 - 1) (by decide) _ 0 (dec_all u) (by rw [dec_val]; exact h), dec_val]
theorem parseIntB_itoa (v : Int) (h0 : -9223372036854775808 ≤ v) (h1 : v ≤ 9223372036854775807) : parseIntB 64 (itoa v) = .ok v := by
  by_cases hn : v < 0
  · obtain ⟨u, rfl⟩ : ∃ u : Nat, v = -(u : Int) := ⟨v.natAbs, by omega⟩
    rw [itoa_neg u (by omega)]
    have e45 : (45 : UInt8).toNat = 45 := rfl
    simp only [parseIntB, e45]
    rw [if_pos (by decide), parseUintB_dec u (by omega)]
    have e63 : (2 : Nat) ^ (64 - 1) = 9223372036854775808 := by decide
    simp only [e63]
    rw [if_neg (by simp), if_neg (by omega)]
    simp
  · obtain ⟨u, rfl⟩ : ∃ u : Nat, v = u := ⟨v.toNat, by omega⟩
    rw [itoa_nonneg]
    have hall := dec_all u
    have hU := parseUintB_dec u (by omega)
    cases hd : decDigits u with
    | nil => exact absurd hd (dec_ne_nil u)
    | cons c r =>
      rw [hd] at hall hU
      rw [List.all_cons, Bool.and_eq_true] at hall
      have hc := of_isDig hall.1
      have e63 : (2 : Nat) ^ (64 - 1) = 9223372036854775808 := by decide
      simp only [parseIntB]
      rw [if_neg (by omega), hU]
      simp only [e63]
      rw [if_neg (by omega), if_neg (by omega), if_neg (by omega)]

/-! ### The law -/
/-- What resp.ParseInt accepts. -/
def canonOk (l : List UInt8) : Option Int :=
  match parseIntB 64 l with
  | .ok v => if itoa v = l then some v else none
  | _ => none
theorem canonOk_eq (l : List UInt8) : canonOk l = canonP l := by
  cases hp : canonP l with
  | some x =>
    obtain ⟨h1, h2, h3⟩ := canonP_some hp
    have h := parseIntB_itoa x h2 h3
    rw [h1] at h
    unfold canonOk
    rw [h]
    show (if itoa x = l then some x else none) = some x
    rw [if_pos h1]
  | none =>
    unfold canonOk
    cases hq : parseIntB 64 l with
    | ok v =>
      show (if itoa v = l then some v else none) = none
      by_cases he : itoa v = l
      · have hb := parseIntB_bounds hq
        have := canonP_itoa v (by omega) (by omega)
        rw [he, hp] at this
        cases this
      · rw [if_neg he]
    | _ => rfl
end Go.Proofs.Qxb6000604aDoor

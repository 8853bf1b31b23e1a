/-
  More on digits; no Go in sight.
-/
import Derived.Test.Qxb6000604aDoorNum
namespace Go.Proofs.Qxb6000604aDoor
open Go.Lib
theorem dval_lt (l : List UInt8) : ∀ a, l.all isDig = true → dval a l < (a + 1) * 10 ^ l.length := by
  induction l with
  | nil => intro a _; show a < (a + 1) * 10 ^ 0; omega
  | cons c r ih =>
    intro a hall
    rw [List.all_cons, Bool.and_eq_true] at hall
    have hc := of_isDig hall.1
    have h := ih (a * 10 + (c.toNat - 48)) hall.2
    have hP : 10 ^ (c :: r).length = 10 ^ r.length * 10 := by rw [List.length_cons, Nat.pow_succ]
    rw [hP]
    show dval (a * 10 + (c.toNat - 48)) r < _
    generalize 10 ^ r.length = P at h ⊢
    have h2 : (a * 10 + (c.toNat - 48) + 1) * P ≤ (a * 10 + 10) * P := Nat.mul_le_mul_right P (by omega)
    have e : (a + 1) * (P * 10) = (a * 10 + 10) * P := by rw [Nat.mul_comm P 10, ← Nat.mul_assoc, Nat.add_mul, Nat.one_mul]
    rw [e]
    exact Nat.lt_of_lt_of_le h h2
theorem dval_lt19 (l : List UInt8) (h : l.all isDig = true) (hl : l.length ≤ 18) : dval 0 l < 1000000000000000000 := by
  have h1 := dval_lt l 0 h
  have h2 : 10 ^ l.length ≤ 10 ^ 18 := Nat.pow_le_pow_right (by decide) hl
  have h3 : (10 : Nat) ^ 18 = 1000000000000000000 := by decide
  rw [h3] at h2
  generalize 10 ^ l.length = P at h1 h2
  omega
theorem bytes_take (s : ByteArray) (i k : Nat) (hi : i ≤ k) (h : k < s.size) : (s.data.toList.drop i).take (k + 1 - i) = (s.data.toList.drop i).take (k - i) ++ [s[k]] := by
  have e : k + 1 - i = (k - i) + 1 := by omega
  have h' : k < s.data.toList.length := by simpa using h
  rw [e, List.take_add_one, List.getElem?_drop]
  have e2 : i + (k - i) = k := by omega
  rw [e2, List.getElem?_eq_getElem h']
  rfl
theorem all_snoc (l : List UInt8) (c : UInt8) : (l ++ [c]).all isDig = (l.all isDig && isDig c) := by simp [List.all_append]
theorem all_take {l : List UInt8} (k : Nat) (h : l.all isDig = true) : (l.take k).all isDig = true := by
  rw [List.all_eq_true] at h ⊢
  exact fun x hx => h x (List.mem_of_mem_take hx)
theorem not_all {l : List UInt8} {j : Nat} (hj : j < l.length) (h : isDig (l[j]'hj) = false) : ¬ l.all isDig = true := by
  intro hall
  rw [List.all_eq_true] at hall
  have := hall _ (List.getElem_mem hj)
  rw [h] at this; cases this
theorem canonN_eval (neg : Bool) (ds : List UInt8) (h1 : ds ≠ []) (h2 : ds.length ≤ 19) (h3 : ¬ (ds.head? = some 48 ∧ (1 < ds.length ∨ neg = true))) (h4 : ds.all isDig = true) : canonN neg ds =
    (if neg = true then (if dval 0 ds ≤ 9223372036854775808 then some (-(dval 0 ds : Int)) else none) else (if dval 0 ds ≤ 9223372036854775807 then some (dval 0 ds : Int) else none)) := by
  unfold canonN
  rw [if_neg (by intro h; rcases h with h | h; exact h1 h; omega), if_neg h3, if_pos h4]
theorem canonN_notdig (neg : Bool) (ds : List UInt8) (h : ¬ ds.all isDig = true) : canonN neg ds = none := by
  unfold canonN
  split
  · rfl
  · split
    · rfl
    · rfl
theorem canonN_long (neg : Bool) (ds : List UInt8) (h : ds = [] ∨ 19 < ds.length) : canonN neg ds = none := by
  unfold canonN; rw [if_pos h]
theorem canonN_zero (neg : Bool) (ds : List UInt8) (h : ds.head? = some 48 ∧ (1 < ds.length ∨ neg = true)) : canonN neg ds = none := by
  unfold canonN
  split
  · rfl
  · rfl
theorem get_drop (s : ByteArray) (i k : Nat) (hi : i ≤ k) (h : k < s.size) (hj : k - i < (s.data.toList.drop i).length) : (s.data.toList.drop i)[k - i]'hj = s[k] := by
  rw [List.getElem_drop]
  have e : i + (k - i) = k := by omega
  simp only [e]
  rfl
theorem head_drop (s : ByteArray) (i : Nat) (h : i < s.size) : (s.data.toList.drop i).head? = some s[i] := by
  have h' : i < s.data.toList.length := by simpa using h
  rw [List.head?_drop, List.getElem?_eq_getElem h']
  rfl
end Go.Proofs.Qxb6000604aDoor

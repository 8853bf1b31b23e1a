/-
  The plain part: what AppendError writes, as a list of numbers; no Go in sight.
-/
import Derived.WalkKit
import Derived.Laws.BytesArg
namespace Go.Proofs.Qxb6000604a

/-- A string's bytes as numbers. -/
def bytesI (s : ByteArray) : List Int := s.data.toList.map fun b => (b.toNat : Int)
/-- CR and LF become a blank. -/
def sanI (x : Int) : Int := if x = 13 ∨ x = 10 then 32 else x
/-- What AppendError writes for the message s. -/
def errI (s : ByteArray) : List Int := 45 :: ((bytesI s).map sanI ++ [13, 10])
/-- What it has written when k bytes of the message are done. -/
def headI (s : ByteArray) (k : Nat) : List Int := 45 :: ((bytesI s).take k).map sanI

theorem bytesI_length (s : ByteArray) : (bytesI s).length = s.size := by
  unfold bytesI; rw [List.length_map, Array.length_toList]; rfl
theorem errI_length (s : ByteArray) : (errI s).length = s.size + 3 := by
  simp [errI, bytesI_length]
theorem bytesI_get (s : ByteArray) (k : Nat) (h : k < s.size) : (bytesI s)[k]? = some ((s[k].toNat : Nat) : Int) := by
  unfold bytesI
  have h' : k < s.data.toList.length := by simpa using h
  rw [List.getElem?_map, List.getElem?_eq_getElem h']
  rfl
theorem bytesI_getD (s : ByteArray) (k : Nat) (h : k < s.size) : (bytesI s).getD k 0 = ((s[k].toNat : Nat) : Int) := by
  rw [List.getD_eq_getElem?_getD, bytesI_get s k h]; rfl
theorem headI_zero (s : ByteArray) : headI s 0 = [45] := by simp [headI]
theorem headI_succ (s : ByteArray) (k : Nat) (h : k < s.size) : headI s (k + 1) = headI s k ++ [sanI ((s[k].toNat : Nat) : Int)] := by
  unfold headI
  rw [List.take_add_one, bytesI_get s k h]
  simp
theorem headI_full (s : ByteArray) : headI s s.size ++ [13, 10] = errI s := by
  unfold headI errI
  rw [List.take_of_length_le (by rw [bytesI_length]; exact Nat.le_refl _)]
  simp
theorem sanI_hit {x : Int} (h : x = 13 ∨ x = 10) : sanI x = 32 := by simp [sanI, h]
theorem sanI_miss {x : Int} (h1 : ¬ x = 13) (h2 : ¬ x = 10) : sanI x = x := by simp [sanI, h1, h2]
theorem sanI_ne (x : Int) : sanI x ≠ 13 ∧ sanI x ≠ 10 := by
  unfold sanI; split <;> omega
theorem sanI_idem (x : Int) : sanI (sanI x) = sanI x := by
  unfold sanI; split
  · simp
  · rfl
theorem bytesI_range (s : ByteArray) : ∀ x ∈ bytesI s, 0 ≤ x ∧ x ≤ 255 := by
  intro x hx
  obtain ⟨b, _, rfl⟩ := List.mem_map.1 hx
  have := b.toNat_lt
  omega
theorem sanI_range {x : Int} (h : 0 ≤ x ∧ x ≤ 255) : 0 ≤ sanI x ∧ sanI x ≤ 255 := by
  unfold sanI; split <;> omega
/-- The message as it is written, as a string. -/
def bodyOf (s : ByteArray) : ByteArray := strOfNums ((bytesI s).map sanI)
theorem bytesI_strOfNums (l : List Int) (h : ∀ x ∈ l, 0 ≤ x ∧ x ≤ 255) : bytesI (strOfNums l) = l := by
  unfold bytesI
  rw [strOfNums_data, List.map_map]
  conv => rhs; rw [← List.map_id l]
  refine List.map_congr_left fun x hx => ?_
  have hr := h x hx
  have e : (UInt8.ofNat x.toNat).toNat = x.toNat := UInt8.toNat_ofNat_of_lt' (by show x.toNat < 256; omega)
  show (((UInt8.ofNat x.toNat).toNat : Nat) : Int) = x
  rw [e]; omega
theorem san_range (s : ByteArray) : ∀ x ∈ (bytesI s).map sanI, 0 ≤ x ∧ x ≤ 255 := by
  intro x hx
  obtain ⟨y, hy, rfl⟩ := List.mem_map.1 hx
  exact sanI_range (bytesI_range s y hy)
theorem bodyOf_size (s : ByteArray) : (bodyOf s).size = s.size := by
  rw [bodyOf, strOfNums_size, List.length_map, bytesI_length]
theorem errI_body (s : ByteArray) : errI (bodyOf s) = errI s := by
  unfold errI bodyOf
  rw [bytesI_strOfNums _ (san_range s), List.map_map]
  congr 2
  exact List.map_congr_left fun x _ => sanI_idem x
theorem errI_mid (s : ByteArray) (j : Nat) (h : j < s.size) : (errI s).getD (1 + j) 0 = ((bytesI s).map sanI).getD j 0 := by
  unfold errI
  have hl : j < ((bytesI s).map sanI).length := by rw [List.length_map, bytesI_length]; exact h
  rw [Nat.add_comm, List.getD_cons_succ]
  rw [List.getD_eq_getElem?_getD, List.getD_eq_getElem?_getD, List.getElem?_append_left hl]
end Go.Proofs.Qxb6000604a

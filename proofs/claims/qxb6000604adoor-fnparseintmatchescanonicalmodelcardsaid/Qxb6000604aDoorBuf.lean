/-
  Appends onto 'buf[:0]' of an array of twenty bytes: there is room for all that is appended; the block bears the array's type, not the byte's.
-/
import Derived.WalkKit
import Derived.Lib.AppendStr
namespace Go.Proofs.Qxb6000604aDoor
open Go.RowKit Go.Lib

/-- Block g is an array of twenty cells (of type T) whose first n cells are xs. -/
def Buf (w : World) (g n : Nat) (T : TypeId) (xs : List Value) : Prop := ∃ cur : Array Value, w.heap[g]? = some (.cells cur T (0, 0)) ∧ cur.size = 20 ∧ n ≤ 20 ∧ cur.toList.take n = xs

theorem Buf.length {w : World} {g n : Nat} {T : TypeId} {xs : List Value} (h : Buf w g n T xs) : xs.length = n := by
  obtain ⟨cur, _, hs, hn, rfl⟩ := h
  rw [List.length_take, Array.length_toList]; omega
theorem Buf.lt {w : World} {g n : Nat} {T : TypeId} {xs : List Value} (h : Buf w g n T xs) : g < w.heap.size := by
  obtain ⟨cur, hg, _⟩ := h
  exact (Array.getElem?_eq_some_iff.1 hg).1
theorem Buf.cell {w : World} {g n : Nat} {T : TypeId} {xs : List Value} (h : Buf w g n T xs) (j : Nat) (hj : j < n) : w.cell? ⟨g, j, none⟩ = xs[j]? := by
  obtain ⟨cur, hg, hs, hn, rfl⟩ := h
  rw [cell_of_row w g j cur T (0, 0) hg, List.getElem?_take_of_lt hj]
  simp
theorem Buf.block {w w' : World} {g n : Nat} {T : TypeId} {xs : List Value} (h : Buf w g n T xs) (hb : w'.heap[g]? = w.heap[g]?) : Buf w' g n T xs := by
  obtain ⟨cur, hg, r⟩ := h
  exact ⟨cur, hb.trans hg, r⟩
theorem Buf.below {w w' : World} {B g n : Nat} {T : TypeId} {xs : List Value} (h : Buf w g n T xs) (hb : Below B w w') (hg : g < B) : Buf w' g n T xs := h.block (hb.block g hg)
theorem Buf.alloc {w : World} {g n : Nat} {T : TypeId} {xs : List Value} (h : Buf w g n T xs) (o : Obj) : Buf (w.alloc o) g n T xs := h.block (Below.heap_alloc w o g h.lt)

section
variable {P : Program} (w : World)

theorem buf_written {g n m : Nat} {T : TypeId} {xs news : List Value} {cur : Array Value} (hg : w.heap[g]? = some (.cells cur T (0, 0))) (hs : cur.size = 20) (ht : cur.toList.take n = xs) (hl : news.length = m) (hroom : n + m ≤ 20) :
    Buf (w.setRow g (cur.toList.take n ++ news ++ cur.toList.drop (n + m)).toArray) g (n + m) T (xs ++ news) ∧ w.grownBy (w.setRow g (cur.toList.take n ++ news ++ cur.toList.drop (n + m)).toArray) (some g) := by
  have hx : xs.length = n := by rw [← ht, List.length_take, Array.length_toList]; omega
  refine ⟨⟨_, setRow_heap w g cur _ T _ hg, ?_, hroom, ?_⟩, ⟨rfl, rfl, rfl, by simp, fun k _ hk => setRow_other w g k _ (fun e => hk (by simp [e]))⟩⟩
  · simp only [List.size_toArray, List.length_append, List.length_take, List.length_drop, Array.length_toList]
    omega
  · rw [ht]
    have : (xs ++ news).length = n + m := by rw [List.length_append, hx, hl]
    rw [← this]
    exact List.take_left

theorem wpList_append_buf {ops : Array Oper} {rest : List Oper} {o : Oper} {a : Act} {Q : Exit → Act → World → Prop} (hgd : o.guard = none) (s x : Operand) (t : TypeId)
    (ho : o.op = .call { callee := .builtin .append, args := #[s, x], argTypes := #[t, t] })
    (e : TypeId) (i : TypeInfo) (ht : P.underlying t = some (.slice e)) (hi : P.info? e = some i) (hsize : i.size = 1)
    (g n : Nat) (T : TypeId) (xs : List Value) (hs : a.eval s = .slice (some ⟨g, 0, none⟩) n 20) (hb : Buf w g n T xs)
    (ad : Addr) (m c : Nat) (news : List Value) (hx : a.eval x = .slice (some ad) m c) (hl : news.length = m) (hnews : ∀ j u, news[j]? = some u → w.cell? (ad.add j) = some u) (h1 : ∀ u ∈ news, u.oneCell' = true) (hroom : n + m ≤ 20)
    (h : ∀ w', Buf w' g (n + m) T (xs ++ news) → w.grownBy w' (some g) → wpList P ops Q rest (a.put o.dst (.slice (some ⟨g, 0, none⟩) (n + m) 20)) w') : wpList P ops Q (o :: rest) a w := by
  refine wpList_plain hgd fun K hK => ?_
  obtain ⟨cur, hg, hcs, hn, htk⟩ := hb
  have hl' : news.length = m * i.size := by rw [hsize, Nat.mul_one]; exact hl
  have hf := run_firstCells_some (P := P) w i.size m ad m c news hl' hnews
  have hst := run_storeCells_at P g (n * i.size) T news 0 cur w hg (by rw [hsize]; omega) h1
  simp only [Nat.add_zero] at hst
  have hr : (Builtin.append_ #[t, t] o.type #[.slice (some ⟨g, 0, none⟩) n 20, .slice (some ad) m c]).run P w =
      .ok (.slice (some ⟨g, 0, none⟩) (n + m) 20) (w.setRow g (cur.toList.take n ++ news ++ cur.toList.drop (n + m)).toArray) := by
    rw [hsize] at hst hf
    simp only [Nat.mul_one, hl] at hst
    simp [Builtin.append_, run_underlying ht, sizeOf, typeInfo, hi, hsize, Builtin.lenOf, hroom, hf, Addr.add_lit, hst]
  have R := buf_written w hg hcs htk hl hroom
  unfold Oper.wp execOp
  simp only [ho, resolve, invoke, builtin, Sem.run_bind, Sem.run_pure, Result.andThen_ok, List.map_toArray, List.map_cons, List.map_nil, hs, hx, hr]
  exact hK _ _ (h _ R.1 R.2)

theorem wpList_append_buf_string {ops : Array Oper} {rest : List Oper} {o : Oper} {a : Act} {Q : Exit → Act → World → Prop} (hgd : o.guard = none) (sl x : Operand) (t u : TypeId)
    (ho : o.op = .call { callee := .builtin .append, args := #[sl, x], argTypes := #[t, u] })
    (e : TypeId) (i : TypeInfo) (ht : P.underlying t = some (.slice e)) (hu : P.underlying u = some .string) (hi : P.info? e = some i) (hsize : i.size = 1)
    (g n : Nat) (T : TypeId) (xs : List Value) (hs : a.eval sl = .slice (some ⟨g, 0, none⟩) n 20) (hb : Buf w g n T xs) (s : ByteArray) (hx : a.eval x = .string s) (hroom : n + s.size ≤ 20)
    (h : ∀ w', Buf w' g (n + s.size) T (xs ++ strCells s) → w.grownBy w' (some g) → wpList P ops Q rest (a.put o.dst (.slice (some ⟨g, 0, none⟩) (n + s.size) 20)) w') : wpList P ops Q (o :: rest) a w := by
  refine wpList_plain hgd fun K hK => ?_
  obtain ⟨cur, hg, hcs, hn, htk⟩ := hb
  have hf := run_firstCells_string (P := P) w 1 s
  have hst := run_storeCells_at P g n T (strCells s) 0 cur w hg (by rw [strCells_length]; omega) (strCells_oneCell s)
  simp only [Nat.add_zero, strCells_length] at hst
  have hr : (Builtin.append_ #[t, u] o.type #[.slice (some ⟨g, 0, none⟩) n 20, .string s]).run P w =
      .ok (.slice (some ⟨g, 0, none⟩) (n + s.size) 20) (w.setRow g (cur.toList.take n ++ strCells s ++ cur.toList.drop (n + s.size)).toArray) := by
    simp [Builtin.append_, run_underlying ht, run_underlying hu, sizeOf, typeInfo, hi, hsize, Builtin.lenOf, hroom, hf, Addr.add_lit, hst]
  have R := buf_written w hg hcs htk (strCells_length s) hroom
  unfold Oper.wp execOp
  simp only [ho, resolve, invoke, builtin, Sem.run_bind, Sem.run_pure, Result.andThen_ok, List.map_toArray, List.map_cons, List.map_nil, hs, hx, hr]
  exact hK _ _ (h _ R.1 R.2)
end

theorem kept_trans {w w1 w2 : World} {r : Option Nat} (h : w.grownBy w1 r) (k : w1.grownBy w2 r) : w.grownBy w2 r :=
  ⟨k.os.trans h.os, k.tape.trans h.tape, k.output.trans h.output, Nat.le_trans h.size k.size, fun j hj hne => (k.block j (Nat.lt_of_lt_of_le hj h.size) hne).trans (h.block j hj hne)⟩
theorem kept_below {w w1 : World} (r : Option Nat) (h : Below w.heap.size w w1) : w.grownBy w1 r := ⟨h.os, h.tape, h.output, h.size, fun j hj _ => h.block j hj⟩
end Go.Proofs.Qxb6000604aDoor

/-
  What an append onto a slice of the call's own leaves, sharper than 'grownBy' alone: the value behind it lies in the old block or in a new one.
-/
import Derived.WalkKit
import Derived.Lib.AppendStr
namespace Go.Proofs.Qxb6000604a
open Go.RowKit

/-- From (w, v) to (w', v'): only v's own block may have turned; v' lies in v's block or in a block that w did not have. -/
def Grew (w w' : World) (v v' : Value) : Prop := w.grownBy w' v.ownBlock ∧ ∀ k, v'.ownBlock = some k → v.ownBlock = some k ∨ w.heap.size ≤ k

theorem Grew.refl (w : World) (v : Value) : Grew w w v v := ⟨World.grownBy.refl w _, fun _ h => .inl h⟩

theorem Grew.trans {w w1 w2 : World} {v v1 v2 : Value} (h : Grew w w1 v v1) (k : Grew w1 w2 v1 v2) : Grew w w2 v v2 := by
  have hs := h.1.size
  refine ⟨⟨k.1.os.trans h.1.os, k.1.tape.trans h.1.tape, k.1.output.trans h.1.output, Nat.le_trans hs k.1.size, fun j hj hne => ?_⟩, fun j hj => ?_⟩
  · refine (k.1.block j (by omega) fun e => ?_).trans (h.1.block j hj hne)
    rcases h.2 j e.symm with h1 | h1
    · exact hne h1.symm
    · omega
  · rcases k.2 j hj with h1 | h1
    · exact h.2 j h1
    · exact .inr (by omega)

theorem Grew.alloc (w : World) (v : Value) (o : Obj) : Grew w (w.alloc o) v v := ⟨World.grownBy_alloc w o _, fun _ h => .inl h⟩

theorem Grew.drew (w : World) (v : Value) : Grew w w.drew v v := ⟨⟨rfl, rfl, rfl, Nat.le_refl _, fun _ _ _ => rfl⟩, fun _ h => .inl h⟩

/-- What is below B stays, if v's own block is from B on. -/
theorem Grew.below {B : Nat} {w w' : World} {v v' : Value} (h : Grew w w' v v') (hB : B ≤ w.heap.size) (hv : ∀ k, v.ownBlock = some k → B ≤ k) : Below B w w' :=
  (Below.refl B w).grown h.1 hB hv

/-- A row that is not v's stays. -/
theorem Grew.kept {w w' : World} {v v' : Value} (h : Grew w w' v v') {base : Nat} {e : TypeId} {size : Nat} {u : Value} {n : Nat} {xs : List Value} (hu : w.ownsRow base e size u n xs)
    (hne : u.ownBlock = none ∨ u.ownBlock ≠ v.ownBlock) : w'.ownsRow base e size u n xs := hu.kept h.1 hne

section
variable {P : Program} (w : World)

theorem run_append_grew (base : Nat) (t ty e : TypeId) (i : TypeInfo) (z : Value) (size bytes : Nat) (ht : P.underlying t = some (.slice e)) (hi : P.info? e = some i) (hz : i.zero = some z)
    (hsize : i.size = size) (hby : i.bytes = bytes) (hzs : z.cells.size = size) (hsz : 0 < size)
    (v : Value) (n : Nat) (xs : List Value) (hown : w.ownsRow base e size v n xs)
    (a : Addr) (m c : Nat) (news : List Value) (hl : news.length = m * size) (hnews : ∀ j u, news[j]? = some u → w.cell? (a.add j) = some u) (h1 : ∀ u ∈ news, u.oneCell' = true)
    (h63 : n + m ≤ maxLen) (hbytes : (n + m) * bytes ≤ 140737488355328) (hbase : base ≤ w.heap.size) :
    ∃ v' w', (Builtin.append_ #[t, t] ty #[v, .slice (some a) m c]).run P w = .ok v' w' ∧ w'.ownsRow base e size v' (n + m) (xs ++ news) ∧ Grew w w' v v' := by
  obtain ⟨v', w', hr, hown', hg, _⟩ := run_append_own (P := P) w base t ty e i z size bytes ht hi hz hsize hby hzs hsz v n xs hown a m c news hl hnews h1 h63 hbytes hbase
  refine ⟨v', w', hr, hown', hg, ?_⟩
  rcases hown.2 with ⟨rfl, rfl⟩ | ⟨g, cap, cur, rfl, hbg, hgg, hnc, hcm, hcs, htake⟩
  · have hx : xs = [] := List.eq_nil_of_length_eq_zero (by simpa using hown.1)
    subst hx
    obtain ⟨v2, w2, hr2, hown2, _, _⟩ := run_append_own (P := P) w w.heap.size t ty e i z size bytes ht hi hz hsize hby hzs hsz _ 0 [] (World.ownsRow_nil w _ e size) a m c news hl hnews h1 h63 hbytes (Nat.le_refl _)
    rw [hr] at hr2
    simp only [Result.ok.injEq] at hr2
    obtain ⟨rfl, rfl⟩ := hr2
    exact fun k hk => .inr (hown2.lt k hk).1
  · by_cases hroom : n + m ≤ cap
    · obtain ⟨w2, hr2, _, _⟩ := run_append_fits (P := P) w base t ty e i size ht hi hsize g n cap xs hown a m c news hl hnews h1 hroom
      rw [hr] at hr2
      simp only [Result.ok.injEq] at hr2
      obtain ⟨rfl, rfl⟩ := hr2
      exact fun k hk => .inl hk
    · obtain ⟨v2, w2, hr2, hown2, _⟩ := run_append_arg_grows (P := P) w t ty e i z size bytes ht hi hz hsize hby hzs hsz ⟨g, 0, none⟩ n cap xs hown.1 (hown.cells (g := g) rfl) a m c news hl hnews (by omega) h63 hbytes
      rw [hr] at hr2
      simp only [Result.ok.injEq] at hr2
      obtain ⟨rfl, rfl⟩ := hr2
      exact fun k hk => .inr (hown2.lt k hk).1

theorem wpList_append_grew {ops : Array Oper} {rest : List Oper} {o : Oper} {a : Act} {Q : Exit → Act → World → Prop} (hgd : o.guard = none) (s x : Operand) (t : TypeId)
    (ho : o.op = .call { callee := .builtin .append, args := #[s, x], argTypes := #[t, t] })
    (base : Nat) (e : TypeId) (i : TypeInfo) (z : Value) (size bytes : Nat) (ht : P.underlying t = some (.slice e)) (hi : P.info? e = some i) (hz : i.zero = some z)
    (hsize : i.size = size) (hby : i.bytes = bytes) (hzs : z.cells.size = size) (hsz : 0 < size)
    (v : Value) (n : Nat) (xs : List Value) (hs : a.eval s = v) (hown : w.ownsRow base e size v n xs)
    (ad : Addr) (m c : Nat) (news : List Value) (hx : a.eval x = .slice (some ad) m c) (hl : news.length = m * size) (hnews : ∀ j u, news[j]? = some u → w.cell? (ad.add j) = some u) (h1 : ∀ u ∈ news, u.oneCell' = true)
    (h63 : n + m ≤ maxLen) (hbytes : (n + m) * bytes ≤ 140737488355328) (hbase : base ≤ w.heap.size)
    (h : ∀ v' w', w'.ownsRow base e size v' (n + m) (xs ++ news) → Grew w w' v v' → wpList P ops Q rest (a.put o.dst v') w') : wpList P ops Q (o :: rest) a w := by
  refine wpList_plain hgd fun K hK => ?_
  obtain ⟨v', w', hr, h2, h3⟩ := run_append_grew (P := P) w base t o.type e i z size bytes ht hi hz hsize hby hzs hsz v n xs hown ad m c news hl hnews h1 h63 hbytes hbase
  unfold Oper.wp execOp
  simp only [ho, resolve, invoke, builtin, Sem.run_bind, Sem.run_pure, Result.andThen_ok, List.map_toArray, List.map_cons, List.map_nil, hs, hx, hr]
  exact hK _ _ (h v' w' h2 h3)
end
end Go.Proofs.Qxb6000604a

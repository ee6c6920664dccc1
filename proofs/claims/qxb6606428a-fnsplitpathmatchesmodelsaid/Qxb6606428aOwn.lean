/-
  append on a slice of the call's own (elements of one cell), with words more than the kit's laws: what else the call owns is kept, the old slice too; where the new row lies.
-/
import Derived.WalkKit
import Derived.Below
import Derived.Lib.AppendStr
namespace Go.Proofs.Qxb6606428a
open Go.RowKit

theorem ownsRow_base {w : World} {b b' : Nat} {e : TypeId} {size : Nat} {v : Value} {n : Nat} {xs : List Value} (h : w.ownsRow b' e size v n xs) (hb : b ≤ b') : w.ownsRow b e size v n xs := by
  refine ⟨h.1, ?_⟩
  rcases h.2 with h | ⟨g, cap, cur, hv, hg, r⟩
  · exact .inl h
  · exact .inr ⟨g, cap, cur, hv, by omega, r⟩

/-- What an append leaves. -/
structure Grew (w w' : World) (base : Nat) (e : TypeId) (v : Value) (n : Nat) (v' : Value) (n' : Nat) (xs' : List Value) : Prop where
  own : w'.ownsRow base e 1 v' n' xs'
  keep : ∀ (b0 : Nat) (e0 : TypeId) (v0 : Value) (n0 : Nat) (xs0 : List Value), w.ownsRow b0 e0 1 v0 n0 xs0 → (v0.ownBlock = v.ownBlock → n0 ≤ n) → w'.ownsRow b0 e0 1 v0 n0 xs0
  grown : w.grownBy w' v.ownBlock
  lies : ∀ k, v'.ownBlock = some k → v.ownBlock = some k ∨ w.heap.size ≤ k
  from_ : ∀ k, v.ownBlock = some k → base ≤ k

theorem Grew.below {w w' : World} {base : Nat} {e : TypeId} {v : Value} {n : Nat} {v' : Value} {n' : Nat} {xs' : List Value} (h : Grew w w' base e v n v' n' xs') {w0 : World} (hb : Below base w0 w) (hs : base ≤ w.heap.size) : Below base w0 w' :=
  hb.grown h.grown hs h.from_

theorem keep_of {w w' : World} {base : Nat} {e : TypeId} {v : Value} {n : Nat} {xs : List Value} (ho : w.ownsRow base e 1 v n xs) (ho' : w'.ownsRow base e 1 v n xs) (hg : w.grownBy w' v.ownBlock) :
    ∀ (b0 : Nat) (e0 : TypeId) (v0 : Value) (n0 : Nat) (xs0 : List Value), w.ownsRow b0 e0 1 v0 n0 xs0 → (v0.ownBlock = v.ownBlock → n0 ≤ n) → w'.ownsRow b0 e0 1 v0 n0 xs0 := by
  intro b0 e0 v0 n0 xs0 h0 hn
  by_cases heq : v0.ownBlock = v.ownBlock
  · have hle := hn heq
    refine ⟨h0.1, ?_⟩
    rcases h0.2 with h | ⟨g0, cap0, cur0, rfl, hb0, hg0, hc1, hc2, hc3, ht0⟩
    · exact .inl h
    · rcases ho.2 with ⟨rfl, _⟩ | ⟨g, cap, cur, rfl, hb, hgg, hd1, hd2, hd3, ht⟩
      · simp [Value.ownBlock] at heq
      · simp only [Value.ownBlock, Option.some.injEq] at heq
        subst heq
        rcases ho'.2 with ⟨h, _⟩ | ⟨g', cap', cur', hv', hb', hgg', hd1', hd2', hd3', ht'⟩
        · simp at h
        · simp only [Value.slice.injEq, Option.some.injEq, Addr.mk.injEq, and_true, true_and] at hv'
          obtain ⟨rfl, rfl⟩ := hv'
          rw [hgg] at hg0
          simp only [Option.some.injEq, Obj.cells.injEq, and_true] at hg0
          obtain ⟨rfl, rfl⟩ := hg0
          refine .inr ⟨g0, cap0, cur', rfl, hb0, hgg', hc1, hc2, by rw [hd3', ← hd3, hc3], ?_⟩
          have e1 : cur'.toList.take (n0 * 1) = (cur'.toList.take (n * 1)).take (n0 * 1) := by rw [List.take_take]; congr 1; omega
          have e2 : cur.toList.take (n0 * 1) = (cur.toList.take (n * 1)).take (n0 * 1) := by rw [List.take_take]; congr 1; omega
          rw [e1, ht', ← ht, ← e2, ht0]
  · exact h0.kept hg (by
      cases h : v0.ownBlock with
      | none => exact .inl rfl
      | some k => exact .inr (fun e => heq (by rw [h, e])))

/-- In the same block, longer: the shorter one is owned still. -/
theorem shorter {w : World} {base : Nat} {e : TypeId} {g n m cap : Nat} {xs ys : List Value} (h : w.ownsRow base e 1 (.slice (some ⟨g, 0, none⟩) (n + m) cap) (n + m) (xs ++ ys)) (hx : xs.length = n) : w.ownsRow base e 1 (.slice (some ⟨g, 0, none⟩) n cap) n xs := by
  refine ⟨by omega, .inr ?_⟩
  rcases h.2 with ⟨h, _⟩ | ⟨g', cap', cur, hv, hb, hg, h1, h2, h3, h4⟩
  · simp at h
  · simp only [Value.slice.injEq, Option.some.injEq, Addr.mk.injEq, and_true, true_and] at hv
    obtain ⟨rfl, rfl⟩ := hv
    refine ⟨g, cap, cur, rfl, hb, hg, by omega, h2, h3, ?_⟩
    have e1 : cur.toList.take (n * 1) = (cur.toList.take ((n + m) * 1)).take (n * 1) := by rw [List.take_take]; congr 1; omega
    rw [e1, h4, ← hx, Nat.mul_one, List.take_left]

section
variable {P : Program}
theorem run_append_grew (w : World) (base : Nat) (t ty e : TypeId) (i : TypeInfo) (z : Value) (bytes : Nat) (ht : P.underlying t = some (.slice e)) (hi : P.info? e = some i) (hz : i.zero = some z)
    (hsize : i.size = 1) (hby : i.bytes = bytes) (hzs : z.cells.size = 1)
    (v : Value) (n : Nat) (xs : List Value) (hown : w.ownsRow base e 1 v n xs)
    (a : Addr) (m c : Nat) (news : List Value) (hl : news.length = m * 1) (hnews : ∀ j u, news[j]? = some u → w.cell? (a.add j) = some u) (h1 : ∀ u ∈ news, u.oneCell' = true)
    (h63 : n + m ≤ maxLen) (hbytes : (n + m) * bytes ≤ 140737488355328) (hbase : base ≤ w.heap.size) :
    ∃ v' w', (Builtin.append_ #[t, t] ty #[v, .slice (some a) m c]).run P w = .ok v' w' ∧ Grew w w' base e v n v' (n + m) (xs ++ news) := by
  have hown' := hown
  have hfr : ∀ k, v.ownBlock = some k → base ≤ k := fun k hk => (hown.lt k hk).1
  rcases hown.2 with ⟨rfl, rfl⟩ | ⟨g, cap, cur, rfl, hbg, hg, hnc, hcm, hcs, htake⟩
  · have hx : xs = [] := List.eq_nil_of_length_eq_zero (by simpa using hown.1)
    subst hx
    obtain ⟨v', w', hr, ho, hgr, _⟩ := run_append_own (P := P) w w.heap.size t ty e i z 1 bytes ht hi hz hsize hby hzs (by omega) _ 0 [] (World.ownsRow_nil w _ e 1) a m c news hl hnews h1 h63 hbytes (Nat.le_refl _)
    exact ⟨v', w', hr, ownsRow_base ho hbase, keep_of hown' (World.ownsRow_nil w' base e 1) hgr, hgr, fun k hk => .inr (ho.lt k hk).1, hfr⟩
  · by_cases hroom : n + m ≤ cap
    · obtain ⟨w', hr, ho, hgr⟩ := run_append_fits (P := P) w base t ty e i 1 ht hi hsize g n cap xs hown' a m c news hl hnews h1 hroom
      exact ⟨_, w', hr, ho, keep_of hown' (shorter ho (by simpa using hown.1)) hgr, hgr, fun k hk => .inl hk, hfr⟩
    · obtain ⟨v', w', hr, ho, hgr⟩ := run_append_arg_grows (P := P) w t ty e i z 1 bytes ht hi hz hsize hby hzs (by omega) ⟨g, 0, none⟩ n cap xs hown.1 (hown'.cells rfl) a m c news hl hnews (by omega) h63 hbytes
      have hgr' : w.grownBy w' (Value.ownBlock (.slice (some ⟨g, 0, none⟩) n cap)) := ⟨hgr.os, hgr.tape, hgr.output, hgr.size, fun k hk _ => hgr.block k hk (by simp)⟩
      exact ⟨v', w', hr, ownsRow_base ho hbase, keep_of hown' (hown'.kept hgr (by simp [Value.ownBlock])) hgr', hgr', fun k hk => .inr (ho.lt k hk).1, hfr⟩

theorem run_append_grew_str (w : World) (base : Nat) (t u ty e : TypeId) (i : TypeInfo) (ht : P.underlying t = some (.slice e)) (hu : P.underlying u = some .string) (hi : P.info? e = some i) (hz : i.zero = some (.int .u8 0))
    (hsize : i.size = 1) (hby : i.bytes = 1)
    (v : Value) (n : Nat) (xs : List Value) (hown : w.ownsRow base e 1 v n xs) (s : ByteArray)
    (h63 : n + s.size ≤ maxLen) (hbytes : n + s.size ≤ 140737488355328) (hbase : base ≤ w.heap.size) :
    ∃ v' w', (Builtin.append_ #[t, u] ty #[v, .string s]).run P w = .ok v' w' ∧ Grew w w' base e v n v' (n + s.size) (xs ++ Lib.strCells s) := by
  have hown' := hown
  have hfr : ∀ k, v.ownBlock = some k → base ≤ k := fun k hk => (hown.lt k hk).1
  obtain ⟨v', w', hr, ho, hgr, hnil⟩ := Lib.run_append_own_string (P := P) w base t u ty e i ht hu hi hz hsize hby v n xs hown s h63 hbytes hbase
  rcases hown.2 with ⟨rfl, rfl⟩ | ⟨g, cap, cur, rfl, hbg, hg, hnc, hcm, hcs, htake⟩
  · have hx : xs = [] := List.eq_nil_of_length_eq_zero (by simpa using hown.1)
    subst hx
    obtain ⟨v2, w2, hr2, ho2, hgr2, _⟩ := Lib.run_append_own_string (P := P) w w.heap.size t u ty e i ht hu hi hz hsize hby _ 0 [] (World.ownsRow_nil w _ e 1) s h63 hbytes (Nat.le_refl _)
    exact ⟨v2, w2, hr2, ownsRow_base ho2 hbase, keep_of hown' (World.ownsRow_nil w2 base e 1) hgr2, hgr2, fun k hk => .inr (ho2.lt k hk).1, hfr⟩
  · by_cases hroom : n + s.size ≤ cap
    · have hr' := Lib.run_append_room_string (P := P) w t u ty e i ht hu hi hsize g n cap cur hg s hroom (by omega)
      rw [hr] at hr'
      simp only [Result.ok.injEq] at hr'
      obtain ⟨rfl, rfl⟩ := hr'
      exact ⟨_, _, hr, ho, keep_of hown' (shorter ho (by simpa using hown.1)) hgr, hgr, fun k hk => .inl hk, hfr⟩
    · have holds : ∀ j u, xs[j]? = some u → w.cell? ((⟨g, 0, none⟩ : Addr).add j) = some u := hown'.cells (g := g) rfl
      have hr' := Lib.run_append_grow_string (P := P) w t u ty e i (.int .u8 0) ht hu hi hz ⟨g, 0, none⟩ n cap xs (by rw [hsize]; exact hown.1) holds s (by omega) (by simp only [maxLen] at h63; omega) (by rw [hby]; exact growslice_fits (by omega) (by omega))
      rw [hr] at hr'
      simp only [Result.ok.injEq] at hr'
      obtain ⟨rfl, rfl⟩ := hr'
      have hk : w.grownBy (w.drew.alloc (.cells (xs.toArray ++ (Lib.strCells s).toArray ++ Builtin.zeroCells (Value.int .u8 0).cells (grownCap w (n + s.size) cap e - (n + s.size))) e)) none := ⟨rfl, rfl, rfl, by simp, fun k hk _ => Below.heap_alloc w.drew _ k hk⟩
      exact ⟨_, _, hr, ho, keep_of hown' (hown'.kept hk (by simp [Value.ownBlock])) hgr, hgr, fun k hk => .inr (by simp [Value.ownBlock] at hk; omega), hfr⟩
end

theorem wpList_append_grew {P : Program} {w : World} {ops : Array Oper} {rest : List Oper} {o : Oper} {a : Act} {Q : Exit → Act → World → Prop} (hgd : o.guard = none) (s x : Operand) (t : TypeId)
    (ho : o.op = .call { callee := .builtin .append, args := #[s, x], argTypes := #[t, t] })
    (base : Nat) (e : TypeId) (i : TypeInfo) (z : Value) (bytes : Nat) (ht : P.underlying t = some (.slice e)) (hi : P.info? e = some i) (hz : i.zero = some z)
    (hsize : i.size = 1) (hby : i.bytes = bytes) (hzs : z.cells.size = 1)
    (v : Value) (n : Nat) (xs : List Value) (hs : a.eval s = v) (hown : w.ownsRow base e 1 v n xs)
    (ad : Addr) (m c : Nat) (news : List Value) (hx : a.eval x = .slice (some ad) m c) (hl : news.length = m * 1) (hnews : ∀ j u, news[j]? = some u → w.cell? (ad.add j) = some u) (h1 : ∀ u ∈ news, u.oneCell' = true)
    (h63 : n + m ≤ maxLen) (hbytes : (n + m) * bytes ≤ 140737488355328) (hbase : base ≤ w.heap.size)
    (h : ∀ v' w', Grew w w' base e v n v' (n + m) (xs ++ news) → wpList P ops Q rest (a.put o.dst v') w') : wpList P ops Q (o :: rest) a w := by
  refine wpList_plain hgd fun K hK => ?_
  obtain ⟨v', w', hr, h2⟩ := run_append_grew (P := P) w base t o.type e i z bytes ht hi hz hsize hby hzs v n xs hown ad m c news hl hnews h1 h63 hbytes hbase
  unfold Oper.wp
  simp [execOp, ho, resolve, invoke, builtin, hs, hx, hr, Result.andThen]
  exact hK _ _ (h v' w' h2)

theorem wpList_append_grew_str {P : Program} {w : World} {ops : Array Oper} {rest : List Oper} {o : Oper} {a : Act} {Q : Exit → Act → World → Prop} (hgd : o.guard = none) (sl x : Operand) (t u : TypeId)
    (ho : o.op = .call { callee := .builtin .append, args := #[sl, x], argTypes := #[t, u] })
    (base : Nat) (e : TypeId) (i : TypeInfo) (ht : P.underlying t = some (.slice e)) (hu : P.underlying u = some .string) (hi : P.info? e = some i) (hz : i.zero = some (.int .u8 0))
    (hsize : i.size = 1) (hby : i.bytes = 1)
    (v : Value) (n : Nat) (xs : List Value) (hs : a.eval sl = v) (hown : w.ownsRow base e 1 v n xs) (s : ByteArray) (hx : a.eval x = .string s)
    (h63 : n + s.size ≤ maxLen) (hbytes : n + s.size ≤ 140737488355328) (hbase : base ≤ w.heap.size)
    (h : ∀ v' w', Grew w w' base e v n v' (n + s.size) (xs ++ Lib.strCells s) → wpList P ops Q rest (a.put o.dst v') w') : wpList P ops Q (o :: rest) a w := by
  refine wpList_plain hgd fun K hK => ?_
  obtain ⟨v', w', hr, h2⟩ := run_append_grew_str (P := P) w base t u o.type e i ht hu hi hz hsize hby v n xs hown s h63 hbytes hbase
  unfold Oper.wp
  simp [execOp, ho, resolve, invoke, builtin, hs, hx, hr, Result.andThen]
  exact hK _ _ (h v' w' h2)

/-- A slice that owns elements, by its shape: nil, or at the head of a block. -/
theorem own_shape {w : World} {b : Nat} {e : TypeId} {size : Nat} {v : Value} {l : Nat} {xs : List Value} (h : w.ownsRow b e size v l xs) : ∃ a c, v = .slice a l c ∧ ((a = none ∧ l = 0 ∧ c = 0) ∨ ∃ g, a = some ⟨g, 0, none⟩ ∧ l ≤ c ∧ c ≤ maxLen) := by
  rcases h.2 with ⟨rfl, rfl⟩ | ⟨g, cap, cur, rfl, _, _, h1, h2, _⟩
  · exact ⟨none, 0, rfl, .inl ⟨rfl, rfl, rfl⟩⟩
  · exact ⟨_, cap, rfl, .inr ⟨g, rfl, h1, h2⟩⟩

end Go.Proofs.Qxb6606428a

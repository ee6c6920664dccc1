/-
  The decoder's side: where a byte is met first; the end of a string.
-/
import Derived.Test.Qxb6605573aLeafC
import Derived.Test.Qxb6605573aLeafD
import Derived.Lib.IndexLaws
namespace Go.Proofs.Qxb6605573a
open Go.RowKit
set_option linter.unusedVariables false
set_option linter.unusedSimpArgs false

/-- What a look for the byte c among the m bytes from place o on answers. -/
def IdxRes (t : Nat → Int) (o m : Nat) (c r : Int) : Prop :=
  (r = -1 ∧ ∀ j, j < m → t (o + j) ≠ c) ∨ ∃ k : Nat, k < m ∧ r = k ∧ t (o + k) = c ∧ ∀ j, j < k → t (o + j) ≠ c

theorem u8_eq {x c : Int} (hx0 : 0 ≤ x) (hx : x ≤ 255) (hc0 : 0 ≤ c) (hc : c ≤ 255) : (UInt8.ofNat x.toNat = c.toNat.toUInt8) ↔ x = c := by
  constructor
  · intro h
    have := congrArg UInt8.toNat h
    simp [Nat.toUInt8] at this
    omega
  · rintro rfl; rfl

theorem idxRes_of (t : Nat → Int) (o m : Nat) (c : Int) (hb : ∀ j, 0 ≤ t j ∧ t j ≤ 255) (hc0 : 0 ≤ c) (hc : c ≤ 255) :
    IdxRes t o m c (Lib.indexByte (Lib.bytesOf ((List.range m).map fun j => t (o + j))) c.toNat.toUInt8) := by
  have hg : ∀ k, k < m → (Lib.bytesOf ((List.range m).map fun j => t (o + j)))[k]? = some (UInt8.ofNat (t (o + k)).toNat) := by
    intro k hk; simp [Lib.bytesOf, hk]
  have hge := Lib.indexByte_ge (Lib.bytesOf ((List.range m).map fun j => t (o + j))) c.toNat.toUInt8
  by_cases h : Lib.indexByte (Lib.bytesOf ((List.range m).map fun j => t (o + j))) c.toNat.toUInt8 = -1
  · refine .inl ⟨h, fun j hj e => ?_⟩
    refine Lib.indexByte_none h j ?_
    rw [hg j hj, (u8_eq (hb _).1 (hb _).2 hc0 hc).2 e]
  · obtain ⟨k, hk⟩ : ∃ k : Nat, Lib.indexByte (Lib.bytesOf ((List.range m).map fun j => t (o + j))) c.toNat.toUInt8 = k := ⟨(Lib.indexByte (Lib.bytesOf ((List.range m).map fun j => t (o + j))) c.toNat.toUInt8).toNat, by omega⟩
    obtain ⟨h1, h2⟩ := Lib.indexByte_some hk
    have hkm : k < m := by
      have := (List.getElem?_eq_some_iff.1 h1).1
      simpa [Lib.bytesOf] using this
    refine .inr ⟨k, hkm, hk, ?_, fun j hj e => ?_⟩
    · rw [hg k hkm] at h1
      exact (u8_eq (hb _).1 (hb _).2 hc0 hc).1 (Option.some.inj h1)
    · refine h2 j hj ?_
      rw [hg j (by omega), (u8_eq (hb _).1 (hb _).2 hc0 hc).2 e]

theorem index_at (T o m c : Nat) (t : Nat → Int) (cv : Int) (w : World) (hb : ∀ j, 0 ≤ t j ∧ t j ≤ 255) (hc0 : 0 ≤ cv) (hc : cv ≤ 255) (htx : ∀ i, i < m → w.cell? ⟨T, o + i, none⟩ = some (.int .u8 (t (o + i)))) :
    Calls Try.prog 35 #[.slice (some ⟨T, o, none⟩) m c, .int .u8 cv] w fun e w' => ∃ r : Int, e = .returned (.int .i64 r) ∧ IdxRes t o m cv r ∧ w' = w := by
  refine (indexByte_any T o m c ((List.range m).map fun j => t (o + j)) cv w (by simp) (fun i hi => ?_)).mono ?_
  · rw [htx i hi]; simp [hi]
  · rintro e w' ⟨rfl, rfl⟩
    exact ⟨_, rfl, idxRes_of t o m cv hb hc0 hc, rfl⟩

theorem Str.skip {t : Nat → Int} {n : Nat} : ∀ {m i e q : Nat}, Str t n m i e → i ≤ q → (∀ j, i ≤ j → j < q → t j ≠ 34 ∧ t j ≠ 92) → ∃ m', Str t n m' q e
  | 0, _, _, _, h, _, _ => h.elim
  | m + 1, i, e, q, ⟨hi, h⟩, hiq, hp => by
    by_cases heq : i = q
    · subst heq; exact ⟨m + 1, hi, h⟩
    · have g := hp i (Nat.le_refl _) (by omega)
      rcases h with ⟨h1, _⟩ | ⟨h1, _⟩ | ⟨_, _, h1⟩
      · exact absurd h1 g.1
      · exact absurd h1 g.2
      · exact h1.skip (by omega) fun j a b => hp j (by omega) b

theorem Str.quote_end {t : Nat → Int} {n m q e : Nat} (h : Str t n m q e) (hq : t q = 34) : e = q + 1 := by
  match m, h with
  | m + 1, ⟨hi, h⟩ =>
    rcases h with ⟨_, h1⟩ | ⟨h1, _⟩ | ⟨h1, _⟩
    · exact h1
    · omega
    · exact absurd hq h1

theorem Str.slash {t : Nat → Int} {n m q e : Nat} (h : Str t n m q e) (hq : t q = 92) : ∃ m', Str t n m' (q + 2) e := by
  match m, h with
  | m + 1, ⟨hi, h⟩ =>
    rcases h with ⟨h1, _⟩ | ⟨_, h1⟩ | ⟨_, h1, _⟩
    · omega
    · exact ⟨m, h1⟩
    · exact absurd hq h1

theorem Str.last {t : Nat → Int} {n : Nat} : ∀ {m i e : Nat}, Str t n m i e → ∃ j, i ≤ j ∧ j < n ∧ t j = 34
  | 0, _, _, h => h.elim
  | m + 1, i, e, ⟨hi, h⟩ => by
    rcases h with ⟨h1, _⟩ | ⟨_, h1⟩ | ⟨_, _, h1⟩
    · exact ⟨i, Nat.le_refl _, hi, h1⟩
    · obtain ⟨j, a, b, c⟩ := h1.last; exact ⟨j, by omega, b, c⟩
    · obtain ⟨j, a, b, c⟩ := h1.last; exact ⟨j, by omega, b, c⟩

/-- A look for the quote from place i on, inside a string: it is found. -/
theorem Str.found {t : Nat → Int} {n m i e : Nat} {r : Int} (h : Str t n m i e) (hr : IdxRes t i (n - i) 34 r) : ∃ q : Nat, r = (q : Int) - i ∧ i ≤ q ∧ q < n ∧ t q = 34 ∧ ∀ j, i ≤ j → j < q → t j ≠ 34 := by
  rcases hr with ⟨_, hno⟩ | ⟨k, hk, hr, h1, h2⟩
  · obtain ⟨j, a, b, c⟩ := h.last
    exact absurd c (by have := hno (j - i) (by omega); rwa [show i + (j - i) = j by omega] at this)
  · exact ⟨i + k, by omega, by omega, by omega, h1, fun j a b => by have := h2 (j - i) (by omega); rwa [show i + (j - i) = j by omega] at this⟩

end Go.Proofs.Qxb6605573a

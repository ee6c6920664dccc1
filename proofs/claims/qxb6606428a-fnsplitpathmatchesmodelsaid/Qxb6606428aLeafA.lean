/-
  Contracts of the leaves: strings.IndexByte, strings.HasSuffix, unhex.
-/
import Derived.Test.Qxb6606428aRows
import Derived.Test.Qxb6606428aPlain
import Derived.Test.Qxb6606428aOwn
import Derived.WalkKit
import Derived.ProofKit
import Derived.WalkSpells
import Derived.WalkSmall
import Derived.WalkLawsBesides
import Derived.Deep.QuietTactic
import Derived.BigQuiet
import Derived.Lib.Bytealg
import Derived.Lib.IndexLaws
namespace Go.Proofs.Qxb6606428a
open Go.RowKit
set_option linter.unusedVariables false
set_option linter.unusedSimpArgs false

theorem ret_bool {a b : Bool} (h : a = b) : Ending.returned (.bool a) = .returned (.bool b) := by rw [h]
theorem ret_int {k : IntKind} {a b : Int} (h : a = b) : Ending.returned (.int k a) = .returned (.int k b) := by rw [h]

/-- What a look for the byte c answers. -/
def IxRes (l : List UInt8) (c : UInt8) (r : Int) : Prop := (r = -1 ∧ pre c l = l.length ∧ c ∉ l) ∨ (r = pre c l ∧ pre c l < l.length ∧ l[pre c l]? = some c ∧ ∀ x ∈ l.take (pre c l), x ≠ c)

theorem pre_none {c : UInt8} : ∀ {l : List UInt8}, c ∉ l → pre c l = l.length
  | [], _ => rfl
  | b :: l, h => by
    rw [List.mem_cons] at h
    have hb : b ≠ c := fun e => h (.inl e.symm)
    rw [pre, if_neg hb, pre_none fun e => h (.inr e)]; rfl
theorem pre_hit {c : UInt8} : ∀ {l : List UInt8}, c ∈ l → pre c l < l.length ∧ l[pre c l]? = some c ∧ ∀ x ∈ l.take (pre c l), x ≠ c
  | [], h => by simp at h
  | b :: l, h => by
    by_cases hb : b = c
    · rw [pre, if_pos hb]; simp [hb]
    · have hm : c ∈ l := by
        rcases List.mem_cons.1 h with e | e
        · exact absurd e.symm hb
        · exact e
      obtain ⟨h1, h2, h3⟩ := pre_hit hm
      rw [pre, if_neg hb]
      refine ⟨by simp; omega, by simpa using h2, fun x hx => ?_⟩
      rw [List.take_succ_cons, List.mem_cons] at hx
      rcases hx with rfl | hx
      · exact hb
      · exact h3 x hx

theorem index_pre (l : List UInt8) (c : UInt8) : IxRes l c (Lib.indexByte l c) := by
  have hge := Lib.indexByte_ge l c
  by_cases h : c ∈ l
  · obtain ⟨p1, p2, p3⟩ := pre_hit h
    refine .inr ⟨?_, p1, p2, p3⟩
    have hne : Lib.indexByte l c ≠ -1 := fun e => Lib.indexByte_none e _ p2
    obtain ⟨k, hk⟩ : ∃ k : Nat, Lib.indexByte l c = k := ⟨(Lib.indexByte l c).toNat, by omega⟩
    obtain ⟨a, b⟩ := Lib.indexByte_some hk
    rw [hk]
    congr 1
    by_cases hlt : k < pre c l
    · exfalso
      exact p3 c (List.mem_iff_getElem?.2 ⟨k, by rw [List.getElem?_take_of_lt hlt]; exact a⟩) rfl
    · by_cases hgt : pre c l < k
      · exact absurd p2 (b _ hgt)
      · omega
  · refine .inl ⟨?_, pre_none h, h⟩
    by_cases hne : Lib.indexByte l c = -1
    · exact hne
    · exfalso
      obtain ⟨k, hk⟩ : ∃ k : Nat, Lib.indexByte l c = k := ⟨(Lib.indexByte l c).toNat, by omega⟩
      exact h (List.mem_iff_getElem?.2 ⟨k, (Lib.indexByte_some hk).1⟩)

theorem index21_any (s : ByteArray) (cv : Int) (w : World) :
    Calls Try.prog 21 #[.string s, .int .u8 cv] w fun e w' => e = .returned (.int .i64 (Lib.indexByte s.data.toList cv.toNat.toUInt8)) ∧ w' = w := by
  go_enter Try.func21, Try.ntmps21
  go_wp2
  rw [run_callFunc_extern Try.func24 (by kernel_rfl) (by kernel_rfl) (by kernel_rfl) (e := Extern.BytealgIndexByte.indexByte) (by kernel_rfl), Lib.run_indexByteString]
  simp only [Result.andThen]
  rw [Oper.upon_value]
  go_wp2
  go_ret
  exact ⟨rfl, rfl⟩

/-- strings.IndexByte. -/
theorem index_any (s : ByteArray) (c : UInt8) (cv : Int) (hc : cv.toNat.toUInt8 = c) (w : World) :
    Calls Try.prog 17 #[.string s, .int .u8 cv] w fun e w' => ∃ r : Int, e = .returned (.int .i64 r) ∧ IxRes s.data.toList c r ∧ w' = w := by
  go_enter Try.func17, Try.ntmps17
  go_wp2_with fail
  refine (index21_any s cv w).mono ?_
  rintro e w' ⟨rfl, rfl⟩
  rw [hc]
  go_wp2_with fail
  go_ret
  exact ⟨_, rfl, index_pre _ _, rfl⟩

/-- The text ends in a slash. -/
def endsS (s : ByteArray) : Bool := decide (1 ≤ s.size) && ((s.extract (s.size - 1) s.size).toList == [47])

theorem suffix22_any (s : ByteArray) (w : World) (hs : s.size ≤ 1048576) : Calls Try.prog 22 #[.string s, .string { data := #[47] }] w fun e w' => e = .returned (.bool (endsS s)) ∧ w' = w := by
  by_cases h : 1 ≤ s.size
  · go_enter Try.func22, Try.ntmps22
    go_wp2
    go_ret
    exact ⟨ret_bool (by simp [endsS, h]), rfl⟩
  · go_enter Try.func22, Try.ntmps22
    go_wp2
    go_ret
    exact ⟨ret_bool (by simp [endsS, h]), rfl⟩

theorem suffix_any (s : ByteArray) (w : World) (hs : s.size ≤ 1048576) : Calls Try.prog 18 #[.string s, .string { data := #[47] }] w fun e w' => e = .returned (.bool (endsS s)) ∧ w' = w := by
  go_enter Try.func18, Try.ntmps18
  go_wp2_with fail
  refine (suffix22_any s w hs).mono ?_
  rintro e w' ⟨rfl, rfl⟩
  go_wp2_with fail
  go_ret
  exact ⟨rfl, rfl⟩

theorem ret_hex {a b : Int} {x : Bool} (h : a = b) : Ending.returned (.tuple #[.int .u8 a, .bool x]) = .returned (.tuple #[.int .u8 b, .bool x]) := by rw [h]

/-- unhex of a digit, and of none. -/
theorem unhex_yes (c : UInt8) (w : World) (h : hexok c = true) : Calls Try.prog 23 #[.int .u8 (c.toNat : Int)] w fun e w' => e = .returned (.tuple #[.int .u8 (hexv c : Int), .bool true]) ∧ w' = w := by
  simp only [hexok, Bool.or_eq_true, Bool.and_eq_true, decide_eq_true_eq] at h
  have hlt := c.toNat_lt
  go_enter Try.func23, Try.ntmps23
  go_wp2
  all_goals
    go_ret2
    exact ⟨ret_hex (by unfold hexv; split <;> (try split) <;> omega), rfl⟩

theorem unhex_no (c : UInt8) (w : World) (h : hexok c = false) : Calls Try.prog 23 #[.int .u8 (c.toNat : Int)] w fun e w' => e = .returned (.tuple #[.int .u8 0, .bool false]) ∧ w' = w := by
  simp only [hexok, Bool.or_eq_false_iff, Bool.and_eq_false_iff, decide_eq_false_iff_not] at h
  have hlt := c.toNat_lt
  go_enter Try.func23, Try.ntmps23
  go_wp2
  all_goals
    go_ret2
    exact ⟨rfl, rfl⟩

end Go.Proofs.Qxb6606428a

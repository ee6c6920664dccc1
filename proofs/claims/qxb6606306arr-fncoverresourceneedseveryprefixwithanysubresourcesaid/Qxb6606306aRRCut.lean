/-
  strings.Cut at a slash: all that is wanted of it: what lies behind is no longer than the whole.
-/
import Derived.Test.Qxb6606306aRRRows
import Derived.WalkKit
import Derived.Below
import Derived.WalkSpells
import Derived.Deep.QuietTactic
import Derived.BigQuiet
import Derived.Lib.Bytealg
import Derived.Lib.IndexLaws
namespace Go.Proofs.Qxb6606306aRR
open Go.RowKit
set_option linter.unusedVariables false
set_option linter.unusedSimpArgs false

theorem indexByteStr_any (s : ByteArray) (cv : Int) (w : World) :
    Calls Try.prog 46 #[.string s, .int .u8 cv] w fun e w' => e = .returned (.int .i64 (Lib.indexByte s.data.toList cv.toNat.toUInt8)) ∧ w' = w := by
  go_enter Try.func46, Try.ntmps46
  go_wp2
  rw [run_callFunc_extern Try.func50 (by kernel_rfl) (by kernel_rfl) (by kernel_rfl) (e := Extern.BytealgIndexByte.indexByte) (by kernel_rfl), Lib.run_indexByteString]
  simp only [Result.andThen]
  rw [Oper.upon_value]
  go_wp2
  go_ret
  exact ⟨rfl, rfl⟩

theorem idx_bound (l : List UInt8) (c : UInt8) : -1 ≤ Lib.indexByte l c ∧ Lib.indexByte l c < l.length := by
  have h := Lib.indexByte_ge l c
  refine ⟨h, ?_⟩
  by_cases h1 : Lib.indexByte l c = -1
  · omega
  · obtain ⟨k, hk⟩ : ∃ k : Nat, Lib.indexByte l c = k := ⟨(Lib.indexByte l c).toNat, by omega⟩
    have := (List.getElem?_eq_some_iff.1 (Lib.indexByte_some hk).1).1
    omega

set_option maxRecDepth 100000 in
set_option maxHeartbeats 800000 in
theorem index_any (s : ByteArray) (w : World) (hs : s.size ≤ 4096) :
    Calls Try.prog 45 #[.string s, .string { data := #[47] }] w fun e w' => ∃ i : Int, e = .returned (.int .i64 i) ∧ -1 ≤ i ∧ i < s.size ∧ w' = w := by
  by_cases heq : ([47] == s.toList) = true
  · go_enter Try.func45, Try.ntmps45
    go_wp2_with fail
    go_ret
    have hs1 : s.toList.length = 1 := by have := (beq_iff_eq.1 heq).symm; rw [this]; rfl
    rw [ByteArray.toList_eq] at hs1
    exact ⟨0, rfl, by omega, by have : s.size = 1 := by simpa using hs1
                                omega, rfl⟩
  · have heq' : ([47] == s.toList) = false := by simpa using heq
    clear heq
    go_enter Try.func45, Try.ntmps45
    go_wp2_with fail
    refine (indexByteStr_any _ _ _).mono ?_
    rintro e w' ⟨rfl, rfl⟩
    go_wp2_with fail
    go_ret
    have h := idx_bound s.data.toList (Int.toNat (({ data := #[47] } : ByteArray)[0].toNat : Int)).toUInt8
    exact ⟨_, rfl, h.1, by simpa using h.2, rfl⟩

def CutPost (s : ByteArray) (w : World) (e : Ending) (w' : World) : Prop := ∃ (b a : ByteArray) (f : Bool), e = .returned (.tuple #[.string b, .string a, .bool f]) ∧ a.size ≤ s.size ∧ ∃ q, w' = w.drewN q

set_option maxRecDepth 100000 in
set_option maxHeartbeats 800000 in
theorem cut44_any (s : ByteArray) (w : World) (hs : s.size ≤ 4096) : Calls Try.prog 44 #[.string s, .string { data := #[47] }] w (CutPost s w) := by
  go_enter Try.func44, Try.ntmps44
  go_wp2_with fail
  refine (index_any s w hs).mono ?_
  rintro e w' ⟨i, rfl, h1, h2, rfl⟩
  by_cases hi : 0 ≤ i
  · obtain ⟨k, rfl⟩ : ∃ k : Nat, i = k := ⟨i.toNat, by omega⟩
    have hk : k + 1 ≤ s.size := by omega
    go_wp2_with fail
    go_quiet (fail)
    go_wp2_with fail
    go_ret3
    exact ⟨s.extract 0 k, s.extract (k + 1) s.size, true, rfl, by simp [ByteArray.size_extract], _, rfl⟩
  · go_wp2_with fail
    go_ret3
    exact ⟨s, { data := #[] }, false, rfl, Nat.zero_le _, 0, rfl⟩

set_option maxRecDepth 100000 in
set_option maxHeartbeats 800000 in
theorem cut_any (s : ByteArray) (w : World) (hs : s.size ≤ 4096) : Calls Try.prog 40 #[.string s, .string { data := #[47] }] w (CutPost s w) := by
  go_enter Try.func40, Try.ntmps40
  go_wp2_with fail
  refine (cut44_any s w hs).mono ?_
  rintro e w' ⟨b, a, f, rfl, ha, q, rfl⟩
  go_wp2_with fail
  go_ret3
  exact ⟨b, a, f, rfl, ha, q, rfl⟩

end Go.Proofs.Qxb6606306aRR

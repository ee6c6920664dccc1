/-
  FnSplitPathMatchesModel: the walk.
-/
import Derived.Test.Qxb6606428aModelB
namespace Go.Proofs.Qxb6606428a
open Go.RowKit
set_option linter.unusedVariables false
set_option linter.unusedSimpArgs false

set_option maxRecDepth 100000 in
set_option maxHeartbeats 1600000 in
/-- sameInts of two rows that hold the same. -/
theorem sameInts_yes (a b : Option Addr) (ca cb n : Nat) (f : Nat → Int) (w : World) (hn : n ≤ 9223372036854775807) (ha : RowAt w .i64 a n f) (hb : RowAt w .i64 b n f) :
    Calls Try.prog 9 #[.slice a n ca, .slice b n cb] w fun e w' => e = .returned (.bool true) ∧ ∃ m, w' = w.drewN m := by
  have HA : Hid (RowAt w .i64 a n f ∧ RowAt w .i64 b n f) := ⟨ha, hb⟩
  clear ha hb
  go_enter Try.func9, Try.ntmps9
  go_wp2_with fail
  go_loopw [5] (fun iv wr => ∃ (i m : Nat), iv = .int .i64 i ∧ i ≤ n ∧ wr = w.drewN m) (fun iv _ => n - (intOf iv).toNat)
  case atStart => exact ⟨0, 0, rfl, Nat.zero_le _, rfl⟩
  case round =>
    obtain ⟨i, m, rfl, hi, rfl⟩ := hrel
    by_cases h : i < n
    · obtain ⟨g1, rfl, c1⟩ := HA.out.1 i h
      obtain ⟨g2, rfl, c2⟩ := HA.out.2 i h
      go_wp2_with fail
      go_quiet (fail)
      go_wp2_with fail
      go_roundw
      case rel => exact ⟨i + 1, _, by simp, h, rfl⟩
      case measure => simp [intOf]; omega
    · go_wp2_with fail
      go_ret
      exact ⟨rfl, m, rfl⟩


set_option maxRecDepth 100000 in
set_option maxHeartbeats 1600000 in
/-- sameBytes of two rows that hold the same. -/
theorem sameB_yes (a b : Option Addr) (ca cb n : Nat) (f : Nat → Int) (w : World) (hn : n ≤ 9223372036854775807) (ha : RowAt w .u8 a n f) (hb : RowAt w .u8 b n f) :
    Calls Try.prog 10 #[.slice a n ca, .slice b n cb] w fun e w' => e = .returned (.bool true) ∧ ∃ m, w' = w.drewN m := by
  have HA : Hid (RowAt w .u8 a n f ∧ RowAt w .u8 b n f) := ⟨ha, hb⟩
  clear ha hb
  go_enter Try.func10, Try.ntmps10
  go_wp2_with fail
  go_loopw [5] (fun iv wr => ∃ (i m : Nat), iv = .int .i64 i ∧ i ≤ n ∧ wr = w.drewN m) (fun iv _ => n - (intOf iv).toNat)
  case atStart => exact ⟨0, 0, rfl, Nat.zero_le _, rfl⟩
  case round =>
    obtain ⟨i, m, rfl, hi, rfl⟩ := hrel
    by_cases h : i < n
    · obtain ⟨g1, rfl, c1⟩ := HA.out.1 i h
      obtain ⟨g2, rfl, c2⟩ := HA.out.2 i h
      go_wp2_with fail
      go_quiet (fail)
      go_wp2_with fail
      go_roundw
      case rel => exact ⟨i + 1, _, by simp, h, rfl⟩
      case measure => simp [intOf]; omega
    · go_wp2_with fail
      go_ret
      exact ⟨rfl, m, rfl⟩


set_option maxRecDepth 100000 in
set_option maxHeartbeats 1600000 in
theorem bytes6_any (a0 : ByteArray) (a1 : Bool) (a2 : Int) (w : World) (w0 : a0.size ≤ maxLen) :
    Calls Try.prog 6 #[.string a0, .bool a1, .int .i64 a2] w (BoolPost w) := by
  unfold maxLen at w0
  by_cases h1 : 1048576 < a0.size
  · go_enter Try.func6, Try.ntmps6
    go_wp2
    go_ret
    exact ⟨_, rfl, rfl⟩
  · go_enter Try.func6, Try.ntmps6
    go_wp2
    go_ret
    exact ⟨_, rfl, rfl⟩

def TruePost (w : World) (e : Ending) (w' : World) : Prop := e = .returned (.bool true) ∧ Below w.heap.size w w'

set_option maxRecDepth 100000 in
set_option maxHeartbeats 3200000 in
theorem match_any (a0 : ByteArray) (a1 : Bool) (a2 : Int) (w : World) (w0 : a0.size ≤ maxLen) (h2 : -9223372036854775808 ≤ a2 ∧ a2 ≤ 9223372036854775807) :
    Calls Try.prog 3 #[.string a0, .bool a1, .int .i64 a2] w (TruePost w) := by
  have HW : Hid (a0.size ≤ maxLen) := w0
  unfold maxLen at w0
  go_enter Try.func3, Try.ntmps3
  go_wp2_with fail
  refine (bytes6_any a0 a1 a2 w HW.out).mono ?_
  rintro e w' ⟨b, rfl, hw'⟩
  have hw := hw'.symm
  subst hw
  clear hw'
  cases b
  · go_wp2_with fail
    go_ret
    exact ⟨rfl, Below.refl _ _⟩
  by_cases t1 : 1048576 < a0.size
  · go_wp2_with fail
    go_ret
    exact ⟨rfl, Below.refl _ _⟩
  by_cases t4 : a0.size = 0
  · go_wp2_with fail
    go_ret
    exact ⟨rfl, Below.refl _ _⟩
  go_wp2_with fail
  refine (zz_any w.heap.size a0 a1 a2 [] [] none none 0 0 w (World.ownsRow_nil _ _ _ _) (World.ownsRow_nil _ _ _ _) (by omega) (by omega) (by simp) (by simp) (Nat.le_refl _) h2).mono ?_
  rintro e w1 ⟨a5, a6, c5, c6, E1, D1, rfl, ht1, hf1⟩
  have HT : Hid (Two w w1 w.heap.size 3 (.slice none 0 0) 0 (.slice a5 E1.length c5) E1.length (icells E1) 5 (.slice none 0 0) 0 (.slice a6 D1.length c6) D1.length (bcells D1) ∧ (E1, D1) = fold (escOf a0 a1) (restOf a0).data.toList [] [] ((segsFrom (restOf a0).data.toList 0).take (room a2 0))) := ⟨ht1, hf1⟩
  clear ht1 hf1
  go_wp2_with fail
  refine (splitModel_any a0 a1 a2 w1 (by omega) (by omega) h2).mono ?_
  rintro e w2 ⟨a7, a8, c7, c8, E2, D2, rfl, hb, ho1, ho2, hf2⟩
  have heq : E1 = E2 ∧ D1 = D2 := by
    have := HT.out.2.trans hf2.symm
    simpa using this
  obtain ⟨rfl, rfl⟩ := heq
  have HB : Hid (RowAt w2 .i64 a5 E1.length (fun i => E1.getD i 0) ∧ RowAt w2 .i64 a7 E1.length (fun i => E1.getD i 0) ∧ RowAt w2 .u8 a6 D1.length (fun i => ((D1.getD i 0).toNat : Int)) ∧ RowAt w2 .u8 a8 D1.length (fun i => ((D1.getD i 0).toNat : Int)) ∧ Below w.heap.size w w2) :=
    ⟨.ints (own_below HT.out.1.own1 hb), .ints ho1, .bytes (own_below HT.out.1.own2 hb), .bytes ho2, HT.out.1.bel.trans (hb.mono HT.out.1.bel.size)⟩
  have hn1 : E1.length ≤ 9223372036854775807 := by
    obtain ⟨_, _, h, hs⟩ := own_shape HT.out.1.own1
    simp only [maxLen] at hs
    rcases hs with ⟨_, h0, _⟩ | ⟨_, _, h1, h2⟩ <;> omega
  have hm1 : D1.length ≤ 9223372036854775807 := by
    obtain ⟨_, _, h, hs⟩ := own_shape HT.out.1.own2
    simp only [maxLen] at hs
    rcases hs with ⟨_, h0, _⟩ | ⟨_, _, h1, h2⟩ <;> omega
  clear hb ho1 ho2 hf2 HT
  obtain ⟨b1, hb1⟩ : ∃ b1, escOf a0 a1 = b1 := ⟨_, rfl⟩
  obtain ⟨b2, hb2⟩ : ∃ b2, moreOf (restOf a0).data.toList (room a2 0) = b2 := ⟨_, rfl⟩
  obtain ⟨b3, hb3⟩ : ∃ b3, endsS (restOf a0) = b3 := ⟨_, rfl⟩
  rw [hb1, hb2, hb3]
  clear hb1 hb2 hb3
  obtain ⟨n, hn⟩ : ∃ n, E1.length = n := ⟨_, rfl⟩
  obtain ⟨m, hm⟩ : ∃ m, D1.length = m := ⟨_, rfl⟩
  rw [hn, hm] at HB
  rw [hn] at hn1
  rw [hm] at hm1
  rw [hn, hm]
  clear hn hm
  go_wp2_with fail
  refine (sameInts_yes a5 a7 c5 c7 n (fun i => E1.getD i 0) _ hn1 HB.out.1 HB.out.2.1).mono ?_
  rintro e w3 ⟨rfl, m3, rfl⟩
  go_wp2_with fail
  refine (sameB_yes a6 a8 c6 c8 m (fun i => ((D1.getD i 0).toNat : Int)) _ hm1 (HB.out.2.2.1.drewN m3) (HB.out.2.2.2.1.drewN m3)).mono ?_
  rintro e w4 ⟨rfl, m4, rfl⟩
  go_wp2_with fail
  go_ret
  exact ⟨rfl, below_drewN HB.out.2.2.2.2 _⟩

end Go.Proofs.Qxb6606428a

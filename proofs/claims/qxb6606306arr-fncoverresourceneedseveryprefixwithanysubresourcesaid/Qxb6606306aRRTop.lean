/-
  The coverage built; the law's own loop; the law.
-/
import Derived.Test.Qxb6606306aRRMade
import Derived.Test.Qxb6606306aRRResource
import Derived.Test.Qxb6606306aRRPlain
namespace Go.Proofs.Qxb6606306aRR
open Go.RowKit
set_option linter.unusedVariables false
set_option linter.unusedSimpArgs false

theorem newCov_any (P : Nat) (w : World) : Calls Try.prog 20 #[.slice (some ⟨P, 0, none⟩) 1 1] w fun e w' => e = .returned (.pointer (some ⟨w.heap.size, 0, none⟩)) ∧ w' = w.alloc (.cells #[.slice (some ⟨P, 0, none⟩) 1 1, .map none, .map none] 70) := by
  go_enter Try.func20, Try.ntmps20
  go_wp2
  go_ret
  exact ⟨rfl, rfl⟩

def BuildPost (v g : ByteArray) (names : List ByteArray) (w : World) (e : Ending) (w' : World) : Prop :=
  ∃ C M, e = .returned (.pointer (some ⟨C, 0, none⟩)) ∧ w'.cell? ⟨C, 1, none⟩ = some (.map (some M)) ∧ Acts w' M v g names.reverse ∧ Below w.heap.size w w'

theorem zzMade_any (P Bv Bg : Nat) (A : Option Addr) (n cp : Nat) (names : List ByteArray) (v g : ByteArray) (w : World) (hn : n ≤ 1048576) (hr : Rule1 w P Bv Bg A n cp names v g) (hnd : names.Nodup) :
    Calls Try.prog 19 #[.pointer (some ⟨w.heap.size, 0, none⟩)] (w.alloc (.cells #[.slice (some ⟨P, 0, none⟩) 1 1, .map none, .map none] 70)) (MadePost w.heap.size v g names w) := by
  go_enter Try.func19, Try.ntmps19
  go_wp2_with fail
  refine (made_any P Bv Bg A n cp names v g w hn hr hnd).mono ?_
  rintro e w' ⟨M, rfl, h⟩
  go_wp2_with fail
  go_ret
  exact ⟨M, rfl, h⟩

set_option maxHeartbeats 800000 in
theorem build_any (E Ru Bv Bg : Nat) (A : Option Addr) (n cp : Nat) (names : List ByteArray) (v g : ByteArray) (w : World) (hn : n ≤ 1048576) (he0 : w.cell? ⟨E, 0, none⟩ = some (.slice (some ⟨Ru, 0, none⟩) 1 1)) (he1 : w.cell? ⟨E, 1, none⟩ = some (.slice none 0 0))
    (h : Six w Ru (.slice (some ⟨Bv, 0, none⟩) 1 1) (.slice (some ⟨Bg, 0, none⟩) 1 1) (.slice A n cp) (.slice none 0 0) (.slice none 0 0) (.bool true)) (hv : w.cell? ⟨Bv, 0, none⟩ = some (.string v)) (hg : w.cell? ⟨Bg, 0, none⟩ = some (.string g)) (hnm : Names w A n names) (hnd : names.Nodup) :
    Calls Try.prog 7 #[.slice (some ⟨E, 0, none⟩) 1 1] w (BuildPost v g names w) := by
  have HH : Hid (w.cell? ⟨Bv, 0, none⟩ = some (.string v) ∧ w.cell? ⟨Bg, 0, none⟩ = some (.string g) ∧ Names w A n names ∧ names.Nodup) := ⟨hv, hg, hnm, hnd⟩
  clear hv hg hnm hnd
  go_enter Try.func7, Try.ntmps7
  go_wp2_with fail
  refine (subjects_any E Ru _ _ _ _ _ _ _ _ _ _ _ _ _ _ _ _ w he0 he1 h).mono ?_
  rintro e w1 ⟨P, rfl, hb1, hs1⟩
  have HB1 : Hid (Below w.heap.size w w1 ∧ Subj w1 P (.slice (some ⟨Bv, 0, none⟩) 1 1) (.slice (some ⟨Bg, 0, none⟩) 1 1) (.slice A n cp) (.slice none 0 0) (.slice none 0 0) (.bool true)) := ⟨hb1, hs1⟩
  clear hb1 hs1
  go_wp2_with fail
  refine (newCov_any P w1).mono ?_
  rintro e w2 ⟨rfl, rfl⟩
  go_wp2_with fail
  have hb := HB1.out.1
  refine (zzMade_any P Bv Bg A n cp names v g w1 hn ⟨HB1.out.2, cell_below hb HH.out.1, cell_below hb HH.out.2.1, HH.out.2.2.1.below hb⟩ HH.out.2.2.2).mono ?_
  rintro e w3 ⟨M, rfl, h1, h2, h3⟩
  go_wp2_with fail
  go_ret
  exact ⟨w1.heap.size, M, rfl, h1, h2, HB1.out.1.trans (h3.mono HB1.out.1.size)⟩

theorem zzCover_any (L C M : Nat) (v g res : ByteArray) (rs : List ByteArray) (x : Bool) (w : World) (hs : res.size ≤ 4096) (hl : w.cell? ⟨L, 0, none⟩ = some (.pointer (some ⟨C, 0, none⟩))) (hc : w.cell? ⟨C, 1, none⟩ = some (.map (some M)))
    (ha : Acts w M v g rs) (hstar : ({ data := #[42] } : ByteArray) ∉ rs) (hx : Covered x res rs) :
    Calls Try.prog 8 #[.slice (some ⟨L, 0, none⟩) 1 1, .string v, .string g, .string res, .bool false, .string { data := #[] }, .bool false] w (CovPost w x) := by
  have HX : Hid (w.cell? ⟨L, 0, none⟩ = some (.pointer (some ⟨C, 0, none⟩)) ∧ w.cell? ⟨C, 1, none⟩ = some (.map (some M)) ∧ Acts w M v g rs ∧ ({ data := #[42] } : ByteArray) ∉ rs ∧ Covered x res rs) := ⟨hl, hc, ha, hstar, hx⟩
  clear hl hc ha hstar hx
  go_enter Try.func8, Try.ntmps8
  go_wp2_with fail
  refine (resource_any L C M v g res rs x w hs HX.out.1 HX.out.2.1 HX.out.2.2.1 HX.out.2.2.2.1 HX.out.2.2.2.2).mono ?_
  rintro e w' ⟨rfl, hb⟩
  go_wp2_with fail
  go_ret
  exact ⟨rfl, hb⟩

def AnyBool (w : World) (e : Ending) (w' : World) : Prop := ∃ b : Bool, e = .returned (.bool b) ∧ w' = w
def AnyInt (w : World) (e : Ending) (w' : World) : Prop := ∃ x : Int, e = .returned (.int .i64 x) ∧ w' = w

set_option maxHeartbeats 800000 in
theorem bytes_any (v g r : ByteArray) (d : Int) (w : World) (h0 : v.size ≤ maxLen) (h1 : g.size ≤ maxLen) (h2 : r.size ≤ maxLen) : Calls Try.prog 5 #[.string v, .string g, .string r, .int .i64 d] w (AnyBool w) := by
  unfold maxLen at h0 h1 h2
  go_enter Try.func5, Try.ntmps5
  go_wp2
  all_goals
    go_ret
    exact ⟨_, rfl, rfl⟩

set_option maxHeartbeats 800000 in
theorem text_any (v g r s : ByteArray) (w : World) (h0 : v.size ≤ maxLen) (h1 : g.size ≤ maxLen) (h2 : r.size ≤ maxLen) (h3 : s.size ≤ maxLen) : Calls Try.prog 6 #[.string v, .string g, .string r, .string s] w (AnyInt w) := by
  unfold maxLen at h0 h1 h2 h3
  go_enter Try.func6, Try.ntmps6
  go_wp2
  all_goals
    go_ret
    exact ⟨_, rfl, rfl⟩

end Go.Proofs.Qxb6606306aRR

/-
  nextQuoteEnd, quotedEnd and what exports them; the model.
-/
import Derived.Test.Qxb6609257aQuote
namespace Go.Proofs.Qxb6609257a
open Go.RowKit
set_option linter.unusedVariables false
set_option linter.unusedSimpArgs false

set_option maxRecDepth 100000 in
set_option maxHeartbeats 1600000 in
theorem nextQuoteEnd_any (T n c : Nat) (t : Nat → Nat) (cs : Option Addr) (has : Bool) (ld tr : Nat → Bool) (i : Nat) (bs : Bool) (w : World) (hm : Mem w T n t cs has ld tr) (hi : i < n) (hn : n ≤ 1048576) (hc : n ≤ c ∧ c ≤ 9223372036854775807) :
    Calls Try.prog 15 #[.slice (some ⟨T, 0, none⟩) n c, .int .i64 (i : Int), .agg #[.bool bs, .pointer cs]] w (BPost (ans bs false n (pr n t has ld tr) t (t i) (i + 1)) w) := by
  have HM : Hid (Mem w T n t cs has ld tr) := hm
  clear hm
  go_enter Try.func15, Try.ntmps15
  go_wp2_with fail
  refine (quoteEnd_any T n c t cs has ld tr i bs false _ (HM.out.below (bel_alloc _ _)) hi hn hc).mono ?_
  rintro e w' ⟨rfl, hb⟩
  have HB : Hid (Below w.heap.size w w') := (bel_alloc _ _).trans (hb.mono (by simp))
  clear hb
  obtain ⟨r, hr⟩ : ∃ r, ans bs false n (pr n t has ld tr) t (t i) (i + 1) = r := ⟨_, rfl⟩
  have HR : Hid (ans bs false n (pr n t has ld tr) t (t i) (i + 1) = r) := hr
  rw [hr]
  clear hr
  go_wp2_with fail
  go_ret2
  exact ⟨by rw [HR.out]; rfl, HB.out⟩

set_option maxRecDepth 100000 in
set_option maxHeartbeats 1600000 in
theorem quotedEnd_any (T n c : Nat) (t : Nat → Nat) (cs : Option Addr) (has : Bool) (ld tr : Nat → Bool) (i : Nat) (bs : Bool) (w : World) (hm : Mem w T n t cs has ld tr) (hi : i < n) (hn : n ≤ 1048576) (hc : n ≤ c ∧ c ≤ 9223372036854775807) :
    Calls Try.prog 16 #[.slice (some ⟨T, 0, none⟩) n c, .int .i64 (i : Int), .agg #[.bool bs, .pointer cs]] w (BPost (ans bs true n (pr n t has ld tr) t (t i) (i + 1)) w) := by
  have HM : Hid (Mem w T n t cs has ld tr) := hm
  clear hm
  go_enter Try.func16, Try.ntmps16
  go_wp2_with fail
  refine (quoteEnd_any T n c t cs has ld tr i bs true _ (HM.out.below (bel_alloc _ _)) hi hn hc).mono ?_
  rintro e w' ⟨rfl, hb⟩
  have HB : Hid (Below w.heap.size w w') := (bel_alloc _ _).trans (hb.mono (by simp))
  clear hb
  obtain ⟨r, hr⟩ : ∃ r, ans bs true n (pr n t has ld tr) t (t i) (i + 1) = r := ⟨_, rfl⟩
  have HR : Hid (ans bs true n (pr n t has ld tr) t (t i) (i + 1) = r) := hr
  rw [hr]
  clear hr
  go_wp2_with fail
  go_ret2
  exact ⟨by rw [HR.out]; rfl, HB.out⟩

set_option maxRecDepth 100000 in
set_option maxHeartbeats 1600000 in
theorem zzNext_any (T n c : Nat) (t : Nat → Nat) (cs : Option Addr) (has : Bool) (ld tr : Nat → Bool) (i : Nat) (bs : Bool) (w : World) (hm : Mem w T n t cs has ld tr) (hi : i < n) (hn : n ≤ 1048576) (hc : n ≤ c ∧ c ≤ 9223372036854775807) :
    Calls Try.prog 9 #[.slice (some ⟨T, 0, none⟩) n c, .int .i64 (i : Int), .agg #[.bool bs, .pointer cs]] w (BPost (ans bs false n (pr n t has ld tr) t (t i) (i + 1)) w) := by
  have HM : Hid (Mem w T n t cs has ld tr) := hm
  clear hm
  go_enter Try.func9, Try.ntmps9
  go_wp2_with fail
  refine (nextQuoteEnd_any T n c t cs has ld tr i bs _ (HM.out.below (bel_alloc _ _)) hi hn hc).mono ?_
  rintro e w' ⟨rfl, hb⟩
  have HB : Hid (Below w.heap.size w w') := (bel_alloc _ _).trans (hb.mono (by simp))
  clear hb
  obtain ⟨r, hr⟩ : ∃ r, ans bs false n (pr n t has ld tr) t (t i) (i + 1) = r := ⟨_, rfl⟩
  have HR : Hid (ans bs false n (pr n t has ld tr) t (t i) (i + 1) = r) := hr
  rw [hr]
  clear hr
  go_wp2_with fail
  go_ret2
  exact ⟨by rw [HR.out]; rfl, HB.out⟩

set_option maxRecDepth 100000 in
set_option maxHeartbeats 1600000 in
theorem zzQuoted_any (T n c : Nat) (t : Nat → Nat) (cs : Option Addr) (has : Bool) (ld tr : Nat → Bool) (i : Nat) (bs : Bool) (w : World) (hm : Mem w T n t cs has ld tr) (hi : i < n) (hn : n ≤ 1048576) (hc : n ≤ c ∧ c ≤ 9223372036854775807) :
    Calls Try.prog 13 #[.slice (some ⟨T, 0, none⟩) n c, .int .i64 (i : Int), .agg #[.bool bs, .pointer cs]] w (BPost (ans bs true n (pr n t has ld tr) t (t i) (i + 1)) w) := by
  have HM : Hid (Mem w T n t cs has ld tr) := hm
  clear hm
  go_enter Try.func13, Try.ntmps13
  go_wp2_with fail
  refine (quotedEnd_any T n c t cs has ld tr i bs _ (HM.out.below (bel_alloc _ _)) hi hn hc).mono ?_
  rintro e w' ⟨rfl, hb⟩
  have HB : Hid (Below w.heap.size w w') := (bel_alloc _ _).trans (hb.mono (by simp))
  clear hb
  obtain ⟨r, hr⟩ : ∃ r, ans bs true n (pr n t has ld tr) t (t i) (i + 1) = r := ⟨_, rfl⟩
  have HR : Hid (ans bs true n (pr n t has ld tr) t (t i) (i + 1) = r) := hr
  rw [hr]
  clear hr
  go_wp2_with fail
  go_ret2
  exact ⟨by rw [HR.out]; rfl, HB.out⟩

end Go.Proofs.Qxb6609257a

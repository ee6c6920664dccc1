/-
  coverResource at one coverage, a resource asked without any subresource.
-/
import Derived.Test.Qxb6606306aRRHeld
import Derived.Test.Qxb6606306aRRCut
namespace Go.Proofs.Qxb6606306aRR
open Go.RowKit
set_option linter.unusedVariables false
set_option linter.unusedSimpArgs false

theorem asked_no {r : ByteArray} {rs : List ByteArray} : Asked false r false rs := by simp [Asked]
theorem asked_out {r : ByteArray} {b : Bool} {rs : List ByteArray} (h : r ∉ rs) : Asked false r b rs := by simp [Asked, h]
theorem asked_in {r : ByteArray} {rs : List ByteArray} (h : r ∈ rs) : Asked true r true rs := by simp [Asked, h]

/-- All parts ahead of a slash among the first k bytes are there. -/
def Parts (res : ByteArray) (rs : List ByteArray) (k : Nat) : Prop := ∀ i (h : i < res.size), i < k → (res[i].toNat : Int) = 47 → res.extract 0 i ∈ rs

/-- The world behind coverResource's boxes. -/
def boxed (w : World) (L : Nat) (v g res nm : ByteArray) : World :=
  (((((w.alloc (.cells #[.slice (some ⟨L, 0, none⟩) 1 1] 35)).alloc (.cells #[.string v] 9)).alloc (.cells #[.string g] 9)).alloc (.cells #[.string res, .bool false] 56)).alloc (.cells #[.string nm] 9)).alloc (.cells #[.bool false] 4)

theorem boxed_below (w : World) (L : Nat) (v g res nm : ByteArray) : Below w.heap.size w (boxed w L v g res nm) :=
  ((((((Below.refl _ w).alloc (Nat.le_refl _) _).alloc (by simp) _).alloc (by simp; omega) _).alloc (by simp; omega) _).alloc (by simp; omega) _).alloc (by simp; omega) _
theorem boxed_size (w : World) (L : Nat) (v g res nm : ByteArray) : (boxed w L v g res nm).heap.size = w.heap.size + 6 := by simp [boxed]

theorem boxed_env {w : World} {L C M : Nat} {v g : ByteArray} {rs : List ByteArray} (res nm : ByteArray) (hl : w.cell? ⟨L, 0, none⟩ = some (.pointer (some ⟨C, 0, none⟩))) (hc : w.cell? ⟨C, 1, none⟩ = some (.map (some M))) (ha : Acts w M v g rs) :
    Env (boxed w L v g res nm) w.heap.size L (w.heap.size + 1) (w.heap.size + 2) (w.heap.size + 4) (w.heap.size + 5) C M v g nm rs := by
  have hb := boxed_below w L v g res nm
  refine ⟨?_, cell_below hb hl, ?_, ?_, ?_, ?_, cell_below hb hc, ha.kept (hb.block _ ha.lt)⟩
  all_goals
    unfold boxed
    simp (disch := (first | omega | (simp; done) | (simp; omega))) only [World.cell?_alloc_past, World.cell?_alloc_at]
    rfl

theorem boxed_res {w : World} {L : Nat} {v g : ByteArray} (res nm : ByteArray) : (boxed w L v g res nm).cell? ⟨w.heap.size + 3, 0, none⟩ = some (.string res) ∧ (boxed w L v g res nm).cell? ⟨w.heap.size + 3, 1, none⟩ = some (.bool false) := by
  unfold boxed
  constructor
  all_goals
    simp (disch := (first | omega | (simp; done) | (simp; omega))) only [World.cell?_alloc_past, World.cell?_alloc_at]
    rfl

def ResRel (W0 : World) (res : ByteArray) (rs : List ByteArray) (i : Value) (wr : World) : Prop := ∃ k : Nat, k ≤ res.size ∧ i = .int .i64 k ∧ Below W0.heap.size W0 wr ∧ Parts res rs k

/-- The answer of coverResource. -/
def Covered (x : Bool) (res : ByteArray) (rs : List ByteArray) : Prop := x = true ↔ (res ∈ rs ∧ Parts res rs res.size)

set_option maxRecDepth 100000 in
set_option maxHeartbeats 3200000 in
theorem resource_any (L C M : Nat) (v g res : ByteArray) (rs : List ByteArray) (x : Bool) (w : World) (hs : res.size ≤ 4096) (hl : w.cell? ⟨L, 0, none⟩ = some (.pointer (some ⟨C, 0, none⟩))) (hc : w.cell? ⟨C, 1, none⟩ = some (.map (some M)))
    (ha : Acts w M v g rs) (hstar : ({ data := #[42] } : ByteArray) ∉ rs) (hx : Covered x res rs) :
    Calls Try.prog 23 #[.slice (some ⟨L, 0, none⟩) 1 1, .string v, .string g, .agg #[.string res, .bool false], .string { data := #[] }, .bool false] w (CovPost w x) := by
  have HE : Hid (Env (boxed w L v g res { data := #[] }) w.heap.size L (w.heap.size + 1) (w.heap.size + 2) (w.heap.size + 4) (w.heap.size + 5) C M v g { data := #[] } rs) := boxed_env res _ hl hc ha
  have HX : Hid (Covered x res rs) := hx
  have HT : Hid (({ data := #[42] } : ByteArray) ∉ rs) := hstar
  clear hl hc ha hx hstar
  go_enter Try.func23, Try.ntmps23
  go_wp2_with fail
  have hrs := boxed_res (w := w) (L := L) (v := v) (g := g) res { data := #[] }
  have HR : Hid ((boxed w L v g res { data := #[] }).cell? ⟨w.heap.size + 3, 0, none⟩ = some (.string res) ∧ (boxed w L v g res { data := #[] }).cell? ⟨w.heap.size + 3, 1, none⟩ = some (.bool false)) := hrs
  clear hrs
  have hsz : (boxed w L v g res { data := #[] }).heap.size = w.heap.size + 6 := boxed_size w L v g res _
  have HZ : Hid ((boxed w L v g res { data := #[] }).heap.size = w.heap.size + 6) := hsz
  have HW : Hid (Below w.heap.size w (boxed w L v g res { data := #[] })) := boxed_below w L v g res _
  clear hsz
  refine (held_any w.heap.size L (w.heap.size + 1) (w.heap.size + 2) (w.heap.size + 4) (w.heap.size + 5) C M v g { data := #[] } rs res false false (boxed w L v g res { data := #[] }) HE.out asked_no).mono ?_
  rintro e w1 ⟨rfl, hb1⟩
  generalize boxed w L v g res { data := #[] } = W0 at *
  have HB1 : Hid (Below W0.heap.size W0 w1) := hb1
  clear hb1
  go_wp2_with fail
  refine (held_any w.heap.size L (w.heap.size + 1) (w.heap.size + 2) (w.heap.size + 4) (w.heap.size + 5) C M v g { data := #[] } rs _ false false w1 (HE.out.below HB1.out) asked_no).mono ?_
  rintro e w2 ⟨rfl, hb2⟩
  have HB2 : Hid (Below W0.heap.size W0 w2) := HB1.out.trans (hb2.mono HB1.out.size)
  clear hb2
  go_wp2_with fail
  refine (held_any w.heap.size L (w.heap.size + 1) (w.heap.size + 2) (w.heap.size + 4) (w.heap.size + 5) C M v g { data := #[] } rs _ true false w2 (HE.out.below HB2.out) (asked_out HT.out)).mono ?_
  rintro e w3 ⟨rfl, hb3⟩
  have HB3 : Hid (Below W0.heap.size W0 w3) := HB2.out.trans (hb3.mono HB2.out.size)
  clear hb3
  have k0 : w3.cell? ⟨w.heap.size + 1 + 1 + 1, 0, none⟩ = some (.string res) := cell_below HB3.out HR.out.1
  have k1 : w3.cell? ⟨w.heap.size + 1 + 1 + 1, 1, none⟩ = some (.bool false) := cell_below HB3.out HR.out.2
  go_wp2_with fail
  refine (cut_any res w3 hs).mono ?_
  rintro e w4 ⟨pre, sub, fnd, rfl, hsub, q, rfl⟩
  have HB4 : Hid (Below W0.heap.size W0 (w3.drewN q)) := below_drewN HB3.out q
  clear k0 k1
  have k0 : ∀ W, Below W0.heap.size W0 W → W.cell? ⟨w.heap.size + 1 + 1 + 1, 0, none⟩ = some (.string res) := fun W h => cell_below h HR.out.1
  have K0 : Hid (∀ W, Below W0.heap.size W0 W → W.cell? ⟨w.heap.size + 1 + 1 + 1, 0, none⟩ = some (.string res)) := k0
  clear k0
  cases fnd
  case' true =>
    go_wp2_with fail
    refine (held_any w.heap.size L (w.heap.size + 1) (w.heap.size + 2) (w.heap.size + 4) (w.heap.size + 5) C M v g { data := #[] } rs _ false false _ (HE.out.below HB4.out) asked_no).mono ?_
    rintro e w5 ⟨rfl, hb5⟩
    have HB5 : Hid (Below W0.heap.size W0 w5) := HB4.out.trans (hb5.mono HB4.out.size)
    clear hb5
  case' false =>
    obtain ⟨w5, hw5⟩ : ∃ w5, w5 = w3.drewN q := ⟨_, rfl⟩
    rw [← hw5]
    have HB5 : Hid (Below W0.heap.size W0 w5) := by rw [hw5]; exact HB4.out
    clear hw5
  all_goals
    have k5 := K0.out w5 HB5.out
    clear HB4 HB3
    by_cases hin : res ∈ rs
    · have HI : Hid (res ∈ rs) := hin
      clear hin
      go_wp2_with fail
      refine (held_any w.heap.size L (w.heap.size + 1) (w.heap.size + 2) (w.heap.size + 4) (w.heap.size + 5) C M v g { data := #[] } rs res true true w5 (HE.out.below HB5.out) (asked_in HI.out)).mono ?_
      rintro e w6 ⟨rfl, hb6⟩
      have HB6 : Hid (Below W0.heap.size W0 w6) := HB5.out.trans (hb6.mono HB5.out.size)
      clear hb6
      have k6 := K0.out w6 HB6.out
      go_wp2_with fail
      go_loopw [58] (fun i wr => ResRel W0 res rs i wr) (fun i _ => res.size - (intOf i).toNat)
      case atStart => exact ⟨0, Nat.zero_le _, rfl, HB6.out, fun i h h0 => by omega⟩
      case round =>
        clear k6 k5 HB6 HB5 HB1 HB2
        obtain ⟨k, hk, rfl, hbw, hparts⟩ := hrel
        have HBW : Hid (Below W0.heap.size W0 wr) := hbw
        have HPA : Hid (Parts res rs k) := hparts
        clear hbw hparts
        have kw := K0.out wr HBW.out
        by_cases hlt : k < res.size
        · by_cases hsl : (res[k].toNat : Int) = 47
          · have HSL : Hid ((res[k].toNat : Int) = 47) := hsl
            have hsl' : ((res[k].toNat : Int) == 47) = true := by simpa using hsl
            clear hsl
            by_cases hpin : res.extract 0 k ∈ rs
            · have HPI : Hid (res.extract 0 k ∈ rs) := hpin
              clear hpin
              go_wp2_with fail
              refine (held_any w.heap.size L (w.heap.size + 1) (w.heap.size + 2) (w.heap.size + 4) (w.heap.size + 5) C M v g { data := #[] } rs (res.extract 0 k) true true wr (HE.out.below HBW.out) (asked_in HPI.out)).mono ?_
              rintro e w7 ⟨rfl, hb7⟩
              have HB7 : Hid (Below W0.heap.size W0 w7) := HBW.out.trans (hb7.mono HBW.out.size)
              clear hb7
              go_wp2_with fail
              go_roundw
              case rel => exact ⟨k + 1, by omega, by go_num, HB7.out, fun i h h1 h2 => by
                by_cases hik : i = k
                · subst hik; exact HPI.out
                · exact HPA.out i h (by omega) h2⟩
              case measure => simp [intOf]; omega
            · have hx : x = false := by
                cases x with
                | false => rfl
                | true => exact absurd ((HX.out.1 rfl).2 k hlt hlt HSL.out) hpin
              have HPI : Hid (res.extract 0 k ∉ rs) := hpin
              clear hpin
              subst hx
              go_wp2_with fail
              refine (held_any w.heap.size L (w.heap.size + 1) (w.heap.size + 2) (w.heap.size + 4) (w.heap.size + 5) C M v g { data := #[] } rs (res.extract 0 k) true false wr (HE.out.below HBW.out) (asked_out HPI.out)).mono ?_
              rintro e w7 ⟨rfl, hb7⟩
              have HB7 : Hid (Below W0.heap.size W0 w7) := HBW.out.trans (hb7.mono HBW.out.size)
              clear hb7
              go_wp2_with fail
              go_ret
              exact ⟨rfl, HW.out.trans (HB7.out.mono (by have := HZ.out; omega))⟩
          · have HSL : Hid (¬ (res[k].toNat : Int) = 47) := hsl
            have hsl' : ((res[k].toNat : Int) == 47) = false := by simpa using hsl
            clear hsl
            go_wp2_with fail
            go_roundw
            case rel => exact ⟨k + 1, by omega, by go_num, HBW.out, fun i h h1 h2 => by
              by_cases hik : i = k
              · subst hik; exact absurd h2 HSL.out
              · exact HPA.out i h (by omega) h2⟩
            case measure => simp [intOf]; omega
        · have hx : x = true := HX.out.2 ⟨HI.out, fun i h h1 h2 => HPA.out i h (by omega) h2⟩
          subst hx
          go_wp2_with fail
          go_ret
          exact ⟨rfl, HW.out.trans (HBW.out.mono (by have := HZ.out; omega))⟩
    · have hx : x = false := by
        cases x with
        | false => rfl
        | true => exact absurd (HX.out.1 rfl).1 hin
      have HI : Hid (res ∉ rs) := hin
      clear hin
      subst hx
      go_wp2_with fail
      refine (held_any w.heap.size L (w.heap.size + 1) (w.heap.size + 2) (w.heap.size + 4) (w.heap.size + 5) C M v g { data := #[] } rs res true false w5 (HE.out.below HB5.out) (asked_out HI.out)).mono ?_
      rintro e w6 ⟨rfl, hb6⟩
      have HB6 : Hid (Below W0.heap.size W0 w6) := HB5.out.trans (hb6.mono HB5.out.size)
      go_wp2_with fail
      go_ret
      exact ⟨rfl, HW.out.trans (HB6.out.mono (by have := HZ.out; omega))⟩

end Go.Proofs.Qxb6606306aRR

/-
  FnSplitPathKeepsCallersSlices: the walk.
-/
import Derived.Test.Qxb6606428aKeepA
namespace Go.Proofs.Qxb6606428a
open Go.RowKit
set_option linter.unusedVariables false
set_option linter.unusedSimpArgs false

/-- A caller's slice: nil, or a row that reads f. -/
def CloneIn (w : World) (k : IntKind) (a : Option Addr) (len cap : Nat) (f : Nat → Int) : Prop := (a = none ∧ len = 0 ∧ cap = 0) ∨ ∃ x, a = some x ∧ ∀ i, i < len → w.cell? (x.add i) = some (.int k (f i))

theorem CloneIn.below {w w' : World} {k : IntKind} {a : Option Addr} {len cap : Nat} {f : Nat → Int} (h : CloneIn w k a len cap f) (hb : Below w.heap.size w w') : CloneIn w' k a len cap f := by
  rcases h with h | ⟨x, rfl, h⟩
  · exact .inl h
  · exact .inr ⟨x, rfl, fun i hi => by have := h i hi; rw [← this]; exact hb.cell (cell_past this)⟩

theorem cloneInts_any (a : Option Addr) (len cap : Nat) (f : Nat → Int) (w : World) (hl : len ≤ 1048576) (h : CloneIn w .i64 a len cap f) : Calls Try.prog 12 #[.slice a len cap] w (CPost 3 .i64 f len w) := by
  rcases h with ⟨rfl, rfl, rfl⟩ | ⟨x, rfl, h⟩
  · refine (cloneInts_nil w).mono ?_
    rintro e w' ⟨rfl, rfl⟩
    exact ⟨none, 0, rfl, World.ownsRow_nil _ _ _ _, Below.refl _ _⟩
  · exact cloneInts_row x len cap f w hl h
theorem cloneBytes_any (a : Option Addr) (len cap : Nat) (f : Nat → Int) (w : World) (hl : len ≤ 1048576) (h : CloneIn w .u8 a len cap f) : Calls Try.prog 13 #[.slice a len cap] w (CPost 5 .u8 f len w) := by
  rcases h with ⟨rfl, rfl, rfl⟩ | ⟨x, rfl, h⟩
  · refine (cloneBytes_nil w).mono ?_
    rintro e w' ⟨rfl, rfl⟩
    exact ⟨none, 0, rfl, World.ownsRow_nil _ _ _ _, Below.refl _ _⟩
  · exact cloneBytes_row x len cap f w hl h

theorem ints_range (es : List Int) : (List.range es.length).map (fun i => Value.int .i64 (es.getD i 0)) = icells es := by
  apply List.ext_getElem?
  intro i
  by_cases h : i < es.length
  · simp [icells, h]
  · simp [icells, h]
theorem bytes_range (ds : List UInt8) : (List.range ds.length).map (fun i => Value.int .u8 ((ds.getD i 0).toNat : Int)) = bcells ds := by
  apply List.ext_getElem?
  intro i
  by_cases h : i < ds.length
  · simp [bcells, h]
  · simp [bcells, h]

/-- What stands when both splits are done. -/
structure Both (w0 w : World) (es : List Int) (ds : List UInt8) (a3 a4 a5 a6 a7 a8 : Option Addr) (E1 E2 : List Int) (D1 D2 : List UInt8) : Prop where
  bel : Below w0.heap.size w0 w
  r3 : RowAt w .i64 a3 es.length (fun i => es.getD i 0)
  r4 : RowAt w .u8 a4 ds.length (fun i => ((ds.getD i 0).toNat : Int))
  r5 : RowAt w .i64 a5 E1.length (fun i => E1.getD i 0)
  r6 : RowAt w .u8 a6 D1.length (fun i => ((D1.getD i 0).toNat : Int))
  r7 : RowAt w .i64 a7 E2.length (fun i => E2.getD i 0)
  r8 : RowAt w .u8 a8 D2.length (fun i => ((D2.getD i 0).toNat : Int))

theorem ne_none {w : World} {b : Nat} {e : TypeId} {v : Value} {n : Nat} {xs : List Value} (h : w.ownsRow b e 1 v n xs) : v.ownBlock = (Value.slice none 0 0).ownBlock → n ≤ 0 := fun e1 => by have := none_zero h (by simpa [Value.ownBlock] using e1); omega

theorem both_of {w0 w1 w2 w3 w4 : World} {es : List Int} {ds : List UInt8} {a3 a4 a5 a6 a7 a8 : Option Addr} {c3 c4 c5 c6 c7 c8 : Nat} {E1 E2 : List Int} {D1 D2 : List UInt8}
    (b1 : Below w0.heap.size w0 w1) (o3 : w1.ownsRow w0.heap.size 3 1 (.slice a3 es.length c3) es.length (icells es)) (b2 : Below w1.heap.size w1 w2) (o4 : w2.ownsRow w0.heap.size 5 1 (.slice a4 ds.length c4) ds.length (bcells ds))
    (t1 : Two w2 w3 w0.heap.size 3 (.slice a3 es.length c3) es.length (.slice a5 E1.length c5) E1.length (icells E1) 5 (.slice a4 ds.length c4) ds.length (.slice a6 D1.length c6) D1.length (bcells D1))
    (t2 : Two w3 w4 w0.heap.size 3 (.slice none 0 0) 0 (.slice a7 E2.length c7) E2.length (icells E2) 5 (.slice none 0 0) 0 (.slice a8 D2.length c8) D2.length (bcells D2)) : Both w0 w4 es ds a3 a4 a5 a6 a7 a8 E1 E2 D1 D2 := by
  have o3' := own_below o3 b2
  have k3 := t1.keep _ _ _ _ _ o3' (fun _ => Nat.le_refl _) (apart_types o4 o3' (by decide))
  have k4 := t1.keep _ _ _ _ _ o4 (apart_types o3' o4 (by decide)) (fun _ => Nat.le_refl _)
  exact ⟨((b1.trans (b2.mono b1.size)).trans t1.bel).trans t2.bel, .ints (t2.keep _ _ _ _ _ k3 (ne_none k3) (ne_none k3)), .bytes (t2.keep _ _ _ _ _ k4 (ne_none k4) (ne_none k4)), .ints (t2.keep _ _ _ _ _ t1.own1 (ne_none t1.own1) (ne_none t1.own1)), .bytes (t2.keep _ _ _ _ _ t1.own2 (ne_none t1.own2) (ne_none t1.own2)), .ints t2.own1, .bytes t2.own2⟩

theorem fold_le (R : List UInt8) (l : List (Nat × Nat)) : ∀ x ∈ (fold true R [] [] l).1, 0 ≤ x ∧ x ≤ ((fold true R [] [] l).2.length : Int) := by
  refine snoc_ind (p := fun l => ∀ x ∈ (fold true R [] [] l).1, 0 ≤ x ∧ x ≤ ((fold true R [] [] l).2.length : Int)) ?_ ?_ l
  · simp [fold]
  · intro l a ih x hx
    rw [fold_snoc, stp, if_pos rfl] at hx ⊢
    simp only [List.mem_append, List.mem_singleton] at hx
    rcases hx with hx | rfl
    · have := ih x hx
      simp only [List.length_append]
      omega
    · exact ⟨by omega, Int.le_refl _⟩

/-- Plain: what the two splits have to do with one another. -/
structure Plainly (es E1 E2 : List Int) (ds D1 D2 : List UInt8) : Prop where
  len : E1.length = es.length + E2.length
  old : ∀ i, i < es.length → E1.getD i 0 = es.getD i 0
  new : ∀ i, i < E2.length → E1.getD (es.length + i) 0 = E2.getD i 0
  same : D1 = ds
theorem plainly {R : List UInt8} {es E1 E2 : List Int} {ds D1 D2 : List UInt8} {l : List (Nat × Nat)} (h1 : (E1, D1) = fold false R es ds l) (h2 : (E2, D2) = fold false R [] [] l) : Plainly es E1 E2 ds D1 D2 := by
  have hp := fold_plain R es ds l
  rw [hp.1, ← h2] at h1
  simp only [Prod.mk.injEq] at h1
  obtain ⟨rfl, rfl⟩ := h1
  exact ⟨by simp, fun i hi => by simp [List.getD_eq_getElem?_getD, List.getElem?_append_left hi], fun i hi => by rw [List.getD_eq_getElem?_getD, List.getD_eq_getElem?_getD, List.getElem?_append_right (by omega), Nat.add_sub_cancel_left], rfl⟩

/-- Decoding. -/
structure Escaped (es E1 E2 : List Int) (ds D1 D2 : List UInt8) (g : Nat) : Prop where
  len : E1.length = es.length + E2.length
  old : ∀ i, i < es.length → E1.getD i 0 = es.getD i 0
  new : ∀ i, i < E2.length → E1.getD (es.length + i) 0 = E2.getD i 0 + ds.length + g ∧ 0 ≤ E2.getD i 0 ∧ E2.getD i 0 ≤ D2.length
  gap_ : g = if 0 < es.length ∧ 0 < E2.length then 1 else 0
  dlen : D1.length = ds.length + g + D2.length
  dold : ∀ i, i < ds.length → D1.getD i 0 = ds.getD i 0
  dgap : g = 1 → D1.getD ds.length 0 = 47
  dnew : ∀ i, i < D2.length → D1.getD (ds.length + g + i) 0 = D2.getD i 0
theorem escaped {R : List UInt8} {es E1 E2 : List Int} {ds D1 D2 : List UInt8} {l : List (Nat × Nat)} (h1 : (E1, D1) = fold true R es ds l) (h2 : (E2, D2) = fold true R [] [] l) : ∃ g, Escaped es E1 E2 ds D1 D2 g := by
  have hp := fold_esc R es ds l
  have hlen := fold_length true R l [] []
  have hle := fold_le R l
  rw [← h2] at hp hlen hle
  rw [hp] at h1
  simp only [Prod.mk.injEq] at h1
  obtain ⟨rfl, rfl⟩ := h1
  have hl : E2.length = l.length := by simpa using hlen
  have hg : (gap es l).length = if 0 < es.length ∧ 0 < E2.length then 1 else 0 := by
    unfold gap sep
    by_cases h : l = []
    · subst h; simp at hl; simp [hl]
    · have : 0 < E2.length := by rw [hl]; exact List.length_pos_iff.2 h
      by_cases h0 : es.length = 0
      · simp [h, h0]
      · rw [if_neg h, if_neg h0, if_pos ⟨by omega, this⟩]; rfl
  refine ⟨(gap es l).length, by simp, fun i hi => by simp [List.getD_eq_getElem?_getD, List.getElem?_append_left hi], fun i hi => ?_, hg, by simp; omega, fun i hi => ?_, fun h => ?_, fun i hi => ?_⟩
  · have h0 : l ≠ [] := by intro e; rw [e] at hl; simp only [List.length_nil] at hl; omega
    have hm := hle (E2.getD i 0) (by simp [List.getD_eq_getElem?_getD, hi])
    refine ⟨?_, hm.1, hm.2⟩
    have e : gap es l = sep es := by unfold gap; rw [if_neg h0]
    rw [e, List.getD_eq_getElem?_getD, List.getElem?_append_right (by omega), Nat.add_sub_cancel_left]
    simp [List.getD_eq_getElem?_getD, hi]
    omega
  · rw [List.append_assoc]
    simp [List.getD_eq_getElem?_getD, List.getElem?_append_left hi]
  · have e : gap es l = [47] := by
      unfold gap sep at h ⊢
      by_cases h0 : l = []
      · simp [h0] at h
      · rw [if_neg h0] at h ⊢
        by_cases h1 : es.length = 0
        · simp [h1] at h
        · rw [if_neg h1]
    rw [e]
    simp [List.getD_eq_getElem?_getD]
  · rw [List.getD_eq_getElem?_getD, List.getD_eq_getElem?_getD, ← List.length_append, List.getElem?_append_right (by omega), Nat.add_sub_cancel_left]

def KeepPost (w : World) (e : Ending) (w' : World) : Prop := e = .returned (.bool true) ∧ Below w.heap.size w w'

set_option maxRecDepth 100000 in
set_option maxHeartbeats 6400000 in
theorem keep_any (a0 : ByteArray) (a1 : Bool) (a2 : Int) (a3 a4 : Option Addr) (es : List Int) (ds : List UInt8) (cap3 cap4 : Nat) (w : World) (w0 : a0.size ≤ maxLen) (h2 : -9223372036854775808 ≤ a2 ∧ a2 ≤ 9223372036854775807) (he : es.length ≤ maxLen) (hd : ds.length ≤ maxLen)
    (h3 : CloneIn w .i64 a3 es.length cap3 (fun i => es.getD i 0)) (h4 : CloneIn w .u8 a4 ds.length cap4 (fun i => ((ds.getD i 0).toNat : Int))) :
    Calls Try.prog 4 #[.string a0, .bool a1, .int .i64 a2, .slice a3 es.length cap3, .slice a4 ds.length cap4] w (KeepPost w) := by
  have HC : Hid (CloneIn w .i64 a3 es.length cap3 (fun i => es.getD i 0) ∧ CloneIn w .u8 a4 ds.length cap4 (fun i => ((ds.getD i 0).toNat : Int))) := ⟨h3, h4⟩
  have HW : Hid (a0.size ≤ maxLen ∧ es.length ≤ maxLen ∧ ds.length ≤ maxLen) := ⟨w0, he, hd⟩
  obtain ⟨n, hn⟩ : ∃ n, es.length = n := ⟨_, rfl⟩
  obtain ⟨m, hm⟩ : ∃ m, ds.length = m := ⟨_, rfl⟩
  have HN : Hid (es.length = n ∧ ds.length = m) := ⟨hn, hm⟩
  rw [hn, hm]
  rw [hn] at he
  rw [hm] at hd
  unfold maxLen at w0 he hd
  clear h3 h4 hn hm
  go_enter Try.func4, Try.ntmps4
  go_wp2_with fail
  refine (bytes11_any a0 a1 a2 a3 a4 n cap3 m cap4 w HW.out.1 (by unfold maxLen; omega) (by unfold maxLen; omega)).mono ?_
  rintro e w' ⟨b, rfl, rfl⟩
  cases b
  · go_wp2_with fail
    go_ret
    exact ⟨rfl, Below.refl _ _⟩
  by_cases t1 : 524288 < a0.size
  · go_wp2_with fail
    go_ret
    exact ⟨rfl, Below.refl _ _⟩
  by_cases t2 : 32768 < n
  · go_wp2_with fail
    go_ret
    exact ⟨rfl, Below.refl _ _⟩
  by_cases t3 : 262144 < m
  · go_wp2_with fail
    go_ret
    exact ⟨rfl, Below.refl _ _⟩
  by_cases t4 : a0.size = 0
  · go_wp2_with fail
    go_ret
    exact ⟨rfl, Below.refl _ _⟩
  go_wp2_with fail
  refine (cloneInts_any a3 n cap3 (fun i => es.getD i 0) w' (by omega) (HN.out.1 ▸ HC.out.1)).mono ?_
  rintro e w1 ⟨ea, ec, rfl, ho3, hb1⟩
  have H3 : Hid (w1.ownsRow w'.heap.size 3 1 (.slice ea es.length ec) es.length (icells es) ∧ Below w'.heap.size w' w1 ∧ CloneIn w1 .u8 a4 ds.length cap4 (fun i => ((ds.getD i 0).toNat : Int))) := by
    refine ⟨?_, hb1, HC.out.2.below hb1⟩
    rw [← HN.out.1, ints_range] at ho3
    exact ho3
  clear ho3 hb1
  go_wp2_with fail
  refine (cloneBytes_any a4 m cap4 (fun i => ((ds.getD i 0).toNat : Int)) w1 (by omega) (HN.out.2 ▸ H3.out.2.2)).mono ?_
  rintro e w2 ⟨da, dc, rfl, ho4, hb2⟩
  have H4 : Hid (w2.ownsRow w'.heap.size 5 1 (.slice da ds.length dc) ds.length (bcells ds) ∧ Below w1.heap.size w1 w2) := by
    refine ⟨?_, hb2⟩
    rw [← HN.out.2, bytes_range] at ho4
    exact ownsRow_base ho4 H3.out.2.1.size
  clear ho4 hb2
  obtain ⟨want, hwant, hw0, hw1⟩ : ∃ want : Int, room want 0 = room a2 n ∧ ((n : Int) < a2 → want = a2 - n) ∧ (¬ (n : Int) < a2 → want = 0) := by
    by_cases h : (n : Int) < a2
    · exact ⟨a2 - n, by unfold room; omega, fun _ => rfl, fun x => absurd h x⟩
    · exact ⟨0, by unfold room; omega, fun x => absurd x h, fun _ => rfl⟩
  have HWA : Hid (room want 0 = room a2 n) := hwant
  clear hwant
  have hz := zz_any w'.heap.size a0 a1 a2 es ds ea da ec dc w2 (own_below H3.out.1 H4.out.2) H4.out.1 (by omega) (by omega) (by rw [HN.out.1]; omega) (by rw [HN.out.2]; omega) (Nat.le_trans H3.out.2.1.size H4.out.2.size) h2
  rw [HN.out.1, HN.out.2] at hz
  have HZ : Hid (Calls Try.prog 7 #[.string a0, .bool a1, .int .i64 a2, .slice ea n ec, .slice da m dc] w2 (ZPost w'.heap.size a0 (escOf a0 a1) a2 es ds (.slice ea n ec) (.slice da m dc) w2)) := hz
  clear hz
  by_cases t5 : (n : Int) < a2
  · have e5 := hw0 t5
    clear hw0 hw1
    go_wp2_with fail
    refine HZ.out.mono ?_
    rintro e w3 ⟨a5, a6, c5, c6, E1, D1, rfl, ht1, hf1⟩
    rw [HN.out.1, HN.out.2] at ht1
    have HT1 : Hid (Two w2 w3 w'.heap.size 3 (.slice ea n ec) n (.slice a5 E1.length c5) E1.length (icells E1) 5 (.slice da m dc) m (.slice a6 D1.length c6) D1.length (bcells D1) ∧ (E1, D1) = fold (escOf a0 a1) (restOf a0).data.toList es ds ((segsFrom (restOf a0).data.toList 0).take (room a2 es.length))) := ⟨ht1, hf1⟩
    have hbz : w'.heap.size ≤ w3.heap.size := Nat.le_trans (Nat.le_trans H3.out.2.1.size H4.out.2.size) ht1.bel.size
    clear ht1 hf1
    go_wp2_with fail
    refine (zz_any w'.heap.size a0 a1 _ [] [] none none 0 0 w3 (World.ownsRow_nil _ _ _ _) (World.ownsRow_nil _ _ _ _) (by omega) (by omega) (by simp) (by simp) hbz (by omega)).mono ?_
    rintro e w4 ⟨a7, a8, c7, c8, E2, D2, rfl, ht2, hf2⟩
    rw [e5] at HWA
    have hr : room (a2 - (n : Int)) ([] : List Int).length = room a2 es.length := by rw [HN.out.1]; exact HWA.out
    rw [hr] at hf2 ⊢
    have HB : Hid (Both w' w4 es ds ea da a5 a6 a7 a8 E1 E2 D1 D2) := by
      have t1 := HT1.out.1
      have o3 := H3.out.1
      have o4 := H4.out.1
      have hnn := HN.out.1
      have hmm := HN.out.2
      subst hnn hmm
      exact both_of H3.out.2.1 o3 H4.out.2 o4 t1 ht2
    obtain ⟨mo, hmo⟩ : ∃ mo, moreOf (restOf a0).data.toList (room a2 es.length) = mo := ⟨_, rfl⟩
    obtain ⟨sl, hsl⟩ : ∃ sl, endsS (restOf a0) = sl := ⟨_, rfl⟩
    rw [hmo, hsl]
    have hE1 : E1.length ≤ 9223372036854775807 := by
      obtain ⟨_, _, h, hs⟩ := own_shape HT1.out.1.own1
      simp only [maxLen] at hs
      rcases hs with ⟨_, h0, _⟩ | ⟨_, _, h1, h2⟩ <;> omega
    have hD1 : D1.length ≤ 9223372036854775807 := by
      obtain ⟨_, _, h, hs⟩ := own_shape HT1.out.1.own2
      simp only [maxLen] at hs
      rcases hs with ⟨_, h0, _⟩ | ⟨_, _, h1, h2⟩ <;> omega
    have HL : Hid ((E1, D1) = fold (escOf a0 a1) (restOf a0).data.toList es ds ((segsFrom (restOf a0).data.toList 0).take (room a2 es.length)) ∧ (E2, D2) = fold (escOf a0 a1) (restOf a0).data.toList [] [] ((segsFrom (restOf a0).data.toList 0).take (room a2 es.length))) := ⟨HT1.out.2, hf2⟩
    clear hmo hsl hr ht2 hf2 HT1 hbz HZ HWA H3 H4 HC
    cases hb : escOf a0 a1
    · rw [hb] at HL
      have HP : Hid (Plainly es E1 E2 ds D1 D2) := plainly HL.out.1 HL.out.2
      have HB1 : Hid (Both w' w4 es ds ea da a5 a6 a7 a8 E1 E2 ds D2) := HP.out.same ▸ HB.out
      have hd1 : D1.length = m := by rw [HP.out.same]; exact HN.out.2
      obtain ⟨k2, hk2⟩ : ∃ k2, E2.length = k2 := ⟨_, rfl⟩
      have hk1 : E1.length = n + k2 := by rw [HP.out.len, hk2, HN.out.1]
      have HK : Hid (E2.length = k2 ∧ E1.length = n + k2) := ⟨hk2, hk1⟩
      rw [hk1] at hE1
      rw [hk1, hk2, hd1]
      clear HL HB hd1 hk1 hk2 hb hD1
      go_wp2_with fail
      go_loopw [23] (fun iv wr => ∃ (i mm : Nat), iv = .int .i64 i ∧ i ≤ n ∧ wr = w4.drewN mm) (fun iv _ => n - (intOf iv).toNat)
      case atStart => exact ⟨0, 0, rfl, Nat.zero_le _, rfl⟩
      case round =>
        obtain ⟨i, mm, rfl, hi, rfl⟩ := hrel
        by_cases hlt : i < n
        · obtain ⟨g1, rfl, c1⟩ := HB1.out.r5 i (by rw [HK.out.2]; omega)
          obtain ⟨g2, rfl, c2⟩ := HB1.out.r3 i (by rw [HN.out.1]; exact hlt)
          simp only [HP.out.old i (by rw [HN.out.1]; exact hlt)] at c1 c2
          revert c1 c2
          generalize es.getD i 0 = v
          intro c1 c2
          go_wp2_with fail
          go_quiet (fail)
          go_wp2_with fail
          go_roundw
          case rel => exact ⟨i + 1, _, by simp, hlt, rfl⟩
          case measure => simp [intOf]; omega
        · go_wp2_with fail
          refine (sameBytes_yes a6 da c6 dc m (fun i => ((ds.getD i 0).toNat : Int)) _ (by omega) (HN.out.2 ▸ HB1.out.r6.drewN mm) (HN.out.2 ▸ HB1.out.r4.drewN mm)).mono ?_
          rintro e w5 ⟨rfl, mm2, rfl⟩
          go_wp2_with fail
          go_loopw [24] (fun iv wr => ∃ (i mm : Nat), iv = .int .i64 i ∧ i ≤ k2 ∧ wr = w4.drewN mm) (fun iv _ => k2 - (intOf iv).toNat)
          case atStart => exact ⟨0, _, rfl, Nat.zero_le _, rfl⟩
          case round =>
            obtain ⟨i, mm, rfl, hi, rfl⟩ := hrel
            by_cases hlt : i < k2
            · obtain ⟨g1, rfl, c1⟩ := HB1.out.r5 (n + i) (by rw [HK.out.2]; omega)
              obtain ⟨g2, rfl, c2⟩ := HB1.out.r7 i (by rw [HK.out.1]; exact hlt)
              have hv := HP.out.new i (by rw [HK.out.1]; exact hlt)
              rw [HN.out.1] at hv
              simp only [hv] at c1 c2
              clear hv
              revert c1 c2
              generalize E2.getD i 0 = v
              intro c1 c2
              go_wp2_with fail
              go_quiet (fail)
              go_wp2_with fail
              go_roundw
              case rel => exact ⟨i + 1, _, by simp, hlt, rfl⟩
              case measure => simp [intOf]; omega
            · go_wp2_with fail
              go_ret
              exact ⟨rfl, below_drewN HB1.out.bel _⟩
    · rw [hb] at HL
      obtain ⟨gp, hgp⟩ := escaped HL.out.1 HL.out.2
      have HP : Hid (Escaped es E1 E2 ds D1 D2 gp) := hgp
      obtain ⟨k2, hk2⟩ : ∃ k2, E2.length = k2 := ⟨_, rfl⟩
      obtain ⟨q2, hq2⟩ : ∃ q2, D2.length = q2 := ⟨_, rfl⟩
      have hk1 : E1.length = n + k2 := by rw [HP.out.len, hk2, HN.out.1]
      have hq1 : D1.length = m + gp + q2 := by rw [HP.out.dlen, hq2, HN.out.2]
      have HK : Hid (E2.length = k2 ∧ E1.length = n + k2 ∧ D2.length = q2 ∧ D1.length = m + gp + q2) := ⟨hk2, hk1, hq2, hq1⟩
      have HGAP : Hid (gp = if 0 < n ∧ 0 < k2 then 1 else 0) := by show _ = _; rw [HP.out.gap_, HN.out.1, hk2]
      rw [hk1] at hE1
      rw [hq1] at hD1
      rw [hk1, hk2, hq1, hq2]
      clear HL hk1 hk2 hb hq1 hq2 hgp
      have HB1 := HB
      clear HB
      go_wp2_with fail
      go_loopw [23] (fun iv wr => ∃ (i mm : Nat), iv = .int .i64 i ∧ i ≤ n ∧ wr = w4.drewN mm) (fun iv _ => n - (intOf iv).toNat)
      case atStart => exact ⟨0, 0, rfl, Nat.zero_le _, rfl⟩
      case round =>
        obtain ⟨i, mm, rfl, hi, rfl⟩ := hrel
        by_cases hlt : i < n
        · obtain ⟨g1, rfl, c1⟩ := HB1.out.r5 i (by rw [HK.out.2.1]; omega)
          obtain ⟨g2, rfl, c2⟩ := HB1.out.r3 i (by rw [HN.out.1]; exact hlt)
          simp only [HP.out.old i (by rw [HN.out.1]; exact hlt)] at c1 c2
          revert c1 c2
          generalize es.getD i 0 = v
          intro c1 c2
          go_wp2_with fail
          go_quiet (fail)
          go_wp2_with fail
          go_roundw
          case rel => exact ⟨i + 1, _, by simp, hlt, rfl⟩
          case measure => simp [intOf]; omega
        · by_cases hn0 : 0 < n
          · by_cases hk0 : 0 < k2
            · obtain rfl : gp = 1 := by rw [HGAP.out, if_pos ⟨hn0, hk0⟩]
              clear HGAP
              go_wp2_with fail
              go_loopw [27] (fun iv wr => ∃ (i mm : Nat), iv = .int .i64 i ∧ i ≤ m ∧ wr = w4.drewN mm) (fun iv _ => m - (intOf iv).toNat)
              case atStart => exact ⟨0, _, rfl, Nat.zero_le _, rfl⟩
              case round =>
                obtain ⟨i, mm, rfl, hi, rfl⟩ := hrel
                by_cases hlt : i < m
                · obtain ⟨g1, rfl, c1⟩ := HB1.out.r6 i (by rw [HK.out.2.2.2]; omega)
                  obtain ⟨g2, rfl, c2⟩ := HB1.out.r4 i (by rw [HN.out.2]; exact hlt)
                  simp only [HP.out.dold i (by rw [HN.out.2]; exact hlt)] at c1 c2
                  revert c1 c2
                  generalize ((ds.getD i 0).toNat : Int) = v
                  intro c1 c2
                  go_wp2_with fail
                  go_quiet (fail)
                  go_wp2_with fail
                  go_roundw
                  case rel => exact ⟨i + 1, _, by simp, hlt, rfl⟩
                  case measure => simp [intOf]; omega
                · obtain ⟨g1, rfl, c1⟩ := HB1.out.r6 m (by rw [HK.out.2.2.2]; omega)
                  have hv := HP.out.dgap rfl
                  rw [HN.out.2] at hv
                  simp only [hv] at c1
                  clear hv
                  have c1' : w4.cell? ⟨g1, m, none⟩ = some (.int .u8 47) := c1
                  clear c1
                  go_wp2_with fail
                  go_loopw [28] (fun iv wr => ∃ (i mm : Nat), iv = .int .i64 i ∧ i ≤ q2 ∧ wr = w4.drewN mm) (fun iv _ => q2 - (intOf iv).toNat)
                  case atStart => exact ⟨0, _, rfl, Nat.zero_le _, rfl⟩
                  case round =>
                    obtain ⟨i, mm, rfl, hi, rfl⟩ := hrel
                    by_cases hlt : i < q2
                    · obtain ⟨g1', e1', c1⟩ := HB1.out.r6 (m + 1 + i) (by rw [HK.out.2.2.2]; omega)
                      obtain rfl : g1 = g1' := by simpa using e1'
                      obtain ⟨g2, rfl, c2⟩ := HB1.out.r8 i (by rw [HK.out.2.2.1]; exact hlt)
                      have hv := HP.out.dnew i (by rw [HK.out.2.2.1]; exact hlt)
                      rw [HN.out.2] at hv
                      simp only [hv] at c1 c2
                      clear hv
                      revert c1 c2
                      generalize ((D2.getD i 0).toNat : Int) = v
                      intro c1 c2
                      go_wp2_with fail
                      go_quiet (fail)
                      go_wp2_with fail
                      go_roundw
                      case rel => exact ⟨i + 1, _, by simp, hlt, rfl⟩
                      case measure => simp [intOf]; omega
                    · go_wp2_with fail
                      go_loopw [29] (fun iv wr => ∃ (i mm : Nat), iv = .int .i64 i ∧ i ≤ k2 ∧ wr = w4.drewN mm) (fun iv _ => k2 - (intOf iv).toNat)
                      case atStart => exact ⟨0, _, rfl, Nat.zero_le _, rfl⟩
                      case round =>
                        obtain ⟨i, mm, rfl, hi, rfl⟩ := hrel
                        by_cases hlt : i < k2
                        · obtain ⟨g1, rfl, c1⟩ := HB1.out.r5 (n + i) (by rw [HK.out.2.1]; omega)
                          obtain ⟨g2, rfl, c2⟩ := HB1.out.r7 i (by rw [HK.out.1]; exact hlt)
                          obtain ⟨hv, hv0, hv1⟩ := HP.out.new i (by rw [HK.out.1]; exact hlt)
                          rw [HN.out.1, HN.out.2] at hv
                          rw [show ((1 : Nat) : Int) = 1 from rfl] at hv
                          rw [HK.out.2.2.1] at hv1
                          simp only [hv] at c1 c2
                          clear hv
                          revert c1 c2 hv0 hv1
                          generalize E2.getD i 0 = v
                          intro hv0 hv1 c1 c2
                          go_wp2_with fail
                          go_quiet (fail)
                          go_wp2_with fail
                          go_roundw
                          case rel => exact ⟨i + 1, _, by simp, hlt, rfl⟩
                          case measure => simp [intOf]; omega
                        · go_wp2_with fail
                          go_ret
                          exact ⟨rfl, below_drewN HB1.out.bel _⟩
            · obtain rfl : gp = 0 := by rw [HGAP.out, if_neg (fun h => hk0 h.2)]
              clear HGAP
              go_wp2_with fail
              go_loopw [27] (fun iv wr => ∃ (i mm : Nat), iv = .int .i64 i ∧ i ≤ m ∧ wr = w4.drewN mm) (fun iv _ => m - (intOf iv).toNat)
              case atStart => exact ⟨0, _, rfl, Nat.zero_le _, rfl⟩
              case round =>
                obtain ⟨i, mm, rfl, hi, rfl⟩ := hrel
                by_cases hlt : i < m
                · obtain ⟨g1, rfl, c1⟩ := HB1.out.r6 i (by rw [HK.out.2.2.2]; omega)
                  obtain ⟨g2, rfl, c2⟩ := HB1.out.r4 i (by rw [HN.out.2]; exact hlt)
                  simp only [HP.out.dold i (by rw [HN.out.2]; exact hlt)] at c1 c2
                  revert c1 c2
                  generalize ((ds.getD i 0).toNat : Int) = v
                  intro c1 c2
                  go_wp2_with fail
                  go_quiet (fail)
                  go_wp2_with fail
                  go_roundw
                  case rel => exact ⟨i + 1, _, by simp, hlt, rfl⟩
                  case measure => simp [intOf]; omega
                · go_wp2_with fail
                  go_loopw [28] (fun iv wr => ∃ (i mm : Nat), iv = .int .i64 i ∧ i ≤ q2 ∧ wr = w4.drewN mm) (fun iv _ => q2 - (intOf iv).toNat)
                  case atStart => exact ⟨0, _, rfl, Nat.zero_le _, rfl⟩
                  case round =>
                    obtain ⟨i, mm, rfl, hi, rfl⟩ := hrel
                    by_cases hlt : i < q2
                    · obtain ⟨g1, rfl, c1⟩ := HB1.out.r6 (m + i) (by rw [HK.out.2.2.2]; omega)
                      obtain ⟨g2, rfl, c2⟩ := HB1.out.r8 i (by rw [HK.out.2.2.1]; exact hlt)
                      have hv := HP.out.dnew i (by rw [HK.out.2.2.1]; exact hlt)
                      rw [HN.out.2] at hv
                      rw [Nat.add_zero] at hv
                      simp only [hv] at c1 c2
                      clear hv
                      revert c1 c2
                      generalize ((D2.getD i 0).toNat : Int) = v
                      intro c1 c2
                      go_wp2_with fail
                      go_quiet (fail)
                      go_wp2_with fail
                      go_roundw
                      case rel => exact ⟨i + 1, _, by simp, hlt, rfl⟩
                      case measure => simp [intOf]; omega
                    · go_wp2_with fail
                      go_loopw [29] (fun iv wr => ∃ (i mm : Nat), iv = .int .i64 i ∧ i ≤ k2 ∧ wr = w4.drewN mm) (fun iv _ => k2 - (intOf iv).toNat)
                      case atStart => exact ⟨0, _, rfl, Nat.zero_le _, rfl⟩
                      case round =>
                        obtain ⟨i, mm, rfl, hi, rfl⟩ := hrel
                        by_cases hlt : i < k2
                        · obtain ⟨g1, rfl, c1⟩ := HB1.out.r5 (n + i) (by rw [HK.out.2.1]; omega)
                          obtain ⟨g2, rfl, c2⟩ := HB1.out.r7 i (by rw [HK.out.1]; exact hlt)
                          obtain ⟨hv, hv0, hv1⟩ := HP.out.new i (by rw [HK.out.1]; exact hlt)
                          rw [HN.out.1, HN.out.2] at hv
                          rw [show ((0 : Nat) : Int) = 0 from rfl, Int.add_zero] at hv
                          rw [HK.out.2.2.1] at hv1
                          simp only [hv] at c1 c2
                          clear hv
                          revert c1 c2 hv0 hv1
                          generalize E2.getD i 0 = v
                          intro hv0 hv1 c1 c2
                          go_wp2_with fail
                          go_quiet (fail)
                          go_wp2_with fail
                          go_roundw
                          case rel => exact ⟨i + 1, _, by simp, hlt, rfl⟩
                          case measure => simp [intOf]; omega
                        · go_wp2_with fail
                          go_ret
                          exact ⟨rfl, below_drewN HB1.out.bel _⟩
          · obtain rfl : gp = 0 := by rw [HGAP.out, if_neg (fun h => hn0 h.1)]
            clear HGAP
            go_wp2_with fail
            go_loopw [27] (fun iv wr => ∃ (i mm : Nat), iv = .int .i64 i ∧ i ≤ m ∧ wr = w4.drewN mm) (fun iv _ => m - (intOf iv).toNat)
            case atStart => exact ⟨0, _, rfl, Nat.zero_le _, rfl⟩
            case round =>
              obtain ⟨i, mm, rfl, hi, rfl⟩ := hrel
              by_cases hlt : i < m
              · obtain ⟨g1, rfl, c1⟩ := HB1.out.r6 i (by rw [HK.out.2.2.2]; omega)
                obtain ⟨g2, rfl, c2⟩ := HB1.out.r4 i (by rw [HN.out.2]; exact hlt)
                simp only [HP.out.dold i (by rw [HN.out.2]; exact hlt)] at c1 c2
                revert c1 c2
                generalize ((ds.getD i 0).toNat : Int) = v
                intro c1 c2
                go_wp2_with fail
                go_quiet (fail)
                go_wp2_with fail
                go_roundw
                case rel => exact ⟨i + 1, _, by simp, hlt, rfl⟩
                case measure => simp [intOf]; omega
              · go_wp2_with fail
                go_loopw [28] (fun iv wr => ∃ (i mm : Nat), iv = .int .i64 i ∧ i ≤ q2 ∧ wr = w4.drewN mm) (fun iv _ => q2 - (intOf iv).toNat)
                case atStart => exact ⟨0, _, rfl, Nat.zero_le _, rfl⟩
                case round =>
                  obtain ⟨i, mm, rfl, hi, rfl⟩ := hrel
                  by_cases hlt : i < q2
                  · obtain ⟨g1, rfl, c1⟩ := HB1.out.r6 (m + i) (by rw [HK.out.2.2.2]; omega)
                    obtain ⟨g2, rfl, c2⟩ := HB1.out.r8 i (by rw [HK.out.2.2.1]; exact hlt)
                    have hv := HP.out.dnew i (by rw [HK.out.2.2.1]; exact hlt)
                    rw [HN.out.2] at hv
                    rw [Nat.add_zero] at hv
                    simp only [hv] at c1 c2
                    clear hv
                    revert c1 c2
                    generalize ((D2.getD i 0).toNat : Int) = v
                    intro c1 c2
                    go_wp2_with fail
                    go_quiet (fail)
                    go_wp2_with fail
                    go_roundw
                    case rel => exact ⟨i + 1, _, by simp, hlt, rfl⟩
                    case measure => simp [intOf]; omega
                  · go_wp2_with fail
                    go_loopw [29] (fun iv wr => ∃ (i mm : Nat), iv = .int .i64 i ∧ i ≤ k2 ∧ wr = w4.drewN mm) (fun iv _ => k2 - (intOf iv).toNat)
                    case atStart => exact ⟨0, _, rfl, Nat.zero_le _, rfl⟩
                    case round =>
                      obtain ⟨i, mm, rfl, hi, rfl⟩ := hrel
                      by_cases hlt : i < k2
                      · obtain ⟨g1, rfl, c1⟩ := HB1.out.r5 (n + i) (by rw [HK.out.2.1]; omega)
                        obtain ⟨g2, rfl, c2⟩ := HB1.out.r7 i (by rw [HK.out.1]; exact hlt)
                        obtain ⟨hv, hv0, hv1⟩ := HP.out.new i (by rw [HK.out.1]; exact hlt)
                        rw [HN.out.1, HN.out.2] at hv
                        rw [show ((0 : Nat) : Int) = 0 from rfl, Int.add_zero] at hv
                        rw [HK.out.2.2.1] at hv1
                        simp only [hv] at c1 c2
                        clear hv
                        revert c1 c2 hv0 hv1
                        generalize E2.getD i 0 = v
                        intro hv0 hv1 c1 c2
                        go_wp2_with fail
                        go_quiet (fail)
                        go_wp2_with fail
                        go_roundw
                        case rel => exact ⟨i + 1, _, by simp, hlt, rfl⟩
                        case measure => simp [intOf]; omega
                      · go_wp2_with fail
                        go_ret
                        exact ⟨rfl, below_drewN HB1.out.bel _⟩
  · have e5 := hw1 t5
    clear hw0 hw1
    go_wp2_with fail
    refine HZ.out.mono ?_
    rintro e w3 ⟨a5, a6, c5, c6, E1, D1, rfl, ht1, hf1⟩
    rw [HN.out.1, HN.out.2] at ht1
    have HT1 : Hid (Two w2 w3 w'.heap.size 3 (.slice ea n ec) n (.slice a5 E1.length c5) E1.length (icells E1) 5 (.slice da m dc) m (.slice a6 D1.length c6) D1.length (bcells D1) ∧ (E1, D1) = fold (escOf a0 a1) (restOf a0).data.toList es ds ((segsFrom (restOf a0).data.toList 0).take (room a2 es.length))) := ⟨ht1, hf1⟩
    have hbz : w'.heap.size ≤ w3.heap.size := Nat.le_trans (Nat.le_trans H3.out.2.1.size H4.out.2.size) ht1.bel.size
    clear ht1 hf1
    go_wp2_with fail
    refine (zz_any w'.heap.size a0 a1 _ [] [] none none 0 0 w3 (World.ownsRow_nil _ _ _ _) (World.ownsRow_nil _ _ _ _) (by omega) (by omega) (by simp) (by simp) hbz (by omega)).mono ?_
    rintro e w4 ⟨a7, a8, c7, c8, E2, D2, rfl, ht2, hf2⟩
    rw [e5] at HWA
    have hr : room (0 : Int) ([] : List Int).length = room a2 es.length := by rw [HN.out.1]; exact HWA.out
    rw [hr] at hf2 ⊢
    have HB : Hid (Both w' w4 es ds ea da a5 a6 a7 a8 E1 E2 D1 D2) := by
      have t1 := HT1.out.1
      have o3 := H3.out.1
      have o4 := H4.out.1
      have hnn := HN.out.1
      have hmm := HN.out.2
      subst hnn hmm
      exact both_of H3.out.2.1 o3 H4.out.2 o4 t1 ht2
    obtain ⟨mo, hmo⟩ : ∃ mo, moreOf (restOf a0).data.toList (room a2 es.length) = mo := ⟨_, rfl⟩
    obtain ⟨sl, hsl⟩ : ∃ sl, endsS (restOf a0) = sl := ⟨_, rfl⟩
    rw [hmo, hsl]
    have hE1 : E1.length ≤ 9223372036854775807 := by
      obtain ⟨_, _, h, hs⟩ := own_shape HT1.out.1.own1
      simp only [maxLen] at hs
      rcases hs with ⟨_, h0, _⟩ | ⟨_, _, h1, h2⟩ <;> omega
    have hD1 : D1.length ≤ 9223372036854775807 := by
      obtain ⟨_, _, h, hs⟩ := own_shape HT1.out.1.own2
      simp only [maxLen] at hs
      rcases hs with ⟨_, h0, _⟩ | ⟨_, _, h1, h2⟩ <;> omega
    have HL : Hid ((E1, D1) = fold (escOf a0 a1) (restOf a0).data.toList es ds ((segsFrom (restOf a0).data.toList 0).take (room a2 es.length)) ∧ (E2, D2) = fold (escOf a0 a1) (restOf a0).data.toList [] [] ((segsFrom (restOf a0).data.toList 0).take (room a2 es.length))) := ⟨HT1.out.2, hf2⟩
    clear hmo hsl hr ht2 hf2 HT1 hbz HZ HWA H3 H4 HC
    cases hb : escOf a0 a1
    · rw [hb] at HL
      have HP : Hid (Plainly es E1 E2 ds D1 D2) := plainly HL.out.1 HL.out.2
      have HB1 : Hid (Both w' w4 es ds ea da a5 a6 a7 a8 E1 E2 ds D2) := HP.out.same ▸ HB.out
      have hd1 : D1.length = m := by rw [HP.out.same]; exact HN.out.2
      obtain ⟨k2, hk2⟩ : ∃ k2, E2.length = k2 := ⟨_, rfl⟩
      have hk1 : E1.length = n + k2 := by rw [HP.out.len, hk2, HN.out.1]
      have HK : Hid (E2.length = k2 ∧ E1.length = n + k2) := ⟨hk2, hk1⟩
      rw [hk1] at hE1
      rw [hk1, hk2, hd1]
      clear HL HB hd1 hk1 hk2 hb hD1
      go_wp2_with fail
      go_loopw [23] (fun iv wr => ∃ (i mm : Nat), iv = .int .i64 i ∧ i ≤ n ∧ wr = w4.drewN mm) (fun iv _ => n - (intOf iv).toNat)
      case atStart => exact ⟨0, 0, rfl, Nat.zero_le _, rfl⟩
      case round =>
        obtain ⟨i, mm, rfl, hi, rfl⟩ := hrel
        by_cases hlt : i < n
        · obtain ⟨g1, rfl, c1⟩ := HB1.out.r5 i (by rw [HK.out.2]; omega)
          obtain ⟨g2, rfl, c2⟩ := HB1.out.r3 i (by rw [HN.out.1]; exact hlt)
          simp only [HP.out.old i (by rw [HN.out.1]; exact hlt)] at c1 c2
          revert c1 c2
          generalize es.getD i 0 = v
          intro c1 c2
          go_wp2_with fail
          go_quiet (fail)
          go_wp2_with fail
          go_roundw
          case rel => exact ⟨i + 1, _, by simp, hlt, rfl⟩
          case measure => simp [intOf]; omega
        · go_wp2_with fail
          refine (sameBytes_yes a6 da c6 dc m (fun i => ((ds.getD i 0).toNat : Int)) _ (by omega) (HN.out.2 ▸ HB1.out.r6.drewN mm) (HN.out.2 ▸ HB1.out.r4.drewN mm)).mono ?_
          rintro e w5 ⟨rfl, mm2, rfl⟩
          go_wp2_with fail
          go_loopw [24] (fun iv wr => ∃ (i mm : Nat), iv = .int .i64 i ∧ i ≤ k2 ∧ wr = w4.drewN mm) (fun iv _ => k2 - (intOf iv).toNat)
          case atStart => exact ⟨0, _, rfl, Nat.zero_le _, rfl⟩
          case round =>
            obtain ⟨i, mm, rfl, hi, rfl⟩ := hrel
            by_cases hlt : i < k2
            · obtain ⟨g1, rfl, c1⟩ := HB1.out.r5 (n + i) (by rw [HK.out.2]; omega)
              obtain ⟨g2, rfl, c2⟩ := HB1.out.r7 i (by rw [HK.out.1]; exact hlt)
              have hv := HP.out.new i (by rw [HK.out.1]; exact hlt)
              rw [HN.out.1] at hv
              simp only [hv] at c1 c2
              clear hv
              revert c1 c2
              generalize E2.getD i 0 = v
              intro c1 c2
              go_wp2_with fail
              go_quiet (fail)
              go_wp2_with fail
              go_roundw
              case rel => exact ⟨i + 1, _, by simp, hlt, rfl⟩
              case measure => simp [intOf]; omega
            · go_wp2_with fail
              go_ret
              exact ⟨rfl, below_drewN HB1.out.bel _⟩
    · rw [hb] at HL
      obtain ⟨gp, hgp⟩ := escaped HL.out.1 HL.out.2
      have HP : Hid (Escaped es E1 E2 ds D1 D2 gp) := hgp
      obtain ⟨k2, hk2⟩ : ∃ k2, E2.length = k2 := ⟨_, rfl⟩
      obtain ⟨q2, hq2⟩ : ∃ q2, D2.length = q2 := ⟨_, rfl⟩
      have hk1 : E1.length = n + k2 := by rw [HP.out.len, hk2, HN.out.1]
      have hq1 : D1.length = m + gp + q2 := by rw [HP.out.dlen, hq2, HN.out.2]
      have HK : Hid (E2.length = k2 ∧ E1.length = n + k2 ∧ D2.length = q2 ∧ D1.length = m + gp + q2) := ⟨hk2, hk1, hq2, hq1⟩
      have HGAP : Hid (gp = if 0 < n ∧ 0 < k2 then 1 else 0) := by show _ = _; rw [HP.out.gap_, HN.out.1, hk2]
      rw [hk1] at hE1
      rw [hq1] at hD1
      rw [hk1, hk2, hq1, hq2]
      clear HL hk1 hk2 hb hq1 hq2 hgp
      have HB1 := HB
      clear HB
      go_wp2_with fail
      go_loopw [23] (fun iv wr => ∃ (i mm : Nat), iv = .int .i64 i ∧ i ≤ n ∧ wr = w4.drewN mm) (fun iv _ => n - (intOf iv).toNat)
      case atStart => exact ⟨0, 0, rfl, Nat.zero_le _, rfl⟩
      case round =>
        obtain ⟨i, mm, rfl, hi, rfl⟩ := hrel
        by_cases hlt : i < n
        · obtain ⟨g1, rfl, c1⟩ := HB1.out.r5 i (by rw [HK.out.2.1]; omega)
          obtain ⟨g2, rfl, c2⟩ := HB1.out.r3 i (by rw [HN.out.1]; exact hlt)
          simp only [HP.out.old i (by rw [HN.out.1]; exact hlt)] at c1 c2
          revert c1 c2
          generalize es.getD i 0 = v
          intro c1 c2
          go_wp2_with fail
          go_quiet (fail)
          go_wp2_with fail
          go_roundw
          case rel => exact ⟨i + 1, _, by simp, hlt, rfl⟩
          case measure => simp [intOf]; omega
        · by_cases hn0 : 0 < n
          · by_cases hk0 : 0 < k2
            · obtain rfl : gp = 1 := by rw [HGAP.out, if_pos ⟨hn0, hk0⟩]
              clear HGAP
              go_wp2_with fail
              go_loopw [27] (fun iv wr => ∃ (i mm : Nat), iv = .int .i64 i ∧ i ≤ m ∧ wr = w4.drewN mm) (fun iv _ => m - (intOf iv).toNat)
              case atStart => exact ⟨0, _, rfl, Nat.zero_le _, rfl⟩
              case round =>
                obtain ⟨i, mm, rfl, hi, rfl⟩ := hrel
                by_cases hlt : i < m
                · obtain ⟨g1, rfl, c1⟩ := HB1.out.r6 i (by rw [HK.out.2.2.2]; omega)
                  obtain ⟨g2, rfl, c2⟩ := HB1.out.r4 i (by rw [HN.out.2]; exact hlt)
                  simp only [HP.out.dold i (by rw [HN.out.2]; exact hlt)] at c1 c2
                  revert c1 c2
                  generalize ((ds.getD i 0).toNat : Int) = v
                  intro c1 c2
                  go_wp2_with fail
                  go_quiet (fail)
                  go_wp2_with fail
                  go_roundw
                  case rel => exact ⟨i + 1, _, by simp, hlt, rfl⟩
                  case measure => simp [intOf]; omega
                · obtain ⟨g1, rfl, c1⟩ := HB1.out.r6 m (by rw [HK.out.2.2.2]; omega)
                  have hv := HP.out.dgap rfl
                  rw [HN.out.2] at hv
                  simp only [hv] at c1
                  clear hv
                  have c1' : w4.cell? ⟨g1, m, none⟩ = some (.int .u8 47) := c1
                  clear c1
                  go_wp2_with fail
                  go_loopw [28] (fun iv wr => ∃ (i mm : Nat), iv = .int .i64 i ∧ i ≤ q2 ∧ wr = w4.drewN mm) (fun iv _ => q2 - (intOf iv).toNat)
                  case atStart => exact ⟨0, _, rfl, Nat.zero_le _, rfl⟩
                  case round =>
                    obtain ⟨i, mm, rfl, hi, rfl⟩ := hrel
                    by_cases hlt : i < q2
                    · obtain ⟨g1', e1', c1⟩ := HB1.out.r6 (m + 1 + i) (by rw [HK.out.2.2.2]; omega)
                      obtain rfl : g1 = g1' := by simpa using e1'
                      obtain ⟨g2, rfl, c2⟩ := HB1.out.r8 i (by rw [HK.out.2.2.1]; exact hlt)
                      have hv := HP.out.dnew i (by rw [HK.out.2.2.1]; exact hlt)
                      rw [HN.out.2] at hv
                      simp only [hv] at c1 c2
                      clear hv
                      revert c1 c2
                      generalize ((D2.getD i 0).toNat : Int) = v
                      intro c1 c2
                      go_wp2_with fail
                      go_quiet (fail)
                      go_wp2_with fail
                      go_roundw
                      case rel => exact ⟨i + 1, _, by simp, hlt, rfl⟩
                      case measure => simp [intOf]; omega
                    · go_wp2_with fail
                      go_loopw [29] (fun iv wr => ∃ (i mm : Nat), iv = .int .i64 i ∧ i ≤ k2 ∧ wr = w4.drewN mm) (fun iv _ => k2 - (intOf iv).toNat)
                      case atStart => exact ⟨0, _, rfl, Nat.zero_le _, rfl⟩
                      case round =>
                        obtain ⟨i, mm, rfl, hi, rfl⟩ := hrel
                        by_cases hlt : i < k2
                        · obtain ⟨g1, rfl, c1⟩ := HB1.out.r5 (n + i) (by rw [HK.out.2.1]; omega)
                          obtain ⟨g2, rfl, c2⟩ := HB1.out.r7 i (by rw [HK.out.1]; exact hlt)
                          obtain ⟨hv, hv0, hv1⟩ := HP.out.new i (by rw [HK.out.1]; exact hlt)
                          rw [HN.out.1, HN.out.2] at hv
                          rw [show ((1 : Nat) : Int) = 1 from rfl] at hv
                          rw [HK.out.2.2.1] at hv1
                          simp only [hv] at c1 c2
                          clear hv
                          revert c1 c2 hv0 hv1
                          generalize E2.getD i 0 = v
                          intro hv0 hv1 c1 c2
                          go_wp2_with fail
                          go_quiet (fail)
                          go_wp2_with fail
                          go_roundw
                          case rel => exact ⟨i + 1, _, by simp, hlt, rfl⟩
                          case measure => simp [intOf]; omega
                        · go_wp2_with fail
                          go_ret
                          exact ⟨rfl, below_drewN HB1.out.bel _⟩
            · obtain rfl : gp = 0 := by rw [HGAP.out, if_neg (fun h => hk0 h.2)]
              clear HGAP
              go_wp2_with fail
              go_loopw [27] (fun iv wr => ∃ (i mm : Nat), iv = .int .i64 i ∧ i ≤ m ∧ wr = w4.drewN mm) (fun iv _ => m - (intOf iv).toNat)
              case atStart => exact ⟨0, _, rfl, Nat.zero_le _, rfl⟩
              case round =>
                obtain ⟨i, mm, rfl, hi, rfl⟩ := hrel
                by_cases hlt : i < m
                · obtain ⟨g1, rfl, c1⟩ := HB1.out.r6 i (by rw [HK.out.2.2.2]; omega)
                  obtain ⟨g2, rfl, c2⟩ := HB1.out.r4 i (by rw [HN.out.2]; exact hlt)
                  simp only [HP.out.dold i (by rw [HN.out.2]; exact hlt)] at c1 c2
                  revert c1 c2
                  generalize ((ds.getD i 0).toNat : Int) = v
                  intro c1 c2
                  go_wp2_with fail
                  go_quiet (fail)
                  go_wp2_with fail
                  go_roundw
                  case rel => exact ⟨i + 1, _, by simp, hlt, rfl⟩
                  case measure => simp [intOf]; omega
                · go_wp2_with fail
                  go_loopw [28] (fun iv wr => ∃ (i mm : Nat), iv = .int .i64 i ∧ i ≤ q2 ∧ wr = w4.drewN mm) (fun iv _ => q2 - (intOf iv).toNat)
                  case atStart => exact ⟨0, _, rfl, Nat.zero_le _, rfl⟩
                  case round =>
                    obtain ⟨i, mm, rfl, hi, rfl⟩ := hrel
                    by_cases hlt : i < q2
                    · obtain ⟨g1, rfl, c1⟩ := HB1.out.r6 (m + i) (by rw [HK.out.2.2.2]; omega)
                      obtain ⟨g2, rfl, c2⟩ := HB1.out.r8 i (by rw [HK.out.2.2.1]; exact hlt)
                      have hv := HP.out.dnew i (by rw [HK.out.2.2.1]; exact hlt)
                      rw [HN.out.2] at hv
                      rw [Nat.add_zero] at hv
                      simp only [hv] at c1 c2
                      clear hv
                      revert c1 c2
                      generalize ((D2.getD i 0).toNat : Int) = v
                      intro c1 c2
                      go_wp2_with fail
                      go_quiet (fail)
                      go_wp2_with fail
                      go_roundw
                      case rel => exact ⟨i + 1, _, by simp, hlt, rfl⟩
                      case measure => simp [intOf]; omega
                    · go_wp2_with fail
                      go_loopw [29] (fun iv wr => ∃ (i mm : Nat), iv = .int .i64 i ∧ i ≤ k2 ∧ wr = w4.drewN mm) (fun iv _ => k2 - (intOf iv).toNat)
                      case atStart => exact ⟨0, _, rfl, Nat.zero_le _, rfl⟩
                      case round =>
                        obtain ⟨i, mm, rfl, hi, rfl⟩ := hrel
                        by_cases hlt : i < k2
                        · obtain ⟨g1, rfl, c1⟩ := HB1.out.r5 (n + i) (by rw [HK.out.2.1]; omega)
                          obtain ⟨g2, rfl, c2⟩ := HB1.out.r7 i (by rw [HK.out.1]; exact hlt)
                          obtain ⟨hv, hv0, hv1⟩ := HP.out.new i (by rw [HK.out.1]; exact hlt)
                          rw [HN.out.1, HN.out.2] at hv
                          rw [show ((0 : Nat) : Int) = 0 from rfl, Int.add_zero] at hv
                          rw [HK.out.2.2.1] at hv1
                          simp only [hv] at c1 c2
                          clear hv
                          revert c1 c2 hv0 hv1
                          generalize E2.getD i 0 = v
                          intro hv0 hv1 c1 c2
                          go_wp2_with fail
                          go_quiet (fail)
                          go_wp2_with fail
                          go_roundw
                          case rel => exact ⟨i + 1, _, by simp, hlt, rfl⟩
                          case measure => simp [intOf]; omega
                        · go_wp2_with fail
                          go_ret
                          exact ⟨rfl, below_drewN HB1.out.bel _⟩
          · obtain rfl : gp = 0 := by rw [HGAP.out, if_neg (fun h => hn0 h.1)]
            clear HGAP
            go_wp2_with fail
            go_loopw [27] (fun iv wr => ∃ (i mm : Nat), iv = .int .i64 i ∧ i ≤ m ∧ wr = w4.drewN mm) (fun iv _ => m - (intOf iv).toNat)
            case atStart => exact ⟨0, _, rfl, Nat.zero_le _, rfl⟩
            case round =>
              obtain ⟨i, mm, rfl, hi, rfl⟩ := hrel
              by_cases hlt : i < m
              · obtain ⟨g1, rfl, c1⟩ := HB1.out.r6 i (by rw [HK.out.2.2.2]; omega)
                obtain ⟨g2, rfl, c2⟩ := HB1.out.r4 i (by rw [HN.out.2]; exact hlt)
                simp only [HP.out.dold i (by rw [HN.out.2]; exact hlt)] at c1 c2
                revert c1 c2
                generalize ((ds.getD i 0).toNat : Int) = v
                intro c1 c2
                go_wp2_with fail
                go_quiet (fail)
                go_wp2_with fail
                go_roundw
                case rel => exact ⟨i + 1, _, by simp, hlt, rfl⟩
                case measure => simp [intOf]; omega
              · go_wp2_with fail
                go_loopw [28] (fun iv wr => ∃ (i mm : Nat), iv = .int .i64 i ∧ i ≤ q2 ∧ wr = w4.drewN mm) (fun iv _ => q2 - (intOf iv).toNat)
                case atStart => exact ⟨0, _, rfl, Nat.zero_le _, rfl⟩
                case round =>
                  obtain ⟨i, mm, rfl, hi, rfl⟩ := hrel
                  by_cases hlt : i < q2
                  · obtain ⟨g1, rfl, c1⟩ := HB1.out.r6 (m + i) (by rw [HK.out.2.2.2]; omega)
                    obtain ⟨g2, rfl, c2⟩ := HB1.out.r8 i (by rw [HK.out.2.2.1]; exact hlt)
                    have hv := HP.out.dnew i (by rw [HK.out.2.2.1]; exact hlt)
                    rw [HN.out.2] at hv
                    rw [Nat.add_zero] at hv
                    simp only [hv] at c1 c2
                    clear hv
                    revert c1 c2
                    generalize ((D2.getD i 0).toNat : Int) = v
                    intro c1 c2
                    go_wp2_with fail
                    go_quiet (fail)
                    go_wp2_with fail
                    go_roundw
                    case rel => exact ⟨i + 1, _, by simp, hlt, rfl⟩
                    case measure => simp [intOf]; omega
                  · go_wp2_with fail
                    go_loopw [29] (fun iv wr => ∃ (i mm : Nat), iv = .int .i64 i ∧ i ≤ k2 ∧ wr = w4.drewN mm) (fun iv _ => k2 - (intOf iv).toNat)
                    case atStart => exact ⟨0, _, rfl, Nat.zero_le _, rfl⟩
                    case round =>
                      obtain ⟨i, mm, rfl, hi, rfl⟩ := hrel
                      by_cases hlt : i < k2
                      · obtain ⟨g1, rfl, c1⟩ := HB1.out.r5 (n + i) (by rw [HK.out.2.1]; omega)
                        obtain ⟨g2, rfl, c2⟩ := HB1.out.r7 i (by rw [HK.out.1]; exact hlt)
                        obtain ⟨hv, hv0, hv1⟩ := HP.out.new i (by rw [HK.out.1]; exact hlt)
                        rw [HN.out.1, HN.out.2] at hv
                        rw [show ((0 : Nat) : Int) = 0 from rfl, Int.add_zero] at hv
                        rw [HK.out.2.2.1] at hv1
                        simp only [hv] at c1 c2
                        clear hv
                        revert c1 c2 hv0 hv1
                        generalize E2.getD i 0 = v
                        intro hv0 hv1 c1 c2
                        go_wp2_with fail
                        go_quiet (fail)
                        go_wp2_with fail
                        go_roundw
                        case rel => exact ⟨i + 1, _, by simp, hlt, rfl⟩
                        case measure => simp [intOf]; omega
                      · go_wp2_with fail
                        go_ret
                        exact ⟨rfl, below_drewN HB1.out.bel _⟩

end Go.Proofs.Qxb6606428a

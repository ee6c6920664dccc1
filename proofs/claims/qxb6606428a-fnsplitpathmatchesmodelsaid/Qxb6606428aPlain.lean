/-
  The plain side: segments of a text between slashes; escapes; what a split adds.
-/
namespace Go.Proofs.Qxb6606428a

/-- How many bytes lie ahead of the first c. -/
def pre (c : UInt8) : List UInt8 → Nat
  | [] => 0
  | b :: l => if b = c then 0 else pre c l + 1

theorem pre_le (c : UInt8) : ∀ l, pre c l ≤ l.length
  | [] => Nat.le_refl _
  | b :: l => by have := pre_le c l; unfold pre; split <;> simp <;> omega

/-- The pieces of what is left, the piece in hand having begun at st, the place being i. -/
def segsA (st i : Nat) : List UInt8 → List (Nat × Nat)
  | [] => if st < i then [(st, i)] else []
  | b :: l => if b = 47 then (st, i) :: segsA (i + 1) (i + 1) l else segsA st (i + 1) l

theorem segsA_step (st : Nat) : ∀ (l : List UInt8) (i : Nat), st < i + l.length → st ≤ i → segsA st i l = (st, i + pre 47 l) :: segsA (i + pre 47 l + 1) (i + pre 47 l + 1) (l.drop (pre 47 l + 1))
  | [], i, h, hi => by
    simp at h
    simp [segsA, pre, h]
  | b :: l, i, h, hi => by
    by_cases hb : b = 47
    · simp [segsA, pre, hb]
    · have := segsA_step st l (i + 1) (by simp at h; omega) (by omega)
      rw [segsA, if_neg hb, this, pre, if_neg hb]
      simp only [List.drop_succ_cons]
      rw [show i + 1 + pre 47 l = i + (pre 47 l + 1) by omega]

/-- The pieces from place st on. -/
def segsFrom (R : List UInt8) (st : Nat) : List (Nat × Nat) := segsA st st (R.drop st)

theorem segsFrom_nil {R : List UInt8} {st : Nat} (h : R.length ≤ st) : segsFrom R st = [] := by
  unfold segsFrom; rw [List.drop_of_length_le h]; simp [segsA]
theorem segsFrom_cons {R : List UInt8} {st : Nat} (h : st < R.length) : segsFrom R st = (st, st + pre 47 (R.drop st)) :: segsFrom R (st + pre 47 (R.drop st) + 1) := by
  unfold segsFrom
  rw [segsA_step st (R.drop st) st (by simp; omega) (Nat.le_refl _), List.drop_drop]
  rfl

/-! ### escapes -/
def hexok (c : UInt8) : Bool := (decide (48 ≤ c.toNat) && decide (c.toNat ≤ 57)) || (decide (97 ≤ c.toNat) && decide (c.toNat ≤ 102)) || (decide (65 ≤ c.toNat) && decide (c.toNat ≤ 70))
def hexv (c : UInt8) : Nat := if c.toNat ≤ 57 then c.toNat - 48 else if c.toNat ≤ 70 then c.toNat - 55 else c.toNat - 87
def hexb (a b : UInt8) : UInt8 := UInt8.ofNat (hexv a * 16 + hexv b)

/-- The bytes with each escape decoded; none where a percent sign begins no escape. -/
def unesc : List UInt8 → Option (List UInt8)
  | [] => some []
  | [c] => if c = 37 then none else some [c]
  | [c, d] => if c = 37 then none else (unesc [d]).map (c :: ·)
  | c :: a :: b :: l => if c = 37 then (if (hexok a && hexok b) = true then (unesc l).map (hexb a b :: ·) else none) else (unesc (a :: b :: l)).map (c :: ·)

theorem unesc_ne {c : UInt8} (h : c ≠ 37) : ∀ l, unesc (c :: l) = (unesc l).map (c :: ·)
  | [] => by simp [unesc, h]
  | [d] => by simp [unesc, h]
  | a :: b :: l => by rw [unesc, if_neg h]
theorem unesc_short {l : List UInt8} (h : l.length < 2) : unesc (37 :: l) = none := by
  match l, h with
  | [], _ => simp [unesc]
  | [d], _ => simp [unesc]
theorem unesc_pct (a b : UInt8) (l : List UInt8) : unesc (37 :: a :: b :: l) = if (hexok a && hexok b) = true then (unesc l).map (hexb a b :: ·) else none := by rw [unesc, if_pos rfl]
theorem unesc_app {p : List UInt8} (h : ∀ c ∈ p, c ≠ 37) (q : List UInt8) : unesc (p ++ q) = (unesc q).map (p ++ ·) := by
  induction p with
  | nil => simp
  | cons c p ih =>
    rw [List.cons_append, unesc_ne (h c (List.mem_cons_self ..)), ih fun x hx => h x (List.mem_cons_of_mem _ hx), Option.map_map]
    rfl
theorem unesc_none {p : List UInt8} (h : ∀ c ∈ p, c ≠ 37) : unesc p = some p := by
  have := unesc_app h []
  simpa [unesc] using this

/-- A piece as it is written into the result. -/
def dec (l : List UInt8) : List UInt8 := (unesc l).getD l

theorem unesc_length : ∀ (k : Nat) (l : List UInt8), l.length ≤ k → ∀ r, unesc l = some r → r.length ≤ l.length
  | 0, l, h, r, e => by
    have : l = [] := List.eq_nil_of_length_eq_zero (by omega)
    subst this
    simp [unesc] at e; subst e; simp
  | k + 1, l, h, r, e => by
    match l with
    | [] => simp [unesc] at e; subst e; simp
    | c :: l =>
      by_cases hc : c = 37
      · subst hc
        match l with
        | [] => simp [unesc] at e
        | [d] => simp [unesc] at e
        | a :: b :: l =>
          rw [unesc_pct] at e
          split at e
          · obtain ⟨r', hr', rfl⟩ := Option.map_eq_some_iff.1 e
            have := unesc_length k l (by simp at h; omega) r' hr'
            simp; omega
          · simp at e
      · rw [unesc_ne hc] at e
        obtain ⟨r', hr', rfl⟩ := Option.map_eq_some_iff.1 e
        have := unesc_length k l (by simp at h; omega) r' hr'
        simp; omega

theorem dec_length (l : List UInt8) : (dec l).length ≤ l.length := by
  unfold dec
  cases h : unesc l with
  | none => simp
  | some r => simpa using unesc_length l.length l (Nat.le_refl _) r h

/-! ### what one piece adds -/
def seg (R : List UInt8) (s : Nat × Nat) : List UInt8 := (R.drop s.1).take (s.2 - s.1)
def sep (es : List Int) : List UInt8 := if es.length = 0 then [] else [47]
def stp (esc : Bool) (R : List UInt8) (acc : List Int × List UInt8) (s : Nat × Nat) : List Int × List UInt8 :=
  if esc = true then (acc.1 ++ [((acc.2 ++ sep acc.1 ++ dec (seg R s)).length : Int)], acc.2 ++ sep acc.1 ++ dec (seg R s)) else (acc.1 ++ [(s.2 : Int)], acc.2)
def fold (esc : Bool) (R : List UInt8) (es : List Int) (ds : List UInt8) (l : List (Nat × Nat)) : List Int × List UInt8 := l.foldl (stp esc R) (es, ds)

theorem fold_snoc (esc : Bool) (R : List UInt8) (es : List Int) (ds : List UInt8) (l : List (Nat × Nat)) (s : Nat × Nat) : fold esc R es ds (l ++ [s]) = stp esc R (fold esc R es ds l) s := by simp [fold]
theorem stp_length (esc : Bool) (R : List UInt8) (acc : List Int × List UInt8) (s : Nat × Nat) : (stp esc R acc s).1.length = acc.1.length + 1 := by unfold stp; split <;> simp
theorem fold_length (esc : Bool) (R : List UInt8) : ∀ (l : List (Nat × Nat)) (es : List Int) (ds : List UInt8), (fold esc R es ds l).1.length = es.length + l.length
  | [], es, ds => by simp [fold]
  | s :: l, es, ds => by
    have := fold_length esc R l (stp esc R (es, ds) s).1 (stp esc R (es, ds) s).2
    have h2 := stp_length esc R (es, ds) s
    show ((l.foldl (stp esc R) (stp esc R (es, ds) s))).1.length = _
    rw [show l.foldl (stp esc R) (stp esc R (es, ds) s) = fold esc R (stp esc R (es, ds) s).1 (stp esc R (es, ds) s).2 l from rfl, this, h2]
    simp; omega

theorem snoc_ind {α : Type} {p : List α → Prop} (h0 : p []) (hs : ∀ l a, p l → p (l ++ [a])) (l : List α) : p l := by
  have : ∀ n (l : List α), l.length = n → p l := by
    intro n
    induction n with
    | zero => intro l h; rw [List.eq_nil_of_length_eq_zero h]; exact h0
    | succ n ih =>
      intro l h
      have hne : l ≠ [] := by intro e; rw [e] at h; simp at h
      rw [← List.dropLast_concat_getLast hne]
      exact hs _ _ (ih _ (by simp [h]))
  exact this _ l rfl

/-- A split onto a caller's lists adds just what a fresh split adds: plain. -/
theorem fold_plain (R : List UInt8) (es : List Int) (ds : List UInt8) (l : List (Nat × Nat)) : fold false R es ds l = (es ++ (fold false R [] [] l).1, ds) ∧ (fold false R [] [] l).2 = [] := by
  refine snoc_ind (p := fun l => fold false R es ds l = (es ++ (fold false R [] [] l).1, ds) ∧ (fold false R [] [] l).2 = []) ?_ ?_ l
  · simp [fold]
  · rintro l a ⟨h1, h2⟩
    rw [fold_snoc, fold_snoc, h1]
    simp [stp, h2]

/-- The parting slash, where there is something on both its sides. -/
def gap (es : List Int) (l : List (Nat × Nat)) : List UInt8 := if l = [] then [] else sep es

/-- The same, decoding. -/
theorem fold_esc (R : List UInt8) (es : List Int) (ds : List UInt8) (l : List (Nat × Nat)) :
    fold true R es ds l = (es ++ (fold true R [] [] l).1.map (fun x => x + ((ds.length + (sep es).length : Nat) : Int)), ds ++ gap es l ++ (fold true R [] [] l).2) := by
  refine snoc_ind (p := fun l => fold true R es ds l = (es ++ (fold true R [] [] l).1.map (fun x => x + ((ds.length + (sep es).length : Nat) : Int)), ds ++ gap es l ++ (fold true R [] [] l).2)) ?_ ?_ l
  · simp [fold, gap]
  · intro l a h
    rw [fold_snoc, fold_snoc, h]
    have hlen := fold_length true R l [] []
    by_cases hl : l = []
    · subst hl
      simp [stp, fold, gap, sep]
      omega
    · have h0 : (fold true R [] [] l).1.length ≠ 0 := by
        rw [hlen]; simp; exact hl
      have s1 : sep (fold true R [] [] l).1 = [47] := by unfold sep; rw [if_neg h0]
      have s2 : sep (es ++ (fold true R [] [] l).1.map (fun x => x + ((ds.length + (sep es).length : Nat) : Int))) = [47] := by
        unfold sep; rw [if_neg (by rw [List.length_append, List.length_map]; omega)]
      simp only [stp, if_true, s1, s2, gap, if_neg hl]
      simp
      omega

/-- How many pieces are taken. -/
def room (depth : Int) (k : Nat) : Nat := (depth - k).toNat

end Go.Proofs.Qxb6606428a

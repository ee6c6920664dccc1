/-
  The plain side: the parts of a text ahead of its slashes, one of them left out.
-/
namespace Go.Proofs.Qxb6606306aRR

/-- How many of the first i places are slashes. -/
def cnt (f : Nat → Bool) : Nat → Nat
  | 0 => 0
  | i + 1 => cnt f i + (if f i = true then 1 else 0)

/-- The slashes among the first i places, but for the one with the number drop. -/
def kept (f : Nat → Bool) (drop : Int) : Nat → List Nat
  | 0 => []
  | i + 1 => if f i = true then (if (cnt f i : Int) ≠ drop then kept f drop i ++ [i] else kept f drop i) else kept f drop i

theorem mem_kept (f : Nat → Bool) (drop : Int) (j : Nat) : ∀ i, j ∈ kept f drop i ↔ (j < i ∧ f j = true ∧ (cnt f j : Int) ≠ drop)
  | 0 => by simp [kept]
  | i + 1 => by
    have ih := mem_kept f drop j i
    unfold kept
    by_cases hf : f i = true
    · by_cases hd : (cnt f i : Int) ≠ drop
      · rw [if_pos hf, if_pos hd, List.mem_append, ih, List.mem_singleton]
        constructor
        · rintro (⟨a, b, c⟩ | rfl)
          · exact ⟨by omega, b, c⟩
          · exact ⟨by omega, hf, hd⟩
        · rintro ⟨a, b, c⟩
          by_cases e : j = i
          · exact .inr e
          · exact .inl ⟨by omega, b, c⟩
      · rw [if_pos hf, if_neg hd, ih]
        constructor
        · rintro ⟨a, b, c⟩; exact ⟨by omega, b, c⟩
        · rintro ⟨a, b, c⟩
          by_cases e : j = i
          · subst e; exact absurd c hd
          · exact ⟨by omega, b, c⟩
    · rw [if_neg hf, ih]
      constructor
      · rintro ⟨a, b, c⟩; exact ⟨by omega, b, c⟩
      · rintro ⟨a, b, c⟩
        by_cases e : j = i
        · subst e; exact absurd b hf
        · exact ⟨by omega, b, c⟩

theorem kept_nodup (f : Nat → Bool) (drop : Int) : ∀ i, (kept f drop i).Nodup
  | 0 => by simp [kept]
  | i + 1 => by
    have ih := kept_nodup f drop i
    unfold kept
    split
    · split
      · rw [List.nodup_append]
        refine ⟨ih, by simp, fun a ha b hb => ?_⟩
        have := ((mem_kept f drop a i).1 ha).1
        simp at hb
        omega
      · exact ih
    · exact ih

theorem kept_length (f : Nat → Bool) (drop : Int) : ∀ i, (kept f drop i).length ≤ i
  | 0 => by simp [kept]
  | i + 1 => by
    have ih := kept_length f drop i
    unfold kept
    split
    · split
      · simp; omega
      · omega
    · omega

theorem cnt_le (f : Nat → Bool) : ∀ i, cnt f i ≤ i
  | 0 => by simp [cnt]
  | i + 1 => by have := cnt_le f i; unfold cnt; split <;> omega

theorem cnt_hit (f : Nat → Bool) (c : Nat) : ∀ n, c < cnt f n → ∃ i, i < n ∧ f i = true ∧ cnt f i = c
  | 0, h => by simp [cnt] at h
  | n + 1, h => by
    unfold cnt at h
    by_cases hc : c < cnt f n
    · obtain ⟨i, a, b, d⟩ := cnt_hit f c n hc
      exact ⟨i, by omega, b, d⟩
    · by_cases hf : f n = true
      · rw [if_pos hf] at h
        exact ⟨n, by omega, hf, by omega⟩
      · rw [if_neg hf] at h; omega

theorem cnt_mono (f : Nat → Bool) {i : Nat} : ∀ {n}, i ≤ n → cnt f i ≤ cnt f n
  | 0, h => by have : i = 0 := by omega
               subst this; exact Nat.le_refl _
  | n + 1, h => by
    by_cases e : i = n + 1
    · subst e; exact Nat.le_refl _
    · have := cnt_mono f (i := i) (n := n) (by omega)
      show cnt f i ≤ cnt f n + _
      omega

theorem cnt_lt (f : Nat → Bool) {i n : Nat} (h : i < n) (hf : f i = true) : cnt f i < cnt f n := by
  have h1 := cnt_mono f (i := i + 1) (n := n) h
  have h2 : cnt f (i + 1) = cnt f i + 1 := by show cnt f i + _ = _; rw [if_pos hf]
  omega

/-- All are there just where drop is the number of none. -/
theorem all_iff (f : Nat → Bool) (drop : Int) (n : Nat) : ((cnt f n : Int) ≠ drop ∧ ∀ i, i < n → f i = true → (cnt f i : Int) ≠ drop) ↔ (drop < 0 ∨ (cnt f n : Int) < drop) := by
  constructor
  · rintro ⟨h1, h2⟩
    by_cases h : drop < 0
    · exact .inl h
    · refine .inr ?_
      by_cases hlt : drop < cnt f n
      · obtain ⟨i, a, b, c⟩ := cnt_hit f drop.toNat n (by omega)
        exact absurd (by omega) (h2 i a b)
      · omega
  · intro h
    refine ⟨by omega, fun i hi hf => ?_⟩
    have := cnt_lt f hi hf
    omega

/-- The lengths of the parts that are granted. -/
def lens (f : Nat → Bool) (drop : Int) (n : Nat) : List Nat := if (cnt f n : Int) ≠ drop then kept f drop n ++ [n] else kept f drop n

theorem mem_lens (f : Nat → Bool) (drop : Int) (n j : Nat) : j ∈ lens f drop n ↔ ((j < n ∧ f j = true ∧ (cnt f j : Int) ≠ drop) ∨ (j = n ∧ (cnt f n : Int) ≠ drop)) := by
  unfold lens
  split
  · rename_i h
    rw [List.mem_append, mem_kept, List.mem_singleton]
    constructor
    · rintro (a | rfl)
      · exact .inl a
      · exact .inr ⟨rfl, h⟩
    · rintro (a | ⟨a, _⟩)
      · exact .inl a
      · exact .inr a
  · rename_i h
    rw [mem_kept]
    constructor
    · exact .inl
    · rintro (a | ⟨_, b⟩)
      · exact a
      · exact absurd b h

theorem lens_nodup (f : Nat → Bool) (drop : Int) (n : Nat) : (lens f drop n).Nodup := by
  unfold lens
  split
  · rw [List.nodup_append]
    refine ⟨kept_nodup f drop n, by simp, fun a ha b hb => ?_⟩
    have := ((mem_kept f drop a n).1 ha).1
    simp at hb
    omega
  · exact kept_nodup f drop n

theorem lens_le (f : Nat → Bool) (drop : Int) (n : Nat) : ∀ j ∈ lens f drop n, j ≤ n := by
  intro j hj
  rcases (mem_lens f drop n j).1 hj with h | h <;> omega

theorem lens_length (f : Nat → Bool) (drop : Int) (n : Nat) : (lens f drop n).length ≤ n + 1 := by
  have := kept_length f drop n
  unfold lens
  split
  · simp; omega
  · omega

/-! ### Over a text -/
def slash (res : ByteArray) (i : Nat) : Bool := if h : i < res.size then decide ((res[i].toNat : Int) = 47) else false
theorem slash_of {res : ByteArray} {i : Nat} (h : i < res.size) : slash res i = true ↔ (res[i].toNat : Int) = 47 := by simp [slash, h]

def names (res : ByteArray) (drop : Int) : List ByteArray := (lens (slash res) drop res.size).map fun j => res.extract 0 j

theorem extract_inj {res : ByteArray} {i j : Nat} (hi : i ≤ res.size) (hj : j ≤ res.size) (h : res.extract 0 i = res.extract 0 j) : i = j := by
  have := congrArg ByteArray.size h
  simp [ByteArray.size_extract] at this
  omega

theorem extract_all (res : ByteArray) : res.extract 0 res.size = res := by simp

theorem mem_names {res : ByteArray} {drop : Int} {j : Nat} (hj : j ≤ res.size) : res.extract 0 j ∈ names res drop ↔ j ∈ lens (slash res) drop res.size := by
  unfold names
  rw [List.mem_map]
  constructor
  · rintro ⟨i, hi, e⟩
    rw [← extract_inj (lens_le _ _ _ i hi) hj e]; exact hi
  · intro h; exact ⟨j, h, rfl⟩

theorem map_nodup {res : ByteArray} : ∀ (l : List Nat), l.Nodup → (∀ j ∈ l, j ≤ res.size) → (l.map fun j => res.extract 0 j).Nodup
  | [], _, _ => by simp
  | a :: l, hn, hl => by
    rw [List.nodup_cons] at hn
    rw [List.map_cons, List.nodup_cons]
    refine ⟨fun hm => ?_, map_nodup l hn.2 fun j hj => hl j (List.mem_cons_of_mem _ hj)⟩
    rw [List.mem_map] at hm
    obtain ⟨b, hb, e⟩ := hm
    have := extract_inj (hl b (List.mem_cons_of_mem _ hb)) (hl a (List.mem_cons_self ..)) e
    subst this
    exact hn.1 hb

theorem names_nodup (res : ByteArray) (drop : Int) : (names res drop).Nodup := map_nodup _ (lens_nodup _ _ _) (lens_le _ _ _)

theorem covered_iff (res : ByteArray) (drop : Int) : (res ∈ names res drop ∧ ∀ i (h : i < res.size), i < res.size → (res[i].toNat : Int) = 47 → res.extract 0 i ∈ names res drop) ↔ (drop < 0 ∨ (cnt (slash res) res.size : Int) < drop) := by
  rw [← all_iff]
  have h1 : res ∈ names res drop ↔ (cnt (slash res) res.size : Int) ≠ drop := by
    have := mem_names (res := res) (drop := drop) (j := res.size) (Nat.le_refl _)
    rw [extract_all] at this
    rw [this, mem_lens]
    constructor
    · rintro (⟨a, _⟩ | ⟨_, b⟩)
      · omega
      · exact b
    · intro h; exact .inr ⟨rfl, h⟩
  have h2 : ∀ i, i < res.size → slash res i = true → (res.extract 0 i ∈ names res drop ↔ (cnt (slash res) i : Int) ≠ drop) := by
    intro i hi hf
    rw [mem_names (by omega), mem_lens]
    constructor
    · rintro (⟨_, _, b⟩ | ⟨a, _⟩)
      · exact b
      · omega
    · intro h; exact .inl ⟨hi, hf, h⟩
  rw [h1]
  refine and_congr_right fun _ => ?_
  constructor
  · intro h i hi hf
    exact (h2 i hi hf).1 (h i hi hi ((slash_of hi).1 hf))
  · intro h i hi _ hs
    exact (h2 i hi ((slash_of hi).2 hs)).2 (h i hi ((slash_of hi).2 hs))

/-- The star is none of the names where the text is neither the star nor begins with star, slash. -/
theorem star_not {res : ByteArray} {drop : Int} (h1 : res ≠ { data := #[42] }) (h2 : ∀ (h : 2 ≤ res.size), ¬ ((res[0].toNat : Int) = 42 ∧ (res[1].toNat : Int) = 47)) : ({ data := #[42] } : ByteArray) ∉ names res drop := by
  intro hm
  unfold names at hm
  rw [List.mem_map] at hm
  obtain ⟨j, hj, e⟩ := hm
  have hjl := lens_le _ _ _ j hj
  have hs : (res.extract 0 j).size = 1 := by rw [e]; rfl
  have hj1 : j = 1 := by simp [ByteArray.size_extract] at hs; omega
  subst hj1
  have hb : (res.extract 0 1)[0]'(by rw [hs]; omega) = 42 := by
    have : ∀ (x : ByteArray) (hx : x = { data := #[42] }) (h0 : 0 < x.size), x[0] = 42 := by rintro x rfl _; rfl
    exact this _ e _
  have hb0 : res[0] = 42 := by
    rw [← hb]
    show res.data[0] = (res.extract 0 1).data[0]'(by show 0 < (res.extract 0 1).size; rw [hs]; omega)
    simp [ByteArray.data_extract]
  rcases (mem_lens _ _ _ _).1 hj with ⟨a, b, _⟩ | ⟨a, _⟩
  · exact h2 (by omega) ⟨by rw [hb0]; rfl, (slash_of a).1 b⟩
  · apply h1
    rw [← extract_all res, ← a]
    exact e

end Go.Proofs.Qxb6606306aRR

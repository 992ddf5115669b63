/-
  Plain mathematics on texts cut at separators: what Normalize and its model make of each byte. No Go in sight.
-/
namespace Go.Proofs.Qxb6603176a.Norm

/-- An ASCII letter. -/
def letter (c : Int) : Prop := (97 ≤ c ∧ c ≤ 122) ∨ (65 ≤ c ∧ c ≤ 90)
/-- In small case. -/
def low (c : Int) : Int := if 65 ≤ c ∧ c ≤ 90 then c + 32 else c
/-- In upper case. -/
def up (c : Int) : Int := if 97 ≤ c ∧ c ≤ 122 then c - 32 else c
/-- The byte at place j of the subtag number x of m bytes; ext: a singleton has been met. -/
def val (c : Int) (m j x : Nat) (ext : Bool) : Int := if 0 < x ∧ ext = false ∧ (m = 2 ∨ (m = 4 ∧ j = 0)) then up c else low c
/-- '_' read as '-', a capital as its small letter. -/
def fold (c : Int) : Int := if c = 95 then 45 else low c

/-- Where the current subtag starts, its number, and whether a singleton lies before it: ahead of place i. -/
def st (sp : Nat → Bool) : Nat → Nat × Nat × Bool
  | 0 => (0, 0, false)
  | i + 1 => if sp i then (i + 1, (st sp i).2.1 + 1, (st sp i).2.2 || (i - (st sp i).1 == 1)) else st sp i

theorem st_succ (sp : Nat → Bool) (i : Nat) : st sp (i + 1) = if sp i then (i + 1, (st sp i).2.1 + 1, (st sp i).2.2 || (i - (st sp i).1 == 1)) else st sp i := rfl

theorem st_le (sp : Nat → Bool) : ∀ i, (st sp i).1 ≤ i
  | 0 => Nat.le_refl _
  | i + 1 => by
    rw [st_succ]
    split
    · exact Nat.le_refl _
    · exact Nat.le_succ_of_le (st_le sp i)

/-- Inside a subtag the state stands still. -/
theorem st_run (sp : Nat → Bool) : ∀ i q, (st sp i).1 ≤ q → q ≤ i → st sp q = st sp i ∧ (q < i → sp q = false)
  | 0, q, _, h => by
    obtain rfl : q = 0 := by omega
    exact ⟨rfl, fun h => absurd h (Nat.lt_irrefl _)⟩
  | i + 1, q, h1, h2 => by
    by_cases hs : sp i = true
    · rw [st_succ, if_pos hs] at h1 ⊢
      obtain rfl : q = i + 1 := by simp at h1; omega
      exact ⟨by rw [st_succ, if_pos hs], fun h => absurd h (Nat.lt_irrefl _)⟩
    · have hs' : sp i = false := by simpa using hs
      rw [st_succ, if_neg hs] at h1 ⊢
      by_cases hq : q = i + 1
      · subst hq
        exact ⟨by rw [st_succ, if_neg hs], fun h => absurd h (Nat.lt_irrefl _)⟩
      · obtain ⟨e1, e2⟩ := st_run sp i q h1 (by omega)
        refine ⟨e1, fun _ => ?_⟩
        by_cases hqi : q = i
        · rw [hqi]; exact hs'
        · exact e2 (by omega)

theorem ext_mono (sp : Nat → Bool) (i : Nat) (h : (st sp i).2.2 = true) : ∀ d, (st sp (i + d)).2.2 = true
  | 0 => h
  | d + 1 => by
    have ih := ext_mono sp i h d
    show (st sp (i + d + 1)).2.2 = true
    rw [st_succ]
    split
    · simp [ih]
    · exact ih

/-- The subtag that holds place p ends at e. -/
structure IsEnd (sp : Nat → Bool) (p e : Nat) : Prop where
  le : p ≤ e
  at_ : sp e = true
  none : ∀ q, p ≤ q → q < e → sp q = false

theorem IsEnd.uniq {sp : Nat → Bool} {p e e' : Nat} (h : IsEnd sp p e) (h' : IsEnd sp p e') : e = e' := by
  rcases Nat.lt_trichotomy e e' with hlt | heq | hgt
  · have := h'.none e h.le hlt
    rw [h.at_] at this; cases this
  · exact heq
  · have := h.none e' h'.le hgt
    rw [h'.at_] at this; cases this

theorem IsEnd.ex {sp : Nat → Bool} {n : Nat} (hn : sp n = true) : ∀ d p, p + d = n → ∃ e, IsEnd sp p e
  | 0, p, h => ⟨p, Nat.le_refl _, by rw [show p = n by omega]; exact hn, fun q h1 h2 => by omega⟩
  | d + 1, p, h => by
    by_cases hs : sp p = true
    · exact ⟨p, Nat.le_refl _, hs, fun q h1 h2 => by omega⟩
    · obtain ⟨e, he⟩ := IsEnd.ex hn d (p + 1) (by omega)
      refine ⟨e, by have := he.le; omega, he.at_, fun q h1 h2 => ?_⟩
      by_cases hq : q = p
      · rw [hq]; simpa using hs
      · exact he.none q (by omega) h2

/-- Place p holds what it must. -/
def Good (sp : Nat → Bool) (f : Nat → Int) (p : Nat) (v : Int) : Prop :=
  (sp p = true → v = 45) ∧ (sp p = false → ∀ e, IsEnd sp p e → v = val (f p) (e - (st sp p).1) (p - (st sp p).1) (st sp p).2.1 ((st sp p).2.2 || (e - (st sp p).1 == 1)))

theorem Good.uniq {sp : Nat → Bool} {f : Nat → Int} {n p : Nat} {v v' : Int} (hn : sp n = true) (hp : p ≤ n) (h : Good sp f p v) (h' : Good sp f p v') : v = v' := by
  cases hs : sp p
  · obtain ⟨e, he⟩ := IsEnd.ex hn (n - p) p (by omega)
    rw [h.2 hs e he, h'.2 hs e he]
  · rw [h.1 hs, h'.1 hs]

/-- Normalize's round: a place of the subtag that ends at i. -/
theorem good_at {sp : Nat → Bool} {f : Nat → Int} {i j : Nat} (hi : sp i = true) (h1 : (st sp i).1 ≤ j) (h2 : j < i) :
    Good sp f j (val (f j) (i - (st sp i).1) (j - (st sp i).1) (st sp i).2.1 ((st sp i).2.2 || (i - (st sp i).1 == 1))) := by
  obtain ⟨e1, e2⟩ := st_run sp i j h1 (by omega)
  have hend : IsEnd sp j i := ⟨by omega, hi, fun q hq1 hq2 => (st_run sp i q (by omega) (by omega)).2 hq2⟩
  refine ⟨(fun h => by rw [e2 h2] at h; cases h), fun _ e he => ?_⟩
  rw [he.uniq hend, e1]

theorem good_sep {sp : Nat → Bool} {f : Nat → Int} {i : Nat} (hi : sp i = true) : Good sp f i 45 := ⟨fun _ => rfl, fun h => by rw [hi] at h; cases h⟩

/-- The model: a subtag [s, e) that is no singleton, behind none. -/
theorem model_at {sp : Nat → Bool} {f : Nat → Int} {s k e p : Nat} (hs : st sp s = (s, k, false)) (he : IsEnd sp s e) (h1 : s ≤ p) (h2 : p < e) (hne : e - s ≠ 1) :
    Good sp f p (val (f p) (e - s) (p - s) k false) := by
  have hst : ∀ d, s + d ≤ e → st sp (s + d) = (s, k, false) := by
    intro d
    induction d with
    | zero => intro _; exact hs
    | succ d ih =>
      intro hd
      show st sp (s + d + 1) = _
      rw [st_succ, he.none (s + d) (by omega) (by omega)]
      exact ih (by omega)
  have e1 := hst (p - s) (by omega)
  rw [show s + (p - s) = p by omega] at e1
  refine ⟨(fun h => by rw [he.none p h1 h2] at h; cases h), fun _ e' he' => ?_⟩
  have : e' = e := he'.uniq ⟨by omega, he.at_, fun q hq1 hq2 => he.none q (by omega) hq2⟩
  subst this
  have e3 : (e' - s == 1) = false := beq_eq_false_iff_ne.2 hne
  rw [e1]
  show _ = val (f p) (e' - s) (p - s) k (false || (e' - s == 1))
  rw [e3]
  rfl

theorem model_next {sp : Nat → Bool} {s k e : Nat} (hs : st sp s = (s, k, false)) (he : IsEnd sp s e) : st sp (e + 1) = (e + 1, k + 1, e - s == 1) := by
  have hst : ∀ d, s + d ≤ e → st sp (s + d) = (s, k, false) := by
    intro d
    induction d with
    | zero => intro _; exact hs
    | succ d ih =>
      intro hd
      show st sp (s + d + 1) = _
      rw [st_succ, he.none (s + d) (by omega) (by omega)]
      exact ih (by omega)
  have e1 := hst (e - s) (by have := he.le; omega)
  rw [show s + (e - s) = e by have := he.le; omega] at e1
  rw [st_succ, if_pos he.at_, e1]
  simp

theorem val_ext (c : Int) (m j x : Nat) : val c m j x true = low c := by simp [val]

/-- The model: at and behind a singleton all is small. -/
theorem model_single {sp : Nat → Bool} {f : Nat → Int} {s k e p : Nat} (hs : st sp s = (s, k, false)) (he : IsEnd sp s e) (hone : e - s = 1) (h1 : s ≤ p) (hsp : sp p = true → fold (f p) = 45) (hns : sp p = false → f p ≠ 95) :
    Good sp f p (fold (f p)) := by
  refine ⟨hsp, fun hp e' he' => ?_⟩
  have hf : fold (f p) = low (f p) := by unfold fold; rw [if_neg (hns hp)]
  rw [hf]
  by_cases hpe : p ≤ e
  · have hpe' : p ≠ e := fun h => by rw [h, he.at_] at hp; cases hp
    obtain rfl : p = s := by omega
    rw [hs, he'.uniq he]
    simp [hone, val_ext]
  · have h2 := model_next hs he
    have h3 := ext_mono sp (e + 1) (by rw [h2]; simp [hone]) (p - (e + 1))
    rw [show e + 1 + (p - (e + 1)) = p by omega] at h3
    rw [h3, Bool.true_or, val_ext]

/-- 'raiseAt' of a folded byte. -/
theorem up_fold (c : Int) (h : c ≠ 95) : up (fold c) = up c := by
  unfold fold
  rw [if_neg h]
  unfold up low
  by_cases h1 : 65 ≤ c ∧ c ≤ 90
  · rw [if_pos h1, if_pos (by omega), if_neg (by omega)]; omega
  · rw [if_neg h1]
theorem fold_low (c : Int) (h : c ≠ 95) : fold c = low c := by unfold fold; rw [if_neg h]

end Go.Proofs.Qxb6603176a.Norm

import Derived.Test.Qxb6603155aAdd
namespace Go.Proofs.Qxb6603155a
open Go.RowKit Go.Maps

/-- The nameSet in block S holds the names of A. -/
def NS (B S : Nat) (w : World) (A : List (List UInt8)) : Prop :=
  (∃ fp fs fc n, n ≤ 8 ∧ w.rowIs S 40 10 (Rec fp fs fc (n : Nat) none) ∧ (∀ i, i < 8 → Holds B w (fp i) (fs i)) ∧ (∀ i, i < 8 → (fs i).length ≤ 1048576) ∧ ∀ t, t ∈ A ↔ ∃ j, j < n ∧ fs j = t) ∨
  (∃ fp fs fc n mb L, S < mb ∧ w.rowIs S 40 10 (Rec fp fs fc n (some mb)) ∧ Names w mb L ∧ L.length ≤ A.length + 9 ∧ ∀ t, t ∈ A ↔ t ∈ L)

theorem turned_below {w w' : World} {b B : Nat} (h : w.mapTurned w' b) (hB : B ≤ b) : Below B w w' :=
  ⟨h.grown.os, h.grown.tape, h.grown.output, h.grown.size, fun k hk => by
    obtain ⟨es, clock, es', clock', hb, rfl⟩ := h
    exact ChangeMaps.heap_setBlock_other hb _ (by omega)⟩

theorem NS.below {B S : Nat} {w w' : World} {A : List (List UInt8)} (h : NS B S w A) (hb : Below w.heap.size w w') (hB : B ≤ S) : NS B S w' A := by
  rcases h with ⟨fp, fs, fc, n, h1, h2, h3, h4, h5⟩ | ⟨fp, fs, fc, n, mb, L, h1, h2, h3, h4, h5⟩
  · exact .inl ⟨fp, fs, fc, n, h1, h2.of_block (hb.block S h2.lt), fun i hi => (h3 i hi).below (hb.mono (by have := h2.lt; omega)), h4, h5⟩
  · refine .inr ⟨fp, fs, fc, n, mb, L, h1, h2.of_block (hb.block S h2.lt), ?_, h4, h5⟩
    have hlt := h3.lt
    obtain ⟨es, clock, e1, r⟩ := h3
    exact ⟨es, clock, (hb.block mb hlt).trans e1, r⟩

theorem contains_of {A : List (List UInt8)} {s : List UInt8} : A.contains s = decide (s ∈ A) := by simp

theorem add_ns {B S : Nat} {w : World} {A : List (List UInt8)} (h : NS B S w A) (p : Option Addr) (s : List UInt8) (c : Nat) (hs : Holds B w p s) (hl : s.length ≤ 1048576) (hB : B ≤ S) (hA : A.length ≤ 100000) :
    Calls Try.prog 9 #[.pointer (some ⟨S, 0, none⟩), .slice p s.length c] w fun e w' => e = .returned (.bool (decide (s ∈ A))) ∧ NS B S w' (A ++ [s]) ∧ Below S w w' := by
  rcases h with ⟨fp, fs, fc, n, h1, h2, h3, h4, h5⟩ | ⟨fp, fs, fc, n, mb, L, h1, h2, h3, h4, h5⟩
  · have hadd := add_few S fp fs fc n p s c w h2 h3 hs hB h1 hl h4
    have hz := zzadd (R := fun e w' => e = .returned (.bool (decide (s ∈ A))) ∧ NS B S w' (A ++ [s]) ∧ Below S w w') (hadd.mono fun e w' he => by
      rcases he with ⟨⟨j, hj, hjs⟩, rfl, m, rfl⟩ | ⟨hno, rfl, hn, hb, hr⟩ | ⟨hno, rfl, hn, hb, mb, hmb, hr, hN⟩
      · have hin : s ∈ A := (h5 s).2 ⟨j, hj, hjs⟩
        refine ⟨true, rfl, by simp [hin], .inl ⟨fp, fs, fc, n, h1, h2, fun i hi => (h3 i hi).drewN m, h4, fun t => ?_⟩, below_drewN (Below.refl _ _) _⟩
        rw [List.mem_append, h5 t]
        constructor
        · rintro (h | h)
          · exact h
          · simp at h; subst h; exact ⟨j, hj, hjs⟩
        · exact fun h => .inl h
      · have hin : ¬ s ∈ A := fun h => by obtain ⟨j, hj, e⟩ := (h5 s).1 h; exact hno j hj e
        refine ⟨false, rfl, by simp [hin], .inl ⟨_, _, _, n + 1, by omega, hr, fun i hi => ?_, fun i hi => ?_, fun t => ?_⟩, hb⟩
        · have hb' := hb.mono hB
          by_cases hi' : i = n
          · simp only [hi', if_true]; exact hs.below hb'
          · simp only [hi', if_false]; exact (h3 i hi).below hb'
        · by_cases hi' : i = n
          · simp only [hi', if_true]; exact hl
          · simp only [hi', if_false]; exact h4 i hi
        · rw [List.mem_append, h5 t]
          constructor
          · rintro (⟨j, hj, e⟩ | h)
            · exact ⟨j, by omega, by simp only [show ¬ j = n by omega, if_false]; exact e⟩
            · simp at h; subst h; exact ⟨n, by omega, by simp⟩
          · rintro ⟨j, hj, e⟩
            by_cases hj' : j = n
            · simp only [hj', if_true] at e; subst e; exact .inr (by simp)
            · simp only [hj', if_false] at e; exact .inl ⟨j, by omega, e⟩
      · have hin : ¬ s ∈ A := fun h => by obtain ⟨j, hj, e⟩ := (h5 s).1 h; exact hno j hj e
        refine ⟨false, rfl, by simp [hin], .inr ⟨fp, fs, fc, _, mb, _, by have := h2.lt; omega, hr, hN, by simp, fun t => ?_⟩, hb⟩
        rw [List.mem_append, h5 t, List.mem_append]
        subst hn
        simp [List.mem_map])
    exact hz.mono fun e w' ⟨x, _, h⟩ => h
  · have hadd := add_map S mb L p s c w (h2.cell (i := 9) (by omega)) h3 hs hl (by omega)
    have hz := zzadd (R := fun e w' => e = .returned (.bool (decide (s ∈ A))) ∧ NS B S w' (A ++ [s]) ∧ Below S w w') (hadd.mono fun e w' he => by
      obtain ⟨rfl, hN, m, hturn⟩ := he
      refine ⟨_, rfl, ret_bool ?_, .inr ⟨fp, fs, fc, n, mb, _, h1, turned_row (w := w.drewN m) hturn h2, hN, by simp; omega, fun t => by simp [h5 t]⟩, ?_⟩
      · simp [h5 s]
      · exact (below_drewN (Below.refl S w) m).trans (turned_below hturn (by omega)))
    exact hz.mono fun e w' ⟨x, _, h⟩ => h

end Go.Proofs.Qxb6603155a

import Derived.Test.Qxb6603176aNormSet
import Derived.Deep.CutRange
namespace Go.Proofs.Qxb6603176a.Norm
open Go.RowKit

/-- The text's separators, and its end. -/
def sp (t : ByteArray) (i : Nat) : Bool := i == t.size || at_ t i == 45 || at_ t i == 95

theorem sp_end (t : ByteArray) : sp t t.size = true := by simp [sp]

theorem at_bound (t : ByteArray) (i : Nat) : 0 ≤ at_ t i ∧ at_ t i ≤ 255 := by
  unfold at_
  have := (t.data.toList.getD i 0).toNat_lt
  omega

theorem index_at (t : ByteArray) (i : Nat) (hi : i < t.size) (w : World) : (Instr.index 9 (.string t) (.int .i64 i)).run Try.prog w = .ok (.int .u8 (at_ t i)) w := by
  rw [run_index_string (P := Try.prog) w 9 t .i64 i Try.underlying9]
  have h : (0 : Int) ≤ (i : Int) ∧ (i : Int) < (t.size : Int) := by omega
  simp [h, hi, at_, List.getD]
  rfl

theorem cur_start (w : World) (t : ByteArray) : Cur w.heap.size w ((w.alloc (.cells #[.string t] 9)).alloc (.cells #[.slice none 0 0] 34)) t (at_ t) := by
  refine ⟨?_, ((Below.refl _ _).alloc (Nat.le_refl _) _).alloc (by simp) _, ?_, by simp, .inl ⟨?_, fun _ _ => rfl⟩⟩
  · rw [World.cell?_alloc_lt _ _ _ (by simp)]
    exact (World.cell?_alloc_at _ _ _ _ rfl).trans rfl
  · exact World.frozen?_alloc_at _ _ _ _ (by simp)
  · exact (World.cell?_alloc_at _ _ _ _ (by simp)).trans rfl

theorem text_same (t : ByteArray) (v : Nat → Int) (h : ∀ i, i < t.size → v i = at_ t i) : t = strOfNums ((List.range t.size).map v) := by
  have e1 : (List.range t.size).map v = t.data.toList.map (fun c => (c.toNat : Int)) := by
    apply List.ext_getElem
    · simp
    · intro i h1 h2
      have hi : i < t.size := by simpa using h1
      simp [h i hi, at_, List.getD, hi]
  rw [e1]
  unfold strOfNums
  rw [List.map_map]
  have e2 : t.data.toList.map ((fun n : Int => UInt8.ofNat n.toNat) ∘ fun c => (c.toNat : Int)) = t.data.toList := (List.map_congr_left (fun x _ => by simp)).trans (List.map_id _)
  rw [e2]

theorem one_iff {k S : Nat} (h : S ≤ k) : ((k : Int) - (S : Int) == 1) = (k - S == 1) := by
  rw [Bool.eq_iff_iff]; simp; omega

theorem cut_at (t : ByteArray) (k : Nat) (h : sp t k = true) : k = t.size ∨ at_ t k = 45 ∨ at_ t k = 95 := by
  simp [sp] at h
  rcases h with (h | h) | h
  · exact .inl h
  · exact .inr (.inl h)
  · exact .inr (.inr h)

theorem at_lt (t : ByteArray) (k : Nat) (h : at_ t k ≠ 0) : k < t.size := by
  rcases Nat.lt_or_ge k t.size with h1 | h1
  · exact h1
  · exfalso
    apply h
    unfold at_
    have : t.data.toList[k]? = none := List.getElem?_eq_none (by rw [Array.length_toList]; exact h1)
    simp [List.getD, this]

theorem case_at (c : Int) (k S j X : Nat) (ext : Bool) (w : World) (h1 : S ≤ k) (h2 : S ≤ j) :
    Calls Try.prog 35 #[.int .u8 c, .int .i64 ((k : Int) - (S : Int)), .int .i64 ((j : Int) - (S : Int)), .int .i64 X, .bool ext] w fun e w' => e = .returned (.int .u8 (val c (k - S) (j - S) X ext)) ∧ w = w' := by
  have e1 : ((k : Int) - (S : Int)) = ((k - S : Nat) : Int) := by omega
  have e2 : ((j : Int) - (S : Int)) = ((j - S : Nat) : Int) := by omega
  rw [e1, e2]
  exact case_any c (k - S) (j - S) X ext w

theorem good_j (t : ByteArray) {j k S X : Nat} {E EX : Bool} (hjk : j < k) (hSj : S ≤ j) (hs : sp t k = true) (hst : st (sp t) k = (S, X, E)) (hEX : EX = (E || (k - S == 1))) :
    Good (sp t) (at_ t) j (val (at_ t j) (k - S) (j - S) X EX) := by
  have := good_at (f := at_ t) hs (j := j) (by rw [hst]; exact hSj) hjk
  rw [hst] at this
  rw [hEX]
  exact this

theorem good_same {t : ByteArray} {v : Nat → Int} {j : Nat} {c : Int} (hg : ∀ p, p < t.size → p < j → Good (sp t) (at_ t) p (v p)) (hr : ∀ p, p < t.size → j ≤ p → v p = at_ t p) (hj : j < t.size) (h : Good (sp t) (at_ t) j c) (e : c = at_ t j) :
    ∀ p, p < t.size → p < j + 1 → Good (sp t) (at_ t) p (v p) := by
  intro p hp hpj
  by_cases hpe : p = j
  · subst hpe
    rw [hr p hp (Nat.le_refl _), ← e]
    exact h
  · exact hg p hp (by omega)

theorem good_set {t : ByteArray} {v : Nat → Int} {j : Nat} {c : Int} (hg : ∀ p, p < t.size → p < j → Good (sp t) (at_ t) p (v p)) (h : Good (sp t) (at_ t) j c) :
    ∀ p, p < t.size → p < j + 1 → Good (sp t) (at_ t) p (if p = j then c else v p) := by
  intro p hp hpj
  by_cases hpe : p = j
  · subst hpe
    rw [if_pos rfl]
    exact h
  · rw [if_neg hpe]
    exact hg p hp (by omega)

theorem good_dash {t : ByteArray} {v : Nat → Int} {k : Nat} (hg : ∀ p, p < t.size → p < k → Good (sp t) (at_ t) p (v p)) (hr : ∀ p, p < t.size → k ≤ p → v p = at_ t p) (hk : k < t.size) (hs : sp t k = true) (e : at_ t k = 45) :
    ∀ p, p < t.size → p < k + 1 → Good (sp t) (at_ t) p (v p) := good_same hg hr hk (good_sep hs) e.symm

theorem st_next (t : ByteArray) {k S X : Nat} {E EX : Bool} (hs : sp t k = true) (hst : st (sp t) k = (S, X, E)) (hEX : EX = (E || (k - S == 1))) : st (sp t) (k + 1) = (k + 1, X + 1, EX) := by
  rw [st_succ, if_pos hs, hst, hEX]

set_option maxHeartbeats 2000000 in
set_option maxRecDepth 100000 in
theorem norm_any (t : ByteArray) (w : World) (hn : t.size ≤ 1048576) :
    Calls Try.prog 23 #[.string t] w fun e w' => (∃ v : Nat → Int, e = .returned (.string (strOfNums ((List.range t.size).map v))) ∧ ∀ p, p < t.size → Good (sp t) (at_ t) p (v p)) ∧ Below w.heap.size w w' := by
  have hn1 : (t.size : Int) ≤ 1048576 := by omega
  have C0 := hide (cur_start w t)
  go_enter Try.func23, Try.ntmps23
  go_wp2_with fail
  go_loopw [5, 6, 7, 8] (fun s x e i wr => ∃ (k S X : Nat) (E : Bool) (v : Nat → Int), k ≤ t.size + 1 ∧ st (sp t) k = (S, X, E) ∧ i = .int .i64 k ∧ s = .int .i64 S ∧ x = .int .i64 X ∧ e = .bool E ∧ X ≤ k ∧ Cur w.heap.size w wr t v ∧ (∀ p, p < t.size → p < S → Good (sp t) (at_ t) p (v p)) ∧ (∀ p, p < t.size → S ≤ p → v p = at_ t p)) (fun _ _ _ i _ => t.size + 1 - (intOf i).toNat)
  case atStart => exact ⟨0, 0, 0, false, at_ t, by omega, rfl, rfl, rfl, rfl, rfl, Nat.le_refl _, unhide C0, fun p _ h => absurd h (Nat.not_lt_zero _), fun _ _ _ => rfl⟩
  case round =>
    obtain ⟨k, S, X, E, v, hk, hst, rfl, rfl, rfl, rfl, hXk, hcur, hgood, hrest⟩ := hrel
    have hSk : S ≤ k := by have := st_le (sp t) k; rw [hst] at this; exact this
    have c0 : wr.cell? ⟨w.heap.size, 0, none⟩ = some (.string t) := hcur.1
    have HST := hide hst
    have HC := hide hcur
    have HG := hide hgood
    have HR := hide hrest
    clear hst hcur hgood hrest C0
    by_cases hkn : k ≤ t.size
    · have g1 : (k : Int) ≤ (t.size : Int) := by omega
      by_cases hs : sp t k = true
      · have HS := hide hs
        have hkS0 : (0 : Int) ≤ (k : Int) - (S : Int) := by omega
        rcases cut_at t k hs with hend | h45 | h95
        · have g2 : ¬ (k : Int) < (t.size : Int) := by omega
          clear hs hend
          cases E
          · go_wp2_with fail
            obtain ⟨EX, hEX⟩ : ∃ EX, EX = (false || (k - S == 1)) := ⟨_, rfl⟩
            have hEXr : ((k : Int) - (S : Int) == 1) = EX := by rw [hEX, one_iff hSk]; simp
            have HEX := hide hEX
            clear hEX
            rw [hEXr]
            clear hEXr
            go_loopw [10] (fun i wi => ∃ (j : Nat) (v' : Nat → Int), S ≤ j ∧ j ≤ k ∧ i = .int .i64 j ∧ Cur w.heap.size w wi t v' ∧ (∀ p, p < t.size → p < j → Good (sp t) (at_ t) p (v' p)) ∧ (∀ p, p < t.size → j ≤ p → v' p = at_ t p)) (fun i _ => k - (intOf i).toNat)
            case atStart => exact ⟨S, v, Nat.le_refl _, hSk, rfl, unhide HC, unhide HG, unhide HR⟩
            case round =>
              obtain ⟨j, v', hSj, hjk, rfl, hcur, hgood, hrest⟩ := hrel
              have c0 : wr.cell? ⟨w.heap.size, 0, none⟩ = some (.string t) := hcur.1
              have KC := hide hcur
              have KG := hide hgood
              have KR := hide hrest
              clear hcur hgood hrest HC HG HR
              by_cases hjk' : j < k
              · have hjn : j < t.size := by omega
                have g3 : (j : Int) < (k : Int) := by omega
                have g4 : (j : Int) < (t.size : Int) := by omega
                have hij := index_at t j hjn
                have GJ := hide (good_j t hjk' hSj (unhide HS) (unhide HST) (unhide HEX))
                have HQ := hide (case_at (at_ t j) k S j X EX wr hSk hSj)
                have hb := at_bound t j
                obtain ⟨cv, hcv⟩ : ∃ cv, cv = val (at_ t j) (k - S) (j - S) X EX := ⟨_, rfl⟩
                rw [← hcv] at GJ HQ
                by_cases hce : cv = at_ t j
                · have q5 : (cv != at_ t j) = false := by simp [hce]
                  have HCE := hide hce
                  clear hce hcv
                  go_wp2_with fail
                  refine (unhide HQ).mono ?_
                  rintro e w1 ⟨rfl, rfl⟩
                  go_wp2_with fail
                  go_roundw
                  case rel => exact ⟨j + 1, v', by omega, by omega, by go_num, unhide KC, good_same (unhide KG) (unhide KR) hjn (unhide GJ) (unhide HCE), fun p hp hjp => unhide KR p hp (by omega)⟩
                  case measure => simp [intOf]; omega
                · have q5 : (cv != at_ t j) = true := by simp [hce]
                  have HSET := hide (set_any w.heap.size w wr t v' (unhide KC) j cv hjn)
                  clear hce hcv
                  go_wp2_with fail
                  refine (unhide HQ).mono ?_
                  rintro e w1 ⟨rfl, rfl⟩
                  go_wp2_with fail
                  refine (unhide HSET).mono ?_
                  rintro e w2 ⟨rfl, hc2⟩
                  have HC2 := hide hc2
                  clear hc2
                  go_wp2_with fail
                  go_roundw
                  case rel => exact ⟨j + 1, _, by omega, by omega, by go_num, unhide HC2, good_set (unhide KG) (unhide GJ), fun p hp hjp => by rw [if_neg (by omega)]; exact unhide KR p hp (by omega)⟩
                  case measure => simp [intOf]; omega
              · have g3 : ¬ (j : Int) < (k : Int) := by omega
                have ejk : k = j := by omega
                subst ejk
                go_wp2_with fail
                go_roundw
                case rel => exact ⟨k + 1, k + 1, X + 1, _, v', by omega, st_next t (unhide HS) (unhide HST) (unhide HEX), by go_num, by go_num, by go_num, rfl, by omega, unhide KC, fun p hp hpk => unhide KG p hp (by omega), fun p hp hpk => by omega⟩
                case measure => simp [intOf]; omega
          · go_wp2_with fail
            obtain ⟨EX, hEX⟩ : ∃ EX, EX = (true || (k - S == 1)) := ⟨_, rfl⟩
            have hEXr : EX = true := hEX.trans (Bool.true_or _)
            have HEX := hide hEX
            clear hEX
            subst hEXr
            go_loopw [10] (fun i wi => ∃ (j : Nat) (v' : Nat → Int), S ≤ j ∧ j ≤ k ∧ i = .int .i64 j ∧ Cur w.heap.size w wi t v' ∧ (∀ p, p < t.size → p < j → Good (sp t) (at_ t) p (v' p)) ∧ (∀ p, p < t.size → j ≤ p → v' p = at_ t p)) (fun i _ => k - (intOf i).toNat)
            case atStart => exact ⟨S, v, Nat.le_refl _, hSk, rfl, unhide HC, unhide HG, unhide HR⟩
            case round =>
              obtain ⟨j, v', hSj, hjk, rfl, hcur, hgood, hrest⟩ := hrel
              have c0 : wr.cell? ⟨w.heap.size, 0, none⟩ = some (.string t) := hcur.1
              have KC := hide hcur
              have KG := hide hgood
              have KR := hide hrest
              clear hcur hgood hrest HC HG HR
              by_cases hjk' : j < k
              · have hjn : j < t.size := by omega
                have g3 : (j : Int) < (k : Int) := by omega
                have g4 : (j : Int) < (t.size : Int) := by omega
                have hij := index_at t j hjn
                have GJ := hide (good_j t hjk' hSj (unhide HS) (unhide HST) (unhide HEX))
                have HQ := hide (case_at (at_ t j) k S j X true wr hSk hSj)
                have hb := at_bound t j
                obtain ⟨cv, hcv⟩ : ∃ cv, cv = val (at_ t j) (k - S) (j - S) X true := ⟨_, rfl⟩
                rw [← hcv] at GJ HQ
                by_cases hce : cv = at_ t j
                · have q5 : (cv != at_ t j) = false := by simp [hce]
                  have HCE := hide hce
                  clear hce hcv
                  go_wp2_with fail
                  refine (unhide HQ).mono ?_
                  rintro e w1 ⟨rfl, rfl⟩
                  go_wp2_with fail
                  go_roundw
                  case rel => exact ⟨j + 1, v', by omega, by omega, by go_num, unhide KC, good_same (unhide KG) (unhide KR) hjn (unhide GJ) (unhide HCE), fun p hp hjp => unhide KR p hp (by omega)⟩
                  case measure => simp [intOf]; omega
                · have q5 : (cv != at_ t j) = true := by simp [hce]
                  have HSET := hide (set_any w.heap.size w wr t v' (unhide KC) j cv hjn)
                  clear hce hcv
                  go_wp2_with fail
                  refine (unhide HQ).mono ?_
                  rintro e w1 ⟨rfl, rfl⟩
                  go_wp2_with fail
                  refine (unhide HSET).mono ?_
                  rintro e w2 ⟨rfl, hc2⟩
                  have HC2 := hide hc2
                  clear hc2
                  go_wp2_with fail
                  go_roundw
                  case rel => exact ⟨j + 1, _, by omega, by omega, by go_num, unhide HC2, good_set (unhide KG) (unhide GJ), fun p hp hjp => by rw [if_neg (by omega)]; exact unhide KR p hp (by omega)⟩
                  case measure => simp [intOf]; omega
              · have g3 : ¬ (j : Int) < (k : Int) := by omega
                have ejk : k = j := by omega
                subst ejk
                go_wp2_with fail
                go_roundw
                case rel => exact ⟨k + 1, k + 1, X + 1, _, v', by omega, st_next t (unhide HS) (unhide HST) (unhide HEX), by go_num, by go_num, by go_num, rfl, by omega, unhide KC, fun p hp hpk => unhide KG p hp (by omega), fun p hp hpk => by omega⟩
                case measure => simp [intOf]; omega
        · have hkl := at_lt t k (by rw [h45]; decide)
          have g2 : (k : Int) < (t.size : Int) := by omega
          have hix := index_at t k hkl
          have q1 : (at_ t k != 45) = false := by simp [h45]
          have q3 : (at_ t k == 95) = false := by simp [h45]
          have H45 := hide h45
          clear hs h45
          cases E
          · go_wp2_with fail
            obtain ⟨EX, hEX⟩ : ∃ EX, EX = (false || (k - S == 1)) := ⟨_, rfl⟩
            have hEXr : ((k : Int) - (S : Int) == 1) = EX := by rw [hEX, one_iff hSk]; simp
            have HEX := hide hEX
            clear hEX
            rw [hEXr]
            clear hEXr
            go_loopw [10] (fun i wi => ∃ (j : Nat) (v' : Nat → Int), S ≤ j ∧ j ≤ k ∧ i = .int .i64 j ∧ Cur w.heap.size w wi t v' ∧ (∀ p, p < t.size → p < j → Good (sp t) (at_ t) p (v' p)) ∧ (∀ p, p < t.size → j ≤ p → v' p = at_ t p)) (fun i _ => k - (intOf i).toNat)
            case atStart => exact ⟨S, v, Nat.le_refl _, hSk, rfl, unhide HC, unhide HG, unhide HR⟩
            case round =>
              obtain ⟨j, v', hSj, hjk, rfl, hcur, hgood, hrest⟩ := hrel
              have c0 : wr.cell? ⟨w.heap.size, 0, none⟩ = some (.string t) := hcur.1
              have KC := hide hcur
              have KG := hide hgood
              have KR := hide hrest
              clear hcur hgood hrest HC HG HR
              by_cases hjk' : j < k
              · have hjn : j < t.size := by omega
                have g3 : (j : Int) < (k : Int) := by omega
                have g4 : (j : Int) < (t.size : Int) := by omega
                have hij := index_at t j hjn
                have GJ := hide (good_j t hjk' hSj (unhide HS) (unhide HST) (unhide HEX))
                have HQ := hide (case_at (at_ t j) k S j X EX wr hSk hSj)
                have hb := at_bound t j
                obtain ⟨cv, hcv⟩ : ∃ cv, cv = val (at_ t j) (k - S) (j - S) X EX := ⟨_, rfl⟩
                rw [← hcv] at GJ HQ
                by_cases hce : cv = at_ t j
                · have q5 : (cv != at_ t j) = false := by simp [hce]
                  have HCE := hide hce
                  clear hce hcv
                  go_wp2_with fail
                  refine (unhide HQ).mono ?_
                  rintro e w1 ⟨rfl, rfl⟩
                  go_wp2_with fail
                  go_roundw
                  case rel => exact ⟨j + 1, v', by omega, by omega, by go_num, unhide KC, good_same (unhide KG) (unhide KR) hjn (unhide GJ) (unhide HCE), fun p hp hjp => unhide KR p hp (by omega)⟩
                  case measure => simp [intOf]; omega
                · have q5 : (cv != at_ t j) = true := by simp [hce]
                  have HSET := hide (set_any w.heap.size w wr t v' (unhide KC) j cv hjn)
                  clear hce hcv
                  go_wp2_with fail
                  refine (unhide HQ).mono ?_
                  rintro e w1 ⟨rfl, rfl⟩
                  go_wp2_with fail
                  refine (unhide HSET).mono ?_
                  rintro e w2 ⟨rfl, hc2⟩
                  have HC2 := hide hc2
                  clear hc2
                  go_wp2_with fail
                  go_roundw
                  case rel => exact ⟨j + 1, _, by omega, by omega, by go_num, unhide HC2, good_set (unhide KG) (unhide GJ), fun p hp hjp => by rw [if_neg (by omega)]; exact unhide KR p hp (by omega)⟩
                  case measure => simp [intOf]; omega
              · have g3 : ¬ (j : Int) < (k : Int) := by omega
                have ejk : k = j := by omega
                subst ejk
                go_wp2_with fail
                go_roundw
                case rel => exact ⟨k + 1, k + 1, X + 1, _, v', by omega, st_next t (unhide HS) (unhide HST) (unhide HEX), by go_num, by go_num, by go_num, rfl, by omega, unhide KC, good_dash (unhide KG) (unhide KR) hkl (unhide HS) (unhide H45), fun p hp hpk => unhide KR p hp (by omega)⟩
                case measure => simp [intOf]; omega
          · go_wp2_with fail
            obtain ⟨EX, hEX⟩ : ∃ EX, EX = (true || (k - S == 1)) := ⟨_, rfl⟩
            have hEXr : EX = true := hEX.trans (Bool.true_or _)
            have HEX := hide hEX
            clear hEX
            subst hEXr
            go_loopw [10] (fun i wi => ∃ (j : Nat) (v' : Nat → Int), S ≤ j ∧ j ≤ k ∧ i = .int .i64 j ∧ Cur w.heap.size w wi t v' ∧ (∀ p, p < t.size → p < j → Good (sp t) (at_ t) p (v' p)) ∧ (∀ p, p < t.size → j ≤ p → v' p = at_ t p)) (fun i _ => k - (intOf i).toNat)
            case atStart => exact ⟨S, v, Nat.le_refl _, hSk, rfl, unhide HC, unhide HG, unhide HR⟩
            case round =>
              obtain ⟨j, v', hSj, hjk, rfl, hcur, hgood, hrest⟩ := hrel
              have c0 : wr.cell? ⟨w.heap.size, 0, none⟩ = some (.string t) := hcur.1
              have KC := hide hcur
              have KG := hide hgood
              have KR := hide hrest
              clear hcur hgood hrest HC HG HR
              by_cases hjk' : j < k
              · have hjn : j < t.size := by omega
                have g3 : (j : Int) < (k : Int) := by omega
                have g4 : (j : Int) < (t.size : Int) := by omega
                have hij := index_at t j hjn
                have GJ := hide (good_j t hjk' hSj (unhide HS) (unhide HST) (unhide HEX))
                have HQ := hide (case_at (at_ t j) k S j X true wr hSk hSj)
                have hb := at_bound t j
                obtain ⟨cv, hcv⟩ : ∃ cv, cv = val (at_ t j) (k - S) (j - S) X true := ⟨_, rfl⟩
                rw [← hcv] at GJ HQ
                by_cases hce : cv = at_ t j
                · have q5 : (cv != at_ t j) = false := by simp [hce]
                  have HCE := hide hce
                  clear hce hcv
                  go_wp2_with fail
                  refine (unhide HQ).mono ?_
                  rintro e w1 ⟨rfl, rfl⟩
                  go_wp2_with fail
                  go_roundw
                  case rel => exact ⟨j + 1, v', by omega, by omega, by go_num, unhide KC, good_same (unhide KG) (unhide KR) hjn (unhide GJ) (unhide HCE), fun p hp hjp => unhide KR p hp (by omega)⟩
                  case measure => simp [intOf]; omega
                · have q5 : (cv != at_ t j) = true := by simp [hce]
                  have HSET := hide (set_any w.heap.size w wr t v' (unhide KC) j cv hjn)
                  clear hce hcv
                  go_wp2_with fail
                  refine (unhide HQ).mono ?_
                  rintro e w1 ⟨rfl, rfl⟩
                  go_wp2_with fail
                  refine (unhide HSET).mono ?_
                  rintro e w2 ⟨rfl, hc2⟩
                  have HC2 := hide hc2
                  clear hc2
                  go_wp2_with fail
                  go_roundw
                  case rel => exact ⟨j + 1, _, by omega, by omega, by go_num, unhide HC2, good_set (unhide KG) (unhide GJ), fun p hp hjp => by rw [if_neg (by omega)]; exact unhide KR p hp (by omega)⟩
                  case measure => simp [intOf]; omega
              · have g3 : ¬ (j : Int) < (k : Int) := by omega
                have ejk : k = j := by omega
                subst ejk
                go_wp2_with fail
                go_roundw
                case rel => exact ⟨k + 1, k + 1, X + 1, _, v', by omega, st_next t (unhide HS) (unhide HST) (unhide HEX), by go_num, by go_num, by go_num, rfl, by omega, unhide KC, good_dash (unhide KG) (unhide KR) hkl (unhide HS) (unhide H45), fun p hp hpk => unhide KR p hp (by omega)⟩
                case measure => simp [intOf]; omega
        · have hkl := at_lt t k (by rw [h95]; decide)
          have g2 : (k : Int) < (t.size : Int) := by omega
          have hix := index_at t k hkl
          have q1 : (at_ t k != 45) = true := by simp [h95]
          have q2 : (at_ t k != 95) = false := by simp [h95]
          have q3 : (at_ t k == 95) = true := by simp [h95]
          clear hs h95
          cases E
          · go_wp2_with fail
            obtain ⟨EX, hEX⟩ : ∃ EX, EX = (false || (k - S == 1)) := ⟨_, rfl⟩
            have hEXr : ((k : Int) - (S : Int) == 1) = EX := by rw [hEX, one_iff hSk]; simp
            have HEX := hide hEX
            clear hEX
            rw [hEXr]
            clear hEXr
            go_loopw [10] (fun i wi => ∃ (j : Nat) (v' : Nat → Int), S ≤ j ∧ j ≤ k ∧ i = .int .i64 j ∧ Cur w.heap.size w wi t v' ∧ (∀ p, p < t.size → p < j → Good (sp t) (at_ t) p (v' p)) ∧ (∀ p, p < t.size → j ≤ p → v' p = at_ t p)) (fun i _ => k - (intOf i).toNat)
            case atStart => exact ⟨S, v, Nat.le_refl _, hSk, rfl, unhide HC, unhide HG, unhide HR⟩
            case round =>
              obtain ⟨j, v', hSj, hjk, rfl, hcur, hgood, hrest⟩ := hrel
              have c0 : wr.cell? ⟨w.heap.size, 0, none⟩ = some (.string t) := hcur.1
              have KC := hide hcur
              have KG := hide hgood
              have KR := hide hrest
              clear hcur hgood hrest HC HG HR
              by_cases hjk' : j < k
              · have hjn : j < t.size := by omega
                have g3 : (j : Int) < (k : Int) := by omega
                have g4 : (j : Int) < (t.size : Int) := by omega
                have hij := index_at t j hjn
                have GJ := hide (good_j t hjk' hSj (unhide HS) (unhide HST) (unhide HEX))
                have HQ := hide (case_at (at_ t j) k S j X EX wr hSk hSj)
                have hb := at_bound t j
                obtain ⟨cv, hcv⟩ : ∃ cv, cv = val (at_ t j) (k - S) (j - S) X EX := ⟨_, rfl⟩
                rw [← hcv] at GJ HQ
                by_cases hce : cv = at_ t j
                · have q5 : (cv != at_ t j) = false := by simp [hce]
                  have HCE := hide hce
                  clear hce hcv
                  go_wp2_with fail
                  refine (unhide HQ).mono ?_
                  rintro e w1 ⟨rfl, rfl⟩
                  go_wp2_with fail
                  go_roundw
                  case rel => exact ⟨j + 1, v', by omega, by omega, by go_num, unhide KC, good_same (unhide KG) (unhide KR) hjn (unhide GJ) (unhide HCE), fun p hp hjp => unhide KR p hp (by omega)⟩
                  case measure => simp [intOf]; omega
                · have q5 : (cv != at_ t j) = true := by simp [hce]
                  have HSET := hide (set_any w.heap.size w wr t v' (unhide KC) j cv hjn)
                  clear hce hcv
                  go_wp2_with fail
                  refine (unhide HQ).mono ?_
                  rintro e w1 ⟨rfl, rfl⟩
                  go_wp2_with fail
                  refine (unhide HSET).mono ?_
                  rintro e w2 ⟨rfl, hc2⟩
                  have HC2 := hide hc2
                  clear hc2
                  go_wp2_with fail
                  go_roundw
                  case rel => exact ⟨j + 1, _, by omega, by omega, by go_num, unhide HC2, good_set (unhide KG) (unhide GJ), fun p hp hjp => by rw [if_neg (by omega)]; exact unhide KR p hp (by omega)⟩
                  case measure => simp [intOf]; omega
              · have g3 : ¬ (j : Int) < (k : Int) := by omega
                have ejk : k = j := by omega
                subst ejk
                have HSET := hide (set_any w.heap.size w wr t v' (unhide KC) k 45 hkl)
                go_wp2_with fail
                refine (unhide HSET).mono ?_
                rintro e w2 ⟨rfl, hc2⟩
                have HC2 := hide hc2
                clear hc2
                go_wp2_with fail
                go_roundw
                case rel => exact ⟨k + 1, k + 1, X + 1, _, _, by omega, st_next t (unhide HS) (unhide HST) (unhide HEX), by go_num, by go_num, by go_num, rfl, by omega, unhide HC2, good_set (unhide KG) (good_sep (unhide HS)), fun p hp hpk => by rw [if_neg (by omega)]; exact unhide KR p hp (by omega)⟩
                case measure => simp [intOf]; omega
          · go_wp2_with fail
            obtain ⟨EX, hEX⟩ : ∃ EX, EX = (true || (k - S == 1)) := ⟨_, rfl⟩
            have hEXr : EX = true := hEX.trans (Bool.true_or _)
            have HEX := hide hEX
            clear hEX
            subst hEXr
            go_loopw [10] (fun i wi => ∃ (j : Nat) (v' : Nat → Int), S ≤ j ∧ j ≤ k ∧ i = .int .i64 j ∧ Cur w.heap.size w wi t v' ∧ (∀ p, p < t.size → p < j → Good (sp t) (at_ t) p (v' p)) ∧ (∀ p, p < t.size → j ≤ p → v' p = at_ t p)) (fun i _ => k - (intOf i).toNat)
            case atStart => exact ⟨S, v, Nat.le_refl _, hSk, rfl, unhide HC, unhide HG, unhide HR⟩
            case round =>
              obtain ⟨j, v', hSj, hjk, rfl, hcur, hgood, hrest⟩ := hrel
              have c0 : wr.cell? ⟨w.heap.size, 0, none⟩ = some (.string t) := hcur.1
              have KC := hide hcur
              have KG := hide hgood
              have KR := hide hrest
              clear hcur hgood hrest HC HG HR
              by_cases hjk' : j < k
              · have hjn : j < t.size := by omega
                have g3 : (j : Int) < (k : Int) := by omega
                have g4 : (j : Int) < (t.size : Int) := by omega
                have hij := index_at t j hjn
                have GJ := hide (good_j t hjk' hSj (unhide HS) (unhide HST) (unhide HEX))
                have HQ := hide (case_at (at_ t j) k S j X true wr hSk hSj)
                have hb := at_bound t j
                obtain ⟨cv, hcv⟩ : ∃ cv, cv = val (at_ t j) (k - S) (j - S) X true := ⟨_, rfl⟩
                rw [← hcv] at GJ HQ
                by_cases hce : cv = at_ t j
                · have q5 : (cv != at_ t j) = false := by simp [hce]
                  have HCE := hide hce
                  clear hce hcv
                  go_wp2_with fail
                  refine (unhide HQ).mono ?_
                  rintro e w1 ⟨rfl, rfl⟩
                  go_wp2_with fail
                  go_roundw
                  case rel => exact ⟨j + 1, v', by omega, by omega, by go_num, unhide KC, good_same (unhide KG) (unhide KR) hjn (unhide GJ) (unhide HCE), fun p hp hjp => unhide KR p hp (by omega)⟩
                  case measure => simp [intOf]; omega
                · have q5 : (cv != at_ t j) = true := by simp [hce]
                  have HSET := hide (set_any w.heap.size w wr t v' (unhide KC) j cv hjn)
                  clear hce hcv
                  go_wp2_with fail
                  refine (unhide HQ).mono ?_
                  rintro e w1 ⟨rfl, rfl⟩
                  go_wp2_with fail
                  refine (unhide HSET).mono ?_
                  rintro e w2 ⟨rfl, hc2⟩
                  have HC2 := hide hc2
                  clear hc2
                  go_wp2_with fail
                  go_roundw
                  case rel => exact ⟨j + 1, _, by omega, by omega, by go_num, unhide HC2, good_set (unhide KG) (unhide GJ), fun p hp hjp => by rw [if_neg (by omega)]; exact unhide KR p hp (by omega)⟩
                  case measure => simp [intOf]; omega
              · have g3 : ¬ (j : Int) < (k : Int) := by omega
                have ejk : k = j := by omega
                subst ejk
                have HSET := hide (set_any w.heap.size w wr t v' (unhide KC) k 45 hkl)
                go_wp2_with fail
                refine (unhide HSET).mono ?_
                rintro e w2 ⟨rfl, hc2⟩
                have HC2 := hide hc2
                clear hc2
                go_wp2_with fail
                go_roundw
                case rel => exact ⟨k + 1, k + 1, X + 1, _, _, by omega, st_next t (unhide HS) (unhide HST) (unhide HEX), by go_num, by go_num, by go_num, rfl, by omega, unhide HC2, good_set (unhide KG) (good_sep (unhide HS)), fun p hp hpk => by rw [if_neg (by omega)]; exact unhide KR p hp (by omega)⟩
                case measure => simp [intOf]; omega
      · have hs' : sp t k = false := by simpa using hs
        have hkl : k < t.size := by
          rcases Nat.lt_or_ge k t.size with h | h
          · exact h
          · exfalso; rw [show k = t.size by omega, sp_end] at hs'; cases hs'
        have g2 : (k : Int) < (t.size : Int) := by omega
        have hix := index_at t k hkl
        have hne : (at_ t k != 45) = true ∧ (at_ t k != 95) = true := by
          simp [sp] at hs'
          simp [hs'.1.2, hs'.2]
        obtain ⟨q1, q2⟩ := hne
        have HS := hide hs'
        clear hs hs'
        go_wp2_with fail
        go_roundw
        case rel => exact ⟨k + 1, S, X, E, v, by omega, by rw [st_succ, unhide HS]; exact unhide HST, by go_num, rfl, rfl, rfl, by omega, unhide HC, unhide HG, unhide HR⟩
        case measure => simp [intOf]; omega
    · have g1 : ¬ (k : Int) ≤ (t.size : Int) := by omega
      have ek : k = t.size + 1 := by omega
      have hS : S = t.size + 1 := by
        have := unhide HST
        rw [ek, st_succ, if_pos (sp_end t)] at this
        exact (congrArg Prod.fst this).symm
      have HA : Hid (∀ p, p < t.size → Good (sp t) (at_ t) p (v p)) := fun p hp => unhide HG p hp (by omega)
      have hnil := fun (a : Option Addr) (n c : Nat) (w : World) => Lib.run_eql_slice_nil (P := Try.prog) w 34 5 a n c 0 0 Try.underlying34
      obtain ⟨_, hbel, _, _, hb⟩ := unhide HC
      have HB := hide hbel
      clear hbel HC HG HR HST hS ek
      rcases hb with ⟨cb, hv⟩ | ⟨g, cap, cb, _, _, hby⟩
      · have HV := hide hv
        clear hv
        go_wp2_with fail
        go_ret
        exact ⟨⟨v, by rw [← text_same t v (unhide HV)]; rfl, unhide HA⟩, unhide HB⟩
      · have hstr := fun cap => hby.str (cap := cap)
        clear hby
        go_wp2_with fail
        go_ret
        exact ⟨⟨v, rfl, unhide HA⟩, unhide HB⟩
end Go.Proofs.Qxb6603176a.Norm

import Derived.Test.Qxb6603176aNormWalk
import Derived.Deep.OwnRows
namespace Go.Proofs.Qxb6603176a.Norm.Mod
open Go.RowKit Go.Proofs.Qxb6603176a.Norm

theorem Try.info5 : (Try.prog.info? 5).map (fun i => (i.zero, i.size, i.bytes)) = some (some (.int .u8 0), 1, 1) := by kernel_rfl

theorem made_bytes (w : World) (n : Nat) : Bytes (w.alloc (.cells (madeCells #[.int .u8 0] n) 5)) w.heap.size n (fun _ => 0) := by
  have h := World.rowIs_made w (.int .u8 0) n 5
  exact fun i hi => ⟨h.cell hi, h.frozen i⟩

theorem fold_step (t : ByteArray) (k : Nat) : ∀ i, i < t.size → (if i = k then fold (at_ t k) else if i < k then fold (at_ t i) else 0) = if i < k + 1 then fold (at_ t i) else 0 := by
  intro i hi
  by_cases h : i = k
  · subst h; simp
  · by_cases h' : i < k
    · simp [h, h', show i < k + 1 by omega]
    · simp [h, h', show ¬ i < k + 1 by omega]

/-- The text's separators, and its end. -/
theorem fold_sep (t : ByteArray) (q : Nat) (hq : q < t.size) (h : sp t q = true) : fold (at_ t q) = 45 := by
  rcases cut_at t q h with h | h | h
  · omega
  · rw [h]; rfl
  · rw [h]; rfl

theorem sp_not {t : ByteArray} {q : Nat} (h : sp t q = false) : at_ t q ≠ 45 ∧ at_ t q ≠ 95 := by
  simp [sp] at h
  exact ⟨h.1.2, h.2⟩

theorem fold_not (t : ByteArray) (q : Nat) (h : sp t q = false) : fold (at_ t q) ≠ 45 := by
  obtain ⟨h1, h2⟩ := sp_not h
  rw [fold_low _ h2]
  unfold low
  split <;> omega

theorem fold_bound (t : ByteArray) (p : Nat) : 0 ≤ fold (at_ t p) ∧ fold (at_ t p) ≤ 255 := by
  have := at_bound t p
  unfold fold low
  split
  · omega
  · split <;> omega

theorem v_bound {t : ByteArray} {S : Nat} {v : Nat → Int} (h : ∀ p, p < t.size → S ≤ p → v p = fold (at_ t p)) (hS : S < t.size) : 0 ≤ v S ∧ v S ≤ 255 := by
  rw [h S hS (Nat.le_refl _)]; exact fold_bound t S
theorem v_bound' {t : ByteArray} {S i : Nat} {v : Nat → Int} (h : ∀ p, p < t.size → S ≤ p → v p = fold (at_ t p)) (hS : i < t.size) (hi : S ≤ i) : 0 ≤ v i ∧ v i ≤ 255 := by
  rw [h i hS hi]; exact fold_bound t i

theorem raise_at (g n cap i : Nat) (v : Nat → Int) (w : World) (h : Bytes w g n v) (hi : i + 1 < n) (hn : n ≤ 1048576) (hb : 0 ≤ v (i + 1) ∧ v (i + 1) ≤ 255) :
    Calls Try.prog 36 #[.slice (some ⟨g, 0, none⟩) n cap, .int .i64 ((i : Int) + 1)] w fun e w' => e = .returned (.tuple #[]) ∧ Bytes w' g n (fun j => if j = i + 1 then up (v (i + 1)) else v j) ∧ Below g w w' := by
  have e1 : ((i : Int) + 1) = ((i + 1 : Nat) : Int) := by omega
  rw [e1]
  exact raise_any g n cap (i + 1) v w h hi hn hb.1 hb.2

theorem next_st {t : ByteArray} {S X q : Nat} (hst : st (sp t) S = (S, X, false)) (he : IsEnd (sp t) S q) (hn : ¬ q - S = 1) : st (sp t) (q + 1) = (q + 1, X + 1, false) := by
  rw [model_next hst he, beq_eq_false_iff_ne.2 hn]

theorem single_all {t : ByteArray} {S X q : Nat} {v : Nat → Int} (hst : st (sp t) S = (S, X, false)) (he : IsEnd (sp t) S q) (h1 : q - S = 1) (hg : ∀ p, p < t.size → p < S → Good (sp t) (at_ t) p (v p)) (hr : ∀ p, p < t.size → S ≤ p → v p = fold (at_ t p)) :
    ∀ p, p < t.size → Good (sp t) (at_ t) p (v p) := by
  intro p hp
  by_cases h : p < S
  · exact hg p hp h
  · rw [hr p hp (by omega)]
    exact model_single hst he h1 (by omega) (fun hs => fold_sep t p hp hs) (fun hs => (sp_not hs).2)

/-- A round of the model, told place by place. -/
theorem round_good {t : ByteArray} {S X q : Nat} {v v' : Nat → Int} (hst : st (sp t) S = (S, X, false)) (he : IsEnd (sp t) S q) (hn : ¬ q - S = 1) (hg : ∀ p, p < t.size → p < S → Good (sp t) (at_ t) p (v p)) (hr : ∀ p, p < t.size → S ≤ p → v p = fold (at_ t p))
    (h1 : ∀ p, p < S → v' p = v p) (h2 : ∀ p, p < t.size → S ≤ p → p < q → at_ t p ≠ 95 → v' p = val (at_ t p) (q - S) (p - S) X false) (h3 : v' q = v q) : ∀ p, p < t.size → p < q + 1 → Good (sp t) (at_ t) p (v' p) := by
  intro p hp hpq
  by_cases hS : p < S
  · rw [h1 p hS]; exact hg p hp hS
  · by_cases hq : p = q
    · subst hq
      rw [h3, hr p hp (by omega), fold_sep t p hp he.at_]
      exact good_sep he.at_
    · have hs : sp t p = false := he.none p (by omega) (by omega)
      rw [h2 p hp (by omega) (by omega) (sp_not hs).2]
      exact model_at hst he (by omega) (by omega) hn

theorem two_good {t : ByteArray} {S X q : Nat} {v : Nat → Int} (hst : st (sp t) S = (S, X, false)) (he : IsEnd (sp t) S q) (h2 : q - S = 2) (hX : 0 < X) (hg : ∀ p, p < t.size → p < S → Good (sp t) (at_ t) p (v p)) (hr : ∀ p, p < t.size → S ≤ p → v p = fold (at_ t p)) :
    ∀ p, p < t.size → p < q + 1 → Good (sp t) (at_ t) p (if p = S + 1 then up (if S + 1 = S then up (v S) else v (S + 1)) else if p = S then up (v S) else v p) := by
  refine round_good hst he (by omega) hg hr (fun p hp => by rw [if_neg (by omega), if_neg (by omega)]) (fun p hp h1 h3 h95 => ?_) (by rw [if_neg (by omega), if_neg (by omega)])
  rw [if_neg (show ¬ S + 1 = S by omega), val_up ⟨hX, rfl, .inl h2⟩]
  by_cases e : p = S + 1
  · rw [if_pos e, ← e, hr p hp (by omega), up_fold _ h95]
  · have e' : p = S := by omega
    rw [if_neg e, if_pos e', ← e', hr p hp (by omega), up_fold _ h95]

theorem four_good {t : ByteArray} {S X q : Nat} {v : Nat → Int} (hst : st (sp t) S = (S, X, false)) (he : IsEnd (sp t) S q) (h4 : q - S = 4) (hX : 0 < X) (hg : ∀ p, p < t.size → p < S → Good (sp t) (at_ t) p (v p)) (hr : ∀ p, p < t.size → S ≤ p → v p = fold (at_ t p)) :
    ∀ p, p < t.size → p < q + 1 → Good (sp t) (at_ t) p (if p = S then up (v S) else v p) := by
  refine round_good hst he (by omega) hg hr (fun p hp => by rw [if_neg (by omega)]) (fun p hp h1 h3 h95 => ?_) (by rw [if_neg (by omega)])
  by_cases e : p = S
  · rw [if_pos e, val_up ⟨hX, rfl, .inr ⟨h4, by omega⟩⟩, ← e, hr p hp (by omega), up_fold _ h95]
  · rw [if_neg e, val_low (by omega), hr p hp (by omega), fold_low _ h95]

theorem else_good {t : ByteArray} {S X q : Nat} {v : Nat → Int} (hst : st (sp t) S = (S, X, false)) (he : IsEnd (sp t) S q) (hn : ¬ q - S = 1) (hc : ¬ (0 < X ∧ (q - S = 2 ∨ q - S = 4))) (hg : ∀ p, p < t.size → p < S → Good (sp t) (at_ t) p (v p)) (hr : ∀ p, p < t.size → S ≤ p → v p = fold (at_ t p)) :
    ∀ p, p < t.size → p < q + 1 → Good (sp t) (at_ t) p (v p) := by
  refine round_good hst he hn hg hr (fun p hp => rfl) (fun p hp h1 h3 h95 => ?_) rfl
  rw [val_low (by omega), hr p hp (by omega), fold_low _ h95]

set_option maxHeartbeats 2000000 in
set_option maxRecDepth 100000 in
theorem model_any (t : ByteArray) (w : World) (hn : t.size ≤ 1048576) :
    Calls Try.prog 28 #[.string t] w fun e w' => (∃ v : Nat → Int, e = .returned (.string (strOfNums ((List.range t.size).map v))) ∧ ∀ p, p < t.size → Good (sp t) (at_ t) p (v p)) ∧ Below w.heap.size w w' := by
  have hn1 : (t.size : Int) ≤ 1048576 := by omega
  have hmk := fun kl kc w => run_make_row' (P := Try.prog) 34 5 (.int .u8 0) 1 Try.underlying34 Try.info5 rfl kl kc t.size (by omega) (by omega) w
  have B0 := hide (made_bytes w t.size)
  go_enter Try.func28, Try.ntmps28
  go_wp2_with fail
  go_loopw [4] (fun i wr => ∃ k : Nat, k ≤ t.size ∧ i = .int .i64 k ∧ Bytes wr w.heap.size t.size (fun j => if j < k then fold (at_ t j) else 0) ∧ Below w.heap.size w wr) (fun i _ => t.size - (intOf i).toNat)
  case atStart => exact ⟨0, Nat.zero_le _, rfl, (unhide B0).congr (by simp), (Below.refl _ _).alloc (Nat.le_refl _) _⟩
  case round =>
    obtain ⟨k, hk, rfl, hby, hbel⟩ := hrel
    clear B0
    by_cases hkl : k < t.size
    · have g1 : (k : Int) < (t.size : Int) := by omega
      have hix := index_at t k hkl
      have hb := at_bound t k
      have c1 := (hby k hkl).1
      have c2 := (hby k hkl).2
      simp only [Nat.lt_irrefl, if_false] at c1
      have HQ := hide (fold_any (at_ t k) wr hb.1 hb.2)
      have R1 := hide (hby.set k hkl (fold (at_ t k)))
      have R2 := hide (hbel.setCell (p := ⟨w.heap.size, k, none⟩) (Nat.le_refl _) (.int .u8 (fold (at_ t k))))
      clear hby hbel
      go_wp2_with fail
      refine (unhide HQ).mono ?_
      rintro e w1 ⟨rfl, rfl⟩
      go_wp2_with fail
      go_roundw
      case rel => exact ⟨k + 1, by omega, by go_num, (unhide R1).congr (fold_step t k), unhide R2⟩
      case measure => simp [intOf]; omega
    · have g1 : ¬ (k : Int) < (t.size : Int) := by omega
      have ek : t.size = k := by omega
      have B1 : Hid (Bytes wr w.heap.size t.size (fun j => fold (at_ t j))) := hby.congr (fun j hj => if_pos (by omega))
      have HB1 := hide hbel
      clear hby hbel ek
      go_wp2_with fail
      go_loopw [5, 6] (fun s x wr => ∃ (S X : Nat) (v : Nat → Int), S ≤ t.size + 1 ∧ st (sp t) S = (S, X, false) ∧ s = .int .i64 S ∧ x = .int .i64 X ∧ X ≤ S ∧ Bytes wr w.heap.size t.size v ∧ (∀ p, p < t.size → p < S → Good (sp t) (at_ t) p (v p)) ∧ (∀ p, p < t.size → S ≤ p → v p = fold (at_ t p)) ∧ Below w.heap.size w wr) (fun s _ _ => t.size + 1 - (intOf s).toNat)
      case atStart => exact ⟨0, 0, _, by omega, rfl, rfl, rfl, Nat.le_refl _, unhide B1, fun p _ h => absurd h (Nat.not_lt_zero _), fun _ _ _ => rfl, unhide HB1⟩
      case round =>
        obtain ⟨S, X, v, hS, hst, rfl, rfl, hXS, hby, hgood, hrest, hbel⟩ := hrel
        have HST := hide hst
        have KB := hide hby
        have KG := hide hgood
        have KR := hide hrest
        have KL := hide hbel
        clear hst hby hgood hrest hbel B1 HB1
        by_cases hSn : S ≤ t.size
        · have g2 : (S : Int) ≤ (t.size : Int) := by omega
          go_wp2_with fail
          go_loop [7] (fun i => ∃ q : Nat, S ≤ q ∧ q ≤ t.size ∧ i = .int .i64 q ∧ ∀ r, S ≤ r → r < q → sp t r = false) (fun i => t.size - (intOf i).toNat)
          case atStart => exact ⟨S, Nat.le_refl _, hSn, rfl, fun r h1 h2 => by omega⟩
          case round =>
            obtain ⟨q, hSq, hqn, rfl, hno⟩ := hrel
            have HNO := hide hno
            clear hno
            have hqS : (0 : Int) ≤ (q : Int) - (S : Int) := by omega
            by_cases hqt : q < t.size
            · have g3 : (q : Int) < (t.size : Int) := by omega
              have c1 := (unhide KB q hqt).1
              rw [unhide KR q hqt hSq] at c1
              by_cases hsq : sp t q = true
              · have q1 : (fold (at_ t q) != 45) = false := by rw [fold_sep t q hqt hsq]; rfl
                have HEND := hide (IsEnd.mk hSq hsq (unhide HNO))
                have HSQ := hide hsq
                clear hsq
                by_cases h1 : q - S = 1
                · have b1 : ((q : Int) - (S : Int) == 1) = true := by simp; omega
                  have HA : Hid (∀ p, p < t.size → Good (sp t) (at_ t) p (v p)) := single_all (unhide HST) (unhide HEND) h1 (unhide KG) (unhide KR)
                  have hstr := fun cap => (unhide KB).str (cap := cap)
                  clear h1
                  go_wp2_with fail
                  go_ret
                  exact ⟨⟨v, rfl, unhide HA⟩, unhide KL⟩
                · have b1 : ((q : Int) - (S : Int) == 1) = false := by simp; omega
                  have HN1 := hide h1
                  clear h1
                  by_cases hX : 0 < X
                  · have g5 : (0 : Int) < (X : Int) := by omega
                    by_cases h2 : q - S = 2
                    · have b2 : ((q : Int) - (S : Int) == 2) = true := by simp; omega
                      have b4 : ((q : Int) - (S : Int) == 4) = false := by simp; omega
                      have hS1 : S < t.size := by omega
                      have hS2 : S + 1 < t.size := by omega
                      have HR1 := hide (raise_any w.heap.size t.size t.size S v wr (unhide KB) hS1 hn (v_bound (unhide KR) hS1).1 (v_bound (unhide KR) hS1).2)
                      have H2 := hide h2
                      clear h2
                      go_wp2_with fail
                      refine (unhide HR1).mono ?_
                      rintro e w1 ⟨rfl, hb1, hl1⟩
                      have KB1 := hide hb1
                      have KL1 := hide ((unhide KL).trans hl1)
                      clear hb1 hl1
                      have HR2 := hide (raise_at w.heap.size t.size t.size S _ w1 (unhide KB1) hS2 hn (by rw [if_neg (by omega)]; exact v_bound' (unhide KR) hS2 (by omega)))
                      go_wp2_with fail
                      refine (unhide HR2).mono ?_
                      rintro e w2 ⟨rfl, hb2, hl2⟩
                      have KB2 := hide hb2
                      have KL2 := hide ((unhide KL1).trans hl2)
                      clear hb2 hl2
                      go_wp2_with fail
                      go_roundw
                      case rel => exact ⟨q + 1, X + 1, _, by omega, next_st (unhide HST) (unhide HEND) (unhide HN1), by go_num, by go_num, by omega, unhide KB2, two_good (unhide HST) (unhide HEND) (unhide H2) hX (unhide KG) (unhide KR), fun p hp hpq => by have h2 := unhide H2; rw [if_neg (by omega), if_neg (by omega)]; exact unhide KR p hp (by omega), unhide KL2⟩
                      case measure => simp [intOf]; omega
                    · have b2 : ((q : Int) - (S : Int) == 2) = false := by simp; omega
                      have HN2 := hide h2
                      by_cases h4 : q - S = 4
                      · have b4 : ((q : Int) - (S : Int) == 4) = true := by simp; omega
                        have hS1 : S < t.size := by omega
                        have HR1 := hide (raise_any w.heap.size t.size t.size S v wr (unhide KB) hS1 hn (v_bound (unhide KR) hS1).1 (v_bound (unhide KR) hS1).2)
                        have H4 := hide h4
                        clear h2 h4
                        go_wp2_with fail
                        refine (unhide HR1).mono ?_
                        rintro e w1 ⟨rfl, hb1, hl1⟩
                        have KB1 := hide hb1
                        have KL1 := hide ((unhide KL).trans hl1)
                        clear hb1 hl1
                        go_wp2_with fail
                        go_roundw
                        case rel => exact ⟨q + 1, X + 1, _, by omega, next_st (unhide HST) (unhide HEND) (unhide HN1), by go_num, by go_num, by omega, unhide KB1, four_good (unhide HST) (unhide HEND) (unhide H4) hX (unhide KG) (unhide KR), fun p hp hpq => by rw [if_neg (by omega)]; exact unhide KR p hp (by omega), unhide KL1⟩
                        case measure => simp [intOf]; omega
                      · have b4 : ((q : Int) - (S : Int) == 4) = false := by simp; omega
                        have HN4 := hide h4
                        clear h2 h4
                        go_wp2_with fail
                        go_roundw
                        case rel => exact ⟨q + 1, X + 1, v, by omega, next_st (unhide HST) (unhide HEND) (unhide HN1), by go_num, by go_num, by omega, unhide KB, else_good (unhide HST) (unhide HEND) (unhide HN1) (fun h => by rcases h.2 with h | h; exact unhide HN2 h; exact unhide HN4 h) (unhide KG) (unhide KR), fun p hp hpq => unhide KR p hp (by omega), unhide KL⟩
                        case measure => simp [intOf]; omega
                  · have g5 : ¬ (0 : Int) < (X : Int) := by omega
                    go_wp2_with fail
                    go_roundw
                    case rel => exact ⟨q + 1, X + 1, v, by omega, next_st (unhide HST) (unhide HEND) (unhide HN1), by go_num, by go_num, by omega, unhide KB, else_good (unhide HST) (unhide HEND) (unhide HN1) (fun h => hX h.1) (unhide KG) (unhide KR), fun p hp hpq => unhide KR p hp (by omega), unhide KL⟩
                    case measure => simp [intOf]; omega
              · have hsq' : sp t q = false := by simpa using hsq
                have q1 : (fold (at_ t q) != 45) = true := by rw [bne_iff_ne]; exact fold_not t q hsq'
                have HSQ := hide hsq'
                clear hsq hsq'
                go_wp2_with fail
                go_round
                case rel => exact ⟨q + 1, by omega, by omega, by go_num, fun r h1 h2 => by
                  by_cases e : r = q
                  · rw [e]; exact unhide HSQ
                  · exact unhide HNO r h1 (by omega)⟩
                case measure => simp [intOf]; omega
            · have g3 : ¬ (q : Int) < (t.size : Int) := by omega
              have HEND := hide (IsEnd.mk hSq (show sp t q = true by rw [show q = t.size by omega]; exact sp_end t) (unhide HNO))
              by_cases h1 : q - S = 1
              · have b1 : ((q : Int) - (S : Int) == 1) = true := by simp; omega
                have HA : Hid (∀ p, p < t.size → Good (sp t) (at_ t) p (v p)) := single_all (unhide HST) (unhide HEND) h1 (unhide KG) (unhide KR)
                have hstr := fun cap => (unhide KB).str (cap := cap)
                clear h1
                go_wp2_with fail
                go_ret
                exact ⟨⟨v, rfl, unhide HA⟩, unhide KL⟩
              · have b1 : ((q : Int) - (S : Int) == 1) = false := by simp; omega
                have HN1 := hide h1
                clear h1
                by_cases hX : 0 < X
                · have g5 : (0 : Int) < (X : Int) := by omega
                  by_cases h2 : q - S = 2
                  · have b2 : ((q : Int) - (S : Int) == 2) = true := by simp; omega
                    have b4 : ((q : Int) - (S : Int) == 4) = false := by simp; omega
                    have hS1 : S < t.size := by omega
                    have hS2 : S + 1 < t.size := by omega
                    have HR1 := hide (raise_any w.heap.size t.size t.size S v wr (unhide KB) hS1 hn (v_bound (unhide KR) hS1).1 (v_bound (unhide KR) hS1).2)
                    have H2 := hide h2
                    clear h2
                    go_wp2_with fail
                    refine (unhide HR1).mono ?_
                    rintro e w1 ⟨rfl, hb1, hl1⟩
                    have KB1 := hide hb1
                    have KL1 := hide ((unhide KL).trans hl1)
                    clear hb1 hl1
                    have HR2 := hide (raise_at w.heap.size t.size t.size S _ w1 (unhide KB1) hS2 hn (by rw [if_neg (by omega)]; exact v_bound' (unhide KR) hS2 (by omega)))
                    go_wp2_with fail
                    refine (unhide HR2).mono ?_
                    rintro e w2 ⟨rfl, hb2, hl2⟩
                    have KB2 := hide hb2
                    have KL2 := hide ((unhide KL1).trans hl2)
                    clear hb2 hl2
                    go_wp2_with fail
                    go_roundw
                    case rel => exact ⟨q + 1, X + 1, _, by omega, next_st (unhide HST) (unhide HEND) (unhide HN1), by go_num, by go_num, by omega, unhide KB2, two_good (unhide HST) (unhide HEND) (unhide H2) hX (unhide KG) (unhide KR), fun p hp hpq => by have h2 := unhide H2; rw [if_neg (by omega), if_neg (by omega)]; exact unhide KR p hp (by omega), unhide KL2⟩
                    case measure => simp [intOf]; omega
                  · have b2 : ((q : Int) - (S : Int) == 2) = false := by simp; omega
                    have HN2 := hide h2
                    by_cases h4 : q - S = 4
                    · have b4 : ((q : Int) - (S : Int) == 4) = true := by simp; omega
                      have hS1 : S < t.size := by omega
                      have HR1 := hide (raise_any w.heap.size t.size t.size S v wr (unhide KB) hS1 hn (v_bound (unhide KR) hS1).1 (v_bound (unhide KR) hS1).2)
                      have H4 := hide h4
                      clear h2 h4
                      go_wp2_with fail
                      refine (unhide HR1).mono ?_
                      rintro e w1 ⟨rfl, hb1, hl1⟩
                      have KB1 := hide hb1
                      have KL1 := hide ((unhide KL).trans hl1)
                      clear hb1 hl1
                      go_wp2_with fail
                      go_roundw
                      case rel => exact ⟨q + 1, X + 1, _, by omega, next_st (unhide HST) (unhide HEND) (unhide HN1), by go_num, by go_num, by omega, unhide KB1, four_good (unhide HST) (unhide HEND) (unhide H4) hX (unhide KG) (unhide KR), fun p hp hpq => by rw [if_neg (by omega)]; exact unhide KR p hp (by omega), unhide KL1⟩
                      case measure => simp [intOf]; omega
                    · have b4 : ((q : Int) - (S : Int) == 4) = false := by simp; omega
                      have HN4 := hide h4
                      clear h2 h4
                      go_wp2_with fail
                      go_roundw
                      case rel => exact ⟨q + 1, X + 1, v, by omega, next_st (unhide HST) (unhide HEND) (unhide HN1), by go_num, by go_num, by omega, unhide KB, else_good (unhide HST) (unhide HEND) (unhide HN1) (fun h => by rcases h.2 with h | h; exact unhide HN2 h; exact unhide HN4 h) (unhide KG) (unhide KR), fun p hp hpq => unhide KR p hp (by omega), unhide KL⟩
                      case measure => simp [intOf]; omega
                · have g5 : ¬ (0 : Int) < (X : Int) := by omega
                  go_wp2_with fail
                  go_roundw
                  case rel => exact ⟨q + 1, X + 1, v, by omega, next_st (unhide HST) (unhide HEND) (unhide HN1), by go_num, by go_num, by omega, unhide KB, else_good (unhide HST) (unhide HEND) (unhide HN1) (fun h => hX h.1) (unhide KG) (unhide KR), fun p hp hpq => unhide KR p hp (by omega), unhide KL⟩
                  case measure => simp [intOf]; omega
        · have g2 : ¬ (S : Int) ≤ (t.size : Int) := by omega
          have HA : Hid (∀ p, p < t.size → Good (sp t) (at_ t) p (v p)) := fun p hp => unhide KG p hp (by omega)
          have hstr := fun cap => (unhide KB).str (cap := cap)
          go_wp2_with fail
          go_ret
          exact ⟨⟨v, rfl, unhide HA⟩, unhide KL⟩
end Go.Proofs.Qxb6603176a.Norm.Mod

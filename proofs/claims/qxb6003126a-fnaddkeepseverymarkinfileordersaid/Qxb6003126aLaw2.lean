import Derived.Test.Qxb6003126aReaders
import Derived.Deep.RegionWith
namespace Go.Proofs.Qxb6003126a.Marks
open Go.RowKit Go.Proofs.Qxb6003126a

theorem Try.info45 : (Try.prog.info? 45).map (fun i => (i.zero, i.size, i.bytes)) = some (some (.agg #[.int .i32 0, .int .i16 0, .int .i32 0, .int .i32 0]), 4, 16) := by kernel_rfl

/-- The four cells of mark t in the row f. -/
def Good4 (R : Nat → Nat → Int) (f : Nat → Value) (t : Nat) : Prop := f (t * 4) = .int .i32 (R t 0) ∧ f (t * 4 + 1) = .int .i16 (R t 1) ∧ f (t * 4 + 2) = .int .i32 (R t 2) ∧ f (t * 4 + 3) = .int .i32 (R t 3)

def put4 (R : Nat → Nat → Int) (f : Nat → Value) (k j : Nat) : Value := if j = k * 4 + 3 then .int .i32 (R k 3) else if j = k * 4 + 2 then .int .i32 (R k 2) else if j = k * 4 + 1 then .int .i16 (R k 1) else if j = k * 4 then .int .i32 (R k 0) else f j

theorem copy4 {R : Nat → Nat → Int} {f : Nat → Value} {k : Nat} (hf : ∀ t, t < k → Good4 R f t) :
    ∀ t, t < k + 1 → Good4 R (put4 R f k) t := by
  intro t ht
  by_cases e : t = k
  · subst e
    unfold Good4 put4
    refine ⟨?_, ?_, ?_, ?_⟩
    · rw [if_neg (by omega), if_neg (by omega), if_neg (by omega), if_pos rfl]
    · rw [if_neg (by omega), if_neg (by omega), if_pos rfl]
    · rw [if_neg (by omega), if_pos rfl]
    · rw [if_pos rfl]
  · obtain ⟨h0, h1, h2, h3⟩ := hf t (by omega)
    unfold Good4 put4
    refine ⟨?_, ?_, ?_, ?_⟩
    all_goals rw [if_neg (by omega), if_neg (by omega), if_neg (by omega), if_neg (by omega)]; assumption

/-- The law's memory behind ZZNew: the copied rows, and the Grades with its first c marks. -/
def Sm (w0 w : World) (tb g n : Nat) (f : Nat → Value) (R : Nat → Nat → Int) (c : Nat) : Prop :=
  Below w0.heap.size w0 w ∧ w.rowIs tb 45 (n * 4) f ∧ Mk w g c R ∧ tb < g ∧ w0.heap.size ≤ g

theorem Sm.drewN {w0 w : World} {tb g n : Nat} {f : Nat → Value} {R : Nat → Nat → Int} {c : Nat} (h : Sm w0 w tb g n f R c) (m : Nat) : Sm w0 (w.drewN m) tb g n f R c := ⟨drewNB h.1, h.2⟩
theorem Sm.drew {w0 w : World} {tb g n : Nat} {f : Nat → Value} {R : Nat → Nat → Int} {c : Nat} (h : Sm w0 w tb g n f R c) : Sm w0 w.drew tb g n f R c := ⟨h.1.drew, h.2⟩

theorem Sm.step {w0 w : World} {tb g n : Nat} {f : Nat → Value} {R : Nat → Nat → Int} {c : Nat} (h : Sm w0 w tb g n f R c) (hc : c < 65536) :
    Calls Try.prog 9 #[.pointer (some ⟨g, 0, none⟩), .int .i32 (R c 0), .int .i16 (R c 1), .int .i32 (R c 2), .int .i32 (R c 3)] w fun e w' => e = .returned (.tuple #[]) ∧ Hid (Sm w0 w' tb g n f R (c + 1)) := by
  refine (zzadd_any g c R w h.2.2.1 hc).mono ?_
  rintro e w' ⟨rfl, hm, hb⟩
  exact ⟨rfl, h.1.trans (hb.mono h.2.2.2.2), h.2.1.of_block (hb.block tb h.2.2.2.1), hm, h.2.2.2⟩

theorem Sm.read {w0 w : World} {tb g n : Nat} {f : Nat → Value} {R : Nat → Nat → Int} {c k : Nat} (h : Sm w0 w tb g n f R c) (hk : k < c) (hc : c ≤ 65536) :
    Calls Try.prog 18 #[.pointer (some ⟨g, 0, none⟩), .int .i64 ((k : Int) / 4096), .int .i64 ((k : Int) % 4096)] w fun e w' => e = .returned (.tuple #[.int .i32 (R k 0), .int .i16 (R k 1), .int .i32 (R k 2), .int .i32 (R k 3)]) ∧ Hid (Sm w0 w' tb g n f R c) := by
  refine (markin_any g c k R w h.2.2.1 hk hc).mono ?_
  rintro e w' ⟨rfl, hb⟩
  have hg := h.2.2.1.lt
  exact ⟨rfl, h.1.trans (hb.mono h.1.size), h.2.1.of_block (hb.block tb (by have := h.2.2.2.1; omega)), h.2.2.1.below hb, h.2.2.2⟩

set_option maxHeartbeats 4000000 in
set_option maxRecDepth 100000 in
theorem walk_full (b o n cap : Nat) (R : Nat → Nat → Int) (w : World) (hb : b < w.heap.size)
    (hx : ∀ k, k < n → w.cell? ⟨b, o + k * 4, none⟩ = some (.int .i32 (R k 0)) ∧ w.cell? ⟨b, o + k * 4 + 1, none⟩ = some (.int .i16 (R k 1)) ∧ w.cell? ⟨b, o + k * 4 + 2, none⟩ = some (.int .i32 (R k 2)) ∧ w.cell? ⟨b, o + k * 4 + 3, none⟩ = some (.int .i32 (R k 3))) :
    Calls Try.prog 5 #[.slice (some ⟨b, o, none⟩) n cap] w fun e w' => e = .returned (.bool true) ∧ Below w.heap.size w w' := by
  have HX := hide hx
  clear hx
  by_cases h20 : (n : Int) ≤ 1048576
  · have HBY := hide (bytes_ok (some ⟨b, o, none⟩) n cap w h20)
    go_enter Try.func5, Try.ntmps5
    go_wp2_with fail
    refine (unhide HBY).mono ?_
    rintro e w1 ⟨rfl, rfl⟩
    clear HBY
    by_cases hn : n ≤ 65536
    · have hn1 : ¬ (65536 : Int) < (n : Int) := by omega
      have hn2 : (n : Int) ≤ 65536 := by omega
      obtain ⟨i0, hi, hz0, hz1, hz2⟩ := info_parts Try.info45
      obtain ⟨M, hM⟩ : ∃ M, M = madeCells (Value.agg #[.int .i32 0, .int .i16 0, .int .i32 0, .int .i32 0]).cells ((n : Int).toNat * i0.size) := ⟨_, rfl⟩
      have hMs : M.size = n * 4 := by rw [hM, size_madeCells, hz1]; simp
      have hmk : ∀ W : World, (Instr.makeSlice 42 (.int .i64 n) (.int .i64 n)).run Try.prog W = .ok (.slice (some ⟨W.heap.size, 0, none⟩) n n) (W.alloc (.cells M 45)) := fun W => by
        have h := run_make (P := Try.prog) W 42 45 i0 _ Try.underlying42 hi hz0 .i64 .i64 n n (by omega) (by omega) (by rw [hz2]; omega) (by omega)
        rw [← hM] at h
        simpa using h
      clear hM hi hz0 hz1 hz2 i0
      have HM := hide (World.rowIs_alloc w M 45 (fun i => M[i]?.getD (.bool false)) (fun i hi => by rw [Array.getElem?_eq_getElem hi]; rfl))
      rw [hMs] at HM
      go_wp2_with fail
      go_loopw [4] (fun i wr => ∃ (k : Nat) (f : Nat → Value), k ≤ n ∧ i = .int .i64 k ∧ wr.rowIs w.heap.size 45 (n * 4) f ∧ (∀ t, t < k → Good4 R f t) ∧ Below w.heap.size w wr) (fun i _ => n - (intOf i).toNat)
      case atStart => exact ⟨0, _, Nat.zero_le _, rfl, unhide HM, fun t ht => absurd ht (Nat.not_lt_zero _), (Below.refl _ _).alloc (Nat.le_refl _) _⟩
      case round =>
        obtain ⟨k, f, hk, rfl, hrow, hf, hbel⟩ := hrel
        clear hmk HM
        have HR := hide hrow
        have HF := hide hf
        have HB := hide hbel
        clear hrow hf hbel
        by_cases hkn : k < n
        · have h1 : (k : Int) < (n : Int) := by omega
          obtain ⟨x0, x1, x2, x3⟩ := unhide HX k hkn
          have a0 : wr.cell? ⟨b, o + k * 4, none⟩ = some (.int .i32 (R k 0)) := ((unhide HB).cell (p := ⟨b, _, none⟩) hb).trans x0
          have a1 : wr.cell? ⟨b, o + k * 4 + 1, none⟩ = some (.int .i16 (R k 1)) := ((unhide HB).cell (p := ⟨b, _, none⟩) hb).trans x1
          have a2 : wr.cell? ⟨b, o + k * 4 + 2, none⟩ = some (.int .i32 (R k 2)) := ((unhide HB).cell (p := ⟨b, _, none⟩) hb).trans x2
          have a3 : wr.cell? ⟨b, o + k * 4 + 3, none⟩ = some (.int .i32 (R k 3)) := ((unhide HB).cell (p := ⟨b, _, none⟩) hb).trans x3
          clear x0 x1 x2 x3
          have d0 := (unhide HR).cell (i := k * 4) (by omega)
          have d1 := (unhide HR).cell (i := k * 4 + 1) (by omega)
          have d2 := (unhide HR).cell (i := k * 4 + 2) (by omega)
          have d3 := (unhide HR).cell (i := k * 4 + 3) (by omega)
          have e0 := (unhide HR).frozen (k * 4)
          have e1 := (unhide HR).frozen (k * 4 + 1)
          have e2 := (unhide HR).frozen (k * 4 + 2)
          have e3 := (unhide HR).frozen (k * 4 + 3)
          have R1 := hide (((((unhide HR).set (k * 4) (.int .i32 (R k 0))).set (k * 4 + 1) (.int .i16 (R k 1))).set (k * 4 + 2) (.int .i32 (R k 2))).set (k * 4 + 3) (.int .i32 (R k 3)))
          have R2 := hide (((((unhide HB).setCell (p := ⟨w.heap.size, k * 4, none⟩) (Nat.le_refl _) (.int .i32 (R k 0))).setCell (p := ⟨w.heap.size, k * 4 + 1, none⟩) (Nat.le_refl _) (.int .i16 (R k 1))).setCell (p := ⟨w.heap.size, k * 4 + 2, none⟩) (Nat.le_refl _) (.int .i32 (R k 2))).setCell (p := ⟨w.heap.size, k * 4 + 3, none⟩) (Nat.le_refl _) (.int .i32 (R k 3)))
          go_wp2_with fail
          go_roundw
          case rel => exact ⟨k + 1, _, by omega, by go_num, unhide R1, copy4 (unhide HF), unhide R2⟩
          case measure => simp [intOf]; omega
        · have h1 : ¬ (k : Int) < (n : Int) := by omega
          have ekn : k = n := by omega
          subst ekn
          have HNEW := hide (new_any wr)
          have HST : Hid (Sm w (((wr.alloc (.map #[] 0)).alloc (.map #[] 0)).alloc (.cells #[.map (some wr.heap.size), .slice none 0 0, .int .i32 0, .slice none 0 0, .map (some (wr.heap.size + 1)), .int .i64 0] 53)) w.heap.size (wr.heap.size + 2) k f R 0) :=
            ⟨(((unhide HB).alloc (unhide HB).size _).alloc (by have := (unhide HB).size; simp; omega) _).alloc (by have := (unhide HB).size; simp; omega) _, (((unhide HR).alloc _).alloc _).alloc _, Mk.made wr R, by have := (unhide HR).lt; omega, by have := (unhide HB).size; omega⟩
          clear HR HB h1
          go_wp2_with fail
          refine (unhide HNEW).mono ?_
          rintro e w1 ⟨rfl, rfl⟩
          clear HNEW
          go_wp2_with fail
          obtain ⟨wz, hwz⟩ : ∃ wz, wz = ((wr.alloc (.map #[] 0)).alloc (.map #[] 0)).alloc (.cells #[.map (some wr.heap.size), .slice none 0 0, .int .i32 0, .slice none 0 0, .map (some (wr.heap.size + 1)), .int .i64 0] 53) := ⟨_, rfl⟩
          obtain ⟨g, hg⟩ : ∃ g, g = wr.heap.size + 2 := ⟨_, rfl⟩
          rw [← hwz, ← hg] at HST
          rw [← hwz, ← hg]
          clear hwz hg
          go_loopw [7] (fun i wr => ∃ t : Nat, t ≤ k ∧ i = .int .i64 t ∧ Sm w wr w.heap.size g k f R t) (fun i _ => k - (intOf i).toNat)
          case atStart => exact ⟨0, Nat.zero_le _, rfl, unhide HST⟩
          case round =>
            obtain ⟨t, ht, rfl, hst⟩ := hrel
            clear HST
            have HST := hide hst
            clear hst
            by_cases htk : t < k
            · have h1 : (t : Int) < (k : Int) := by omega
              obtain ⟨g0, g1, g2, g3⟩ := unhide HF t htk
              have c0 := (unhide HST).2.1.cell (i := t * 4) (by omega)
              have c1 := (unhide HST).2.1.cell (i := t * 4 + 1) (by omega)
              have c2 := (unhide HST).2.1.cell (i := t * 4 + 2) (by omega)
              have c3 := (unhide HST).2.1.cell (i := t * 4 + 3) (by omega)
              rw [g0] at c0
              rw [g1] at c1
              rw [g2] at c2
              rw [g3] at c3
              clear g0 g1 g2 g3
              go_upto_region 17 with fail
              go_region_with (go_at_call 9; refine ((unhide HST).drewN _ |>.step (by omega)).mono ?_; rintro e w5 ⟨rfl, h5⟩)
              all_goals
                go_wp2_with fail
                go_roundw
                case rel => exact ⟨t + 1, by omega, by go_num, by first | exact unhide h5 | exact (unhide h5).drew⟩
                case measure => simp [intOf]; omega
            · have h1 : ¬ (t : Int) < (k : Int) := by omega
              have etk : t = k := by omega
              subst etk
              clear h1
              have HCT := hide (count_any g t R wr (unhide HST).2.2.1)
              have HCK := hide (chunks_any g t R wr (unhide HST).2.2.1)
              have hq : ((t : Int) + 4095) / 4096 = (nch t : Int) := by unfold nch; omega
              have hq2 : (nch t : Int) ≤ 16 := by unfold nch; omega
              go_wp2_with fail
              refine (unhide HCT).mono ?_
              rintro e w6 ⟨rfl, rfl⟩
              go_wp2_with fail
              refine (unhide HCK).mono ?_
              rintro e w6 ⟨rfl, rfl⟩
              clear HCT HCK
              go_wp2_with fail
              go_loop [9] (fun i => ∃ j : Nat, j ≤ nch t ∧ i = .int .i64 j) (fun i => nch t - (intOf i).toNat)
              case atStart => exact ⟨0, Nat.zero_le _, rfl⟩
              case round =>
                obtain ⟨j, hj, rfl⟩ := hrel
                by_cases hjn : j < nch t
                · have h1 : (j : Int) < (nch t : Int) := by omega
                  have HCL := hide (chunklen_any g t j R wr (unhide HST).2.2.1 hjn hn)
                  have hj2 : (j : Int) < 16 := by omega
                  by_cases hlast : j + 1 = nch t
                  · have b1 : ((j : Int) == (nch t : Int) - 1) = true := by simp; omega
                    have hl : (ln t j : Int) = (t : Int) - (j : Int) * 4096 := by unfold ln; unfold nch at hlast; omega
                    rw [hl] at HCL
                    go_wp2_with fail
                    refine (unhide HCL).mono ?_
                    rintro e w6 ⟨rfl, rfl⟩
                    go_wp2_with fail
                    go_round
                    case rel => exact ⟨j + 1, by omega, by go_num⟩
                    case measure => simp [intOf]; omega
                  · have b1 : ((j : Int) == (nch t : Int) - 1) = false := by simp; omega
                    have hl : (ln t j : Int) = 4096 := by unfold ln; unfold nch at hlast hjn; omega
                    rw [hl] at HCL
                    go_wp2_with fail
                    refine (unhide HCL).mono ?_
                    rintro e w6 ⟨rfl, rfl⟩
                    go_wp2_with fail
                    go_round
                    case rel => exact ⟨j + 1, by omega, by go_num⟩
                    case measure => simp [intOf]; omega
                · have h1 : ¬ (j : Int) < (nch t : Int) := by omega
                  go_wp2_with fail
                  go_loopw [11] (fun i wr => ∃ k : Nat, k ≤ t ∧ i = .int .i64 k ∧ Sm w wr w.heap.size g t f R t) (fun i _ => t - (intOf i).toNat)
                  case atStart => exact ⟨0, Nat.zero_le _, rfl, unhide HST⟩
                  case round =>
                    obtain ⟨k, hk, rfl, hst⟩ := hrel
                    clear HST
                    have HST := hide hst
                    clear hst
                    by_cases hkt : k < t
                    · have h1 : (k : Int) < (t : Int) := by omega
                      have HRD := hide ((unhide HST).read hkt hn)
                      obtain ⟨g0, g1, g2, g3⟩ := unhide HF k hkt
                      go_wp2_with fail
                      refine (unhide HRD).mono ?_
                      rintro e w6 ⟨rfl, h6⟩
                      have c0 := (unhide h6).2.1.cell (i := k * 4) (by omega)
                      have c1 := (unhide h6).2.1.cell (i := k * 4 + 1) (by omega)
                      have c2 := (unhide h6).2.1.cell (i := k * 4 + 2) (by omega)
                      have c3 := (unhide h6).2.1.cell (i := k * 4 + 3) (by omega)
                      rw [g0] at c0
                      rw [g1] at c1
                      rw [g2] at c2
                      rw [g3] at c3
                      clear g0 g1 g2 g3 HRD
                      go_wp2_with fail
                      go_roundw
                      case rel => exact ⟨k + 1, by omega, by go_num, unhide h6⟩
                      case measure => simp [intOf]; omega
                    · have h1 : ¬ (k : Int) < (t : Int) := by omega
                      have HBL := hide (unhide HST).1
                      go_wp2_with fail
                      go_ret
                      exact ⟨rfl, unhide HBL⟩
    · have hn1 : (65536 : Int) < (n : Int) := by omega
      go_wp2_with fail
      go_ret
      exact ⟨rfl, Below.refl _ _⟩
  · have h20' : (1048576 : Int) < (n : Int) := by omega
    have HBY := hide (bytes_no (some ⟨b, o, none⟩) n cap w h20')
    clear h20
    go_enter Try.func5, Try.ntmps5
    go_wp2_with fail
    refine (unhide HBY).mono ?_
    rintro e w1 ⟨rfl, rfl⟩
    go_wp2_with fail
    go_ret
    exact ⟨rfl, Below.refl _ _⟩
end Go.Proofs.Qxb6003126a.Marks

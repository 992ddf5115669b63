import Derived.Test.Qxb6003126aAdd
namespace Go.Proofs.Qxb6003126a.Marks
open Go.RowKit Go.Proofs.Qxb6003126a

theorem add_any (g c : Nat) (R : Nat → Nat → Int) (w : World) (h : Mk w g c R) (hc : c < 65536) :
    Calls Try.prog 20 #[.pointer (some ⟨g, 0, none⟩), .agg #[.int .i32 (R c 0), .int .i16 (R c 1), .int .i32 (R c 2), .int .i32 (R c 3)]] w fun e w' => e = .returned (.tuple #[]) ∧ Mk w' g (c + 1) R ∧ Below g w w' := by
  by_cases hr : c % 4096 = 0
  · exact add_fresh g c _ R w h hc rfl hr
  · exact add_room g c _ R w h hc rfl hr

set_option maxHeartbeats 400000 in
/-- grades.ZZAdd. -/
theorem zzadd_any (g c : Nat) (R : Nat → Nat → Int) (w : World) (h : Mk w g c R) (hc : c < 65536) :
    Calls Try.prog 9 #[.pointer (some ⟨g, 0, none⟩), .int .i32 (R c 0), .int .i16 (R c 1), .int .i32 (R c 2), .int .i32 (R c 3)] w fun e w' => e = .returned (.tuple #[]) ∧ Mk w' g (c + 1) R ∧ Below g w w' := by
  have H := hide (add_any g c R w h hc)
  clear h
  go_enter Try.func9, Try.ntmps9
  go_wp2_with fail
  refine (unhide H).mono ?_
  rintro e w1 ⟨rfl, h1, h2⟩
  have H1 := hide h1
  have H2 := hide h2
  clear h1 h2
  go_wp2_with fail
  go_end0
  exact ⟨rfl, unhide H1, unhide H2⟩

set_option maxHeartbeats 400000 in
/-- grades.ZZCount. -/
theorem count_any (g c : Nat) (R : Nat → Nat → Int) (w : World) (h : Mk w g c R) : Calls Try.prog 15 #[.pointer (some ⟨g, 0, none⟩)] w fun e w' => e = .returned (.int .i32 c) ∧ w = w' := by
  obtain ⟨f, A, C, cb, cc, hrow, h1, h2, hch⟩ := h
  have c2 : w.cell? ⟨g, 2, none⟩ = some (.int .i32 c) := by rw [hrow.cell (by omega), h2]
  clear hrow hch
  go_enter Try.func15, Try.ntmps15
  go_wp2_with fail
  go_ret
  exact ⟨rfl, rfl⟩

set_option maxHeartbeats 400000 in
/-- grades.ZZChunks. -/
theorem chunks_any (g c : Nat) (R : Nat → Nat → Int) (w : World) (h : Mk w g c R) : Calls Try.prog 16 #[.pointer (some ⟨g, 0, none⟩)] w fun e w' => e = .returned (.int .i64 (nch c)) ∧ w = w' := by
  obtain ⟨f, A, C, cb, cc, hrow, h1, h2, hch⟩ := h
  have c1 : w.cell? ⟨g, 1, none⟩ = some (.slice A (nch c) C) := by rw [hrow.cell (by omega), h1]
  clear hrow hch
  go_enter Try.func16, Try.ntmps16
  go_wp2_with fail
  go_ret
  exact ⟨rfl, rfl⟩

theorem Mk.parts {w : World} {g c : Nat} {R : Nat → Nat → Int} (h : Mk w g c R) {j : Nat} (hj : j < nch c) :
    ∃ mb C b cp : Nat, w.cell? ⟨g, 1, none⟩ = some (.slice (some ⟨mb, 0, none⟩) (nch c) C) ∧ w.cell? ⟨mb, j, none⟩ = some (.slice (some ⟨b, 0, none⟩) (ln c j) cp) ∧ ∀ t i, t < ln c j → i < 4 → w.cell? ⟨b, t * 4 + i, none⟩ = (cell4 R (4096 * j + t))[i]? := by
  obtain ⟨f, A, C, cb, cc, hrow, h1, h2, hch⟩ := h
  obtain ⟨mb, C', e, _, _⟩ := hch.1.form (by omega)
  cases e
  refine ⟨mb, C, cb j, cc j, by rw [hrow.cell (by omega), h1], ?_, fun t i ht hi => ?_⟩
  · rw [hch.1.cellAt j (by omega), List.getElem?_map, List.getElem?_range hj]; rfl
  · rw [(hch.2.1 j hj).cellAt (t * 4 + i) (by omega), ck_get R _ hi _ ht]

set_option maxHeartbeats 400000 in
/-- grades.ZZChunkLen. -/
theorem chunklen_any (g c j : Nat) (R : Nat → Nat → Int) (w : World) (h : Mk w g c R) (hj : j < nch c) (hc : c ≤ 65536) :
    Calls Try.prog 17 #[.pointer (some ⟨g, 0, none⟩), .int .i64 j] w fun e w' => e = .returned (.int .i64 (ln c j)) ∧ w = w' := by
  obtain ⟨mb, C, b, cp, c1, c2, _⟩ := h.parts hj
  clear h
  have hj1 : (j : Int) < (nch c : Int) := by omega
  have hn : nch c ≤ 16 := by unfold nch; omega
  go_enter Try.func17, Try.ntmps17
  go_wp2_with fail
  go_ret
  exact ⟨rfl, rfl⟩

set_option maxHeartbeats 1000000 in
/-- grades.ZZMarkIn. -/
theorem markin_nat (g c j t : Nat) (R : Nat → Nat → Int) (w : World) (h : Mk w g c R) (hj : j < nch c) (ht : t < ln c j) (hc : c ≤ 65536) :
    Calls Try.prog 18 #[.pointer (some ⟨g, 0, none⟩), .int .i64 j, .int .i64 t] w fun e w' => e = .returned (.tuple #[.int .i32 (R (4096 * j + t) 0), .int .i16 (R (4096 * j + t) 1), .int .i32 (R (4096 * j + t) 2), .int .i32 (R (4096 * j + t) 3)]) ∧ Below w.heap.size w w' := by
  obtain ⟨mb, C, b, cp, c1, c2, c3⟩ := h.parts hj
  clear h
  have k0 := c3 t 0 ht (by omega)
  have k1 := c3 t 1 ht (by omega)
  have k2 := c3 t 2 ht (by omega)
  have k3 := c3 t 3 ht (by omega)
  simp only [cell4, List.getElem?_cons_zero, List.getElem?_cons_succ, Nat.add_zero] at k0 k1 k2 k3
  clear c3
  have hj1 : (j : Int) < (nch c : Int) := by omega
  have hn : nch c ≤ 16 := by unfold nch; omega
  have ht1 : (t : Int) < (ln c j : Int) := by omega
  have hl : ln c j ≤ 4096 := by unfold ln; omega
  go_enter Try.func18, Try.ntmps18
  go_wp2_with fail
  go_quiet (fail)
  go_wp2_with fail
  refine bodyPost_ret (by simp [results, Try.results18, go_sem]; try rfl) rfl ?_
  exact ⟨rfl, drewNB ((Below.refl _ _).alloc (Nat.le_refl _) _)⟩

theorem nch_of {c k : Nat} (h : k < c) : k / 4096 < nch c := by unfold nch; omega
theorem ln_of {c k : Nat} (h : k < c) : k % 4096 < ln c (k / 4096) := by unfold ln; omega

/-- .. mark k, as the law asks for it. -/
theorem markin_any (g c k : Nat) (R : Nat → Nat → Int) (w : World) (h : Mk w g c R) (hk : k < c) (hc : c ≤ 65536) :
    Calls Try.prog 18 #[.pointer (some ⟨g, 0, none⟩), .int .i64 ((k : Int) / 4096), .int .i64 ((k : Int) % 4096)] w fun e w' => e = .returned (.tuple #[.int .i32 (R k 0), .int .i16 (R k 1), .int .i32 (R k 2), .int .i32 (R k 3)]) ∧ Below w.heap.size w w' := by
  have h0 := markin_nat g c (k / 4096) (k % 4096) R w h (nch_of hk) (ln_of hk) hc
  rw [show 4096 * (k / 4096) + k % 4096 = k by omega] at h0
  rw [show ((k : Int) / 4096) = ((k / 4096 : Nat) : Int) by omega, show ((k : Int) % 4096) = ((k % 4096 : Nat) : Int) by omega]
  exact h0

theorem Mk.below {w w' : World} {g c : Nat} {R : Nat → Nat → Int} (h : Mk w g c R) (hb : Below w.heap.size w w') : Mk w' g c R := by
  obtain ⟨f, A, C, cb, cc, hrow, h1, h2, hch⟩ := h
  exact ⟨f, A, C, cb, cc, hrow.of_block (hb.block g hrow.lt), h1, h2, hch.grown ⟨hb.os, hb.tape, hb.output, hb.size, fun k hk _ => hb.block k hk⟩⟩
theorem Mk.drewN {w : World} {g c : Nat} {R : Nat → Nat → Int} (h : Mk w g c R) (m : Nat) : Mk (w.drewN m) g c R := h
theorem Mk.drew {w : World} {g c : Nat} {R : Nat → Nat → Int} (h : Mk w g c R) : Mk w.drew g c R := h
theorem Mk.lt {w : World} {g c : Nat} {R : Nat → Nat → Int} (h : Mk w g c R) : g < w.heap.size := by
  obtain ⟨f, A, C, cb, cc, hrow, _⟩ := h
  exact hrow.lt

set_option maxHeartbeats 400000 in
/-- zzBytes_FnAddKeepsEveryMarkInFileOrder. -/
theorem bytes_ok (a : Option Addr) (n cap : Nat) (w : World) (hn : (n : Int) ≤ 1048576) : Calls Try.prog 14 #[.slice a n cap] w fun e w' => e = .returned (.bool true) ∧ w = w' := by
  go_enter Try.func14, Try.ntmps14
  go_wp2_with fail
  go_ret
  exact ⟨rfl, rfl⟩
set_option maxHeartbeats 400000 in
theorem bytes_no (a : Option Addr) (n cap : Nat) (w : World) (hn : (1048576 : Int) < (n : Int)) : Calls Try.prog 14 #[.slice a n cap] w fun e w' => e = .returned (.bool false) ∧ w = w' := by
  go_enter Try.func14, Try.ntmps14
  go_wp2_with fail
  go_ret
  exact ⟨rfl, rfl⟩
end Go.Proofs.Qxb6003126a.Marks

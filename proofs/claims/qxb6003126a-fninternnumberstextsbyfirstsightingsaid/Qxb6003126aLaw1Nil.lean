import Derived.Test.Qxb6003126aLaw1
namespace Go.Proofs.Qxb6003126a
open Go.RowKit Go.Maps

theorem make27 (w : World) : (Instr.makeSlice 27 (.int .i64 0) (.int .i64 0)).run Try.prog w = .ok (.slice (some ⟨w.heap.size, 0, none⟩) 0 0) (w.alloc (.cells (madeCells #[.int .i32 0] 0) 21)) :=
  run_make_row' (P := Try.prog) 27 21 (.int .i32 0) 4 Try.underlying27 Try.info21 rfl .i64 .i64 0 (by omega) (by omega) w
theorem make39 (w : World) : (Instr.makeSlice 39 (.int .i64 0) (.int .i64 0)).run Try.prog w = .ok (.slice (some ⟨w.heap.size, 0, none⟩) 0 0) (w.alloc (.cells (madeCells #[.string ByteArray.empty] 0) 9)) :=
  run_make_row' (P := Try.prog) 39 9 (.string ByteArray.empty) 16 Try.underlying39 Try.info9 rfl .i64 .i64 0 (by omega) (by omega) w

set_option maxHeartbeats 4000000 in
set_option maxRecDepth 100000 in
theorem walk_nil (cap : Nat) (w : World) :
    Calls Try.prog 4 #[.slice none 0 cap] w fun e w' => e = .returned (.bool true) ∧ Below w.heap.size w w' := by
  have HBY := hide (bytes_zero none cap w)
  go_enter Try.func4, Try.ntmps4
  go_wp2_with fail
  refine (unhide HBY).mono ?_
  rintro e w1 ⟨rfl, rfl⟩
  clear HBY
  have hmk := make27
  go_wp2_with fail
  refine wp_loop_rounds 1 ?_; rw [rounds_succ]
  go_wp2_with fail
  refine wp_loop_rounds 1 ?_; rw [rounds_succ]
  go_wp2_with fail
  obtain ⟨W, hW⟩ : ∃ W, W = w.alloc (.cells (madeCells #[.int .i32 0] 0) 21) := ⟨_, rfl⟩
  have HS : Hid (Below w.heap.size w W) := by rw [hW]; exact (Below.refl w.heap.size w).alloc (Nat.le_refl _) _
  rw [← hW]
  clear hmk hW
  refine (new_any _).mono ?_
  rintro e w2 ⟨rfl, rfl⟩
  have HG := hide (Gr.made W)
  have HB := hide ((((unhide HS).alloc (unhide HS).size (.map #[] 0)).alloc (by have := (unhide HS).size; simp; omega) (.map #[] 0)).alloc (by have := (unhide HS).size; simp; omega) (.cells #[.map (some W.heap.size), .slice none 0 0, .int .i32 0, .slice none 0 0, .map (some (W.heap.size + 1)), .int .i64 0] 53))
  obtain ⟨wz, hwz⟩ : ∃ wz, wz = ((W.alloc (.map #[] 0)).alloc (.map #[] 0)).alloc (.cells #[.map (some W.heap.size), .slice none 0 0, .int .i32 0, .slice none 0 0, .map (some (W.heap.size + 1)), .int .i64 0] 53) := ⟨_, rfl⟩
  rw [← hwz] at HG HB ⊢
  clear hwz HS
  go_wp2_with fail
  refine wp_loop_rounds 1 ?_; rw [rounds_succ]
  go_wp2_with fail
  refine (texts_any _ _ [] _ (unhide HG)).mono ?_
  rintro e w3 ⟨⟨A, C, rfl, _⟩, rfl⟩
  go_wp2_with fail
  refine wp_loop_rounds 1 ?_; rw [rounds_succ]
  go_wp2_with fail
  refine wp_loop_rounds 1 ?_; rw [rounds_succ]
  go_wp2_with fail
  refine (texts_any _ _ [] _ (unhide HG)).mono ?_
  rintro e w3 ⟨⟨A, C, rfl, _⟩, rfl⟩
  go_wp2_with fail
  go_ret
  exact ⟨by simp, unhide HB⟩

set_option maxHeartbeats 4000000 in
set_option maxRecDepth 100000 in
theorem walk_none (a : Addr) (cap : Nat) (w : World) :
    Calls Try.prog 4 #[.slice (some a) 0 cap] w fun e w' => e = .returned (.bool true) ∧ Below w.heap.size w w' := by
  have HBY := hide (bytes_zero (some a) cap w)
  go_enter Try.func4, Try.ntmps4
  go_wp2_with fail
  refine (unhide HBY).mono ?_
  rintro e w1 ⟨rfl, rfl⟩
  clear HBY
  have hmk := make27
  have hmk2 := make39
  go_wp2_with fail
  refine wp_loop_rounds 1 ?_; rw [rounds_succ]
  go_wp2_with fail
  refine wp_loop_rounds 1 ?_; rw [rounds_succ]
  go_wp2_with fail
  refine wp_loop_rounds 1 ?_; rw [rounds_succ]
  go_wp2_with fail
  obtain ⟨W, hW⟩ : ∃ W, W = (w.alloc (.cells (madeCells #[.string ByteArray.empty] 0) 9)).alloc (.cells (madeCells #[.int .i32 0] 0) 21) := ⟨_, rfl⟩
  have HS : Hid (Below w.heap.size w W) := by rw [hW]; exact ((Below.refl w.heap.size w).alloc (Nat.le_refl _) _).alloc (by simp) _
  rw [← hW]
  clear hmk hW
  refine (new_any _).mono ?_
  rintro e w2 ⟨rfl, rfl⟩
  have HG := hide (Gr.made W)
  have HB := hide ((((unhide HS).alloc (unhide HS).size (.map #[] 0)).alloc (by have := (unhide HS).size; simp; omega) (.map #[] 0)).alloc (by have := (unhide HS).size; simp; omega) (.cells #[.map (some W.heap.size), .slice none 0 0, .int .i32 0, .slice none 0 0, .map (some (W.heap.size + 1)), .int .i64 0] 53))
  obtain ⟨wz, hwz⟩ : ∃ wz, wz = ((W.alloc (.map #[] 0)).alloc (.map #[] 0)).alloc (.cells #[.map (some W.heap.size), .slice none 0 0, .int .i32 0, .slice none 0 0, .map (some (W.heap.size + 1)), .int .i64 0] 53) := ⟨_, rfl⟩
  rw [← hwz] at HG HB ⊢
  clear hwz HS
  go_wp2_with fail
  refine wp_loop_rounds 1 ?_; rw [rounds_succ]
  go_wp2_with fail
  refine (texts_any _ _ [] _ (unhide HG)).mono ?_
  rintro e w3 ⟨⟨A, C, rfl, _⟩, rfl⟩
  go_wp2_with fail
  refine wp_loop_rounds 1 ?_; rw [rounds_succ]
  go_wp2_with fail
  refine wp_loop_rounds 1 ?_; rw [rounds_succ]
  go_wp2_with fail
  refine (texts_any _ _ [] _ (unhide HG)).mono ?_
  rintro e w3 ⟨⟨A, C, rfl, _⟩, rfl⟩
  go_wp2_with fail
  go_ret
  exact ⟨by simp, unhide HB⟩
end Go.Proofs.Qxb6003126a

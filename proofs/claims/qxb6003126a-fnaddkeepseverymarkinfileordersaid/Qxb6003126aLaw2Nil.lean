import Derived.Test.Qxb6003126aReaders
namespace Go.Proofs.Qxb6003126a.Marks
open Go.RowKit Go.Proofs.Qxb6003126a

theorem make42 (W : World) : ∃ M, (Instr.makeSlice 42 (.int .i64 0) (.int .i64 0)).run Try.prog W = .ok (.slice (some ⟨W.heap.size, 0, none⟩) 0 0) (W.alloc (.cells M 45)) := by
  obtain ⟨i0, hi, hz0, hz1, hz2⟩ := info_parts (show (Try.prog.info? 45).map (fun i => (i.zero, i.size, i.bytes)) = some (some (.agg #[.int .i32 0, .int .i16 0, .int .i32 0, .int .i32 0]), 4, 16) by kernel_rfl)
  have h := run_make (P := Try.prog) W 42 45 i0 _ Try.underlying42 hi hz0 .i64 .i64 0 0 (by omega) (by omega) (by rw [hz2]; omega) (by omega)
  exact ⟨_, by simpa using h⟩

theorem nch0 : nch 0 = 0 := rfl

set_option maxHeartbeats 4000000 in
set_option maxRecDepth 100000 in
theorem walk_nil (cap : Nat) (w : World) :
    Calls Try.prog 5 #[.slice none 0 cap] w fun e w' => e = .returned (.bool true) ∧ Below w.heap.size w w' := by
  have HBY := hide (bytes_ok none 0 cap w (by omega))
  go_enter Try.func5, Try.ntmps5
  go_wp2_with fail
  refine (unhide HBY).mono ?_
  rintro e w1 ⟨rfl, rfl⟩
  clear HBY
  go_wp2_with fail
  obtain ⟨W, hW⟩ : ∃ W, W = w := ⟨_, rfl⟩
  have HS : Hid (Below w.heap.size w W) := by rw [hW]; exact Below.refl _ _
  rw [← hW]
  clear hW
  refine (new_any _).mono ?_
  rintro e w2 ⟨rfl, rfl⟩
  have HG := hide (Mk.made W (fun _ _ => 0))
  have HB := hide ((((unhide HS).alloc (unhide HS).size (.map #[] 0)).alloc (by have := (unhide HS).size; simp; omega) (.map #[] 0)).alloc (by have := (unhide HS).size; simp; omega) (.cells #[.map (some W.heap.size), .slice none 0 0, .int .i32 0, .slice none 0 0, .map (some (W.heap.size + 1)), .int .i64 0] 53))
  obtain ⟨wz, hwz⟩ : ∃ wz, wz = ((W.alloc (.map #[] 0)).alloc (.map #[] 0)).alloc (.cells #[.map (some W.heap.size), .slice none 0 0, .int .i32 0, .slice none 0 0, .map (some (W.heap.size + 1)), .int .i64 0] 53) := ⟨_, rfl⟩
  rw [← hwz] at HG HB ⊢
  clear hwz HS
  go_wp2_with fail
  refine wp_loop_rounds 1 ?_; rw [rounds_succ]
  go_wp2_with fail
  refine (count_any _ 0 _ _ (unhide HG)).mono ?_
  rintro e w3 ⟨rfl, rfl⟩
  go_wp2_with fail
  refine (chunks_any _ 0 _ _ (unhide HG)).mono ?_
  rintro e w3 ⟨rfl, rfl⟩
  rw [nch0]
  go_wp2_with fail
  refine wp_loop_rounds 1 ?_; rw [rounds_succ]
  go_wp2_with fail
  refine wp_loop_rounds 1 ?_; rw [rounds_succ]
  go_wp2_with fail
  go_ret
  exact ⟨rfl, unhide HB⟩
set_option maxHeartbeats 4000000 in
set_option maxRecDepth 100000 in
theorem walk_none (a : Addr) (cap : Nat) (w : World) :
    Calls Try.prog 5 #[.slice (some a) 0 cap] w fun e w' => e = .returned (.bool true) ∧ Below w.heap.size w w' := by
  have HBY := hide (bytes_ok (some a) 0 cap w (by omega))
  go_enter Try.func5, Try.ntmps5
  go_wp2_with fail
  refine (unhide HBY).mono ?_
  rintro e w1 ⟨rfl, rfl⟩
  clear HBY
  obtain ⟨M, hmk⟩ := make42 w
  go_wp2_with fail
  refine wp_loop_rounds 1 ?_; rw [rounds_succ]
  go_wp2_with fail
  obtain ⟨W, hW⟩ : ∃ W, W = w.alloc (.cells M 45) := ⟨_, rfl⟩
  have HS : Hid (Below w.heap.size w W) := by rw [hW]; exact (Below.refl _ _).alloc (Nat.le_refl _) _
  rw [← hW]
  clear hW hmk
  refine (new_any _).mono ?_
  rintro e w2 ⟨rfl, rfl⟩
  have HG := hide (Mk.made W (fun _ _ => 0))
  have HB := hide ((((unhide HS).alloc (unhide HS).size (.map #[] 0)).alloc (by have := (unhide HS).size; simp; omega) (.map #[] 0)).alloc (by have := (unhide HS).size; simp; omega) (.cells #[.map (some W.heap.size), .slice none 0 0, .int .i32 0, .slice none 0 0, .map (some (W.heap.size + 1)), .int .i64 0] 53))
  obtain ⟨wz, hwz⟩ : ∃ wz, wz = ((W.alloc (.map #[] 0)).alloc (.map #[] 0)).alloc (.cells #[.map (some W.heap.size), .slice none 0 0, .int .i32 0, .slice none 0 0, .map (some (W.heap.size + 1)), .int .i64 0] 53) := ⟨_, rfl⟩
  rw [← hwz] at HG HB ⊢
  clear hwz HS
  go_wp2_with fail
  refine wp_loop_rounds 1 ?_; rw [rounds_succ]
  go_wp2_with fail
  refine (count_any _ 0 _ _ (unhide HG)).mono ?_
  rintro e w3 ⟨rfl, rfl⟩
  go_wp2_with fail
  refine (chunks_any _ 0 _ _ (unhide HG)).mono ?_
  rintro e w3 ⟨rfl, rfl⟩
  rw [nch0]
  go_wp2_with fail
  refine wp_loop_rounds 1 ?_; rw [rounds_succ]
  go_wp2_with fail
  refine wp_loop_rounds 1 ?_; rw [rounds_succ]
  go_wp2_with fail
  go_ret
  exact ⟨rfl, unhide HB⟩
end Go.Proofs.Qxb6003126a.Marks

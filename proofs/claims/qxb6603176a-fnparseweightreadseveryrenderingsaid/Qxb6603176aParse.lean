import Derived.Test.Qxb6603176aRows
import Derived.WalkKit
import Derived.WalkSpells
import Derived.WalkLawsBesides
namespace Go.Proofs.Qxb6603176a
open Go.RowKit

/-- The fraction's digits, at most three, in thousandths. -/
def fr : List Int → Int × Bool
  | [] => (0, true)
  | [c] => if 48 ≤ c ∧ c ≤ 57 then ((c - 48) * 100, true) else (0, false)
  | [c, d] => if (48 ≤ c ∧ c ≤ 57) ∧ (48 ≤ d ∧ d ≤ 57) then ((c - 48) * 100 + (d - 48) * 10, true) else (0, false)
  | [c, d, e] => if (48 ≤ c ∧ c ≤ 57) ∧ (48 ≤ d ∧ d ≤ 57) ∧ (48 ≤ e ∧ e ≤ 57) then ((c - 48) * 100 + (d - 48) * 10 + (e - 48), true) else (0, false)
  | _ => (0, false)
/-- Behind a 1: at most three noughts. -/
def on : List Int → Int × Bool
  | [] => (1000, true)
  | [c] => if c = 48 then (1000, true) else (0, false)
  | [c, d] => if c = 48 ∧ d = 48 then (1000, true) else (0, false)
  | [c, d, e] => if c = 48 ∧ d = 48 ∧ e = 48 then (1000, true) else (0, false)
  | _ => (0, false)
/-- The weight that a text spells. -/
def wt : List Int → Int × Bool
  | [] => (0, false)
  | [a] => if a = 48 then (0, true) else if a = 49 then (1000, true) else (0, false)
  | a :: b :: r => if b = 46 then (if a = 48 then fr r else if a = 49 then on r else (0, false)) else (0, false)

theorem ret_two {x y : Int} {p q : Bool} (h : (x, p) = (y, q)) : Ending.returned (.tuple #[.int .i64 x, .bool p]) = .returned (.tuple #[.int .i64 y, .bool q]) := by
  cases h; rfl
theorem fin_yes {P : Prop} [Decidable P] {x v : Int} (h : P) (e : x = v) : (x, true) = ((if P then (v, true) else (0, false)).1, (if P then (v, true) else (0, false)).2) := by
  rw [if_pos h, e]
theorem fin_no {P : Prop} [Decidable P] {v : Int} (h : ¬ P) : ((0 : Int), false) = ((if P then (v, true) else (0, false)).1, (if P then (v, true) else (0, false)).2) := by
  rw [if_neg h]

set_option maxHeartbeats 2000000 in
theorem parse1_48 (w : World) :
    Calls Try.prog 32 #[.string ⟨#[48]⟩] w fun r w' => r = .returned (.tuple #[.int .i64 (wt [48]).1, .bool (wt [48]).2]) ∧ w' = w := by
  have i0 : ∀ w, (Instr.index 9 (.string ⟨#[48]⟩) (.int .i64 0)).run Try.prog w = .ok (.int .u8 48) w := fun _ => by kernel_rfl
  go_enter Try.func32, Try.ntmps32
  go_wp2
  refine wp_loop_rounds 1 ?_; rw [rounds_succ]
  go_wp2
  all_goals (go_ret2; exact ⟨ret_two (by rfl), rfl⟩)

set_option maxHeartbeats 2000000 in
theorem parse1_49 (w : World) :
    Calls Try.prog 32 #[.string ⟨#[49]⟩] w fun r w' => r = .returned (.tuple #[.int .i64 (wt [49]).1, .bool (wt [49]).2]) ∧ w' = w := by
  have i0 : ∀ w, (Instr.index 9 (.string ⟨#[49]⟩) (.int .i64 0)).run Try.prog w = .ok (.int .u8 49) w := fun _ => by kernel_rfl
  go_enter Try.func32, Try.ntmps32
  go_wp2
  refine wp_loop_rounds 1 ?_; rw [rounds_succ]
  go_wp2
  all_goals (go_ret2; exact ⟨ret_two (by rfl), rfl⟩)

set_option maxHeartbeats 2000000 in
theorem parse1_x (a : UInt8) (w : World) (h0 : ((a.toNat : Int) != 48) = true) (h1 : ((a.toNat : Int) != 49) = true) :
    Calls Try.prog 32 #[.string ⟨#[a]⟩] w fun r w' => r = .returned (.tuple #[.int .i64 (((0 : Int), false)).1, .bool (((0 : Int), false)).2]) ∧ w' = w := by
  have i0 : ∀ w, (Instr.index 9 (.string ⟨#[a]⟩) (.int .i64 0)).run Try.prog w = .ok (.int .u8 (a.toNat : Int)) w := fun _ => by kernel_rfl
  go_enter Try.func32, Try.ntmps32
  go_wp2
  all_goals (go_ret2; exact ⟨rfl, rfl⟩)

set_option maxHeartbeats 2000000 in
theorem parse2_48 (w : World) :
    Calls Try.prog 32 #[.string ⟨#[48, 46]⟩] w fun r w' => r = .returned (.tuple #[.int .i64 (fr []).1, .bool (fr []).2]) ∧ w' = w := by
  have i0 : ∀ w, (Instr.index 9 (.string ⟨#[48, 46]⟩) (.int .i64 0)).run Try.prog w = .ok (.int .u8 48) w := fun _ => by kernel_rfl
  have i1 : ∀ w, (Instr.index 9 (.string ⟨#[48, 46]⟩) (.int .i64 1)).run Try.prog w = .ok (.int .u8 46) w := fun _ => by kernel_rfl
  go_enter Try.func32, Try.ntmps32
  go_wp2
  refine wp_loop_rounds 1 ?_; rw [rounds_succ]
  go_wp2
  all_goals (go_ret2; exact ⟨ret_two (by first | rfl | exact fin_yes (by omega) (by omega) | exact fin_no (by omega)), rfl⟩)

set_option maxHeartbeats 2000000 in
theorem parse2_49 (w : World) :
    Calls Try.prog 32 #[.string ⟨#[49, 46]⟩] w fun r w' => r = .returned (.tuple #[.int .i64 (on []).1, .bool (on []).2]) ∧ w' = w := by
  have i0 : ∀ w, (Instr.index 9 (.string ⟨#[49, 46]⟩) (.int .i64 0)).run Try.prog w = .ok (.int .u8 49) w := fun _ => by kernel_rfl
  have i1 : ∀ w, (Instr.index 9 (.string ⟨#[49, 46]⟩) (.int .i64 1)).run Try.prog w = .ok (.int .u8 46) w := fun _ => by kernel_rfl
  go_enter Try.func32, Try.ntmps32
  go_wp2
  refine wp_loop_rounds 1 ?_; rw [rounds_succ]
  go_wp2
  all_goals (go_ret2; exact ⟨ret_two (by first | rfl | exact fin_yes (by omega) (by omega) | exact fin_no (by omega)), rfl⟩)

set_option maxHeartbeats 2000000 in
theorem parse2_x (a : UInt8) (w : World) (h0 : ((a.toNat : Int) != 48) = true) (h1 : ((a.toNat : Int) != 49) = true) :
    Calls Try.prog 32 #[.string ⟨#[a, 46]⟩] w fun r w' => r = .returned (.tuple #[.int .i64 (((0 : Int), false)).1, .bool (((0 : Int), false)).2]) ∧ w' = w := by
  have i0 : ∀ w, (Instr.index 9 (.string ⟨#[a, 46]⟩) (.int .i64 0)).run Try.prog w = .ok (.int .u8 (a.toNat : Int)) w := fun _ => by kernel_rfl
  have i1 : ∀ w, (Instr.index 9 (.string ⟨#[a, 46]⟩) (.int .i64 1)).run Try.prog w = .ok (.int .u8 46) w := fun _ => by kernel_rfl
  go_enter Try.func32, Try.ntmps32
  go_wp2
  all_goals (go_ret2; exact ⟨rfl, rfl⟩)

set_option maxHeartbeats 2000000 in
theorem parse2_y (a b : UInt8) (w : World) (h0 : ((b.toNat : Int) != 46) = true) :
    Calls Try.prog 32 #[.string ⟨#[a, b]⟩] w fun r w' => r = .returned (.tuple #[.int .i64 (((0 : Int), false)).1, .bool (((0 : Int), false)).2]) ∧ w' = w := by
  have i0 : ∀ w, (Instr.index 9 (.string ⟨#[a, b]⟩) (.int .i64 0)).run Try.prog w = .ok (.int .u8 (a.toNat : Int)) w := fun _ => by kernel_rfl
  have i1 : ∀ w, (Instr.index 9 (.string ⟨#[a, b]⟩) (.int .i64 1)).run Try.prog w = .ok (.int .u8 (b.toNat : Int)) w := fun _ => by kernel_rfl
  go_enter Try.func32, Try.ntmps32
  go_wp2
  all_goals (go_ret2; exact ⟨rfl, rfl⟩)

set_option maxHeartbeats 2000000 in
theorem parse3_48 (c : UInt8) (w : World) :
    Calls Try.prog 32 #[.string ⟨#[48, 46, c]⟩] w fun r w' => r = .returned (.tuple #[.int .i64 (fr [(c.toNat : Int)]).1, .bool (fr [(c.toNat : Int)]).2]) ∧ w' = w := by
  have i0 : ∀ w, (Instr.index 9 (.string ⟨#[48, 46, c]⟩) (.int .i64 0)).run Try.prog w = .ok (.int .u8 48) w := fun _ => by kernel_rfl
  have i1 : ∀ w, (Instr.index 9 (.string ⟨#[48, 46, c]⟩) (.int .i64 1)).run Try.prog w = .ok (.int .u8 46) w := fun _ => by kernel_rfl
  have i2 : ∀ w, (Instr.index 9 (.string ⟨#[48, 46, c]⟩) (.int .i64 2)).run Try.prog w = .ok (.int .u8 (c.toNat : Int)) w := fun _ => by kernel_rfl
  go_enter Try.func32, Try.ntmps32
  go_wp2
  refine wp_loop_rounds 2 ?_; rw [rounds_succ]
  go_wp2
  all_goals try (rw [rounds_succ]; go_wp2)
  all_goals (go_ret2; exact ⟨ret_two (by first | rfl | exact fin_yes (by omega) (by omega) | exact fin_no (by omega)), rfl⟩)

set_option maxHeartbeats 2000000 in
theorem parse3_49 (c : UInt8) (w : World) :
    Calls Try.prog 32 #[.string ⟨#[49, 46, c]⟩] w fun r w' => r = .returned (.tuple #[.int .i64 (on [(c.toNat : Int)]).1, .bool (on [(c.toNat : Int)]).2]) ∧ w' = w := by
  have i0 : ∀ w, (Instr.index 9 (.string ⟨#[49, 46, c]⟩) (.int .i64 0)).run Try.prog w = .ok (.int .u8 49) w := fun _ => by kernel_rfl
  have i1 : ∀ w, (Instr.index 9 (.string ⟨#[49, 46, c]⟩) (.int .i64 1)).run Try.prog w = .ok (.int .u8 46) w := fun _ => by kernel_rfl
  have i2 : ∀ w, (Instr.index 9 (.string ⟨#[49, 46, c]⟩) (.int .i64 2)).run Try.prog w = .ok (.int .u8 (c.toNat : Int)) w := fun _ => by kernel_rfl
  by_cases hc : (c.toNat : Int) = 48
  · have bc : ((c.toNat : Int) != 48) = false := by simp [hc]
    go_enter Try.func32, Try.ntmps32
    go_wp2
    refine wp_loop_rounds 2 ?_; rw [rounds_succ]
    go_wp2
    all_goals try (rw [rounds_succ]; go_wp2)
    all_goals (go_ret2; exact ⟨ret_two (by first | rfl | exact fin_yes (by omega) (by omega) | exact fin_no (by omega)), rfl⟩)
  · have bc : ((c.toNat : Int) != 48) = true := by simp [hc]
    go_enter Try.func32, Try.ntmps32
    go_wp2
    refine wp_loop_rounds 2 ?_; rw [rounds_succ]
    go_wp2
    all_goals try (rw [rounds_succ]; go_wp2)
    all_goals (go_ret2; exact ⟨ret_two (by first | rfl | exact fin_yes (by omega) (by omega) | exact fin_no (by omega)), rfl⟩)

set_option maxHeartbeats 2000000 in
theorem parse3_x (a c : UInt8) (w : World) (h0 : ((a.toNat : Int) != 48) = true) (h1 : ((a.toNat : Int) != 49) = true) :
    Calls Try.prog 32 #[.string ⟨#[a, 46, c]⟩] w fun r w' => r = .returned (.tuple #[.int .i64 (((0 : Int), false)).1, .bool (((0 : Int), false)).2]) ∧ w' = w := by
  have i0 : ∀ w, (Instr.index 9 (.string ⟨#[a, 46, c]⟩) (.int .i64 0)).run Try.prog w = .ok (.int .u8 (a.toNat : Int)) w := fun _ => by kernel_rfl
  have i1 : ∀ w, (Instr.index 9 (.string ⟨#[a, 46, c]⟩) (.int .i64 1)).run Try.prog w = .ok (.int .u8 46) w := fun _ => by kernel_rfl
  have i2 : ∀ w, (Instr.index 9 (.string ⟨#[a, 46, c]⟩) (.int .i64 2)).run Try.prog w = .ok (.int .u8 (c.toNat : Int)) w := fun _ => by kernel_rfl
  go_enter Try.func32, Try.ntmps32
  go_wp2
  all_goals (go_ret2; exact ⟨rfl, rfl⟩)

set_option maxHeartbeats 2000000 in
theorem parse3_y (a b c : UInt8) (w : World) (h0 : ((b.toNat : Int) != 46) = true) :
    Calls Try.prog 32 #[.string ⟨#[a, b, c]⟩] w fun r w' => r = .returned (.tuple #[.int .i64 (((0 : Int), false)).1, .bool (((0 : Int), false)).2]) ∧ w' = w := by
  have i0 : ∀ w, (Instr.index 9 (.string ⟨#[a, b, c]⟩) (.int .i64 0)).run Try.prog w = .ok (.int .u8 (a.toNat : Int)) w := fun _ => by kernel_rfl
  have i1 : ∀ w, (Instr.index 9 (.string ⟨#[a, b, c]⟩) (.int .i64 1)).run Try.prog w = .ok (.int .u8 (b.toNat : Int)) w := fun _ => by kernel_rfl
  have i2 : ∀ w, (Instr.index 9 (.string ⟨#[a, b, c]⟩) (.int .i64 2)).run Try.prog w = .ok (.int .u8 (c.toNat : Int)) w := fun _ => by kernel_rfl
  go_enter Try.func32, Try.ntmps32
  go_wp2
  all_goals (go_ret2; exact ⟨rfl, rfl⟩)

set_option maxHeartbeats 2000000 in
theorem parse4_48 (c d : UInt8) (w : World) :
    Calls Try.prog 32 #[.string ⟨#[48, 46, c, d]⟩] w fun r w' => r = .returned (.tuple #[.int .i64 (fr [(c.toNat : Int), (d.toNat : Int)]).1, .bool (fr [(c.toNat : Int), (d.toNat : Int)]).2]) ∧ w' = w := by
  have i0 : ∀ w, (Instr.index 9 (.string ⟨#[48, 46, c, d]⟩) (.int .i64 0)).run Try.prog w = .ok (.int .u8 48) w := fun _ => by kernel_rfl
  have i1 : ∀ w, (Instr.index 9 (.string ⟨#[48, 46, c, d]⟩) (.int .i64 1)).run Try.prog w = .ok (.int .u8 46) w := fun _ => by kernel_rfl
  have i2 : ∀ w, (Instr.index 9 (.string ⟨#[48, 46, c, d]⟩) (.int .i64 2)).run Try.prog w = .ok (.int .u8 (c.toNat : Int)) w := fun _ => by kernel_rfl
  have i3 : ∀ w, (Instr.index 9 (.string ⟨#[48, 46, c, d]⟩) (.int .i64 3)).run Try.prog w = .ok (.int .u8 (d.toNat : Int)) w := fun _ => by kernel_rfl
  go_enter Try.func32, Try.ntmps32
  go_wp2
  refine wp_loop_rounds 3 ?_; rw [rounds_succ]
  go_wp2
  all_goals try (rw [rounds_succ]; go_wp2)
  all_goals try (rw [rounds_succ]; go_wp2)
  all_goals (go_ret2; exact ⟨ret_two (by first | rfl | exact fin_yes (by omega) (by omega) | exact fin_no (by omega)), rfl⟩)

set_option maxHeartbeats 2000000 in
theorem parse4_49 (c d : UInt8) (w : World) :
    Calls Try.prog 32 #[.string ⟨#[49, 46, c, d]⟩] w fun r w' => r = .returned (.tuple #[.int .i64 (on [(c.toNat : Int), (d.toNat : Int)]).1, .bool (on [(c.toNat : Int), (d.toNat : Int)]).2]) ∧ w' = w := by
  have i0 : ∀ w, (Instr.index 9 (.string ⟨#[49, 46, c, d]⟩) (.int .i64 0)).run Try.prog w = .ok (.int .u8 49) w := fun _ => by kernel_rfl
  have i1 : ∀ w, (Instr.index 9 (.string ⟨#[49, 46, c, d]⟩) (.int .i64 1)).run Try.prog w = .ok (.int .u8 46) w := fun _ => by kernel_rfl
  have i2 : ∀ w, (Instr.index 9 (.string ⟨#[49, 46, c, d]⟩) (.int .i64 2)).run Try.prog w = .ok (.int .u8 (c.toNat : Int)) w := fun _ => by kernel_rfl
  have i3 : ∀ w, (Instr.index 9 (.string ⟨#[49, 46, c, d]⟩) (.int .i64 3)).run Try.prog w = .ok (.int .u8 (d.toNat : Int)) w := fun _ => by kernel_rfl
  by_cases hc : (c.toNat : Int) = 48
  · have bc : ((c.toNat : Int) != 48) = false := by simp [hc]
    by_cases hd : (d.toNat : Int) = 48
    · have bd : ((d.toNat : Int) != 48) = false := by simp [hd]
      go_enter Try.func32, Try.ntmps32
      go_wp2
      refine wp_loop_rounds 3 ?_; rw [rounds_succ]
      go_wp2
      all_goals try (rw [rounds_succ]; go_wp2)
      all_goals try (rw [rounds_succ]; go_wp2)
      all_goals (go_ret2; exact ⟨ret_two (by first | rfl | exact fin_yes (by omega) (by omega) | exact fin_no (by omega)), rfl⟩)
    · have bd : ((d.toNat : Int) != 48) = true := by simp [hd]
      go_enter Try.func32, Try.ntmps32
      go_wp2
      refine wp_loop_rounds 3 ?_; rw [rounds_succ]
      go_wp2
      all_goals try (rw [rounds_succ]; go_wp2)
      all_goals try (rw [rounds_succ]; go_wp2)
      all_goals (go_ret2; exact ⟨ret_two (by first | rfl | exact fin_yes (by omega) (by omega) | exact fin_no (by omega)), rfl⟩)
  · have bc : ((c.toNat : Int) != 48) = true := by simp [hc]
    go_enter Try.func32, Try.ntmps32
    go_wp2
    refine wp_loop_rounds 3 ?_; rw [rounds_succ]
    go_wp2
    all_goals try (rw [rounds_succ]; go_wp2)
    all_goals try (rw [rounds_succ]; go_wp2)
    all_goals (go_ret2; exact ⟨ret_two (by first | rfl | exact fin_yes (by omega) (by omega) | exact fin_no (by omega)), rfl⟩)

set_option maxHeartbeats 2000000 in
theorem parse4_x (a c d : UInt8) (w : World) (h0 : ((a.toNat : Int) != 48) = true) (h1 : ((a.toNat : Int) != 49) = true) :
    Calls Try.prog 32 #[.string ⟨#[a, 46, c, d]⟩] w fun r w' => r = .returned (.tuple #[.int .i64 (((0 : Int), false)).1, .bool (((0 : Int), false)).2]) ∧ w' = w := by
  have i0 : ∀ w, (Instr.index 9 (.string ⟨#[a, 46, c, d]⟩) (.int .i64 0)).run Try.prog w = .ok (.int .u8 (a.toNat : Int)) w := fun _ => by kernel_rfl
  have i1 : ∀ w, (Instr.index 9 (.string ⟨#[a, 46, c, d]⟩) (.int .i64 1)).run Try.prog w = .ok (.int .u8 46) w := fun _ => by kernel_rfl
  have i2 : ∀ w, (Instr.index 9 (.string ⟨#[a, 46, c, d]⟩) (.int .i64 2)).run Try.prog w = .ok (.int .u8 (c.toNat : Int)) w := fun _ => by kernel_rfl
  have i3 : ∀ w, (Instr.index 9 (.string ⟨#[a, 46, c, d]⟩) (.int .i64 3)).run Try.prog w = .ok (.int .u8 (d.toNat : Int)) w := fun _ => by kernel_rfl
  go_enter Try.func32, Try.ntmps32
  go_wp2
  all_goals (go_ret2; exact ⟨rfl, rfl⟩)

set_option maxHeartbeats 2000000 in
theorem parse4_y (a b c d : UInt8) (w : World) (h0 : ((b.toNat : Int) != 46) = true) :
    Calls Try.prog 32 #[.string ⟨#[a, b, c, d]⟩] w fun r w' => r = .returned (.tuple #[.int .i64 (((0 : Int), false)).1, .bool (((0 : Int), false)).2]) ∧ w' = w := by
  have i0 : ∀ w, (Instr.index 9 (.string ⟨#[a, b, c, d]⟩) (.int .i64 0)).run Try.prog w = .ok (.int .u8 (a.toNat : Int)) w := fun _ => by kernel_rfl
  have i1 : ∀ w, (Instr.index 9 (.string ⟨#[a, b, c, d]⟩) (.int .i64 1)).run Try.prog w = .ok (.int .u8 (b.toNat : Int)) w := fun _ => by kernel_rfl
  have i2 : ∀ w, (Instr.index 9 (.string ⟨#[a, b, c, d]⟩) (.int .i64 2)).run Try.prog w = .ok (.int .u8 (c.toNat : Int)) w := fun _ => by kernel_rfl
  have i3 : ∀ w, (Instr.index 9 (.string ⟨#[a, b, c, d]⟩) (.int .i64 3)).run Try.prog w = .ok (.int .u8 (d.toNat : Int)) w := fun _ => by kernel_rfl
  go_enter Try.func32, Try.ntmps32
  go_wp2
  all_goals (go_ret2; exact ⟨rfl, rfl⟩)

set_option maxHeartbeats 2000000 in
theorem parse5_48 (c d e : UInt8) (w : World) :
    Calls Try.prog 32 #[.string ⟨#[48, 46, c, d, e]⟩] w fun r w' => r = .returned (.tuple #[.int .i64 (fr [(c.toNat : Int), (d.toNat : Int), (e.toNat : Int)]).1, .bool (fr [(c.toNat : Int), (d.toNat : Int), (e.toNat : Int)]).2]) ∧ w' = w := by
  have i0 : ∀ w, (Instr.index 9 (.string ⟨#[48, 46, c, d, e]⟩) (.int .i64 0)).run Try.prog w = .ok (.int .u8 48) w := fun _ => by kernel_rfl
  have i1 : ∀ w, (Instr.index 9 (.string ⟨#[48, 46, c, d, e]⟩) (.int .i64 1)).run Try.prog w = .ok (.int .u8 46) w := fun _ => by kernel_rfl
  have i2 : ∀ w, (Instr.index 9 (.string ⟨#[48, 46, c, d, e]⟩) (.int .i64 2)).run Try.prog w = .ok (.int .u8 (c.toNat : Int)) w := fun _ => by kernel_rfl
  have i3 : ∀ w, (Instr.index 9 (.string ⟨#[48, 46, c, d, e]⟩) (.int .i64 3)).run Try.prog w = .ok (.int .u8 (d.toNat : Int)) w := fun _ => by kernel_rfl
  have i4 : ∀ w, (Instr.index 9 (.string ⟨#[48, 46, c, d, e]⟩) (.int .i64 4)).run Try.prog w = .ok (.int .u8 (e.toNat : Int)) w := fun _ => by kernel_rfl
  go_enter Try.func32, Try.ntmps32
  go_wp2
  refine wp_loop_rounds 4 ?_; rw [rounds_succ]
  go_wp2
  all_goals try (rw [rounds_succ]; go_wp2)
  all_goals try (rw [rounds_succ]; go_wp2)
  all_goals try (rw [rounds_succ]; go_wp2)
  all_goals (go_ret2; exact ⟨ret_two (by first | rfl | exact fin_yes (by omega) (by omega) | exact fin_no (by omega)), rfl⟩)

set_option maxHeartbeats 2000000 in
theorem parse5_49 (c d e : UInt8) (w : World) :
    Calls Try.prog 32 #[.string ⟨#[49, 46, c, d, e]⟩] w fun r w' => r = .returned (.tuple #[.int .i64 (on [(c.toNat : Int), (d.toNat : Int), (e.toNat : Int)]).1, .bool (on [(c.toNat : Int), (d.toNat : Int), (e.toNat : Int)]).2]) ∧ w' = w := by
  have i0 : ∀ w, (Instr.index 9 (.string ⟨#[49, 46, c, d, e]⟩) (.int .i64 0)).run Try.prog w = .ok (.int .u8 49) w := fun _ => by kernel_rfl
  have i1 : ∀ w, (Instr.index 9 (.string ⟨#[49, 46, c, d, e]⟩) (.int .i64 1)).run Try.prog w = .ok (.int .u8 46) w := fun _ => by kernel_rfl
  have i2 : ∀ w, (Instr.index 9 (.string ⟨#[49, 46, c, d, e]⟩) (.int .i64 2)).run Try.prog w = .ok (.int .u8 (c.toNat : Int)) w := fun _ => by kernel_rfl
  have i3 : ∀ w, (Instr.index 9 (.string ⟨#[49, 46, c, d, e]⟩) (.int .i64 3)).run Try.prog w = .ok (.int .u8 (d.toNat : Int)) w := fun _ => by kernel_rfl
  have i4 : ∀ w, (Instr.index 9 (.string ⟨#[49, 46, c, d, e]⟩) (.int .i64 4)).run Try.prog w = .ok (.int .u8 (e.toNat : Int)) w := fun _ => by kernel_rfl
  by_cases hc : (c.toNat : Int) = 48
  · have bc : ((c.toNat : Int) != 48) = false := by simp [hc]
    by_cases hd : (d.toNat : Int) = 48
    · have bd : ((d.toNat : Int) != 48) = false := by simp [hd]
      by_cases he : (e.toNat : Int) = 48
      · have be : ((e.toNat : Int) != 48) = false := by simp [he]
        go_enter Try.func32, Try.ntmps32
        go_wp2
        refine wp_loop_rounds 4 ?_; rw [rounds_succ]
        go_wp2
        all_goals try (rw [rounds_succ]; go_wp2)
        all_goals try (rw [rounds_succ]; go_wp2)
        all_goals try (rw [rounds_succ]; go_wp2)
        all_goals (go_ret2; exact ⟨ret_two (by first | rfl | exact fin_yes (by omega) (by omega) | exact fin_no (by omega)), rfl⟩)
      · have be : ((e.toNat : Int) != 48) = true := by simp [he]
        go_enter Try.func32, Try.ntmps32
        go_wp2
        refine wp_loop_rounds 4 ?_; rw [rounds_succ]
        go_wp2
        all_goals try (rw [rounds_succ]; go_wp2)
        all_goals try (rw [rounds_succ]; go_wp2)
        all_goals try (rw [rounds_succ]; go_wp2)
        all_goals (go_ret2; exact ⟨ret_two (by first | rfl | exact fin_yes (by omega) (by omega) | exact fin_no (by omega)), rfl⟩)
    · have bd : ((d.toNat : Int) != 48) = true := by simp [hd]
      go_enter Try.func32, Try.ntmps32
      go_wp2
      refine wp_loop_rounds 4 ?_; rw [rounds_succ]
      go_wp2
      all_goals try (rw [rounds_succ]; go_wp2)
      all_goals try (rw [rounds_succ]; go_wp2)
      all_goals try (rw [rounds_succ]; go_wp2)
      all_goals (go_ret2; exact ⟨ret_two (by first | rfl | exact fin_yes (by omega) (by omega) | exact fin_no (by omega)), rfl⟩)
  · have bc : ((c.toNat : Int) != 48) = true := by simp [hc]
    go_enter Try.func32, Try.ntmps32
    go_wp2
    refine wp_loop_rounds 4 ?_; rw [rounds_succ]
    go_wp2
    all_goals try (rw [rounds_succ]; go_wp2)
    all_goals try (rw [rounds_succ]; go_wp2)
    all_goals try (rw [rounds_succ]; go_wp2)
    all_goals (go_ret2; exact ⟨ret_two (by first | rfl | exact fin_yes (by omega) (by omega) | exact fin_no (by omega)), rfl⟩)

set_option maxHeartbeats 2000000 in
theorem parse5_x (a c d e : UInt8) (w : World) (h0 : ((a.toNat : Int) != 48) = true) (h1 : ((a.toNat : Int) != 49) = true) :
    Calls Try.prog 32 #[.string ⟨#[a, 46, c, d, e]⟩] w fun r w' => r = .returned (.tuple #[.int .i64 (((0 : Int), false)).1, .bool (((0 : Int), false)).2]) ∧ w' = w := by
  have i0 : ∀ w, (Instr.index 9 (.string ⟨#[a, 46, c, d, e]⟩) (.int .i64 0)).run Try.prog w = .ok (.int .u8 (a.toNat : Int)) w := fun _ => by kernel_rfl
  have i1 : ∀ w, (Instr.index 9 (.string ⟨#[a, 46, c, d, e]⟩) (.int .i64 1)).run Try.prog w = .ok (.int .u8 46) w := fun _ => by kernel_rfl
  have i2 : ∀ w, (Instr.index 9 (.string ⟨#[a, 46, c, d, e]⟩) (.int .i64 2)).run Try.prog w = .ok (.int .u8 (c.toNat : Int)) w := fun _ => by kernel_rfl
  have i3 : ∀ w, (Instr.index 9 (.string ⟨#[a, 46, c, d, e]⟩) (.int .i64 3)).run Try.prog w = .ok (.int .u8 (d.toNat : Int)) w := fun _ => by kernel_rfl
  have i4 : ∀ w, (Instr.index 9 (.string ⟨#[a, 46, c, d, e]⟩) (.int .i64 4)).run Try.prog w = .ok (.int .u8 (e.toNat : Int)) w := fun _ => by kernel_rfl
  go_enter Try.func32, Try.ntmps32
  go_wp2
  all_goals (go_ret2; exact ⟨rfl, rfl⟩)

set_option maxHeartbeats 2000000 in
theorem parse5_y (a b c d e : UInt8) (w : World) (h0 : ((b.toNat : Int) != 46) = true) :
    Calls Try.prog 32 #[.string ⟨#[a, b, c, d, e]⟩] w fun r w' => r = .returned (.tuple #[.int .i64 (((0 : Int), false)).1, .bool (((0 : Int), false)).2]) ∧ w' = w := by
  have i0 : ∀ w, (Instr.index 9 (.string ⟨#[a, b, c, d, e]⟩) (.int .i64 0)).run Try.prog w = .ok (.int .u8 (a.toNat : Int)) w := fun _ => by kernel_rfl
  have i1 : ∀ w, (Instr.index 9 (.string ⟨#[a, b, c, d, e]⟩) (.int .i64 1)).run Try.prog w = .ok (.int .u8 (b.toNat : Int)) w := fun _ => by kernel_rfl
  have i2 : ∀ w, (Instr.index 9 (.string ⟨#[a, b, c, d, e]⟩) (.int .i64 2)).run Try.prog w = .ok (.int .u8 (c.toNat : Int)) w := fun _ => by kernel_rfl
  have i3 : ∀ w, (Instr.index 9 (.string ⟨#[a, b, c, d, e]⟩) (.int .i64 3)).run Try.prog w = .ok (.int .u8 (d.toNat : Int)) w := fun _ => by kernel_rfl
  have i4 : ∀ w, (Instr.index 9 (.string ⟨#[a, b, c, d, e]⟩) (.int .i64 4)).run Try.prog w = .ok (.int .u8 (e.toNat : Int)) w := fun _ => by kernel_rfl
  go_enter Try.func32, Try.ntmps32
  go_wp2
  all_goals (go_ret2; exact ⟨rfl, rfl⟩)

set_option maxHeartbeats 2000000 in
theorem parse0 (w : World) :
    Calls Try.prog 32 #[.string ⟨#[]⟩] w fun r w' => r = .returned (.tuple #[.int .i64 0, .bool false]) ∧ w' = w := by
  go_enter Try.func32, Try.ntmps32
  go_wp2
  all_goals (go_ret2; exact ⟨rfl, rfl⟩)

set_option maxHeartbeats 2000000 in
theorem parse6 (s : ByteArray) (w : World) (h : 6 ≤ s.size) (h0 : s.toList.isEmpty = false) :
    Calls Try.prog 32 #[.string s] w fun r w' => r = .returned (.tuple #[.int .i64 0, .bool false]) ∧ w' = w := by
  have h1 : (5 : Int) < (s.size : Int) := by omega
  go_enter Try.func32, Try.ntmps32
  go_wp2
  all_goals (go_ret2; exact ⟨rfl, rfl⟩)

end Go.Proofs.Qxb6603176a

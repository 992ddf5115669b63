import Derived.Test.Qxb6603176aModel
namespace Go.Proofs.Qxb6603176a
open Go.RowKit

theorem hide {p : Prop} (h : p) : Hid p := h
theorem unhide {p : Prop} (h : Hid p) : p := h

/-- The bytes as numbers. -/
def nums (s : ByteArray) : List Int := s.data.toList.map fun x => (x.toNat : Int)

theorem ne_num {a : UInt8} {k : Nat} {n : UInt8} (hn : n.toNat = k) (h : ¬ a = n) : ¬ (a.toNat : Int) = (k : Int) := by
  intro e
  exact h (UInt8.toNat_inj.1 (by omega))

theorem size6 {a b c d e f : UInt8} {r : List UInt8} : 6 ≤ (⟨⟨a :: b :: c :: d :: e :: f :: r⟩⟩ : ByteArray).size := by
  show 6 ≤ (a :: b :: c :: d :: e :: f :: r).length
  simp

theorem fr_long (c d e f : Int) (r : List Int) : fr (c :: d :: e :: f :: r) = (0, false) := rfl
theorem on_long (c d e f : Int) (r : List Int) : on (c :: d :: e :: f :: r) = (0, false) := rfl

theorem wt_long (a b c d e f : Int) (r : List Int) : wt (a :: b :: c :: d :: e :: f :: r) = (0, false) := by
  show (if b = 46 then (if a = 48 then fr (c :: d :: e :: f :: r) else if a = 49 then on (c :: d :: e :: f :: r) else (0, false)) else (0, false)) = _
  rw [fr_long, on_long]
  simp

theorem wt_other (a : Int) (r : List Int) (h0 : ¬ a = 48) (h1 : ¬ a = 49) : wt (a :: 46 :: r) = (0, false) := by simp [wt, h0, h1]
theorem wt_dot (a b : Int) (r : List Int) (h : ¬ b = 46) : wt (a :: b :: r) = (0, false) := by simp [wt, h]
theorem wt_one (a : Int) (h0 : ¬ a = 48) (h1 : ¬ a = 49) : wt [a] = (0, false) := by simp [wt, h0, h1]

theorem parse_any (s : ByteArray) (w : World) : Calls Try.prog 32 #[.string s] w fun r w' => r = .returned (.tuple #[.int .i64 (wt (nums s)).1, .bool (wt (nums s)).2]) ∧ w' = w := by
  obtain ⟨⟨l⟩⟩ := s
  match l with
  | [] => exact parse0 w
  | [a] =>
    by_cases h0 : a = 48
    · subst h0; exact parse1_48 w
    · by_cases h1 : a = 49
      · subst h1; exact parse1_49 w
      · have k0 := ne_num (k := 48) rfl h0
        have k1 := ne_num (k := 49) rfl h1
        show Calls Try.prog 32 _ w fun r w' => r = .returned (.tuple #[.int .i64 (wt [(a.toNat : Int)]).1, .bool (wt [(a.toNat : Int)]).2]) ∧ w' = w
        rw [wt_one _ k0 k1]
        exact parse1_x a w (by rw [bne_iff_ne]; exact k0) (by rw [bne_iff_ne]; exact k1)
  | [a, b] =>
    by_cases hb : b = 46
    · subst hb
      by_cases h0 : a = 48
      · subst h0; exact parse2_48  w
      · by_cases h1 : a = 49
        · subst h1; exact parse2_49  w
        · have k0 := ne_num (k := 48) rfl h0
          have k1 := ne_num (k := 49) rfl h1
          show Calls Try.prog 32 _ w fun r w' => r = .returned (.tuple #[.int .i64 (wt [(a.toNat : Int), 46]).1, .bool (wt [(a.toNat : Int), 46]).2]) ∧ w' = w
          rw [wt_other _ _ k0 k1]
          exact parse2_x a  w (by rw [bne_iff_ne]; exact k0) (by rw [bne_iff_ne]; exact k1)
    · have kb := ne_num (k := 46) rfl hb
      show Calls Try.prog 32 _ w fun r w' => r = .returned (.tuple #[.int .i64 (wt [(a.toNat : Int), (b.toNat : Int)]).1, .bool (wt [(a.toNat : Int), (b.toNat : Int)]).2]) ∧ w' = w
      rw [wt_dot _ _ _ kb]
      exact parse2_y a b  w (by rw [bne_iff_ne]; exact kb)
  | [a, b, c] =>
    by_cases hb : b = 46
    · subst hb
      by_cases h0 : a = 48
      · subst h0; exact parse3_48 c w
      · by_cases h1 : a = 49
        · subst h1; exact parse3_49 c w
        · have k0 := ne_num (k := 48) rfl h0
          have k1 := ne_num (k := 49) rfl h1
          show Calls Try.prog 32 _ w fun r w' => r = .returned (.tuple #[.int .i64 (wt [(a.toNat : Int), 46, (c.toNat : Int)]).1, .bool (wt [(a.toNat : Int), 46, (c.toNat : Int)]).2]) ∧ w' = w
          rw [wt_other _ _ k0 k1]
          exact parse3_x a c w (by rw [bne_iff_ne]; exact k0) (by rw [bne_iff_ne]; exact k1)
    · have kb := ne_num (k := 46) rfl hb
      show Calls Try.prog 32 _ w fun r w' => r = .returned (.tuple #[.int .i64 (wt [(a.toNat : Int), (b.toNat : Int), (c.toNat : Int)]).1, .bool (wt [(a.toNat : Int), (b.toNat : Int), (c.toNat : Int)]).2]) ∧ w' = w
      rw [wt_dot _ _ _ kb]
      exact parse3_y a b c w (by rw [bne_iff_ne]; exact kb)
  | [a, b, c, d] =>
    by_cases hb : b = 46
    · subst hb
      by_cases h0 : a = 48
      · subst h0; exact parse4_48 c d w
      · by_cases h1 : a = 49
        · subst h1; exact parse4_49 c d w
        · have k0 := ne_num (k := 48) rfl h0
          have k1 := ne_num (k := 49) rfl h1
          show Calls Try.prog 32 _ w fun r w' => r = .returned (.tuple #[.int .i64 (wt [(a.toNat : Int), 46, (c.toNat : Int), (d.toNat : Int)]).1, .bool (wt [(a.toNat : Int), 46, (c.toNat : Int), (d.toNat : Int)]).2]) ∧ w' = w
          rw [wt_other _ _ k0 k1]
          exact parse4_x a c d w (by rw [bne_iff_ne]; exact k0) (by rw [bne_iff_ne]; exact k1)
    · have kb := ne_num (k := 46) rfl hb
      show Calls Try.prog 32 _ w fun r w' => r = .returned (.tuple #[.int .i64 (wt [(a.toNat : Int), (b.toNat : Int), (c.toNat : Int), (d.toNat : Int)]).1, .bool (wt [(a.toNat : Int), (b.toNat : Int), (c.toNat : Int), (d.toNat : Int)]).2]) ∧ w' = w
      rw [wt_dot _ _ _ kb]
      exact parse4_y a b c d w (by rw [bne_iff_ne]; exact kb)
  | [a, b, c, d, e] =>
    by_cases hb : b = 46
    · subst hb
      by_cases h0 : a = 48
      · subst h0; exact parse5_48 c d e w
      · by_cases h1 : a = 49
        · subst h1; exact parse5_49 c d e w
        · have k0 := ne_num (k := 48) rfl h0
          have k1 := ne_num (k := 49) rfl h1
          show Calls Try.prog 32 _ w fun r w' => r = .returned (.tuple #[.int .i64 (wt [(a.toNat : Int), 46, (c.toNat : Int), (d.toNat : Int), (e.toNat : Int)]).1, .bool (wt [(a.toNat : Int), 46, (c.toNat : Int), (d.toNat : Int), (e.toNat : Int)]).2]) ∧ w' = w
          rw [wt_other _ _ k0 k1]
          exact parse5_x a c d e w (by rw [bne_iff_ne]; exact k0) (by rw [bne_iff_ne]; exact k1)
    · have kb := ne_num (k := 46) rfl hb
      show Calls Try.prog 32 _ w fun r w' => r = .returned (.tuple #[.int .i64 (wt [(a.toNat : Int), (b.toNat : Int), (c.toNat : Int), (d.toNat : Int), (e.toNat : Int)]).1, .bool (wt [(a.toNat : Int), (b.toNat : Int), (c.toNat : Int), (d.toNat : Int), (e.toNat : Int)]).2]) ∧ w' = w
      rw [wt_dot _ _ _ kb]
      exact parse5_y a b c d e w (by rw [bne_iff_ne]; exact kb)
  | a :: b :: c :: d :: e :: f :: r =>
    have e1 : wt (nums ⟨⟨a :: b :: c :: d :: e :: f :: r⟩⟩) = (0, false) := wt_long _ _ _ _ _ _ _
    rw [e1]
    exact parse6 _ w size6 (by rw [ByteArray.toList_eq]; rfl)

theorem model_any (s : ByteArray) (w : World) : Calls Try.prog 13 #[.string s] w fun r w' => r = .returned (.tuple #[.int .i64 (wt (nums s)).1, .bool (wt (nums s)).2]) ∧ w' = w := by
  obtain ⟨⟨l⟩⟩ := s
  match l with
  | [] => exact model0 w
  | [a] =>
    by_cases h0 : a = 48
    · subst h0; exact model1_48 w
    · by_cases h1 : a = 49
      · subst h1; exact model1_49 w
      · have k0 := ne_num (k := 48) rfl h0
        have k1 := ne_num (k := 49) rfl h1
        show Calls Try.prog 13 _ w fun r w' => r = .returned (.tuple #[.int .i64 (wt [(a.toNat : Int)]).1, .bool (wt [(a.toNat : Int)]).2]) ∧ w' = w
        rw [wt_one _ k0 k1]
        exact model1_x a w (by simp [h0]) (by simp [h1])
  | [a, b] =>
    by_cases hb : b = 46
    · subst hb
      by_cases h0 : a = 48
      · subst h0; exact model2_48  w
      · by_cases h1 : a = 49
        · subst h1; exact model2_49  w
        · have k0 := ne_num (k := 48) rfl h0
          have k1 := ne_num (k := 49) rfl h1
          show Calls Try.prog 13 _ w fun r w' => r = .returned (.tuple #[.int .i64 (wt [(a.toNat : Int), 46]).1, .bool (wt [(a.toNat : Int), 46]).2]) ∧ w' = w
          rw [wt_other _ _ k0 k1]
          exact model2_x a  w (by rw [bne_iff_ne]; exact k0) (by rw [beq_eq_false_iff_ne]; exact k1)
    · have kb := ne_num (k := 46) rfl hb
      show Calls Try.prog 13 _ w fun r w' => r = .returned (.tuple #[.int .i64 (wt [(a.toNat : Int), (b.toNat : Int)]).1, .bool (wt [(a.toNat : Int), (b.toNat : Int)]).2]) ∧ w' = w
      rw [wt_dot _ _ _ kb]
      exact model2_y a b  w (by rw [bne_iff_ne]; exact kb)
  | [a, b, c] =>
    by_cases hb : b = 46
    · subst hb
      by_cases h0 : a = 48
      · subst h0; exact model3_48 c w
      · by_cases h1 : a = 49
        · subst h1; exact model3_49 c w
        · have k0 := ne_num (k := 48) rfl h0
          have k1 := ne_num (k := 49) rfl h1
          show Calls Try.prog 13 _ w fun r w' => r = .returned (.tuple #[.int .i64 (wt [(a.toNat : Int), 46, (c.toNat : Int)]).1, .bool (wt [(a.toNat : Int), 46, (c.toNat : Int)]).2]) ∧ w' = w
          rw [wt_other _ _ k0 k1]
          exact model3_x a c w (by rw [bne_iff_ne]; exact k0) (by rw [beq_eq_false_iff_ne]; exact k1)
    · have kb := ne_num (k := 46) rfl hb
      show Calls Try.prog 13 _ w fun r w' => r = .returned (.tuple #[.int .i64 (wt [(a.toNat : Int), (b.toNat : Int), (c.toNat : Int)]).1, .bool (wt [(a.toNat : Int), (b.toNat : Int), (c.toNat : Int)]).2]) ∧ w' = w
      rw [wt_dot _ _ _ kb]
      exact model3_y a b c w (by rw [bne_iff_ne]; exact kb)
  | [a, b, c, d] =>
    by_cases hb : b = 46
    · subst hb
      by_cases h0 : a = 48
      · subst h0; exact model4_48 c d w
      · by_cases h1 : a = 49
        · subst h1; exact model4_49 c d w
        · have k0 := ne_num (k := 48) rfl h0
          have k1 := ne_num (k := 49) rfl h1
          show Calls Try.prog 13 _ w fun r w' => r = .returned (.tuple #[.int .i64 (wt [(a.toNat : Int), 46, (c.toNat : Int), (d.toNat : Int)]).1, .bool (wt [(a.toNat : Int), 46, (c.toNat : Int), (d.toNat : Int)]).2]) ∧ w' = w
          rw [wt_other _ _ k0 k1]
          exact model4_x a c d w (by rw [bne_iff_ne]; exact k0) (by rw [beq_eq_false_iff_ne]; exact k1)
    · have kb := ne_num (k := 46) rfl hb
      show Calls Try.prog 13 _ w fun r w' => r = .returned (.tuple #[.int .i64 (wt [(a.toNat : Int), (b.toNat : Int), (c.toNat : Int), (d.toNat : Int)]).1, .bool (wt [(a.toNat : Int), (b.toNat : Int), (c.toNat : Int), (d.toNat : Int)]).2]) ∧ w' = w
      rw [wt_dot _ _ _ kb]
      exact model4_y a b c d w (by rw [bne_iff_ne]; exact kb)
  | [a, b, c, d, e] =>
    by_cases hb : b = 46
    · subst hb
      by_cases h0 : a = 48
      · subst h0; exact model5_48 c d e w
      · by_cases h1 : a = 49
        · subst h1; exact model5_49 c d e w
        · have k0 := ne_num (k := 48) rfl h0
          have k1 := ne_num (k := 49) rfl h1
          show Calls Try.prog 13 _ w fun r w' => r = .returned (.tuple #[.int .i64 (wt [(a.toNat : Int), 46, (c.toNat : Int), (d.toNat : Int), (e.toNat : Int)]).1, .bool (wt [(a.toNat : Int), 46, (c.toNat : Int), (d.toNat : Int), (e.toNat : Int)]).2]) ∧ w' = w
          rw [wt_other _ _ k0 k1]
          exact model5_x a c d e w (by rw [bne_iff_ne]; exact k0) (by rw [beq_eq_false_iff_ne]; exact k1)
    · have kb := ne_num (k := 46) rfl hb
      show Calls Try.prog 13 _ w fun r w' => r = .returned (.tuple #[.int .i64 (wt [(a.toNat : Int), (b.toNat : Int), (c.toNat : Int), (d.toNat : Int), (e.toNat : Int)]).1, .bool (wt [(a.toNat : Int), (b.toNat : Int), (c.toNat : Int), (d.toNat : Int), (e.toNat : Int)]).2]) ∧ w' = w
      rw [wt_dot _ _ _ kb]
      exact model5_y a b c d e w (by rw [bne_iff_ne]; exact kb)
  | a :: b :: c :: d :: e :: f :: r =>
    have e1 : wt (nums ⟨⟨a :: b :: c :: d :: e :: f :: r⟩⟩) = (0, false) := wt_long _ _ _ _ _ _ _
    rw [e1]
    exact model6 _ w size6 (by rw [ByteArray.toList_eq]; simp) (by rw [ByteArray.toList_eq]; simp)

set_option maxHeartbeats 400000 in
/-- ZZParseWeight. -/
theorem zzparse_any (s : ByteArray) (w : World) : Calls Try.prog 12 #[.string s] w fun r w' => r = .returned (.tuple #[.int .i64 (wt (nums s)).1, .bool (wt (nums s)).2]) ∧ w' = w := by
  have H := hide (parse_any s w)
  go_enter Try.func12, Try.ntmps12
  go_wp2_with fail
  refine (unhide H).mono ?_
  rintro e w' ⟨rfl, rfl⟩
  go_wp2_with fail
  go_ret2
  exact ⟨rfl, rfl⟩

end Go.Proofs.Qxb6603176a

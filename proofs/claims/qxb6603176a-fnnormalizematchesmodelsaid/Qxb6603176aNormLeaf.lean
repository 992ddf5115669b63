import Derived.Test.Qxb6603176aRows
import Derived.Test.Qxb6603176aNormPlain
import Derived.WalkKit
import Derived.WalkSpells
import Derived.WalkLawsBesides
import Derived.Deep.OwnRows
import Derived.Lib.ConvBytes
import Derived.Laws.BytesArg
namespace Go.Proofs.Qxb6603176a.Norm
open Go.RowKit

theorem hide {p : Prop} (h : p) : Hid p := h
theorem unhide {p : Prop} (h : Hid p) : p := h
theorem ret_int {k : IntKind} {a b : Int} (h : a = b) : Ending.returned (.int k a) = .returned (.int k b) := by rw [h]

theorem bits_up_all : ∀ k : Fin 256, ((97 ≤ k.val ∧ k.val ≤ 122) ∨ (65 ≤ k.val ∧ k.val ≤ 90)) → bits BinOp.andNot IntKind.u8 (k.val : Int) 32 = if 97 ≤ k.val ∧ k.val ≤ 122 then (k.val : Int) - 32 else (k.val : Int) := by decide +kernel
theorem bits_low_all : ∀ k : Fin 256, ((97 ≤ k.val ∧ k.val ≤ 122) ∨ (65 ≤ k.val ∧ k.val ≤ 90)) → bits BinOp.or IntKind.u8 (k.val : Int) 32 = if 65 ≤ k.val ∧ k.val ≤ 90 then (k.val : Int) + 32 else (k.val : Int) := by decide +kernel

theorem bits_up {c : Int} (h : letter c) : bits BinOp.andNot IntKind.u8 c 32 = up c := by
  have hc : 0 ≤ c ∧ c ≤ 255 := by rcases h with ⟨h1, h2⟩ | ⟨h1, h2⟩ <;> omega
  obtain ⟨k, rfl⟩ := Int.eq_ofNat_of_zero_le hc.1
  have := bits_up_all ⟨k, by omega⟩ (by unfold letter at h; simp only []; omega)
  simp only [] at this
  rw [this]
  unfold up
  split <;> split <;> omega
theorem bits_low {c : Int} (h : letter c) : bits BinOp.or IntKind.u8 c 32 = low c := by
  have hc : 0 ≤ c ∧ c ≤ 255 := by rcases h with ⟨h1, h2⟩ | ⟨h1, h2⟩ <;> omega
  obtain ⟨k, rfl⟩ := Int.eq_ofNat_of_zero_le hc.1
  have := bits_low_all ⟨k, by omega⟩ (by unfold letter at h; simp only []; omega)
  simp only [] at this
  rw [this]
  unfold low
  split <;> split <;> omega

theorem val_up {c : Int} {m j x : Nat} {ext : Bool} (h : 0 < x ∧ ext = false ∧ (m = 2 ∨ (m = 4 ∧ j = 0))) : val c m j x ext = up c := by unfold val; rw [if_pos h]
theorem val_low {c : Int} {m j x : Nat} {ext : Bool} (h : ¬ (0 < x ∧ ext = false ∧ (m = 2 ∨ (m = 4 ∧ j = 0)))) : val c m j x ext = low c := by unfold val; rw [if_neg h]
theorem val_other {c : Int} {m j x : Nat} {ext : Bool} (h : ¬ letter c) : val c m j x ext = c := by
  unfold letter at h
  unfold val up low
  split
  · rw [if_neg (by omega)]
  · rw [if_neg (by omega)]

set_option maxHeartbeats 2000000 in
/-- caseLetter, at a letter. -/
theorem case_letter (c : Int) (m j x : Nat) (ext : Bool) (w : World) (hl : letter c) :
    Calls Try.prog 35 #[.int .u8 c, .int .i64 m, .int .i64 j, .int .i64 x, .bool ext] w fun e w' => e = .returned (.int .u8 (val c m j x ext)) ∧ w = w' := by
  have BU := hide (bits_up hl)
  have BL := hide (bits_low hl)
  unfold letter at hl
  by_cases hu : 0 < x ∧ ext = false ∧ (m = 2 ∨ (m = 4 ∧ j = 0))
  · have HV := hide (val_up (c := c) hu)
    obtain ⟨k1, rfl, k3⟩ := hu
    have g1 : (0 : Int) < (x : Int) := by omega
    rcases hl with ⟨l1, l2⟩ | ⟨l1, l2⟩
    all_goals
      by_cases hm2 : m = 2
      · have b1 : ((m : Int) == 2) = true := by simp; omega
        clear k3 hm2
        go_enter Try.func35, Try.ntmps35
        go_wp2
        go_ret
        exact ⟨ret_int ((unhide BU).trans (unhide HV).symm), rfl⟩
      · have b1 : ((m : Int) == 2) = false := by simp; omega
        have b2 : ((m : Int) == 4) = true := by simp; omega
        have b3 : ((j : Int) == 0) = true := by simp; omega
        clear k3 hm2
        go_enter Try.func35, Try.ntmps35
        go_wp2
        go_ret
        exact ⟨ret_int ((unhide BU).trans (unhide HV).symm), rfl⟩
  · have HV := hide (val_low (c := c) hu)
    have HU := hide hu
    clear hu
    rcases hl with ⟨l1, l2⟩ | ⟨l1, l2⟩
    all_goals
      by_cases hx0 : 0 < x
      · have g1 : (0 : Int) < (x : Int) := by omega
        cases ext
        · have hm2 : m ≠ 2 := fun h => unhide HU ⟨hx0, rfl, .inl h⟩
          have b1 : ((m : Int) == 2) = false := by simp; omega
          by_cases hm4 : m = 4
          · have b2 : ((m : Int) == 4) = true := by simp; omega
            have hj0 : j ≠ 0 := fun h => unhide HU ⟨hx0, rfl, .inr ⟨hm4, h⟩⟩
            have b3 : ((j : Int) == 0) = false := by simp; omega
            clear hm2 hm4 hj0
            go_enter Try.func35, Try.ntmps35
            go_wp2
            go_ret
            exact ⟨ret_int ((unhide BL).trans (unhide HV).symm), rfl⟩
          · have b2 : ((m : Int) == 4) = false := by simp; omega
            clear hm2 hm4
            go_enter Try.func35, Try.ntmps35
            go_wp2
            go_ret
            exact ⟨ret_int ((unhide BL).trans (unhide HV).symm), rfl⟩
        · go_enter Try.func35, Try.ntmps35
          go_wp2
          go_ret
          exact ⟨ret_int ((unhide BL).trans (unhide HV).symm), rfl⟩
      · have g1 : ¬ (0 : Int) < (x : Int) := by omega
        go_enter Try.func35, Try.ntmps35
        go_wp2
        go_ret
        exact ⟨ret_int ((unhide BL).trans (unhide HV).symm), rfl⟩

set_option maxHeartbeats 2000000 in
/-- caseLetter, at another byte. -/
theorem case_other (c : Int) (m j x : Nat) (ext : Bool) (w : World) (hl : ¬ letter c) :
    Calls Try.prog 35 #[.int .u8 c, .int .i64 m, .int .i64 j, .int .i64 x, .bool ext] w fun e w' => e = .returned (.int .u8 (val c m j x ext)) ∧ w = w' := by
  have HV := hide (val_other (m := m) (j := j) (x := x) (ext := ext) hl)
  unfold letter at hl
  have hr : c < 65 ∨ (90 < c ∧ c < 97) ∨ 122 < c := by omega
  clear hl
  rcases hr with h | ⟨h, h'⟩ | h
  · go_enter Try.func35, Try.ntmps35
    go_wp2
    go_ret
    exact ⟨ret_int (unhide HV).symm, rfl⟩
  · have b1 : decide (c ≤ 90) = false := by simp; omega
    go_enter Try.func35, Try.ntmps35
    go_wp2
    go_ret
    exact ⟨ret_int (unhide HV).symm, rfl⟩
  · have b1 : decide (c ≤ 90) = false := by simp; omega
    have b2 : decide (c ≤ 122) = false := by simp; omega
    go_enter Try.func35, Try.ntmps35
    go_wp2
    go_ret
    exact ⟨ret_int (unhide HV).symm, rfl⟩

/-- caseLetter. -/
theorem case_any (c : Int) (m j x : Nat) (ext : Bool) (w : World) :
    Calls Try.prog 35 #[.int .u8 c, .int .i64 m, .int .i64 j, .int .i64 x, .bool ext] w fun e w' => e = .returned (.int .u8 (val c m j x ext)) ∧ w = w' := by
  rcases Classical.em (letter c) with hl | hl
  · exact case_letter c m j x ext w hl
  · exact case_other c m j x ext w hl

set_option maxHeartbeats 1000000 in
/-- foldByte. -/
theorem fold_any (c : Int) (w : World) (h0 : 0 ≤ c) (h1 : c ≤ 255) : Calls Try.prog 31 #[.int .u8 c] w fun e w' => e = .returned (.int .u8 (fold c)) ∧ w = w' := by
  by_cases h : c = 95
  · subst h
    go_enter Try.func31, Try.ntmps31
    go_wp2
    go_ret
    exact ⟨rfl, rfl⟩
  · have b1 : (c == 95) = false := by simp [h]
    have HF := hide (fold_low c h)
    clear h
    by_cases hl : 65 ≤ c ∧ c ≤ 90
    · have HL : Hid (low c = c + 32) := by unfold Hid low; rw [if_pos hl]
      obtain ⟨l1, l2⟩ := hl
      go_enter Try.func31, Try.ntmps31
      go_wp2
      go_ret
      exact ⟨ret_int ((unhide HF).trans (unhide HL)).symm, rfl⟩
    · have HL : Hid (low c = c) := by unfold Hid low; rw [if_neg hl]
      have hr : c < 65 ∨ 90 < c := by omega
      clear hl
      rcases hr with h | h
      all_goals
        go_enter Try.func31, Try.ntmps31
        go_wp2
        go_ret
        exact ⟨ret_int ((unhide HF).trans (unhide HL)).symm, rfl⟩

/-- n bytes lie in block g. -/
def Bytes (w : World) (g n : Nat) (v : Nat → Int) : Prop := ∀ i, i < n → w.cell? ⟨g, i, none⟩ = some (.int .u8 (v i)) ∧ w.frozen? ⟨g, i, none⟩ = false

theorem Bytes.set {w : World} {g n : Nat} {v : Nat → Int} (h : Bytes w g n v) (i : Nat) (hi : i < n) (c : Int) : Bytes (w.setCell ⟨g, i, none⟩ (.int .u8 c)) g n (fun j => if j = i then c else v j) := by
  intro j hj
  refine ⟨?_, by rw [World.frozen?_setCell]; exact (h j hj).2⟩
  by_cases e : j = i
  · subst e
    rw [World.cell?_setCell_same _ _ _ (h j hj).1]
    simp
  · rw [World.cell?_setCell_other _ _ _ _ (by intro e'; injection e' with _ e2 _; exact e e2.symm)]
    simp only [e, if_false]
    exact (h j hj).1

theorem Bytes.below {w w' : World} {g n B : Nat} {v : Nat → Int} (h : Bytes w g n v) (hb : Below B w w') (hg : g < B) : Bytes w' g n v :=
  fun i hi => ⟨(hb.cell (p := ⟨g, i, none⟩) hg).trans (h i hi).1, (hb.frozen (p := ⟨g, i, none⟩) hg).trans (h i hi).2⟩

theorem Bytes.congr {w : World} {g n : Nat} {v v' : Nat → Int} (h : Bytes w g n v) (e : ∀ i, i < n → v i = v' i) : Bytes w g n v' := fun i hi => by rw [← e i hi]; exact h i hi

/-- 'string(b)'. -/
theorem Bytes.str {w : World} {g n cap : Nat} {v : Nat → Int} (h : Bytes w g n v) : (convert 34 9 (.slice (some ⟨g, 0, none⟩) n cap)).run Try.prog w = .ok (.string (strOfNums ((List.range n).map v))) w :=
  run_convert_bytes_arg (P := Try.prog) w 34 5 Try.underlying34 Try.underlying5 g 0 n cap _ (by simp) (fun i hi => by
    rw [Nat.zero_add, (h i hi).1]
    simp [List.getD, hi]) 9 Try.underlying9

set_option maxHeartbeats 1000000 in
/-- raiseAt. -/
theorem raise_any (g n cap i : Nat) (v : Nat → Int) (w : World) (h : Bytes w g n v) (hi : i < n) (_hn : n ≤ 1048576) (h0 : 0 ≤ v i) (h1 : v i ≤ 255) :
    Calls Try.prog 36 #[.slice (some ⟨g, 0, none⟩) n cap, .int .i64 i] w fun e w' => e = .returned (.tuple #[]) ∧ Bytes w' g n (fun j => if j = i then up (v i) else v j) ∧ Below g w w' := by
  have c1 := (h i hi).1
  have c2 := (h i hi).2
  have g1 : (i : Int) < (n : Int) := by omega
  by_cases hl : 97 ≤ v i ∧ v i ≤ 122
  · have HL : Hid (up (v i) = v i - 32) := by unfold Hid up; rw [if_pos hl]
    obtain ⟨l1, l2⟩ := hl
    have R := hide (h.set i hi (v i - 32))
    clear h
    go_enter Try.func36, Try.ntmps36
    go_wp2
    go_end0
    exact ⟨rfl, by rw [unhide HL]; exact unhide R, (Below.refl _ _).setCell (p := ⟨g, i, none⟩) (Nat.le_refl _) _⟩
  · have HL : Hid (up (v i) = v i) := by unfold Hid up; rw [if_neg hl]
    have hr : v i < 97 ∨ 122 < v i := by omega
    have R : Hid (Bytes w g n (fun j => if j = i then v i else v j)) := h.congr (fun j _ => by by_cases e : j = i <;> simp [e])
    clear hl h
    rcases hr with hr | hr
    all_goals
      go_enter Try.func36, Try.ntmps36
      go_wp2
      go_end0
      exact ⟨rfl, by rw [unhide HL]; exact unhide R, Below.refl _ _⟩

end Go.Proofs.Qxb6603176a.Norm

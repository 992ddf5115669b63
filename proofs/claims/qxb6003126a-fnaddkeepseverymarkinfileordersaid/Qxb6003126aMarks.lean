import Derived.Test.Qxb6003126aIntern
import Derived.Laws.OwnMore
import Derived.Deep.RegionLaw
import Derived.Deep.CutRange
namespace Go.Proofs.Qxb6003126a.Marks
open Go.RowKit Go.Proofs.Qxb6003126a

/-- The four cells of mark k. -/
def cell4 (R : Nat → Nat → Int) (k : Nat) : List Value := [.int .i32 (R k 0), .int .i16 (R k 1), .int .i32 (R k 2), .int .i32 (R k 3)]
/-- The cells of l marks from s on. -/
def ck (R : Nat → Nat → Int) (s : Nat) : Nat → List Value
  | 0 => []
  | l + 1 => ck R s l ++ cell4 R (s + l)
theorem ck_len (R : Nat → Nat → Int) (s : Nat) : ∀ l, (ck R s l).length = l * 4
  | 0 => rfl
  | l + 1 => by rw [ck, List.length_append, ck_len R s l]; simp [cell4]; omega
theorem ck_get (R : Nat → Nat → Int) (s : Nat) {t i : Nat} (hi : i < 4) : ∀ l, t < l → (ck R s l)[t * 4 + i]? = (cell4 R (s + t))[i]?
  | 0, h => absurd h (Nat.not_lt_zero _)
  | l + 1, h => by
    have hl := ck_len R s l
    rw [ck]
    by_cases e : t = l
    · subst e
      rw [List.getElem?_append_right (by omega), hl]
      congr 1
      omega
    · rw [List.getElem?_append_left (by omega)]
      exact ck_get R s hi l (by omega)

/-- A chunk's header. -/
def hd (L cb cc : Nat → Nat) (j : Nat) : Value := .slice (some ⟨cb j, 0, none⟩) (L j) (cc j)
def upd (f : Nat → Nat) (n v : Nat) : Nat → Nat := fun j => if j = n then v else f j
theorem upd_same (f : Nat → Nat) (n v : Nat) : upd f n v n = v := if_pos rfl
theorem upd_other (f : Nat → Nat) {n v j : Nat} (h : j ≠ n) : upd f n v j = f j := if_neg h

/-- The chunks of marks. -/
def Ch (w : World) (g N : Nat) (A : Option Addr) (C : Nat) (L cb cc : Nat → Nat) (R : Nat → Nat → Int) : Prop :=
  w.ownsRow (g + 1) 60 1 (.slice A N C) N ((List.range N).map (hd L cb cc)) ∧
  (∀ j, j < N → w.ownsRow (g + 1) 57 4 (hd L cb cc j) (L j) (ck R (4096 * j) (L j))) ∧
  (∀ i j, i < N → j < N → cb i = cb j → i = j) ∧ ∀ j, j < N → (Value.slice A N C).ownBlock ≠ some (cb j)

section
variable {w : World} {g N : Nat} {A : Option Addr} {C : Nat} {L cb cc : Nat → Nat} {R : Nat → Nat → Int}

theorem Ch.congr {L' : Nat → Nat} (h : Ch w g N A C L cb cc R) (e : ∀ j, j < N → L j = L' j) : Ch w g N A C L' cb cc R := by
  obtain ⟨h1, h2, h3, h4⟩ := h
  refine ⟨?_, fun j hj => ?_, h3, h4⟩
  · have : (List.range N).map (hd L' cb cc) = (List.range N).map (hd L cb cc) := List.map_congr_left fun j hj => by simp [hd, e j (List.mem_range.1 hj)]
    rw [this]; exact h1
  · have := h2 j hj
    unfold hd at this ⊢
    rw [e j hj] at this
    exact this

theorem Ch.grown {w' : World} (h : Ch w g N A C L cb cc R) (hg : w.grownBy w' none) : Ch w' g N A C L cb cc R := by
  obtain ⟨h1, h2, h3, h4⟩ := h
  refine ⟨h1.kept hg ?_, fun j hj => (h2 j hj).kept hg ?_, h3, h4⟩
  · cases A <;> simp [Value.ownBlock]
  · exact .inr (by simp [hd, Value.ownBlock])

theorem Ch.alloc (h : Ch w g N A C L cb cc R) (o : Obj) : Ch (w.alloc o) g N A C L cb cc R := h.grown (World.grownBy_alloc w o none)

theorem Ch.set (h : Ch w g N A C L cb cc R) {a : Addr} (ha : a.block < g + 1) (u : Value) : Ch (w.setCell a u) g N A C L cb cc R :=
  ⟨ownsRow_setCell_below h.1 ha u, fun j hj => ownsRow_setCell_below (h.2.1 j hj) ha u, h.2.2⟩

theorem Ch.nil (w : World) (g : Nat) (L cb cc : Nat → Nat) (R : Nat → Nat → Int) : Ch w g 0 none 0 L cb cc R :=
  ⟨World.ownsRow_nil _ _ _ _, fun _ hj => absurd hj (Nat.not_lt_zero _), fun _ _ hi => absurd hi (Nat.not_lt_zero _), fun _ hj => absurd hj (Nat.not_lt_zero _)⟩

/-- A new, empty chunk is laid behind the others. -/
theorem Ch.fresh {w2 : World} {cur : Array Value} {g2 cap2 : Nat} (h : Ch w g N A C L cb cc R) (hL : L N = 0) (hg : g < w.heap.size) (hcur : cur.size = 4096 * 4)
    (ho : w2.ownsRow (g + 1) 60 1 (.slice (some ⟨g2, 0, none⟩) (N + 1) cap2) (N + 1) ((List.range N).map (hd L cb cc) ++ [.slice (some ⟨w.heap.size, 0, none⟩) 0 4096]))
    (hgr : ((w.alloc (.cells cur 57)).alloc (.cells #[.slice (some ⟨w.heap.size, 0, none⟩) 0 4096] 60)).grownBy w2 (Value.slice A N C).ownBlock)
    (hb : (Value.slice A N C).ownBlock = some g2 ∨ g2 = w.heap.size + 2) :
    Ch w2 g (N + 1) (some ⟨g2, 0, none⟩) cap2 L (upd cb N w.heap.size) (upd cc N 4096) R := by
  obtain ⟨h1, h2, h3, h4⟩ := h
  have hlt : ∀ j, j < N → cb j < w.heap.size := fun j hj => ((h2 j hj).lt (cb j) rfl).2
  have hA : ∀ k, (Value.slice A N C).ownBlock = some k → k < w.heap.size := fun k hk => (h1.lt k hk).2
  have e0 : hd L (upd cb N w.heap.size) (upd cc N 4096) N = .slice (some ⟨w.heap.size, 0, none⟩) 0 4096 := by simp [hd, upd_same, hL]
  have e1 : ∀ j, j < N → hd L (upd cb N w.heap.size) (upd cc N 4096) j = hd L cb cc j := fun j hj => by simp [hd, upd_other _ (show j ≠ N by omega)]
  have hne : g2 ≠ w.heap.size := by
    rcases hb with hb | hb
    · have := hA g2 hb; omega
    · omega
  refine ⟨?_, fun j hj => ?_, fun i j hi hj he => ?_, fun j hj => ?_⟩
  · rw [List.range_succ, List.map_append, List.map_singleton, e0, List.map_congr_left (fun j hj => e1 j (List.mem_range.1 hj))]
    exact ho
  · by_cases e : j = N
    · subst e
      rw [e0, hL]
      refine World.ownsRow.kept ((World.ownsRow_made w cur 4096 (by omega) (by unfold maxLen; omega) hcur).alloc _) hgr (.inr ?_)
      intro hk
      have := hA _ hk.symm
      simp at this
    · have hj' : j < N := by omega
      rw [e1 j hj']
      refine World.ownsRow.kept (((h2 j hj').alloc _).alloc _) hgr (.inr ?_)
      exact fun hk => h4 j hj' hk.symm
  · by_cases ei : i = N
    · by_cases ej : j = N
      · omega
      · subst ei
        rw [upd_same, upd_other _ ej] at he
        have := hlt j (by omega); omega
    · by_cases ej : j = N
      · subst ej
        rw [upd_same, upd_other _ ei] at he
        have := hlt i (by omega); omega
      · rw [upd_other _ ei, upd_other _ ej] at he
        exact h3 i j (by omega) (by omega) he
  · simp only [Value.ownBlock, ne_eq, Option.some.injEq]
    by_cases ej : j = N
    · subst ej
      rw [upd_same]; exact hne
    · rw [upd_other _ ej]
      rcases hb with hb | hb
      · exact fun e => h4 j (by omega) (by rw [hb, e])
      · have := hlt j (by omega); omega

/-- A mark is laid behind the marks of the last chunk. -/
theorem Ch.push {w2 : World} {n mb l g2 cap2 : Nat} (h : Ch w g (n + 1) (some ⟨mb, 0, none⟩) C L cb cc R) (hl : L n = l)
    (ho : w2.ownsRow (g + 1) 57 4 (.slice (some ⟨g2, 0, none⟩) (l + 1) cap2) (l + 1) (ck R (4096 * n) l ++ cell4 R (4096 * n + l)))
    (hgr : (w.alloc (.cells (cell4 R (4096 * n + l)).toArray 57)).grownBy w2 (some (cb n))) (hb : cb n = g2 ∨ g2 = w.heap.size + 1) :
    Ch (w2.setCell ⟨mb, n, none⟩ (.slice (some ⟨g2, 0, none⟩) (l + 1) cap2)) g (n + 1) (some ⟨mb, 0, none⟩) C (upd L n (l + 1)) (upd cb n g2) (upd cc n cap2) R ∧ w2.frozen? ⟨mb, n, none⟩ = false ∧ w2.cell? ⟨mb, n, none⟩ = some (hd L cb cc n) ∧ g + 1 ≤ mb := by
  obtain ⟨h1, h2, h3, h4⟩ := h
  have hlt : ∀ j, j < n + 1 → cb j < w.heap.size := fun j hj => ((h2 j hj).lt (cb j) rfl).2
  have hmb := h1.lt mb rfl
  have hmc : ∀ j, j < n + 1 → mb ≠ cb j := fun j hj => by have := h4 j hj; simpa [Value.ownBlock] using this
  have hg2 : g2 ≠ mb := by
    rcases hb with hb | hb
    · exact fun e => hmc n (by omega) (by rw [hb, e])
    · omega
  have r2 : w2.ownsRow (g + 1) 60 1 (.slice (some ⟨mb, 0, none⟩) (n + 1) C) (n + 1) ((List.range (n + 1)).map (hd L cb cc)) :=
    (h1.alloc _).kept hgr (.inr (by simp [Value.ownBlock]; exact hmc n (by omega)))
  have hst := r2.stored n (.slice (some ⟨g2, 0, none⟩) (l + 1) cap2)
  have e0 : hd (upd L n (l + 1)) (upd cb n g2) (upd cc n cap2) n = .slice (some ⟨g2, 0, none⟩) (l + 1) cap2 := by simp [hd, upd_same]
  have e1 : ∀ j, j < n → hd (upd L n (l + 1)) (upd cb n g2) (upd cc n cap2) j = hd L cb cc j := fun j hj => by simp [hd, upd_other _ (show j ≠ n by omega)]
  refine ⟨⟨?_, fun j hj => ?_, fun i j hi hj he => ?_, fun j hj => ?_⟩, r2.frozenAt n, ?_, hmb.1⟩
  · have e2 : (List.range (n + 1)).map (hd (upd L n (l + 1)) (upd cb n g2) (upd cc n cap2)) = ((List.range (n + 1)).map (hd L cb cc)).set n (.slice (some ⟨g2, 0, none⟩) (l + 1) cap2) := by
      rw [List.range_succ, List.map_append, List.map_append, List.map_singleton, List.map_singleton, e0, List.map_congr_left (fun j hj => e1 j (List.mem_range.1 hj)), List.set_append_right _ _ (by simp)]
      simp
    rw [e2]; exact hst.1
  · by_cases e : j = n
    · subst e
      rw [e0, upd_same]
      refine World.ownsRow.kept ho hst.2 (.inr ?_)
      simpa [Value.ownBlock] using hg2
    · have hj' : j < n := by omega
      rw [e1 j hj', upd_other _ e]
      refine World.ownsRow.kept (((h2 j hj).alloc _).kept hgr (.inr ?_)) hst.2 (.inr ?_)
      · simp only [hd, Value.ownBlock, ne_eq, Option.some.injEq]
        exact fun he => e (h3 j n hj (by omega) he)
      · simp only [hd, Value.ownBlock, ne_eq, Option.some.injEq]
        exact fun he => hmc j hj he.symm
  · have hcbn : ∀ j, j < n + 1 → j ≠ n → cb j ≠ g2 := by
      intro j hj hjn e
      rcases hb with hb | hb
      · exact hjn (h3 j n hj (by omega) (e.trans hb.symm))
      · have := hlt j hj; omega
    by_cases ei : i = n
    · by_cases ej : j = n
      · omega
      · subst ei
        rw [upd_same, upd_other _ ej] at he
        exact absurd he.symm (hcbn j hj ej)
    · by_cases ej : j = n
      · subst ej
        rw [upd_same, upd_other _ ei] at he
        exact absurd he (hcbn i hi ei)
      · rw [upd_other _ ei, upd_other _ ej] at he
        exact h3 i j hi hj he
  · simp only [Value.ownBlock, ne_eq, Option.some.injEq]
    by_cases ej : j = n
    · subst ej
      rw [upd_same]; exact fun e => hg2 e.symm
    · rw [upd_other _ ej]; exact hmc j hj
  · rw [r2.cellAt n (by omega), List.getElem?_map, List.getElem?_range (by omega)]
    rfl
end
end Go.Proofs.Qxb6003126a.Marks

import Derived.Test.Qxb6003126aIntern
namespace Go.Proofs.Qxb6003126a
open Go.RowKit Go.Maps

/-- The different texts among the first k, in the order of their first sighting. -/
def dist (x : Nat → ByteArray) : Nat → List ByteArray
  | 0 => []
  | k + 1 => nx (dist x k) (x k)

theorem mem_nx {T : List ByteArray} {s t : ByteArray} : t ∈ nx T s ↔ t ∈ T ∨ t = s := by
  by_cases h : s ∈ T
  · rw [nx_old h]
    exact ⟨.inl, fun h' => h'.elim id (fun e => e ▸ h)⟩
  · rw [nx_new h]; simp
theorem nx_keeps (T : List ByteArray) (s : ByteArray) {i : Nat} {t : ByteArray} (hi : T[i]? = some t) : (nx T s)[i]? = some t := by
  by_cases h : s ∈ T
  · rwa [nx_old h]
  · rw [nx_new h, List.getElem?_append_left (List.getElem?_eq_some_iff.1 hi).1, hi]
theorem nx_nodup {T : List ByteArray} (hT : T.Nodup) (s : ByteArray) : (nx T s).Nodup := by
  by_cases h : s ∈ T
  · rwa [nx_old h]
  · rw [nx_new h]
    exact List.nodup_append.2 ⟨hT, by simp, fun a ha b hb => by simp at hb; rintro rfl; exact h (hb ▸ ha)⟩
theorem nx_length (T : List ByteArray) (s : ByteArray) : (nx T s).length ≤ T.length + 1 := by
  by_cases h : s ∈ T
  · rw [nx_old h]; omega
  · rw [nx_new h]; simp

theorem dist_mem (x : Nat → ByteArray) (t : ByteArray) : ∀ k, t ∈ dist x k ↔ ∃ i, i < k ∧ x i = t
  | 0 => by simp [dist]
  | k + 1 => by
    rw [dist, mem_nx, dist_mem x t k]
    constructor
    · rintro (⟨i, hi, rfl⟩ | rfl)
      · exact ⟨i, by omega, rfl⟩
      · exact ⟨k, by omega, rfl⟩
    · rintro ⟨i, hi, rfl⟩
      by_cases e : i = k
      · subst e; exact .inr rfl
      · exact .inl ⟨i, by omega, rfl⟩
theorem dist_nodup (x : Nat → ByteArray) : ∀ k, (dist x k).Nodup
  | 0 => by simp [dist]
  | k + 1 => nx_nodup (dist_nodup x k) _
theorem dist_len (x : Nat → ByteArray) : ∀ k, (dist x k).length ≤ k
  | 0 => by simp [dist]
  | k + 1 => by have := nx_length (dist x k) (x k); have := dist_len x k; rw [dist]; omega
theorem dist_keeps (x : Nat → ByteArray) {k : Nat} : ∀ m {i : Nat} {t : ByteArray}, k ≤ m → (dist x k)[i]? = some t → (dist x m)[i]? = some t
  | 0, _, _, hm, h => by obtain rfl : k = 0 := by omega
                         exact h
  | m + 1, _, _, hm, h => by
    by_cases e : k = m + 1
    · subst e; exact h
    · exact nx_keeps _ _ (dist_keeps x m (by omega) h)
theorem dist_inj (x : Nat → ByteArray) {k i j : Nat} {t : ByteArray} (hi : (dist x k)[i]? = some t) (hj : (dist x k)[j]? = some t) : i = j := by
  have h1 := List.getElem?_eq_some_iff.1 hi
  have h2 := List.getElem?_eq_some_iff.1 hj
  obtain ⟨h1, e1⟩ := h1
  obtain ⟨h2, e2⟩ := h2
  exact (List.getElem_inj (dist_nodup x k)).1 (e1.trans e2.symm)

/-- What 'want' holds behind k rounds. -/
def Want (x : Nat → ByteArray) (k : Nat) (F : Nat → Int) : Prop := ∀ i, i < k → ∃ q : Nat, F i = q ∧ (dist x k)[q]? = some (x i)

theorem Want.nil (x : Nat → ByteArray) (F : Nat → Int) : Want x 0 F := fun _ hi => absurd hi (Nat.not_lt_zero _)
theorem Want.bound {x : Nat → ByteArray} {k : Nat} {F : Nat → Int} (h : Want x k F) {i : Nat} (hi : i < k) : 0 ≤ F i ∧ F i < (dist x k).length := by
  obtain ⟨q, e, hq⟩ := h i hi
  have := (List.getElem?_eq_some_iff.1 hq).1
  omega
theorem Want.old {x : Nat → ByteArray} {k j : Nat} {F : Nat → Int} (h : Want x k F) (hj : j < k) (he : x j = x k) : Want x (k + 1) (fun i => if i = k then F j else F i) ∧ dist x (k + 1) = dist x k := by
  have e : dist x (k + 1) = dist x k := nx_old ((dist_mem x _ k).2 ⟨j, hj, he⟩)
  refine ⟨fun i hi => ?_, e⟩
  rw [e]
  by_cases e' : i = k
  · subst e'
    simp only [if_true]; rw [← he]
    exact h j hj
  · simp only [if_neg e']
    exact h i (by omega)
theorem Want.new {x : Nat → ByteArray} {k : Nat} {F : Nat → Int} (h : Want x k F) (hn : ∀ j, j < k → x j ≠ x k) : Want x (k + 1) (fun i => if i = k then ((dist x k).length : Int) else F i) ∧ (dist x (k + 1)).length = (dist x k).length + 1 := by
  have hm : x k ∉ dist x k := fun hm => by
    obtain ⟨j, hj, e⟩ := (dist_mem x _ k).1 hm
    exact hn j hj e
  have e : dist x (k + 1) = dist x k ++ [x k] := nx_new hm
  refine ⟨fun i hi => ?_, by rw [e]; simp⟩
  by_cases e' : i = k
  · subst e'
    simp only [if_true]
    exact ⟨_, rfl, by rw [e]; simp⟩
  · simp only [if_neg e']
    obtain ⟨q, h1, h2⟩ := h i (by omega)
    exact ⟨q, h1, nx_keeps _ _ h2⟩

/-- The whole of the law's memory behind ZZNew. -/
def St (w0 w : World) (tb wb m g n : Nat) (x : Nat → ByteArray) (F : Nat → Int) (T : List ByteArray) : Prop :=
  Below w0.heap.size w0 w ∧ w.rowIs tb 9 n (fun j => .string (x j)) ∧ w.rowIs wb 21 n (fun j => .int .i32 (F j)) ∧ Gr w m g T ∧ tb < m ∧ wb < m ∧ w0.heap.size ≤ m

theorem St.drew {w0 w : World} {tb wb m g n : Nat} {x : Nat → ByteArray} {F : Nat → Int} {T : List ByteArray} (h : St w0 w tb wb m g n x F T) : St w0 w.drew tb wb m g n x F T :=
  ⟨h.1.drew, h.2.1, h.2.2.1, h.2.2.2.1, h.2.2.2.2⟩
theorem St.drewN {w0 w : World} {tb wb m g n : Nat} {x : Nat → ByteArray} {F : Nat → Int} {T : List ByteArray} (h : St w0 w tb wb m g n x F T) (k : Nat) : St w0 (w.drewN k) tb wb m g n x F T :=
  ⟨⟨h.1.os, h.1.tape, h.1.output, h.1.size, h.1.block⟩, h.2.1, h.2.2.1, h.2.2.2.1, h.2.2.2.2⟩
theorem St.below {w0 w w' : World} {tb wb m g n : Nat} {x : Nat → ByteArray} {F : Nat → Int} {T T' : List ByteArray} (h : St w0 w tb wb m g n x F T) (hb : Below m w w') (hg : Gr w' m g T') : St w0 w' tb wb m g n x F T' :=
  ⟨h.1.trans (hb.mono h.2.2.2.2.2.2), h.2.1.of_block (hb.block tb h.2.2.2.2.1), h.2.2.1.of_block (hb.block wb h.2.2.2.2.2.1), hg, h.2.2.2.2⟩

theorem St.first {w0 w : World} {tb wb m g n k : Nat} {x : Nat → ByteArray} {F : Nat → Int} (hF : Want x n F) (hk : k < n) (hn : n ≤ 4096) (hx : (x k).size ≤ 1048576) (h : St w0 w tb wb m g n x F (dist x k)) :
    Calls Try.prog 8 #[.pointer (some ⟨g, 0, none⟩), .string (x k)] w fun e w' => e = .returned (.int .i32 (F k)) ∧ w'.cell? ⟨wb, k, none⟩ = some (.int .i32 (F k)) ∧ Hid (St w0 w' tb wb m g n x F (dist x (k + 1))) := by
  have hl := dist_len x k
  refine (zzintern_any m g (dist x k) (x k) w h.2.2.2.1 hx (by omega)).mono ?_
  rintro e w' ⟨⟨i, rfl, hi⟩, hg, hb⟩
  obtain ⟨q, e1, e2⟩ := hF k hk
  have e3 := dist_keeps x (k := k + 1) n hk hi
  have e4 := dist_inj x e3 e2
  have hst := h.below hb hg
  exact ⟨by rw [e1, e4], hst.2.2.1.cell hk, hst⟩

theorem St.again {w0 w : World} {tb wb m g n k : Nat} {x : Nat → ByteArray} {F : Nat → Int} (hF : Want x n F) (hk : k < n) (hn : n ≤ 4096) (hx : (x k).size ≤ 1048576) (h : St w0 w tb wb m g n x F (dist x n)) :
    Calls Try.prog 8 #[.pointer (some ⟨g, 0, none⟩), .string (x k)] w fun e w' => e = .returned (.int .i32 (F k)) ∧ w'.cell? ⟨wb, k, none⟩ = some (.int .i32 (F k)) ∧ Hid (St w0 w' tb wb m g n x F (dist x n)) := by
  have hl := dist_len x n
  refine (zzintern_any m g (dist x n) (x k) w h.2.2.2.1 hx (by omega)).mono ?_
  rintro e w' ⟨⟨i, rfl, hi⟩, hg, hb⟩
  have hm : x k ∈ dist x n := (dist_mem x _ n).2 ⟨k, hk, rfl⟩
  rw [nx_old hm] at hi hg
  obtain ⟨q, e1, e2⟩ := hF k hk
  have e4 := dist_inj x hi e2
  have hst := h.below hb hg
  exact ⟨by rw [e1, e4], hst.2.2.1.cell hk, hst⟩

set_option maxHeartbeats 400000 in
theorem bytes_zero (a : Option Addr) (cap : Nat) (w : World) : Calls Try.prog 12 #[.slice a 0 cap] w fun e w' => e = .returned (.bool true) ∧ w = w' := by
  go_enter Try.func12, Try.ntmps12
  go_wp2_with fail
  refine wp_loop_rounds 1 ?_; rw [rounds_succ]
  go_wp2_with fail
  go_ret
  exact ⟨rfl, rfl⟩

/-- What zzBytes answers. -/
def Short (n : Nat) (x : Nat → ByteArray) (b : Bool) : Prop := b = true → n ≤ 1048576 ∧ ∀ k, k < n → (x k).size ≤ 1048576

def Answers (n : Nat) (x : Nat → ByteArray) (e : Ending) : Prop := ∃ v, e = .returned (.bool v) ∧ Short n x v

set_option maxHeartbeats 400000 in
theorem bytes_any (b o n cap : Nat) (x : Nat → ByteArray) (w : World) (hx : ∀ k, k < n → w.cell? ⟨b, o + k, none⟩ = some (.string (x k))) :
    Calls Try.prog 12 #[.slice (some ⟨b, o, none⟩) n cap] w fun e w' => Answers n x e ∧ w = w' := by
  by_cases hn : n ≤ 1048576
  · have hn1 : ¬ (1048576 : Int) < (n : Int) := by omega
    have hn2 : (n : Int) ≤ 1048576 := by omega
    go_enter Try.func12, Try.ntmps12
    go_wp2_with fail
    go_loop [3, 4] (fun t i => ∃ (k : Nat) (z : Int), k ≤ n ∧ i = .int .i64 k ∧ t = .int .i64 z ∧ 0 ≤ z ∧ z ≤ 1048576 ∧ ∀ j, j < k → (x j).size ≤ 1048576) (fun _ i => n - (intOf i).toNat)
    case atStart => exact ⟨0, n, Nat.zero_le _, rfl, rfl, by omega, by omega, fun j hj => absurd hj (Nat.not_lt_zero _)⟩
    case round =>
      obtain ⟨k, z, hk, rfl, rfl, hz0, hz1, hall⟩ := hrel
      have HA := hide hall
      clear hall
      by_cases hkn : k < n
      · have h1 : (k : Int) < (n : Int) := by omega
        have c1 := hx k hkn
        by_cases hs : (x k).size ≤ 1048576
        · have h2 : ¬ (1048576 : Int) < ((x k).size : Int) := by omega
          by_cases ht : 1048576 < z + ((x k).size : Int)
          · go_wp2_with fail
            go_ret
            exact ⟨⟨false, rfl, fun h => by cases h⟩, rfl⟩
          · go_wp2_with fail
            go_round
            case rel => exact ⟨k + 1, z + (x k).size, by omega, by go_num, by go_num, by omega, by omega, fun j hj => by
              by_cases e : j = k
              · subst e; exact hs
              · exact unhide HA j (by omega)⟩
            case measure => simp [intOf]; omega
        · have h2 : (1048576 : Int) < ((x k).size : Int) := by omega
          go_wp2_with fail
          go_ret
          exact ⟨⟨false, rfl, fun h => by cases h⟩, rfl⟩
      · have h1 : ¬ (k : Int) < (n : Int) := by omega
        go_wp2_with fail
        go_ret
        exact ⟨⟨true, rfl, fun _ => ⟨hn, fun j hj => unhide HA j (by omega)⟩⟩, rfl⟩
  · have hn1 : (1048576 : Int) < (n : Int) := by omega
    go_enter Try.func12, Try.ntmps12
    go_wp2_with fail
    go_ret
    exact ⟨⟨false, rfl, fun h => by cases h⟩, rfl⟩
end Go.Proofs.Qxb6003126a

import Derived.Test.Qxb6603155aSets
namespace Go.Proofs.Qxb6603155a
open Go.RowKit Go.Maps

/-- What a nameSet's ten cells hold. -/
def Rec (fp : Nat → Option Addr) (fs : Nat → List UInt8) (fc : Nat → Nat) (n : Int) (m : Option Nat) : Nat → Value :=
  fun i => if i < 8 then .slice (fp i) (fs i).length (fc i) else if i = 8 then .int .i64 n else .map m

theorem index_few (f : Nat → Value) (k : Nat) (hk : k < 8) (w : World) : (Instr.index 28 (.agg #[f 0, f 1, f 2, f 3, f 4, f 5, f 6, f 7]) (.int .i64 k)).run Try.prog w = .ok (f k) w := by
  have e0 : ∀ v0 v1 v2 v3 v4 v5 v6 v7 : Value, (Instr.index 28 (.agg #[v0, v1, v2, v3, v4, v5, v6, v7]) (.int .i64 0)).run Try.prog w = .ok v0 w := fun _ _ _ _ _ _ _ _ => by kernel_rfl
  have e1 : ∀ v0 v1 v2 v3 v4 v5 v6 v7 : Value, (Instr.index 28 (.agg #[v0, v1, v2, v3, v4, v5, v6, v7]) (.int .i64 1)).run Try.prog w = .ok v1 w := fun _ _ _ _ _ _ _ _ => by kernel_rfl
  have e2 : ∀ v0 v1 v2 v3 v4 v5 v6 v7 : Value, (Instr.index 28 (.agg #[v0, v1, v2, v3, v4, v5, v6, v7]) (.int .i64 2)).run Try.prog w = .ok v2 w := fun _ _ _ _ _ _ _ _ => by kernel_rfl
  have e3 : ∀ v0 v1 v2 v3 v4 v5 v6 v7 : Value, (Instr.index 28 (.agg #[v0, v1, v2, v3, v4, v5, v6, v7]) (.int .i64 3)).run Try.prog w = .ok v3 w := fun _ _ _ _ _ _ _ _ => by kernel_rfl
  have e4 : ∀ v0 v1 v2 v3 v4 v5 v6 v7 : Value, (Instr.index 28 (.agg #[v0, v1, v2, v3, v4, v5, v6, v7]) (.int .i64 4)).run Try.prog w = .ok v4 w := fun _ _ _ _ _ _ _ _ => by kernel_rfl
  have e5 : ∀ v0 v1 v2 v3 v4 v5 v6 v7 : Value, (Instr.index 28 (.agg #[v0, v1, v2, v3, v4, v5, v6, v7]) (.int .i64 5)).run Try.prog w = .ok v5 w := fun _ _ _ _ _ _ _ _ => by kernel_rfl
  have e6 : ∀ v0 v1 v2 v3 v4 v5 v6 v7 : Value, (Instr.index 28 (.agg #[v0, v1, v2, v3, v4, v5, v6, v7]) (.int .i64 6)).run Try.prog w = .ok v6 w := fun _ _ _ _ _ _ _ _ => by kernel_rfl
  have e7 : ∀ v0 v1 v2 v3 v4 v5 v6 v7 : Value, (Instr.index 28 (.agg #[v0, v1, v2, v3, v4, v5, v6, v7]) (.int .i64 7)).run Try.prog w = .ok v7 w := fun _ _ _ _ _ _ _ _ => by kernel_rfl
  have h : k = 0 ∨ k = 1 ∨ k = 2 ∨ k = 3 ∨ k = 4 ∨ k = 5 ∨ k = 6 ∨ k = 7 := by omega
  rcases h with rfl | rfl | rfl | rfl | rfl | rfl | rfl | rfl
  · exact e0 _ _ _ _ _ _ _ _
  · exact e1 _ _ _ _ _ _ _ _
  · exact e2 _ _ _ _ _ _ _ _
  · exact e3 _ _ _ _ _ _ _ _
  · exact e4 _ _ _ _ _ _ _ _
  · exact e5 _ _ _ _ _ _ _ _
  · exact e6 _ _ _ _ _ _ _ _
  · exact e7 _ _ _ _ _ _ _ _

theorem Rec_put (fp : Nat → Option Addr) (fs : Nat → List UInt8) (fc : Nat → Nat) (n : Nat) (hn : n < 8) (p : Option Addr) (s : List UInt8) (c : Nat) (i : Nat) :
    (if i = 8 then Value.int .i64 ((n : Int) + 1) else if i = n then Value.slice p s.length c else Rec fp fs fc n none i) =
      Rec (fun i => if i = n then p else fp i) (fun i => if i = n then s else fs i) (fun i => if i = n then c else fc i) (n + 1) none i := by
  unfold Rec
  by_cases h8 : i = 8
  · subst h8; simp
  · by_cases hi : i = n
    · subst hi; simp [hn, h8]
    · by_cases h : i < 8 <;> simp [h8, hi, h]

theorem Rec_map (fp : Nat → Option Addr) (fs : Nat → List UInt8) (fc : Nat → Nat) (n : Int) (m m' : Option Nat) (i : Nat) (hi : i < 10) :
    (if i = 9 then Value.map m' else Rec fp fs fc n m i) = Rec fp fs fc n m' i := by
  unfold Rec
  by_cases h9 : i = 9
  · subst h9; simp
  · by_cases h8 : i = 8
    · subst h8; simp
    · simp [h9, show i < 8 by omega]

theorem turned_row {w w' : World} {b S : Nat} {t : TypeId} {n : Nat} {f : Nat → Value} (h : w.mapTurned w' b) (hr : w.rowIs S t n f) : w'.rowIs S t n f := by
  refine hr.of_block (h.grown.block S hr.lt ?_)
  intro e
  obtain ⟨es, clock, _, _, hb, _⟩ := h
  obtain ⟨c, hc, _⟩ := hr
  cases e
  rw [hb] at hc
  cases hc
theorem Holds.drew {B : Nat} {w : World} {p : Option Addr} {s : List UInt8} (h : Holds B w p s) : Holds B w.drew p s := h.drewN 1

set_option maxHeartbeats 400000 in
theorem add_map {B : Nat} (S mb : Nat) (L : List (List UInt8)) (p : Option Addr) (s : List UInt8) (c : Nat) (w : World) (h9 : w.cell? ⟨S, 9, none⟩ = some (.map (some mb))) (hN : Names w mb L) (hs : Holds B w p s)
    (hl : s.length ≤ 1048576) (hL : L.length < 1048576) :
    Calls Try.prog 13 #[.pointer (some ⟨S, 0, none⟩), .slice p s.length c] w fun e w' => e = .returned (.bool (L.contains s)) ∧ Names w' mb (L ++ [s]) ∧ ∃ n, (w.drewN n).mapTurned w' mb := by
  have hml : s.length ≤ maxLen := by unfold maxLen; omega
  have h1 := fun n => (hs.drewN n).str c
  have h2 := fun n => (hN.drewN n).look s hml
  have hmn := fun (w : World) => run_neq_map_nil (P := Try.prog) w 33 9 4 (some mb) Try.underlying33
  go_enter Try.func13, Try.ntmps13
  go_wp2
  go_quiet (fail)
  go_wp2
  obtain ⟨w1, hrun, hN1, hturn⟩ := (hN.drewN (nq + 1)).put s hml (by unfold maxLen; omega)
  go_region
  all_goals go_wp2
  go_ret
  exact ⟨ret_bool (by simp), hN1, _, hturn⟩

set_option maxHeartbeats 800000 in
theorem add_few {B : Nat} (S : Nat) (fp : Nat → Option Addr) (fs : Nat → List UInt8) (fc : Nat → Nat) (n : Nat) (p : Option Addr) (s : List UInt8) (c : Nat) (w : World)
    (hR : w.rowIs S 40 10 (Rec fp fs fc n none)) (hf : ∀ i, i < 8 → Holds B w (fp i) (fs i)) (hs : Holds B w p s) (hB : B ≤ S) (hn : n ≤ 8)
    (hl : s.length ≤ 1048576) (hfl : ∀ i, i < 8 → (fs i).length ≤ 1048576) :
    Calls Try.prog 13 #[.pointer (some ⟨S, 0, none⟩), .slice p s.length c] w fun e w' =>
      ((∃ j, j < n ∧ fs j = s) ∧ e = .returned (.bool true) ∧ ∃ m, w' = w.drewN m) ∨
      ((∀ j, j < n → fs j ≠ s) ∧ e = .returned (.bool false) ∧ n < 8 ∧ Below S w w' ∧ w'.rowIs S 40 10 (Rec (fun i => if i = n then p else fp i) (fun i => if i = n then s else fs i) (fun i => if i = n then c else fc i) (n + 1) none)) ∨
      ((∀ j, j < n → fs j ≠ s) ∧ e = .returned (.bool false) ∧ n = 8 ∧ Below S w w' ∧ ∃ mb, w.heap.size ≤ mb ∧ w'.rowIs S 40 10 (Rec fp fs fc n (some mb)) ∧ Names w' mb ((List.range 8).map fs ++ [s])) := by
  have hml : s.length ≤ maxLen := by unfold maxLen; omega
  have c9 : w.cell? ⟨S, 9, none⟩ = some (.map none) := hR.cell (i := 9) (by omega)
  have c8 : w.cell? ⟨S, 8, none⟩ = some (.int .i64 n) := hR.cell (i := 8) (by omega)
  have f8 : w.frozen? ⟨S, 8, none⟩ = false := hR.frozen 8
  have hmn := fun (w : World) => run_neq_map_nil (P := Try.prog) w 33 9 4 none Try.underlying33
  have hn1 : (0 : Int) ≤ (n : Int) := by omega
  have hn2 : (n : Int) ≤ 8 := by omega
  have hck : ∀ k, k < 8 → w.cell? ⟨S, k, none⟩ = some (.slice (fp k) (fs k).length (fc k)) := fun k hk => (hR.cell (i := k) (by omega)).trans (by simp [Rec, hk])
  have HR := hide hR
  have HF := hide hf
  have HS := hide hs
  have HC := hide hck
  clear hR hf hs hck
  go_enter Try.func13, Try.ntmps13
  go_wp2
  go_quiet (fail)
  go_wp2
  go_loopw [38] (fun i wr => ∃ k m : Nat, k ≤ n ∧ i = .int .i64 k ∧ wr = w.drewN m ∧ ∀ j, j < k → fs j ≠ s) (fun i _ => n - (intOf i).toNat)
  case atStart => exact ⟨0, _, Nat.zero_le _, rfl, rfl, fun j hj => absurd hj (Nat.not_lt_zero _)⟩
  case round =>
    obtain ⟨k, m, hk, rfl, rfl, hno⟩ := hrel
    have HNO := hide hno
    clear hno
    by_cases hlt : k < n
    · have h1 := unhide HC k (by omega)
      have h3 : (k : Int) < (n : Int) := by omega
      have hq := equal_any (fp k) p (fs k) s (fc k) c (w.drewN m) ((unhide HF k (by omega)).drewN m) ((unhide HS).drewN m)
      by_cases heq : fs k = s
      · have hb : (fs k == s) = true := by simp [heq]
        rw [hb] at hq
        have HQ := hide hq
        have HE := hide heq
        clear hq hb heq
        go_wp2_with (go_at_call 14; refine (unhide HQ).mono ?_; rintro e w' ⟨rfl, rfl⟩)
        go_ret
        exact Or.inl ⟨⟨k, hlt, unhide HE⟩, rfl, m, rfl⟩
      · have hb : (fs k == s) = false := by simp [heq]
        rw [hb] at hq
        have HQ := hide hq
        have HE := hide heq
        clear hq hb heq
        go_wp2_with (go_at_call 14; refine (unhide HQ).mono ?_; rintro e w' ⟨rfl, rfl⟩)
        go_roundw
        case rel => 
          refine ⟨k + 1, m, by omega, by go_num, rfl, fun j hj => ?_⟩
          by_cases hjk : j = k
          · subst hjk; exact unhide HE
          · exact unhide HNO j (by omega)
        case measure => simp [intOf]; omega
    · have e : k = n := by omega
      subst e
      by_cases hn8 : k < 8
      · have h1 := unhide HC k (by omega)
        have f1 := World.rowIs.frozen (unhide HR) k
        have h3 : (k : Int) < 8 := by omega
        go_wp2
        go_region
        all_goals go_wp2
        go_ret
        refine Or.inr (Or.inl ⟨unhide HNO, rfl, hn8, ?_, ?_⟩)
        · exact ((below_drewN (Below.refl _ _) _).setCell (p := ⟨S, k, none⟩) (Nat.le_refl _) _).setCell (p := ⟨S, 8, none⟩) (Nat.le_refl _) _
        · exact (World.rowIs.set (World.rowIs.set (w := w.drewN _) (unhide HR) k _) 8 _).congr (fun i _ => Rec_put fp fs fc k hn8 p s c i)
      · have h3 : ¬ (k : Int) < 8 := by omega
        have hmm := @run_makeMap Try.prog
        have hSlt := World.rowIs.lt (unhide HR)
        have W0 : ∀ m i v, w.cell? ⟨S, i, none⟩ = some v → ((w.drewN m).alloc (Obj.map #[] 0)).cell? ⟨S, i, none⟩ = some v := fun m i v h => (World.cell?_alloc_lt (w.drewN m) _ _ hSlt).trans h
        have f9 : ((w.drewN m).alloc (Obj.map #[] 0)).frozen? ⟨S, 9, none⟩ = false := (World.frozen?_alloc_old (w.drewN m) _ ⟨S, 9, none⟩ (Nat.ne_of_lt hSlt)).trans (World.rowIs.frozen (unhide HR) 9)
        have g0 := W0 m _ _ (unhide HC 0 (by omega))
        have g1 := W0 m _ _ (unhide HC 1 (by omega))
        have g2 := W0 m _ _ (unhide HC 2 (by omega))
        have g3 := W0 m _ _ (unhide HC 3 (by omega))
        have g4 := W0 m _ _ (unhide HC 4 (by omega))
        have g5 := W0 m _ _ (unhide HC 5 (by omega))
        have g6 := W0 m _ _ (unhide HC 6 (by omega))
        have g7 := W0 m _ _ (unhide HC 7 (by omega))
        have g9 := W0 m _ _ c9
        clear W0
        go_wp2
        have HR0 := hide (World.rowIs.set (World.rowIs.alloc (w := w.drewN m) (unhide HR) (Obj.map #[] 0)) 9 (.map (some w.heap.size)))
        have HB0 := hide ((((below_drewN (Below.refl S w) m).alloc (by simpa using Nat.le_of_lt hSlt) (Obj.map #[] 0)).setCell (p := ⟨S, 9, none⟩) (Nat.le_refl _) (.map (some w.heap.size))))
        have HM0 := hide (Names.setCell (Names.made (w.drewN m)) (a := ⟨S, 9, none⟩) (Nat.ne_of_gt hSlt) (.map (some w.heap.size)))
        clear g0 g1 g2 g3 g4 g5 g6 g7 g9 f9
        go_loopw [75] (fun i wr => ∃ j : Nat, j ≤ 8 ∧ i = .int .i64 j ∧ wr.rowIs S 40 10 (Rec fp fs fc k (some w.heap.size)) ∧ Names wr w.heap.size ((List.range j).map fs) ∧ Below S w wr) (fun i _ => 8 - (intOf i).toNat)
        case atStart => exact ⟨0, Nat.zero_le _, rfl, World.rowIs.congr (unhide HR0) (fun i hi => Rec_map fp fs fc k none (some w.heap.size) i hi), unhide HM0, unhide HB0⟩
        case round =>
          obtain ⟨j, hj, rfl, hrow, hNm, hbel⟩ := hrel
          have q9 : wr.cell? ⟨S, 9, none⟩ = some (.map (some w.heap.size)) := hrow.cell (i := 9) (by omega)
          clear HR0 HM0 HB0
          by_cases hj8 : j < 8
          · have hix := fun w => index_few (fun i => .slice (fp i) (fs i).length (fc i)) j hj8 w
            have h5 : (j : Int) < 8 := by omega
            have hst := ((((unhide HF j hj8).mono hB).below hbel).drew).str (fc j)
            obtain ⟨w1, hrun, hN1, hturn⟩ := hNm.drew.put (fs j) (by have := hfl j hj8; unfold maxLen; omega) (by simp; unfold maxLen; omega)
            have HT := hide hturn
            have HN1 := hide hN1
            have HB := hide hbel
            have HRr := hide hrow
            clear hturn hN1 hbel hrow hNm
            go_wp2
            go_region
            all_goals go_wp2
            go_roundw
            case rel => exact ⟨j + 1, by omega, by go_num, turned_row (unhide HT) (unhide HRr), by rw [List.range_succ, List.map_append]; exact unhide HN1, (unhide HB).drew.grown (unhide HT).grown (by have := (unhide HB).size; simp; omega) (fun i hi => by cases hi; omega)⟩
            case measure => simp [intOf]; omega
          · obtain rfl : j = 8 := by omega
            have hst := ((((unhide HS).mono hB).below hbel).drew).str c
            obtain ⟨w1, hrun, hN1, hturn⟩ := hNm.drew.put s hml (by simp; unfold maxLen; omega)
            have HT := hide hturn
            have HN1 := hide hN1
            have HB := hide hbel
            have HRr := hide hrow
            clear hturn hN1 hbel hrow hNm
            go_wp2
            go_region
            all_goals go_wp2
            go_ret
            exact Or.inr (Or.inr ⟨unhide HNO, rfl, by omega, (unhide HB).drew.grown (unhide HT).grown (by have := (unhide HB).size; simp; omega) (fun i hi => by cases hi; omega), w.heap.size, Nat.le_refl _, turned_row (unhide HT) (unhide HRr), unhide HN1⟩)

/-- ZZAdd. -/
theorem zzadd {a b : Value} {w : World} {R : Ending → World → Prop} (h : Calls Try.prog 13 #[a, b] w fun e w' => ∃ x, e = .returned (.bool x) ∧ R e w') : Calls Try.prog 9 #[a, b] w fun e w' => ∃ x, e = .returned (.bool x) ∧ R e w' := by
  have H := hide h
  clear h
  go_enter Try.func9, Try.ntmps9
  go_wp2_with (go_at_call 13; refine (unhide H).mono ?_; rintro e w' ⟨x, rfl, hr⟩)
  go_ret
  exact ⟨_, rfl, by assumption⟩

theorem agg8 (f : Nat → Value) (v8 v9 : Value) (i : Nat) (hi : i < 10) :
    (#[f 0, f 1, f 2, f 3, f 4, f 5, f 6, f 7, v8, v9] : Array Value)[i]? = some (if i < 8 then f i else if i = 8 then v8 else v9) := by
  have h : i = 0 ∨ i = 1 ∨ i = 2 ∨ i = 3 ∨ i = 4 ∨ i = 5 ∨ i = 6 ∨ i = 7 ∨ i = 8 ∨ i = 9 := by omega
  rcases h with rfl | rfl | rfl | rfl | rfl | rfl | rfl | rfl | rfl | rfl <;> rfl

set_option maxHeartbeats 400000 in
/-- ZZNewNameSet. -/
theorem new_any (fp : Nat → Option Addr) (fs : Nat → List UInt8) (fc : Nat → Nat) (n : Int) (m : Option Nat) (w : World) :
    Calls Try.prog 7 #[.agg #[.slice (fp 0) (fs 0).length (fc 0), .slice (fp 1) (fs 1).length (fc 1), .slice (fp 2) (fs 2).length (fc 2), .slice (fp 3) (fs 3).length (fc 3), .slice (fp 4) (fs 4).length (fc 4), .slice (fp 5) (fs 5).length (fc 5), .slice (fp 6) (fs 6).length (fc 6), .slice (fp 7) (fs 7).length (fc 7)], .int .i64 n, .map m] w fun e w' =>
      e = .returned (.pointer (some ⟨w.heap.size + 1, 0, none⟩)) ∧ w'.rowIs (w.heap.size + 1) 40 10 (Rec fp fs fc n m) ∧ ∃ o o', w' = (w.alloc o).alloc o' := by
  go_enter Try.func7, Try.ntmps7
  go_wp2
  go_ret
  refine ⟨rfl, ?_, _, _, rfl⟩
  refine World.rowIs.congr (f := fun i => if i < 8 then .slice (fp i) (fs i).length (fc i) else if i = 8 then .int .i64 n else .map m) ?_ (fun _ _ => rfl)
  have := World.rowIs_alloc (w.alloc (.cells #[.slice (fp 0) (fs 0).length (fc 0), .slice (fp 1) (fs 1).length (fc 1), .slice (fp 2) (fs 2).length (fc 2), .slice (fp 3) (fs 3).length (fc 3), .slice (fp 4) (fs 4).length (fc 4), .slice (fp 5) (fs 5).length (fc 5), .slice (fp 6) (fs 6).length (fc 6), .slice (fp 7) (fs 7).length (fc 7)] 28))
    #[.slice (fp 0) (fs 0).length (fc 0), .slice (fp 1) (fs 1).length (fc 1), .slice (fp 2) (fs 2).length (fc 2), .slice (fp 3) (fs 3).length (fc 3), .slice (fp 4) (fs 4).length (fc 4), .slice (fp 5) (fs 5).length (fc 5), .slice (fp 6) (fs 6).length (fc 6), .slice (fp 7) (fs 7).length (fc 7), .int .i64 n, .map m] 40 _ (agg8 (fun i => .slice (fp i) (fs i).length (fc i)) (.int .i64 n) (.map m))
  simpa using this

end Go.Proofs.Qxb6603155a

import Derived.Test.Qxb6603155aNs
namespace Go.Proofs.Qxb6603155a
open Go.RowKit Go.Maps

def SomeBool (e : Ending) : Prop := ∃ x, e = .returned (.bool x)
theorem SomeBool.mk (x : Bool) : SomeBool (.returned (.bool x)) := ⟨x, rfl⟩

/-- n names lie at p: the i-th the bytes f i. -/
def Lies (B : Nat) (w : World) (p : Option Addr) (n : Nat) (f : Nat → List UInt8) (qs : Nat → Option Addr) (cs : Nat → Nat) : Prop :=
  n = 0 ∨ ∃ b o, p = some ⟨b, o, none⟩ ∧ b < B ∧ ∀ i, i < n → w.cell? ⟨b, o + i, none⟩ = some (.slice (qs i) (f i).length (cs i)) ∧ Holds B w (qs i) (f i)

set_option maxHeartbeats 400000 in
/-- zzBytes_FnNameSetAddReportsRepeats. -/
theorem bytes5 {B : Nat} (p : Option Addr) (n c : Nat) (f : Nat → List UInt8) (qs : Nat → Option Addr) (cs : Nat → Nat) (w : World) (h : Lies B w p n f qs cs) :
    Calls Try.prog 5 #[.slice p n c] w fun e w' => SomeBool e ∧ w = w' := by
  rcases h with rfl | ⟨b, o, rfl, _, hc⟩
  · go_enter Try.func5, Try.ntmps5
    go_wp2
    refine wp_loop_rounds 1 ?_; rw [rounds_succ]
    go_wp2
    go_ret
    exact ⟨SomeBool.mk _, rfl⟩
  · by_cases hn : n ≤ 1048576
    · have hn1 : (n : Int) ≤ 1048576 := by omega
      go_enter Try.func5, Try.ntmps5
      go_wp2
      go_loop [3, 4] (fun z i => ∃ (k : Nat) (y : Int), k ≤ n ∧ i = .int .i64 k ∧ z = .int .i64 y ∧ 0 ≤ y ∧ y ≤ 1048576) (fun _ i => n - (intOf i).toNat)
      case atStart => exact ⟨0, n, Nat.zero_le _, rfl, rfl, by omega, by omega⟩
      case round =>
        obtain ⟨k, y, hk, rfl, rfl, hy0, hy1⟩ := hrel
        by_cases hlt : k < n
        · have h1 := (hc k hlt).1
          have h3 : (k : Int) < (n : Int) := by omega
          by_cases h4 : (f k).length ≤ 1048576
          · have h5 : ((f k).length : Int) ≤ 1048576 := by omega
            by_cases h6 : y + (f k).length ≤ 1048576
            · go_wp2
              go_round
              case rel => exact ⟨k + 1, y + (f k).length, by omega, by go_num, rfl, by omega, h6⟩
              case measure => simp [intOf]; omega
            · have h7 : 1048576 < y + (f k).length := by omega
              go_wp2
              go_ret
              exact ⟨SomeBool.mk _, rfl⟩
          · have h5 : 1048576 < ((f k).length : Int) := by omega
            go_wp2
            go_ret
            exact ⟨SomeBool.mk _, rfl⟩
        · go_wp2
          go_ret
          exact ⟨SomeBool.mk _, rfl⟩
    · have hn1 : 1048576 < (n : Int) := by omega
      go_enter Try.func5, Try.ntmps5
      go_wp2
      go_ret
      exact ⟨SomeBool.mk _, rfl⟩

theorem quiet_of2 {f : FuncId} {args : Array Value} {w : World} {m n : Nat} {v : Value} (h : ∀ n, Calls Try.prog f args (w.drewN n) fun e w' => e = .returned v ∧ ∃ q, w' = (w.drewN n).drewN q) :
    Calls Try.prog f args (w.drewN (m + n)) fun e w'' => e = .returned v ∧ ∃ q, w'' = w.drewN (m + q) :=
  (h (m + n)).mono fun _ _ ⟨he, q, hq⟩ => ⟨he, n + q, by rw [hq, World.drewN_drewN, Nat.add_assoc]⟩

theorem Lies.cell {B : Nat} {w : World} {b : Nat} {n : Nat} {f : Nat → List UInt8} {qs : Nat → Option Addr} {cs : Nat → Nat} (h : Lies B w (some ⟨b, 0, none⟩) n f qs cs) {i : Nat} (hi : i < n) :
    w.cell? ⟨b, i, none⟩ = some (.slice (qs i) (f i).length (cs i)) ∧ Holds B w (qs i) (f i) := by
  rcases h with h | ⟨b', o', h1, h2, h3⟩
  · omega
  · simp only [Option.some.injEq, Addr.mk.injEq, and_true] at h1
    obtain ⟨rfl, rfl⟩ := h1
    have := h3 i hi
    rwa [Nat.zero_add] at this

theorem Lies.below {B : Nat} {w w' : World} {p : Option Addr} {n : Nat} {f : Nat → List UInt8} {qs : Nat → Option Addr} {cs : Nat → Nat} (h : Lies B w p n f qs cs) (hb : Below B w w') : Lies B w' p n f qs cs := by
  rcases h with h | ⟨b, o, h1, h2, h3⟩
  · exact .inl h
  · exact .inr ⟨b, o, h1, h2, fun i hi => ⟨(hb.cell (p := ⟨b, o + i, none⟩) h2).trans (h3 i hi).1, (h3 i hi).2.below hb⟩⟩

theorem Holds.setCell {B : Nat} {w : World} {p : Option Addr} {s : List UInt8} (h : Holds B w p s) {a : Addr} {v : Value} (ha : w.cell? a = some v) (hv : ∀ k m, v ≠ .int k m) (u : Value) : Holds B (w.setCell a u) p s := by
  rcases h with h | ⟨b, o, h1, h2, h3⟩
  · exact .inl h
  · refine .inr ⟨b, o, h1, h2, fun i hi => ?_⟩
    by_cases e : a = ⟨b, o + i, none⟩
    · subst e
      rw [h3 i hi] at ha
      cases ha
      exact absurd rfl (hv _ _)
    · rw [World.cell?_setCell_other _ _ _ _ e]
      exact h3 i hi

theorem lies_of_row {w : World} {b n : Nat} {f : Nat → List UInt8} {qs : Nat → Option Addr} {cs : Nat → Nat} (h : w.rowIs b 24 n (fun i => if i < n then .slice (qs i) (f i).length (cs i) else .slice none 0 0))
    (hh : ∀ i, i < n → Holds w.heap.size w (qs i) (f i)) : Lies w.heap.size w (some ⟨b, 0, none⟩) n f qs cs :=
  .inr ⟨b, 0, rfl, h.lt, fun i hi => ⟨by rw [Nat.zero_add, h.cell hi, if_pos hi], hh i hi⟩⟩

/-- ZZNewNameSet([8][]byte{}, 0, nil). -/
theorem new_zero (w : World) : Calls Try.prog 7 #[.agg #[.slice none 0 0, .slice none 0 0, .slice none 0 0, .slice none 0 0, .slice none 0 0, .slice none 0 0, .slice none 0 0, .slice none 0 0], .int .i64 0, .map none] w fun e w' =>
      e = .returned (.pointer (some ⟨w.heap.size + 1, 0, none⟩)) ∧ Below w.heap.size w w' ∧ NS w.heap.size (w.heap.size + 1) w' [] := by
  refine (new_any (fun _ => none) (fun _ => []) (fun _ => 0) 0 none w).mono ?_
  rintro e w' ⟨rfl, hr, o, o', rfl⟩
  exact ⟨rfl, ((Below.refl _ _).alloc (Nat.le_refl _) _).alloc (by simp) _, .inl ⟨_, _, _, 0, by omega, hr, fun _ _ => .inl rfl, fun _ _ => by simp, by simp⟩⟩

set_option maxHeartbeats 400000 in
theorem walk_empty (p : Option Addr) (c : Nat) (w : World) : Calls Try.prog 3 #[.slice p 0 c] w fun e w' => e = .returned (.bool true) ∧ Below w.heap.size w w' := by
  have hb5 := hide (fun w => bytes5 (B := 0) p 0 c (fun _ => []) (fun _ => none) (fun _ => 0) w (.inl rfl))
  have hnil := fun (a : Option Addr) (n c : Nat) (w : World) => run_neq_slice_nil_any (P := Try.prog) w 22 24 a n c 0 0 Try.underlying22
  have hmk := fun kl kc w => run_make_row' (P := Try.prog) 22 24 (.slice none 0 0) 24 Try.underlying22 Try.info24 rfl kl kc 0 (by omega) (by omega) w
  simp only [Int.natCast_zero] at hmk
  cases p with
  | none =>
    go_enter Try.func3, Try.ntmps3
    go_wp2_with fail
    refine (unhide hb5 _).mono ?_
    rintro e w' ⟨⟨x, rfl⟩, rfl⟩
    cases x
    · go_wp2
      go_ret
      exact ⟨rfl, Below.refl _ _⟩
    · go_wp2_with fail
      refine wp_loop_rounds 1 ?_; rw [rounds_succ]
      go_wp2_with fail
      refine (new_zero _).mono ?_
      rintro e w1 ⟨rfl, hbel, _⟩
      go_wp2_with fail
      refine wp_loop_rounds 1 ?_; rw [rounds_succ]
      go_wp2_with fail
      refine wp_loop_rounds 1 ?_; rw [rounds_succ]
      go_wp2_with fail
      go_ret
      exact ⟨rfl, hbel⟩
  | some a =>
    go_enter Try.func3, Try.ntmps3
    go_wp2_with fail
    refine (unhide hb5 _).mono ?_
    rintro e w' ⟨⟨x, rfl⟩, rfl⟩
    cases x
    · go_wp2
      go_ret
      exact ⟨rfl, Below.refl _ _⟩
    · go_wp2_with fail
      refine wp_loop_rounds 1 ?_; rw [rounds_succ]
      go_wp2_with fail
      refine wp_loop_rounds 1 ?_; rw [rounds_succ]
      go_wp2_with fail
      refine (new_zero _).mono ?_
      rintro e w1 ⟨rfl, hbel, _⟩
      go_wp2_with fail
      refine wp_loop_rounds 1 ?_; rw [rounds_succ]
      go_wp2_with fail
      refine wp_loop_rounds 1 ?_; rw [rounds_succ]
      go_wp2_with fail
      go_ret
      exact ⟨rfl, ((Below.refl _ _).alloc (Nat.le_refl _) _).trans (hbel.mono (by simp))⟩

theorem step3 {BB cp j k : Nat} {w wo : World} {f : Nat → List UInt8} {qs : Nat → Option Addr} {cs : Nat → Nat} (hns : NS BB (BB + 1) wo ((List.range k).map f)) (hli : Lies BB wo (some ⟨cp, 0, none⟩) j f qs cs)
    (hbel : Below w.heap.size w wo) (hkj : k < j) (hfl : (f k).length ≤ 1048576) (hk : k ≤ 100000) (x : Bool) (hx : x = decide (f k ∈ (List.range k).map f)) (hBw : w.heap.size ≤ BB) (n : Nat) :
    Calls Try.prog 9 #[.pointer (some ⟨BB + 1, 0, none⟩), .slice (qs k) (f k).length (cs k)] (wo.drewN n) fun e w' => e = .returned (.bool x) ∧ NS BB (BB + 1) w' ((List.range (k + 1)).map f) ∧ Lies BB w' (some ⟨cp, 0, none⟩) j f qs cs ∧ Below w.heap.size w w' := by
  subst hx
  have hd : ∀ B, Below B wo (wo.drewN n) := fun B => below_drewN (Below.refl _ _) n
  refine (add_ns (hns.below (hd _) (Nat.le_succ _)) (qs k) (f k) (cs k) ((hli.cell hkj).2.drewN n) hfl (Nat.le_succ _) (by simp; omega)).mono ?_
  rintro e w' ⟨rfl, h1, h2⟩
  refine ⟨rfl, ?_, (hli.below (hd _)).below (h2.mono (Nat.le_succ _)), (hbel.trans (hd _)).trans (h2.mono (by omega))⟩
  rw [List.range_succ, List.map_append]
  exact h1

set_option maxHeartbeats 800000 in
theorem walk_full (b o n c : Nat) (f : Nat → List UInt8) (qs : Nat → Option Addr) (cs : Nat → Nat) (w : World) (hbB : b < w.heap.size)
    (hc : ∀ i, i < n → w.cell? ⟨b, o + i, none⟩ = some (.slice (qs i) (f i).length (cs i)) ∧ Holds w.heap.size w (qs i) (f i)) :
    Calls Try.prog 3 #[.slice (some ⟨b, o, none⟩) n c] w fun e w' => e = .returned (.bool true) ∧ Below w.heap.size w w' := by
  have hb5 := hide (fun w' h => bytes5 (B := w.heap.size) (some ⟨b, o, none⟩) n c f qs cs w' h)
  have hnil := fun (a : Option Addr) (n c : Nat) (w : World) => run_neq_slice_nil_any (P := Try.prog) w 22 24 a n c 0 0 Try.underlying22
  have HL : Hid (Lies w.heap.size w (some ⟨b, o, none⟩) n f qs cs) := .inr ⟨b, o, rfl, hbB, hc⟩
  have HC := hide hc
  clear hc
  by_cases hn : n ≤ 4096
  · have hn1 : (n : Int) ≤ 4096 := by omega
    have hmk := fun kl kc w => run_make_row' (P := Try.prog) 22 24 (.slice none 0 0) 24 Try.underlying22 Try.info24 rfl kl kc n (by omega) (by omega) w
    go_enter Try.func3, Try.ntmps3
    go_wp2_with fail
    refine (unhide hb5 _ (unhide HL)).mono ?_
    rintro e w' ⟨⟨x, rfl⟩, rfl⟩
    cases x
    · go_wp2
      go_ret
      exact ⟨rfl, Below.refl _ _⟩
    · go_wp2_with fail
      go_loop [3, 4] (fun z i => ∃ (k : Nat) (y : Int), k ≤ n ∧ i = .int .i64 k ∧ z = .int .i64 y ∧ 0 ≤ y ∧ y ≤ 1048576 ∧ ∀ j, j < k → (f j).length ≤ 1048576) (fun _ i => n - (intOf i).toNat)
      case atStart => exact ⟨0, 0, Nat.zero_le _, rfl, rfl, by omega, by omega, fun j hj => absurd hj (Nat.not_lt_zero _)⟩
      case round =>
        obtain ⟨k, y, hk, rfl, rfl, hy0, hy1, hfl⟩ := hrel
        have HFL := hide hfl
        clear hfl
        by_cases hlt : k < n
        · have h1 := (unhide HC k hlt).1
          have h3 : (k : Int) < (n : Int) := by omega
          by_cases h4 : (f k).length ≤ 1048576
          · have h5 : ((f k).length : Int) ≤ 1048576 := by omega
            by_cases h6 : y + (24 + (f k).length) ≤ 1048576
            · go_wp2
              go_round
              case rel =>
                refine ⟨k + 1, y + (24 + (f k).length), by omega, by go_num, rfl, by omega, h6, fun j hj => ?_⟩
                by_cases hjk : j = k
                · subst hjk; exact h4
                · exact unhide HFL j (by omega)
              case measure => simp [intOf]; omega
            · have h7 : 1048576 < y + (24 + (f k).length) := by omega
              go_wp2
              go_ret
              exact ⟨rfl, Below.refl _ _⟩
          · have h5 : 1048576 < ((f k).length : Int) := by omega
            go_wp2
            go_ret
            exact ⟨rfl, Below.refl _ _⟩
        · have e : k = n := by omega
          subst e
          go_wp2_with fail
          go_loopw [6] (fun i wr => ∃ (j : Nat) (qs' : Nat → Option Addr) (cs' : Nat → Nat), j ≤ k ∧ i = .int .i64 j ∧ wr.rowIs w.heap.size 24 k (fun i => if i < j then .slice (qs' i) (f i).length (cs' i) else .slice none 0 0) ∧
              (∀ i, i < j → Holds wr.heap.size wr (qs' i) (f i)) ∧ Below w.heap.size w wr) (fun i _ => k - (intOf i).toNat)
          case atStart => exact ⟨0, fun _ => none, fun _ => 0, Nat.zero_le _, rfl, (World.rowIs_made _ _ _ _).congr (by simp), fun i hi => absurd hi (Nat.not_lt_zero _), (Below.refl _ _).alloc (Nat.le_refl _) _⟩
          case round =>
            obtain ⟨j, qs', cs', hj, rfl, hrow, hh, hbel⟩ := hrel
            by_cases hjlt : j < k
            · have h1 : wr.cell? ⟨b, o + j, none⟩ = some (.slice (qs j) (f j).length (cs j)) := (hbel.cell (p := ⟨b, o + j, none⟩) hbB).trans (unhide HC j hjlt).1
              have h3 : (j : Int) < (k : Int) := by omega
              have hcl := clone_any (qs j) (f j) (cs j) wr ((unhide HC j hjlt).2.below hbel) hbel.size (unhide HFL j hjlt)
              have HCL := hide hcl
              have HROW := hide hrow
              have HH := hide hh
              have HBEL := hide hbel
              clear hcl hrow hh hbel
              go_wp2_with fail
              refine (unhide HCL).mono ?_
              rintro e w1 ⟨p1, c1, rfl, hh1, hb1⟩
              have hrow1 : w1.rowIs w.heap.size 24 k _ := World.rowIs.of_block (unhide HROW) (hb1.block _ (World.rowIs.lt (unhide HROW)))
              have k1 := hrow1.cell hjlt
              have k2 := hrow1.frozen j
              simp only [Nat.lt_irrefl, if_false] at k1
              have HR1 := hide (hrow1.set j (.slice p1 (f j).length c1))
              have HH2 := hide (hh1.setCell k1 (fun _ _ => by simp) (.slice p1 (f j).length c1))
              have HH3 : Hid (∀ i, i < j → Holds w1.heap.size (w1.setCell ⟨w.heap.size, j, none⟩ (.slice p1 (f j).length c1)) (qs' i) (f i)) := fun i hi => (((unhide HH i hi).below hb1).mono hb1.size).setCell k1 (fun _ _ => by simp) _
              have HB1 := hide (((unhide HBEL).trans (hb1.mono (unhide HBEL).size)).setCell (p := ⟨w.heap.size, j, none⟩) (Nat.le_refl _) (.slice p1 (f j).length c1))
              clear hrow1 hh1 hb1
              go_wp2_with fail
              go_roundw
              case rel =>
                refine ⟨j + 1, fun i => if i = j then p1 else qs' i, fun i => if i = j then c1 else cs' i, by omega, by go_num, World.rowIs.congr (unhide HR1) ?_, ?_, unhide HB1⟩
                · intro i hi
                  by_cases hij : i = j
                  · subst hij; simp
                  · by_cases h' : i < j
                    · simp [hij, h', show i < j + 1 by omega]
                    · simp [hij, h', show ¬ i < j + 1 by omega]
                · intro i hi
                  by_cases hij : i = j
                  · subst hij; simpa using unhide HH2
                  · simpa [hij] using unhide HH3 i (by omega)
              case measure => simp [intOf]; omega
            · have e : j = k := by omega
              subst e
              have HLR := hide (lies_of_row hrow hh)
              have hBw := hrow.lt
              have HBEL := hide hbel
              clear hrow hh hbel
              go_wp2_with fail
              refine (new_zero _).mono ?_
              rintro e w2 ⟨rfl, hb2, hns⟩
              have HLI := hide ((unhide HLR).below hb2)
              have HB2 := hide ((unhide HBEL).trans (hb2.mono (unhide HBEL).size))
              have HNS := hide hns
              clear HLR hb2 hns HBEL
              go_wp2_with fail
              generalize wr.heap.size = BB at HLI HNS hBw ⊢
              go_loopw [8] (fun i wr => ∃ k : Nat, k ≤ j ∧ i = .int .i64 k ∧ NS BB (BB + 1) wr ((List.range k).map f) ∧ Lies BB wr (some ⟨w.heap.size, 0, none⟩) j f qs' cs' ∧ Below w.heap.size w wr) (fun i _ => j - (intOf i).toNat)
              case atStart => exact ⟨0, Nat.zero_le _, rfl, unhide HNS, unhide HLI, unhide HB2⟩
              case round =>
                obtain ⟨k, hk, rfl, hns, hli, hbel⟩ := hrel
                obtain ⟨wo, rfl⟩ : ∃ wo : World, wo = wr := ⟨_, rfl⟩
                clear HNS HLI HB2
                have HNS := hide hns
                have HLI := hide hli
                have HBEL := hide hbel
                clear hns hli hbel
                by_cases hkj : k < j
                · have h3 : (k : Int) < (j : Int) := by omega
                  have HADD := hide (fun x hx n => step3 (unhide HNS) (unhide HLI) (unhide HBEL) hkj (unhide HFL k hkj) (by omega) x hx (Nat.le_of_lt hBw) n)
                  go_wp2_with fail
                  go_loopw [9, 10] (fun se jj wi => ∃ i m : Nat, i ≤ k ∧ jj = .int .i64 i ∧ se = .bool false ∧ wi = wo.drewN m ∧ ∀ t, t < i → f t ≠ f k) (fun _ i _ => k - (intOf i).toNat)
                  case atStart => exact ⟨0, 0, Nat.zero_le _, rfl, rfl, rfl, fun t ht => absurd ht (Nat.not_lt_zero _)⟩
                  case round =>
                    obtain ⟨i, m, hi, rfl, rfl, rfl, hno⟩ := hrel
                    have HNO := hide hno
                    clear hno
                    have hck := (unhide HLI).cell hkj
                    have c1 := hck.1
                    by_cases hik : i < k
                    · have hci := (unhide HLI).cell (i := i) (by omega)
                      have c2 := hci.1
                      have h4 : (i : Int) < (k : Int) := by omega
                      have h5 : (i : Int) < (j : Int) := by omega
                      have HQ := hide (fun n => eq_any (qs' i) (qs' k) (f i) (f k) (cs' i) (cs' k) (wo.drewN n) (hci.2.drewN n) (hck.2.drewN n) (by have := unhide HFL i (by omega); omega) (by have := unhide HFL k hkj; omega))
                      clear hci hck
                      by_cases hfe : f i = f k
                      · have HQ1 := hide (fun n => (unhide HQ n).mono (R' := fun e w' => e = .returned (.bool true) ∧ ∃ m, w' = (wo.drewN n).drewN m) (fun e w' h => ⟨h.1.trans (by rw [hfe]; simp), h.2⟩))
                        have HFE := hide hfe
                        clear HQ hfe
                        go_wp2_with fail
                        go_quiet ((go_at_call 8; exact quiet_of2 (unhide HQ1)))
                        go_wp2_with fail
                        refine (unhide HADD true (by simp; exact ⟨i, hik, unhide HFE⟩) _).mono ?_
                        rintro e w3 ⟨rfl, n1, n2, n3⟩
                        have N1 := hide n1
                        have N2 := hide n2
                        have N3 := hide n3
                        clear n1 n2 n3
                        go_wp2_with fail
                        go_roundw
                        case rel => exact ⟨k + 1, by omega, by go_num, unhide N1, unhide N2, unhide N3⟩
                        case measure => simp [intOf]; omega
                      · have HQ1 := hide (fun n => (unhide HQ n).mono (R' := fun e w' => e = .returned (.bool false) ∧ ∃ m, w' = (wo.drewN n).drewN m) (fun e w' h => ⟨h.1.trans (by simp [hfe]), h.2⟩))
                        have HFE := hide hfe
                        clear HQ hfe
                        go_wp2_with fail
                        go_quiet ((go_at_call 8; exact quiet_of2 (unhide HQ1)))
                        go_wp2_with fail
                        go_roundw
                        case rel =>
                          refine ⟨i + 1, _, by omega, by go_num, rfl, rfl, fun t ht => ?_⟩
                          by_cases hti : t = i
                          · subst hti; exact unhide HFE
                          · exact unhide HNO t (by omega)
                        case measure => simp [intOf]; omega
                    · have e : i = k := by omega
                      subst e
                      clear hck
                      go_wp2_with fail
                      refine (unhide HADD false (by simp; exact fun t ht => unhide HNO t ht) _).mono ?_
                      rintro e w3 ⟨rfl, n1, n2, n3⟩
                      have N1 := hide n1
                      have N2 := hide n2
                      have N3 := hide n3
                      clear n1 n2 n3
                      go_wp2_with fail
                      go_roundw
                      case rel => exact ⟨i + 1, by omega, by go_num, unhide N1, unhide N2, unhide N3⟩
                      case measure => simp [intOf]; omega
                · have e : k = j := by omega
                  subst e
                  go_wp2_with fail
                  go_loopw [11] (fun i wr => ∃ (t : Nat) (A : List (List UInt8)), t ≤ k ∧ i = .int .i64 t ∧ A.length ≤ k + t ∧ (∀ i, i < k → f i ∈ A) ∧ NS BB (BB + 1) wr A ∧ Lies BB wr (some ⟨w.heap.size, 0, none⟩) k f qs' cs' ∧ Below w.heap.size w wr) (fun i _ => k - (intOf i).toNat)
                  case atStart => exact ⟨0, _, Nat.zero_le _, rfl, by simp, fun i hi => by simp; exact ⟨i, hi, rfl⟩, unhide HNS, unhide HLI, unhide HBEL⟩
                  case round =>
                    obtain ⟨t, A, ht, rfl, hAl, hA, hns, hli, hbel⟩ := hrel
                    by_cases htk : t < k
                    · have c1 := (hli.cell htk).1
                      have h4 : (t : Int) < (k : Int) := by omega
                      have HADD := hide ((add_ns hns (qs' t) (f t) (cs' t) (hli.cell htk).2 (unhide HFL t htk) (Nat.le_succ _) (by omega)).mono (R' := fun e w' => e = .returned (.bool true) ∧ NS BB (BB + 1) w' (A ++ [f t]) ∧ Lies BB w' (some ⟨w.heap.size, 0, none⟩) k f qs' cs' ∧ Below w.heap.size w w')
                        (fun e w' h => ⟨h.1.trans (ret_bool (by simp [hA t htk])), h.2.1, hli.below (h.2.2.mono (Nat.le_succ _)), hbel.trans (h.2.2.mono (by omega))⟩))
                      have HA := hide hA
                      clear hns hli hbel hA
                      go_wp2_with fail
                      refine (unhide HADD).mono ?_
                      rintro e w3 ⟨rfl, n1, n2, n3⟩
                      have N1 := hide n1
                      have N2 := hide n2
                      have N3 := hide n3
                      clear n1 n2 n3
                      go_wp2_with fail
                      go_roundw
                      case rel => exact ⟨t + 1, A ++ [f t], by omega, by go_num, by simp; omega, fun i hi => List.mem_append_left _ (unhide HA i hi), unhide N1, unhide N2, unhide N3⟩
                      case measure => simp [intOf]; omega
                    · have HB := hide hbel
                      clear hns hli hbel hA
                      go_wp2_with fail
                      go_ret
                      exact ⟨rfl, unhide HB⟩
  · have hn1 : 4096 < (n : Int) := by omega
    go_enter Try.func3, Try.ntmps3
    go_wp2_with fail
    refine (unhide hb5 _ (unhide HL)).mono ?_
    rintro e w' ⟨⟨x, rfl⟩, rfl⟩
    cases x
    · go_wp2
      go_ret
      exact ⟨rfl, Below.refl _ _⟩
    · go_wp2
      go_ret
      exact ⟨rfl, Below.refl _ _⟩
end Go.Proofs.Qxb6603155a

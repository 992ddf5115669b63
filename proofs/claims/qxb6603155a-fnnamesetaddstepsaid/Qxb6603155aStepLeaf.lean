import Derived.Test.Qxb6603155aNs
namespace Go.Proofs.Qxb6603155a.Step
open Go.RowKit Go.Maps

/-- Eight slices as an array's value. -/
abbrev Agg (fp : Nat → Option Addr) (fs : Nat → List UInt8) (fc : Nat → Nat) : Value :=
  .agg #[.slice (fp 0) (fs 0).length (fc 0), .slice (fp 1) (fs 1).length (fc 1), .slice (fp 2) (fs 2).length (fc 2), .slice (fp 3) (fs 3).length (fc 3), .slice (fp 4) (fs 4).length (fc 4), .slice (fp 5) (fs 5).length (fc 5), .slice (fp 6) (fs 6).length (fc 6), .slice (fp 7) (fs 7).length (fc 7)]

set_option maxHeartbeats 800000 in
/-- ZZNameSetFields. -/
theorem fields_any (S : Nat) (fp : Nat → Option Addr) (fs : Nat → List UInt8) (fc : Nat → Nat) (n : Int) (m : Option Nat) (w : World) (hR : w.rowIs S 40 10 (Rec fp fs fc n m)) :
    Calls Try.prog 11 #[.pointer (some ⟨S, 0, none⟩)] w fun e w' => e = .returned (.tuple #[Agg fp fs fc, .int .i64 n, .map m]) ∧ Below w.heap.size w w' := by
  have hlt := hR.lt
  have C : ∀ o k, k < 8 → (w.alloc o).cell? ⟨S, k, none⟩ = some (.slice (fp k) (fs k).length (fc k)) := fun o k hk => (World.cell?_alloc_lt w _ _ hlt).trans ((hR.cell (i := k) (by omega)).trans (by simp [Rec, hk]))
  have c8 : ∀ o, (w.alloc o).cell? ⟨S, 8, none⟩ = some (.int .i64 n) := fun o => (World.cell?_alloc_lt w _ _ hlt).trans (hR.cell (i := 8) (by omega))
  have c9 : ∀ o, (w.alloc o).cell? ⟨S, 9, none⟩ = some (.map m) := fun o => (World.cell?_alloc_lt w _ _ hlt).trans (hR.cell (i := 9) (by omega))
  have c0 := fun o => C o 0 (by omega)
  have c1 := fun o => C o 1 (by omega)
  have c2 := fun o => C o 2 (by omega)
  have c3 := fun o => C o 3 (by omega)
  have c4 := fun o => C o 4 (by omega)
  have c5 := fun o => C o 5 (by omega)
  have c6 := fun o => C o 6 (by omega)
  have c7 := fun o => C o 7 (by omega)
  clear hR C
  go_enter Try.func11, Try.ntmps11
  go_wp2
  go_region
  go_wp2
  exact bodyPost_ret (v := .tuple #[Agg fp fs fc, .int .i64 n, .map m]) (by simp [results, Try.results11, go_sem]) rfl ⟨rfl, ((Below.refl _ _).alloc (Nat.le_refl _) _).drew⟩

theorem agg_row (w : World) (fp : Nat → Option Addr) (fs : Nat → List UInt8) (fc : Nat → Nat) (t : TypeId) :
    (w.alloc (.cells #[.slice (fp 0) (fs 0).length (fc 0), .slice (fp 1) (fs 1).length (fc 1), .slice (fp 2) (fs 2).length (fc 2), .slice (fp 3) (fs 3).length (fc 3), .slice (fp 4) (fs 4).length (fc 4), .slice (fp 5) (fs 5).length (fc 5), .slice (fp 6) (fs 6).length (fc 6), .slice (fp 7) (fs 7).length (fc 7)] t)).rowIs w.heap.size t 8 (fun i => .slice (fp i) (fs i).length (fc i)) := by
  refine World.rowIs_alloc w _ t _ (fun i hi => ?_)
  have h : i = 0 ∨ i = 1 ∨ i = 2 ∨ i = 3 ∨ i = 4 ∨ i = 5 ∨ i = 6 ∨ i = 7 := by simp at hi; omega
  rcases h with rfl | rfl | rfl | rfl | rfl | rfl | rfl | rfl <;> rfl

set_option maxHeartbeats 800000 in
/-- zzSameFewB1, where the eight are the same. -/
theorem same_any {B : Nat} (fp gp : Nat → Option Addr) (fs gs : Nat → List UInt8) (fc gc : Nat → Nat) (w : World) (hf : ∀ i, i < 8 → Holds B w (fp i) (fs i)) (hg : ∀ i, i < 8 → Holds B w (gp i) (gs i)) (hB : B ≤ w.heap.size)
    (hl : ∀ i, i < 8 → (gs i).length ≤ 1048576) (he : ∀ i, i < 8 → fs i = gs i) :
    Calls Try.prog 12 #[Agg fp fs fc, Agg gp gs gc] w fun e w' => e = .returned (.bool true) ∧ Below w.heap.size w w' := by
  have HF := hide hf
  have HG := hide hg
  have HE := hide he
  have R1 := hide (agg_row w fp fs fc 28)
  have R2 := hide (fun o => agg_row (w.alloc o) gp gs gc 28)
  clear hf hg he
  go_enter Try.func12, Try.ntmps12
  go_wp2
  go_loopw [5] (fun i wr => ∃ k : Nat, k ≤ 8 ∧ i = .int .i64 k ∧ wr.rowIs w.heap.size 28 8 (fun i => .slice (fp i) (fs i).length (fc i)) ∧ wr.rowIs (w.heap.size + 1) 28 8 (fun i => .slice (gp i) (gs i).length (gc i)) ∧ Below w.heap.size w wr) (fun i _ => 8 - (intOf i).toNat)
  case atStart => exact ⟨0, Nat.zero_le _, rfl, World.rowIs.alloc (unhide R1) _, by simpa using unhide R2 _, ((Below.refl _ _).alloc (Nat.le_refl _) _).alloc (by simp) _⟩
  case round =>
    obtain ⟨k, hk, rfl, r1, r2, hbel⟩ := hrel
    by_cases hlt : k < 8
    · have c1 := r1.cell hlt
      have c2 := r2.cell hlt
      have h3 : (k : Int) < 8 := by omega
      have HQ := hide (fun n => (eq_any (fp k) (gp k) (fs k) (gs k) (fc k) (gc k) (wr.drewN n) (((unhide HF k hlt).below (hbel.mono hB)).drewN n) (((unhide HG k hlt).below (hbel.mono hB)).drewN n) (by rw [unhide HE k hlt]; have := hl k hlt; omega) (by have := hl k hlt; omega)).mono
        (R' := fun e w' => e = .returned (.bool true) ∧ ∃ m, w' = (wr.drewN n).drewN m) (fun e w' h => ⟨h.1.trans (ret_bool (by rw [unhide HE k hlt]; simp)), h.2⟩))
      have K1 := hide r1
      have K2 := hide r2
      have K3 := hide hbel
      clear r1 r2 hbel R1 R2
      go_wp2_with fail
      go_quiet ((go_at_call 8; exact Calls.quiet_of (unhide HQ _)))
      go_wp2_with fail
      go_roundw
      case rel => exact ⟨k + 1, by omega, by go_num, unhide K1, unhide K2, below_drewN (unhide K3) _⟩
      case measure => simp [intOf]; omega
    · have K3 := hide hbel
      clear r1 r2 hbel R1 R2
      go_wp2_with fail
      go_ret
      exact ⟨rfl, unhide K3⟩

/-- kn strings lie at p: the i-th is K i. -/
def Strs (B : Nat) (w : World) (p : Option Addr) (n : Nat) (K : Nat → ByteArray) : Prop :=
  n = 0 ∨ ∃ b o, p = some ⟨b, o, none⟩ ∧ b < B ∧ ∀ i, i < n → w.cell? ⟨b, o + i, none⟩ = some (.string (K i))

def SomeBool (e : Ending) : Prop := ∃ x, e = .returned (.bool x)
theorem SomeBool.mk (x : Bool) : SomeBool (.returned (.bool x)) := ⟨x, rfl⟩

set_option maxHeartbeats 800000 in
/-- zzBytes_FnNameSetAddStep. -/
theorem bytes10 {B : Nat} (fp : Nat → Option Addr) (fs : Nat → List UInt8) (fc : Nat → Nat) (n : Int) (hm : Bool) (kp : Option Addr) (kn kc : Nat) (K : Nat → ByteArray) (p : Option Addr) (nl nc : Nat) (w : World)
    (hk : Strs B w kp kn K) (hB : B ≤ w.heap.size) :
    Calls Try.prog 10 #[Agg fp fs fc, .int .i64 n, .bool hm, .slice kp kn kc, .slice p nl nc] w fun e w' => SomeBool e ∧ Below w.heap.size w w' := by
  have R1 := hide (agg_row w fp fs fc 28)
  go_enter Try.func10, Try.ntmps10
  go_wp2
  go_loopw [11, 12] (fun z i wr => ∃ (k : Nat) (y : Int), k ≤ 8 ∧ i = .int .i64 k ∧ z = .int .i64 y ∧ 0 ≤ y ∧ y ≤ 1048576 ∧ wr.rowIs w.heap.size 28 8 (fun i => .slice (fp i) (fs i).length (fc i)) ∧ Below w.heap.size w wr) (fun _ i _ => 8 - (intOf i).toNat)
  case atStart => exact ⟨0, 0, Nat.zero_le _, rfl, rfl, by omega, by omega, unhide R1, (Below.refl _ _).alloc (Nat.le_refl _) _⟩
  case round =>
    obtain ⟨k, y, hk8, rfl, rfl, hy0, hy1, r1, hbel⟩ := hrel
    by_cases hlt : k < 8
    · have c1 := r1.cell hlt
      have h3 : (k : Int) < 8 := by omega
      have K1 := hide r1
      have K3 := hide hbel
      clear r1 hbel R1
      by_cases h6 : (fs k).length ≤ 1048576
      · have h7 : ((fs k).length : Int) ≤ 1048576 := by omega
        by_cases h8 : y + (fs k).length ≤ 1048576
        · go_wp2
          go_roundw
          case rel => exact ⟨k + 1, y + (fs k).length, by omega, by go_num, rfl, by omega, h8, unhide K1, unhide K3⟩
          case measure => simp [intOf]; omega
        · have h9 : 1048576 < y + (fs k).length := by omega
          go_wp2
          go_ret
          exact ⟨SomeBool.mk _, unhide K3⟩
      · have h7 : 1048576 < ((fs k).length : Int) := by omega
        go_wp2
        go_ret
        exact ⟨SomeBool.mk _, unhide K3⟩
    · have h3 : ¬ (k : Int) < 8 := by omega
      have K3 := hide hbel
      clear r1 hbel R1
      by_cases hkn : kn ≤ 1048576
      · have h4 : (kn : Int) ≤ 1048576 := by omega
        by_cases h8 : y + kn ≤ 1048576
        · go_wp2
          go_loop [11, 13] (fun z i => ∃ (j : Nat) (x : Int), j ≤ kn ∧ i = .int .i64 j ∧ z = .int .i64 x ∧ 0 ≤ x ∧ x ≤ 1048576) (fun _ i => kn - (intOf i).toNat)
          case atStart => exact ⟨0, y + kn, Nat.zero_le _, rfl, rfl, by omega, by omega⟩
          case round =>
            obtain ⟨j, x, hj, rfl, rfl, hx0, hx1⟩ := hrel
            by_cases hjk : j < kn
            · rcases hk with h0 | ⟨b, o, rfl, hbB, hc⟩
              · omega
              · have c1 : wr.cell? ⟨b, o + j, none⟩ = some (.string (K j)) := ((unhide K3).cell (p := ⟨b, o + j, none⟩) (by show b < _; omega)).trans (hc j hjk)
                have h10 : (j : Int) < (kn : Int) := by omega
                by_cases h11 : (K j).size ≤ 1048576
                · have h12 : ((K j).size : Int) ≤ 1048576 := by omega
                  by_cases h13 : x + (K j).size ≤ 1048576
                  · go_wp2
                    go_round
                    case rel => exact ⟨j + 1, x + (K j).size, by omega, by go_num, rfl, by omega, h13⟩
                    case measure => simp [intOf]; omega
                  · have h14 : 1048576 < x + (K j).size := by omega
                    go_wp2
                    go_ret
                    exact ⟨SomeBool.mk _, unhide K3⟩
                · have h12 : 1048576 < ((K j).size : Int) := by omega
                  go_wp2
                  go_ret
                  exact ⟨SomeBool.mk _, unhide K3⟩
            · have h10 : ¬ (j : Int) < (kn : Int) := by omega
              by_cases hnl : nl ≤ 1048576
              · have h5 : (nl : Int) ≤ 1048576 := by omega
                by_cases h15 : x + nl ≤ 1048576
                · go_wp2
                  go_ret
                  exact ⟨SomeBool.mk _, unhide K3⟩
                · have h16 : 1048576 < x + nl := by omega
                  go_wp2
                  go_ret
                  exact ⟨SomeBool.mk _, unhide K3⟩
              · have h5 : 1048576 < (nl : Int) := by omega
                go_wp2
                go_ret
                exact ⟨SomeBool.mk _, unhide K3⟩
        · have h9 : 1048576 < y + kn := by omega
          go_wp2
          go_ret
          exact ⟨SomeBool.mk _, unhide K3⟩
      · have h4 : 1048576 < (kn : Int) := by omega
        go_wp2
        go_ret
        exact ⟨SomeBool.mk _, unhide K3⟩

end Go.Proofs.Qxb6603155a.Step

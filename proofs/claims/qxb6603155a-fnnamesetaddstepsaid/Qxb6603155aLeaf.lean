import Derived.Test.Qxb6603155aBase
namespace Go.Proofs.Qxb6603155a
open Go.RowKit

theorem Try.info5 : (Try.prog.info? 5).map (fun i => (i.zero, i.size, i.bytes)) = some (some (.int .u8 0), 1, 1) := by kernel_rfl
theorem Try.info24 : (Try.prog.info? 24).map (fun i => (i.zero, i.size, i.bytes)) = some (some (.slice none 0 0), 1, 24) := by kernel_rfl

set_option maxHeartbeats 400000 in
/-- bytes.Equal. -/
theorem equal_any {B B2 : Nat} (p q : Option Addr) (s t : List UInt8) (c d : Nat) (w : World) (hs : Holds B w p s) (ht : Holds B2 w q t) :
    Calls Try.prog 14 #[.slice p s.length c, .slice q t.length d] w fun e w' => e = .returned (.bool (s == t)) ∧ w' = w := by
  have h1 := hs.str c
  have h2 := ht.str d
  go_enter Try.func14, Try.ntmps14
  go_wp2
  go_ret
  refine ⟨ret_bool ?_, rfl⟩
  simp

theorem rowIs_holds {w : World} {b : Nat} {s : List UInt8} {f : Nat → Value} (h : w.rowIs b 5 s.length f) (hf : ∀ i, i < s.length → f i = .int .u8 ((s.getD i 0).toNat : Int)) : Holds w.heap.size w (some ⟨b, 0, none⟩) s :=
  .inr ⟨b, 0, rfl, h.lt, fun i hi => by rw [Nat.zero_add, h.cell hi, hf i hi]⟩

set_option maxHeartbeats 400000 in
/-- zzCloneBytesB1. -/
theorem clone_any {B : Nat} (p : Option Addr) (s : List UInt8) (c : Nat) (w : World) (hs : Holds B w p s) (hB : B ≤ w.heap.size) (hl : s.length ≤ 1048576) :
    Calls Try.prog 6 #[.slice p s.length c] w fun e w' => ∃ p' c', e = .returned (.slice p' s.length c') ∧ Holds w'.heap.size w' p' s ∧ Below w.heap.size w w' := by
  have hmk := fun kl kc w => run_make_row' (P := Try.prog) 24 5 (.int .u8 0) 1 Try.underlying24 Try.info5 rfl kl kc s.length (by omega) (by omega) w
  have hnil := fun (a : Option Addr) (n c : Nat) (w : World) => Lib.run_eql_slice_nil (P := Try.prog) w 24 5 a n c 0 0 Try.underlying24
  rcases hs with rfl | ⟨b, o, rfl, hbB, hc⟩
  · cases p with
    | none =>
      go_enter Try.func6, Try.ntmps6
      go_wp2
      go_ret
      exact ⟨_, _, rfl, .inl rfl, Below.refl _ _⟩
    | some a =>
      simp only [List.length_nil, Int.natCast_zero] at hmk
      go_enter Try.func6, Try.ntmps6
      go_wp2
      refine wp_loop_rounds 1 ?_; rw [rounds_succ]
      go_wp2
      go_ret
      exact ⟨_, _, rfl, .inl rfl, (Below.refl _ _).alloc (Nat.le_refl _) _⟩
  · obtain ⟨n, hn⟩ : ∃ n, n = s.length := ⟨_, rfl⟩
    rw [← hn] at hc hl hmk ⊢
    have HN : Hid (n = s.length) := hn
    clear hn
    go_enter Try.func6, Try.ntmps6
    go_wp2
    go_loopw [4] (fun i wr => ∃ k : Nat, k ≤ n ∧ i = .int .i64 k ∧ wr.rowIs w.heap.size 5 n (fun j => if j < k then .int .u8 ((s.getD j 0).toNat : Int) else .int .u8 0) ∧ Below w.heap.size w wr) (fun i _ => n - (intOf i).toNat)
    case atStart => exact ⟨0, Nat.zero_le _, rfl, (World.rowIs_made _ _ _ _).congr (by simp), (Below.refl _ _).alloc (Nat.le_refl _) _⟩
    case round =>
      obtain ⟨k, hk, rfl, hrow, hbel⟩ := hrel
      have hlt0 := hrow.lt
      by_cases hlt : k < n
      · have h1 : wr.cell? ⟨b, o + k, none⟩ = some (.int .u8 ((s.getD k 0).toNat : Int)) := (hbel.cell (p := ⟨b, o + k, none⟩) (by show b < _; omega)).trans (hc k hlt)
        have h2 := hrow.cell hlt
        have h2f := hrow.frozen k
        have h3 : (k : Int) < (n : Int) := by omega
        have R1 := hrow.set k (.int .u8 ((s.getD k 0).toNat : Int))
        have R2 := hbel.setCell (p := ⟨w.heap.size, k, none⟩) (Nat.le_refl _) (.int .u8 ((s.getD k 0).toNat : Int))
        have HR := hide R1
        have HR2 := hide R2
        clear R1 R2 hrow hbel
        go_wp2
        go_roundw
        case rel => 
          refine ⟨k + 1, by omega, by go_num, World.rowIs.congr (unhide HR) ?_, unhide HR2⟩
          intro i hi
          by_cases h : i = k
          · subst h; simp
          · by_cases h' : i < k
            · simp [h, h', show i < k + 1 by omega]
            · simp [h, h', show ¬ i < k + 1 by omega]
        case measure => simp [intOf]; omega
      · have e : k = n := by omega
        subst e
        go_wp2
        go_ret
        exact ⟨_, _, rfl, rowIs_holds (HN.out ▸ hrow) (fun i hi => by rw [if_pos (by have := HN.out; omega)]), hbel⟩

end Go.Proofs.Qxb6603155a

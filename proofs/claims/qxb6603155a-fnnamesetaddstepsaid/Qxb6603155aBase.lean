import Derived.Test.Qxb6603155aRows
import Derived.WalkKit
import Derived.WalkSpells
import Derived.WalkLawsBesides
import Derived.BigQuiet
import Derived.Deep.QuietTactic
import Derived.Deep.OwnRows
import Derived.Laws.BytesArg
namespace Go.Proofs.Qxb6603155a
open Go.RowKit

/-- The bytes s lie at p, in a block below B. -/
def Holds (B : Nat) (w : World) (p : Option Addr) (s : List UInt8) : Prop :=
  s = [] ∨ ∃ b o, p = some ⟨b, o, none⟩ ∧ b < B ∧ ∀ i, i < s.length → w.cell? ⟨b, o + i, none⟩ = some (.int .u8 ((s.getD i 0).toNat : Int))

theorem Holds.mono {B B' : Nat} {w : World} {p : Option Addr} {s : List UInt8} (h : Holds B w p s) (hB : B ≤ B') : Holds B' w p s := by
  rcases h with h | ⟨b, o, h1, h2, h3⟩
  · exact .inl h
  · exact .inr ⟨b, o, h1, by omega, h3⟩

/-- Where no cell below B has turned the bytes lie as they lay. -/
theorem Holds.kept {B : Nat} {w w' : World} {p : Option Addr} {s : List UInt8} (h : Holds B w p s) (hc : ∀ a : Addr, a.block < B → w'.cell? a = w.cell? a) : Holds B w' p s := by
  rcases h with h | ⟨b, o, h1, h2, h3⟩
  · exact .inl h
  · exact .inr ⟨b, o, h1, h2, fun i hi => (hc _ h2).trans (h3 i hi)⟩

theorem Holds.below {B : Nat} {w w' : World} {p : Option Addr} {s : List UInt8} (h : Holds B w p s) (hb : Below B w w') : Holds B w' p s :=
  h.kept fun _ ha => hb.cell ha

theorem cell_drewN (w : World) (n : Nat) (a : Addr) : (w.drewN n).cell? a = w.cell? a := rfl
theorem frozen_drewN (w : World) (n : Nat) (a : Addr) : (w.drewN n).frozen? a = w.frozen? a := rfl
theorem drewN_drewN (w : World) (m n : Nat) : (w.drewN m).drewN n = w.drewN (m + n) := by simp [World.drewN, Nat.add_assoc]
theorem Holds.drewN {B : Nat} {w : World} {p : Option Addr} {s : List UInt8} (h : Holds B w p s) (n : Nat) : Holds B (w.drewN n) p s :=
  h.kept fun _ _ => cell_drewN _ _ _

/-- 'string(b)' of no byte. -/
theorem str_zero (w : World) (p : Option Addr) (c : Nat) : (convert 24 9 (.slice p 0 c)).run Try.prog w = .ok (.string ByteArray.empty) w := by
  rw [run_convert_bytes_string w 24 9 5 _ 0 c Try.underlying24 Try.underlying5 Try.underlying9]
  cases p <;> simp [Conv.bytesToString, loadCells]
  all_goals rfl

/-- 'string(b)'. -/
theorem Holds.str {B : Nat} {w : World} {p : Option Addr} {s : List UInt8} (h : Holds B w p s) (c : Nat) : (convert 24 9 (.slice p s.length c)).run Try.prog w = .ok (.string ⟨s.toArray⟩) w := by
  rcases h with rfl | ⟨b, o, rfl, _, hc⟩
  · exact str_zero w p c
  · have h := run_convert_bytes_arg (P := Try.prog) w 24 5 Try.underlying24 Try.underlying5 b o s.length c (s.map fun x => (x.toNat : Int)) (by simp) (fun i hi => by
      rw [hc i hi]; simp [List.getD, List.getElem?_eq_getElem hi]) 9 Try.underlying9
    rw [h]
    congr 2
    simp only [strOfNums, List.map_map]
    congr 2
    exact (List.map_congr_left (fun x _ => by simp)).trans (List.map_id _)

theorem hide {p : Prop} (h : p) : Hid p := h
theorem unhide {p : Prop} (h : Hid p) : p := h

theorem ret_bool {a b : Bool} (h : a = b) : Ending.returned (.bool a) = .returned (.bool b) := by rw [h]

theorem beq_take_step {s t : List UInt8} {k : Nat} (h : s.take k = t.take k) (hs : k < s.length) (ht : k < t.length)
    (he : (((s[k]?.getD 0).toNat : Int) != ((t[k]?.getD 0).toNat : Int)) = false) : s.take (k + 1) = t.take (k + 1) := by
  rw [List.take_succ_eq_append_getElem hs, List.take_succ_eq_append_getElem ht, h]
  simp [List.getElem?_eq_getElem hs, List.getElem?_eq_getElem ht] at he
  have : s[k] = t[k] := UInt8.toNat_inj.1 (by omega)
  rw [this]

theorem beq_take_no {s t : List UInt8} {k : Nat} (he : (((s[k]?.getD 0).toNat : Int) != ((t[k]?.getD 0).toNat : Int)) = true) : (s == t) = false := by
  rw [beq_eq_false_iff_ne]
  intro e
  subst e
  simp at he

set_option maxHeartbeats 400000 in
/-- zzEqBytesB1. -/
theorem eq_any {B B2 : Nat} (p q : Option Addr) (s t : List UInt8) (c d : Nat) (w : World) (hs : Holds B w p s) (ht : Holds B2 w q t) (hl : s.length ≤ 4294967296) (hl2 : t.length ≤ 4294967296) :
    Calls Try.prog 8 #[.slice p s.length c, .slice q t.length d] w fun e w' => e = .returned (.bool (s == t)) ∧ ∃ n, w' = w.drewN n := by
  by_cases hlen : s.length = t.length
  · rcases hs with rfl | ⟨b, o, rfl, _, hc⟩
    · obtain rfl : t = [] := List.eq_nil_of_length_eq_zero (by simpa using hlen.symm)
      go_enter Try.func8, Try.ntmps8
      go_wp2
      refine wp_loop_rounds 1 ?_; rw [rounds_succ]
      go_wp2
      go_ret
      exact ⟨by rfl, 0, rfl⟩
    · rcases ht with rfl | ⟨b2, o2, rfl, _, hc2⟩
      · obtain rfl : s = [] := List.eq_nil_of_length_eq_zero (by simpa using hlen)
        go_enter Try.func8, Try.ntmps8
        go_wp2
        refine wp_loop_rounds 1 ?_; rw [rounds_succ]
        go_wp2
        go_ret
        exact ⟨by rfl, 0, rfl⟩
      · rw [← hlen]
        rw [← hlen] at hc2
        obtain ⟨n, hn⟩ : ∃ n, n = s.length := ⟨_, rfl⟩
        rw [← hn] at hc hc2 hl ⊢
        have HN : Hid (n = s.length) := hn
        have HL : Hid (s.length = t.length) := hlen
        clear hn hlen hl2
        go_enter Try.func8, Try.ntmps8
        go_wp2
        go_loopw [5] (fun i wr => ∃ k m : Nat, k ≤ n ∧ i = .int .i64 k ∧ wr = w.drewN m ∧ s.take k = t.take k) (fun i _ => n - (intOf i).toNat)
        case atStart => exact ⟨0, 0, Nat.zero_le _, rfl, rfl, by simp⟩
        case round =>
          obtain ⟨k, m, hk, rfl, rfl, htk⟩ := hrel
          have HT : Hid (s.take k = t.take k) := htk
          clear htk
          by_cases hlt : k < n
          · have h1 := hc k hlt
            have h2 := hc2 k hlt
            have h3 : (k : Int) < (n : Int) := by omega
            go_wp2
            go_quiet (fail)
            go_wp2
            · have hne : (((s[k]?.getD 0).toNat : Int) != ((t[k]?.getD 0).toNat : Int)) = true := by assumption
              go_ret
              exact ⟨ret_bool (beq_take_no hne).symm, _, drewN_drewN _ _ _⟩
            · have hne : (((s[k]?.getD 0).toNat : Int) != ((t[k]?.getD 0).toNat : Int)) = false := by assumption
              go_roundw
              case rel => exact ⟨k + 1, _, by omega, by go_num, rfl, beq_take_step HT.out (by have := HN.out; omega) (by have := HN.out; have := HL.out; omega) hne⟩
              case measure => simp [intOf]; omega
          · go_wp2
            go_ret
            refine ⟨ret_bool ?_, _, rfl⟩
            have e1 := HT.out
            rw [List.take_of_length_le (by have := HN.out; omega), List.take_of_length_le (by have := HN.out; have := HL.out; omega)] at e1
            rw [e1]; simp
  · have h1 : ((s.length : Int) == (t.length : Int)) = false := by simp; omega
    go_enter Try.func8, Try.ntmps8
    go_wp2
    go_ret
    refine ⟨ret_bool ?_, 0, rfl⟩
    symm
    rw [beq_eq_false_iff_ne]
    intro e
    exact hlen (by rw [e])

end Go.Proofs.Qxb6603155a

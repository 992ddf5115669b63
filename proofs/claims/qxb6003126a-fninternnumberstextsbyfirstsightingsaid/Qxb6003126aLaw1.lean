import Derived.Test.Qxb6003126aFirst
import Derived.Deep.CutRange
import Derived.Deep.RegionWith
namespace Go.Proofs.Qxb6003126a
open Go.RowKit Go.Maps

theorem Try.info21 : (Try.prog.info? 21).map (fun i => (i.zero, i.size, i.bytes)) = some (some (.int .i32 0), 1, 4) := by kernel_rfl

theorem copy_step (x : Nat → ByteArray) (k n : Nat) : ∀ j, j < n → (if j = k then Value.string (x k) else if j < k then .string (x j) else .string ByteArray.empty) = if j < k + 1 then .string (x j) else .string ByteArray.empty := by
  intro j _
  by_cases h : j = k
  · subst h; simp
  · by_cases h' : j < k
    · simp [h, h', show j < k + 1 by omega]
    · simp [h, h', show ¬ j < k + 1 by omega]

theorem eq_yes {a b : ByteArray} (h : a = b) : (a.toList == b.toList) = true := by rw [h]; simp
theorem eq_no {a b : ByteArray} (h : a ≠ b) : (a.toList == b.toList) = false := by
  rw [beq_eq_false_iff_ne]
  intro e
  rw [ByteArray.toList_eq, ByteArray.toList_eq] at e
  exact h (ByteArray.ext (Array.toList_inj.mp e))

theorem row_int (F : Nat → Int) (k : Nat) (v : Int) (n : Nat) : ∀ j, j < n → (if j = k then Value.int .i32 v else .int .i32 (F j)) = .int .i32 (if j = k then v else F j) := by
  intro j _; split <;> rfl

theorem held_at {w : World} {g n s : Nat} {A : Option Addr} {C : Nat} {x : Nat → ByteArray} {F : Nat → Int} (ho : w.ownsRow (g + 1) 9 1 (.slice A (dist x n).length C) (dist x n).length ((dist x n).map Value.string)) (hF : Want x n F) (hs : s < n) :
    ∃ g2 q : Nat, A = some ⟨g2, 0, none⟩ ∧ F s = q ∧ q < (dist x n).length ∧ w.cell? ⟨g2, q, none⟩ = some (.string (x s)) := by
  obtain ⟨q, h1, h2⟩ := hF s hs
  have hq := (List.getElem?_eq_some_iff.1 h2).1
  obtain ⟨g2, cap, e, _, _⟩ := ho.form (by omega)
  cases e
  refine ⟨g2, q, rfl, h1, hq, ?_⟩
  rw [ho.cellAt q (by omega), List.getElem?_map, h2]
  rfl

theorem drewB {B m : Nat} {a wo : World} {p : Addr} {u : Value} (h : Below B a (wo.setCell p u)) : Below B a ((wo.drewN m).setCell p u) := ⟨h.os, h.tape, h.output, h.size, h.block⟩

set_option maxHeartbeats 4000000 in
set_option maxRecDepth 100000 in
theorem walk_full (b o n cap : Nat) (x : Nat → ByteArray) (w : World) (hb : b < w.heap.size) (hx : ∀ k, k < n → w.cell? ⟨b, o + k, none⟩ = some (.string (x k))) :
    Calls Try.prog 4 #[.slice (some ⟨b, o, none⟩) n cap] w fun e w' => e = .returned (.bool true) ∧ Below w.heap.size w w' := by
  have HX := hide hx
  have HBY := hide (bytes_any b o n cap x w hx)
  clear hx
  go_enter Try.func4, Try.ntmps4
  go_wp2_with fail
  refine (unhide HBY).mono ?_
  rintro e w1 ⟨⟨v, rfl, hsh⟩, rfl⟩
  clear HBY
  cases v with
  | false =>
    go_wp2_with fail
    go_ret
    exact ⟨rfl, Below.refl _ _⟩
  | true =>
    have HS := hide (hsh rfl).2
    clear hsh
    by_cases hn : n ≤ 4096
    · have hn1 : ¬ (4096 : Int) < (n : Int) := by omega
      have hn2 : (n : Int) ≤ 4096 := by omega
      go_wp2_with fail
      go_loop [3, 4] (fun t i => ∃ (k : Nat) (z : Int), k ≤ n ∧ i = .int .i64 k ∧ t = .int .i64 z ∧ 0 ≤ z ∧ z ≤ 1048576) (fun _ i => n - (intOf i).toNat)
      case atStart => exact ⟨0, 16 * n, Nat.zero_le _, rfl, rfl, by omega, by omega⟩
      case round =>
        obtain ⟨k, z, hk, rfl, rfl, hz0, hz1⟩ := hrel
        by_cases hkn : k < n
        · have h1 : (k : Int) < (n : Int) := by omega
          have c1 := unhide HX k hkn
          have hs := unhide HS k hkn
          have hs2 : ((x k).size : Int) ≤ 1048576 := by omega
          by_cases ht : 1048576 < z + ((x k).size : Int)
          · go_wp2_with fail
            go_ret
            exact ⟨rfl, Below.refl _ _⟩
          · go_wp2_with fail
            go_round
            case rel => exact ⟨k + 1, z + (x k).size, by omega, by go_num, by go_num, by omega, by omega⟩
            case measure => simp [intOf]; omega
        · have h1 : ¬ (k : Int) < (n : Int) := by omega
          have hmk := fun kl kc w => run_make_row' (P := Try.prog) 39 9 (.string ByteArray.empty) 16 Try.underlying39 Try.info9 rfl kl kc n (by omega) (by omega) w
          go_wp2_with fail
          go_loopw [6] (fun i wr => ∃ k : Nat, k ≤ n ∧ i = .int .i64 k ∧ wr.rowIs w.heap.size 9 n (fun j => if j < k then .string (x j) else .string ByteArray.empty) ∧ Below w.heap.size w wr) (fun i _ => n - (intOf i).toNat)
          case atStart => exact ⟨0, Nat.zero_le _, rfl, (World.rowIs_made w (.string ByteArray.empty) n 9).congr (by simp), (Below.refl _ _).alloc (Nat.le_refl _) _⟩
          case round =>
            obtain ⟨k, hk, rfl, hrow, hbel⟩ := hrel
            clear hmk
            by_cases hkn : k < n
            · have h1 : (k : Int) < (n : Int) := by omega
              have c1 : wr.cell? ⟨b, o + k, none⟩ = some (.string (x k)) := (hbel.cell (p := ⟨b, o + k, none⟩) hb).trans (unhide HX k hkn)
              have c2 := hrow.cell hkn
              have c3 := hrow.frozen k
              have R1 := hide (hrow.set k (.string (x k)))
              have R2 := hide (hbel.setCell (p := ⟨w.heap.size, k, none⟩) (Nat.le_refl _) (.string (x k)))
              clear hrow hbel
              go_wp2_with fail
              go_roundw
              case rel => exact ⟨k + 1, by omega, by go_num, (unhide R1).congr (copy_step x k n), unhide R2⟩
              case measure => simp [intOf]; omega
            · have h1 : ¬ (k : Int) < (n : Int) := by omega
              have hmk := fun kl kc w => run_make_row' (P := Try.prog) 27 21 (.int .i32 0) 4 Try.underlying27 Try.info21 rfl kl kc n (by omega) (by omega) w
              have hrw : wr.rowIs w.heap.size 9 n (fun j => .string (x j)) := hrow.congr (fun j hj => if_pos (by omega))
              have htb := hrw.lt
              have HR := hide (hrw.alloc (.cells (madeCells #[.int .i32 0] n) 21))
              have HL := hide (hbel.alloc (Nat.le_of_lt htb) (.cells (madeCells #[.int .i32 0] n) 21))
              have HQ := hide (World.rowIs_made wr (.int .i32 0) n 21)
              clear hrow hbel hrw
              go_wp2_with fail
              obtain ⟨wb, hwb⟩ : ∃ wb, wb = wr.heap.size := ⟨_, rfl⟩
              rw [← hwb] at HQ htb ⊢
              go_loopw [9, 10] (fun d i wr => ∃ (k : Nat) (F : Nat → Int), k ≤ n ∧ i = .int .i64 k ∧ d = .int .i32 (dist x k).length ∧ Want x k F ∧ wr.rowIs w.heap.size 9 n (fun j => .string (x j)) ∧ wr.rowIs wb 21 n (fun j => .int .i32 (F j)) ∧ Below w.heap.size w wr) (fun _ i _ => n - (intOf i).toNat)
              case atStart => exact ⟨0, fun _ => 0, Nat.zero_le _, rfl, rfl, Want.nil x _, unhide HR, unhide HQ, unhide HL⟩
              case round =>
                obtain ⟨k, F, hk, rfl, rfl, hwant, hrt, hrw, hbel⟩ := hrel
                obtain ⟨wo, rfl⟩ : ∃ wo : World, wo = wr := ⟨_, rfl⟩
                clear HR HL HQ hmk hwb
                have HW := hide hwant
                have HRT := hide hrt
                have HRW := hide hrw
                have HL := hide hbel
                clear hwant hrt hrw hbel
                have hdl := dist_len x k
                by_cases hkn : k < n
                · have h1 : (k : Int) < (n : Int) := by omega
                  go_wp2_with fail
                  go_loopw [11] (fun jj wi => ∃ j m : Nat, j ≤ k ∧ jj = .int .i64 j ∧ wi = wo.drewN m ∧ ∀ t, t < j → x t ≠ x k) (fun i _ => k - (intOf i).toNat)
                  case atStart => exact ⟨0, 0, Nat.zero_le _, rfl, rfl, fun t ht => absurd ht (Nat.not_lt_zero _)⟩
                  case round =>
                    obtain ⟨j, m, hj, rfl, rfl, hno⟩ := hrel
                    have HNO := hide hno
                    clear hno
                    have c1 := (unhide HRT).cell hkn
                    by_cases hjk : j < k
                    · have h2 : (j : Int) < (k : Int) := by omega
                      have h3 : (j : Int) < (n : Int) := by omega
                      have c2 := (unhide HRT).cell (i := j) (by omega)
                      have c3 := (unhide HRW).cell hkn
                      have c4 := (unhide HRW).cell (i := j) (by omega)
                      have c5 := (unhide HRW).frozen k
                      by_cases hxe : x j = x k
                      · have b1 := eq_yes hxe
                        have HXE := hide hxe
                        have R1 := hide (((unhide HRW).set k (.int .i32 (F j))).congr (row_int F k (F j) n))
                        have R2 := hide ((unhide HRT).setOther (a := ⟨wb, k, none⟩) (show w.heap.size ≠ wb by omega) (.int .i32 (F j)))
                        have R3 := hide ((unhide HL).setCell (p := ⟨wb, k, none⟩) (show w.heap.size ≤ wb by omega) (.int .i32 (F j)))
                        clear hxe
                        go_wp2_with fail
                        have HWO := hide ((unhide HW).old hjk (unhide HXE))
                        go_quiet (fail)
                        go_wp2_with fail
                        go_roundw
                        case rel => exact ⟨k + 1, _, by omega, by go_num, by rw [(unhide HWO).2], (unhide HWO).1, unhide R2, unhide R1, drewB (unhide R3)⟩
                        case measure => simp [intOf]; omega
                      · have b1 := eq_no hxe
                        have HXE := hide hxe
                        clear hxe
                        go_wp2_with fail
                        go_quiet (fail)
                        go_wp2_with fail
                        go_roundw
                        case rel => exact ⟨j + 1, _, by omega, by go_num, rfl, fun t ht => by
                          by_cases e : t = j
                          · subst e; exact unhide HXE
                          · exact unhide HNO t (by omega)⟩
                        case measure => simp [intOf]; omega
                    · have h2 : ¬ (j : Int) < (k : Int) := by omega
                      have ejk : j = k := by omega
                      subst ejk
                      have c3 := (unhide HRW).cell hkn
                      have c5 := (unhide HRW).frozen j
                      have HWO := hide ((unhide HW).new (unhide HNO))
                      have R1 := hide (((unhide HRW).set j (.int .i32 ((dist x j).length : Int))).congr (row_int F j ((dist x j).length : Int) n))
                      have R2 := hide ((unhide HRT).setOther (a := ⟨wb, j, none⟩) (show w.heap.size ≠ wb by omega) (.int .i32 ((dist x j).length : Int)))
                      have R3 := hide ((unhide HL).setCell (p := ⟨wb, j, none⟩) (show w.heap.size ≤ wb by omega) (.int .i32 ((dist x j).length : Int)))
                      go_wp2_with fail
                      go_quiet (fail)
                      go_wp2_with fail
                      go_roundw
                      case rel => exact ⟨j + 1, _, by omega, by go_num, by rw [(unhide HWO).2]; go_num, (unhide HWO).1, unhide R2, unhide R1, drewB (unhide R3)⟩
                      case measure => simp [intOf]; omega
                · have h1 : ¬ (k : Int) < (n : Int) := by omega
                  have ekn : k = n := by omega
                  subst ekn
                  have HNEW := hide (new_any wo)
                  have hwb := (unhide HRW).lt
                  have HST : Hid (St w (((wo.alloc (.map #[] 0)).alloc (.map #[] 0)).alloc (.cells #[.map (some wo.heap.size), .slice none 0 0, .int .i32 0, .slice none 0 0, .map (some (wo.heap.size + 1)), .int .i64 0] 53)) w.heap.size wb (wo.heap.size + 1) (wo.heap.size + 2) k x F []) :=
                    ⟨(((unhide HL).alloc (unhide HL).size _).alloc (by have := (unhide HL).size; simp; omega) _).alloc (by have := (unhide HL).size; simp; omega) _, (((unhide HRT).alloc _).alloc _).alloc _, (((unhide HRW).alloc _).alloc _).alloc _, Gr.made wo, by have := (unhide HRT).lt; omega, by omega, by have := (unhide HL).size; omega⟩
                  clear HRW HRT HL h1
                  go_wp2_with fail
                  refine (unhide HNEW).mono ?_
                  rintro e w1 ⟨rfl, rfl⟩
                  clear HNEW
                  go_wp2_with fail
                  obtain ⟨m, hm⟩ : ∃ m, m = wo.heap.size + 1 := ⟨_, rfl⟩
                  obtain ⟨g, hg⟩ : ∃ g, g = wo.heap.size + 2 := ⟨_, rfl⟩
                  rw [← hm, ← hg] at HST
                  rw [← hg]
                  go_loopw [13] (fun i wr => ∃ t : Nat, t ≤ k ∧ i = .int .i64 t ∧ St w wr w.heap.size wb m g k x F (dist x t)) (fun i _ => k - (intOf i).toNat)
                  case atStart =>
                    refine ⟨0, Nat.zero_le _, rfl, ?_⟩
                    rw [← hm]
                    exact unhide HST
                  case round =>
                    obtain ⟨t, ht, rfl, hst⟩ := hrel
                    clear HST hm hg
                    have HST := hide hst
                    clear hst
                    by_cases htk : t < k
                    · have h1 : (t : Int) < (k : Int) := by omega
                      have hxs := unhide HS t htk
                      have c1 := (unhide HST).2.1.cell htk
                      have c2 := (unhide HST).2.2.1.cell htk
                      go_upto_region 36 with fail
                      go_cut [117] from 107 to 117 (fun v wx => v = .bool false ∧ St w wx w.heap.size wb m g k x F (dist x (t + 1)))
                      case first =>
                        go_region_with (go_at_call 8; refine ((unhide HST).drewN _ |>.first (unhide HW) htk hn hxs).mono ?_; rintro e w5 ⟨rfl, c5, h5⟩)
                        all_goals
                          go_wp2_with fail
                          go_meet
                          case rel => first | exact ⟨rfl, unhide h5⟩ | exact ⟨rfl, (unhide h5).drew⟩
                      case rest =>
                        obtain ⟨rfl, hst⟩ := hcut
                        have HST := hide hst
                        clear hst
                        go_wp2_with fail
                        go_roundw
                        case rel => exact ⟨t + 1, by omega, by go_num, unhide HST⟩
                        case measure => simp [intOf]; omega
                    · have h1 : ¬ (t : Int) < (k : Int) := by omega
                      have etk : t = k := by omega
                      subst etk
                      have HTX := hide (texts_any m g (dist x t) wr (unhide HST).2.2.2.1)
                      clear h1
                      have hdl1 : ((dist x t).length : Int) ≤ 4096 := by omega
                      go_wp2_with fail
                      refine (unhide HTX).mono ?_
                      rintro e w6 ⟨⟨A, C, rfl, hown⟩, rfl⟩
                      have HO := hide hown
                      clear hown HTX
                      go_wp2_with fail
                      go_loopw [15] (fun i wi => ∃ s m : Nat, s ≤ t ∧ i = .int .i64 s ∧ wi = wr.drewN m) (fun i _ => t - (intOf i).toNat)
                      case atStart => exact ⟨0, 0, Nat.zero_le _, rfl, rfl⟩
                      case round =>
                        obtain ⟨s, m6, hs6, rfl, rfl⟩ := hrel
                        by_cases hst : s < t
                        · have h1 : (s : Int) < (t : Int) := by omega
                          obtain ⟨g2, q, rfl, hq, hql, hqc⟩ := held_at (unhide HO) (unhide HW) hst
                          have c1 := (unhide HST).2.1.cell hst
                          have c2 := (unhide HST).2.2.1.cell hst
                          rw [hq] at c2
                          have hql2 : (q : Int) < ((dist x t).length : Int) := by omega
                          have b1 := eq_yes (rfl : x s = x s)
                          go_wp2_with fail
                          go_quiet (fail)
                          go_wp2_with fail
                          go_roundw
                          case rel => exact ⟨s + 1, _, by omega, by go_num, rfl⟩
                          case measure => simp [intOf]; omega
                        · have h1 : ¬ (s : Int) < (t : Int) := by omega
                          have HST1 := hide ((unhide HST).drewN m6)
                          go_wp2_with fail
                          go_loopw [16] (fun i wr => ∃ s : Nat, s ≤ t ∧ i = .int .i64 s ∧ St w wr w.heap.size wb m g t x F (dist x t)) (fun i _ => t - (intOf i).toNat)
                          case atStart => exact ⟨0, Nat.zero_le _, rfl, unhide HST1⟩
                          case round =>
                            obtain ⟨s, hs7, rfl, hst⟩ := hrel
                            clear HST HST1 HO
                            have HST := hide hst
                            clear hst
                            by_cases hst : s < t
                            · have h1 : (s : Int) < (t : Int) := by omega
                              have hxs := unhide HS s hst
                              have c1 := (unhide HST).2.1.cell hst
                              have c2 := (unhide HST).2.2.1.cell hst
                              go_upto_region 49 with fail
                              go_cut [157] from 147 to 157 (fun v wx => v = .bool false ∧ St w wx w.heap.size wb m g t x F (dist x t))
                              case first =>
                                go_region_with (go_at_call 8; refine ((unhide HST).drewN _ |>.again (unhide HW) hst hn hxs).mono ?_; rintro e w5 ⟨rfl, c5, h5⟩)
                                all_goals
                                  go_wp2_with fail
                                  go_meet
                                  case rel => first | exact ⟨rfl, unhide h5⟩ | exact ⟨rfl, (unhide h5).drew⟩
                              case rest =>
                                obtain ⟨rfl, hst⟩ := hcut
                                have HST := hide hst
                                clear hst
                                go_wp2_with fail
                                go_roundw
                                case rel => exact ⟨s + 1, by omega, by go_num, unhide HST⟩
                                case measure => simp [intOf]; omega
                            · have h1 : ¬ (s : Int) < (t : Int) := by omega
                              have HTX := hide (texts_any m g (dist x t) _ (unhide HST).2.2.2.1)
                              have HBL := hide (unhide HST).1
                              go_wp2_with fail
                              refine (unhide HTX).mono ?_
                              rintro e w7 ⟨⟨A7, C7, rfl, hown7⟩, rfl⟩
                              clear hown7 HTX
                              go_wp2_with fail
                              go_ret
                              exact ⟨by simp, unhide HBL⟩
    · have hn1 : (4096 : Int) < (n : Int) := by omega
      go_wp2_with fail
      go_ret
      exact ⟨rfl, Below.refl _ _⟩

end Go.Proofs.Qxb6003126a

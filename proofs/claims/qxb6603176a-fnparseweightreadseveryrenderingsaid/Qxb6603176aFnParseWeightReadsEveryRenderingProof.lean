import Derived.Test.Qxb6603176aRender
import Derived.Test.Qxb6603176aHead
import Derived.WalkKit
import Derived.ProofKit
import Derived.OpenShut
import Derived.ShutString
namespace Go.Proofs.Qxb6603176a.fnParseWeightReadsEveryRendering
open Go.ChangeShapes Go.WideShapes Go.ChangeAt Go.RowKit
open Go.ChangeMaps (open_string shut_string)
set_option linter.unusedVariables false

theorem own : ownKnob Try.prog.godebug = none := by kernel_rfl

/-- The unit of round k. -/
def un (k : Nat) : Int := if k = 0 then 1000 else if k = 1 then 100 else if k = 2 then 10 else if k = 3 then 1 else 0
theorem un_step (k : Nat) : un (k + 1) = un k / 10 := by
  unfold un
  by_cases h0 : k = 0
  · subst h0; rfl
  · by_cases h1 : k = 1
    · subst h1; rfl
    · by_cases h2 : k = 2
      · subst h2; rfl
      · by_cases h3 : k = 3
        · subst h3; rfl
        · simp [h0, h1, h2, h3]

set_option maxHeartbeats 1000000 in
theorem walk (a0 : Int) (w0 : (Lit.int .i64 a0).wf = true) (w : World) :
    Calls Try.prog 4 #[.int .i64 a0] w fun e w' => e = .returned (.bool true) ∧ Below w.heap.size w w' := by
  by_cases h0 : 0 ≤ a0
  · by_cases h1 : a0 ≤ 1000
    · go_enter Try.func4, Try.ntmps4
      go_wp2_with fail
      go_loopw [3, 4] (fun u i wr => ∃ k : Nat, k ≤ 4 ∧ i = .int .i64 k ∧ u = .int .i64 (un k) ∧ Below w.heap.size w wr) (fun _ i _ => 4 - (intOf i).toNat)
      case atStart => exact ⟨0, Nat.zero_le _, rfl, rfl, Below.refl _ _⟩
      case round =>
        obtain ⟨k, hk, rfl, rfl, hbel⟩ := hrel
        have F1 := hide hbel
        clear hbel
        by_cases hk4 : k < 4
        · have hk3 : k = 0 ∨ k = 1 ∨ k = 2 ∨ k = 3 := by omega
          rcases hk3 with rfl | rfl | rfl | rfl
          · have hu : un 0 = 1000 := rfl
            rw [hu]
            clear hu
            by_cases hm : a0 % 1000 = 0
            · have hmb : (a0 % 1000 == 0) = true := by simp [hm]
              have HM := hide hm
              clear hm
              go_wp2_with fail
              refine (render_plain a0 wr h0 h1).mono ?_
              rintro e w1 ⟨⟨s1, rfl, hs1⟩, hb1⟩
              have HS1 := hide hs1
              have F2 := hide ((unhide F1).trans (hb1.mono (unhide F1).size))
              clear hs1 hb1
              go_wp2_with fail
              refine (reads_any s1 a0 w1 (by rw [unhide HS1]; exact read_plain h0 h1 (unhide HM))).mono ?_
              rintro e w2 ⟨rfl, rfl⟩
              go_wp2_with fail
              refine (render_dot a0 0 w1 h0 h1 (by omega)).mono ?_
              rintro e w3 ⟨⟨s3, rfl, hs3⟩, hb3⟩
              have HS3 := hide hs3
              have F3 := hide ((unhide F2).trans (hb3.mono (unhide F2).size))
              clear hs3 hb3
              go_wp2_with fail
              refine (reads_any s3 a0 w3 (by rw [unhide HS3]; exact read0 h0 h1 (unhide HM))).mono ?_
              rintro e w4 ⟨rfl, rfl⟩
              go_wp2_with fail
              go_roundw
              case rel => exact ⟨1, by omega, rfl, rfl, unhide F3⟩
              case measure => simp [intOf]
            · have hmb : (a0 % 1000 == 0) = false := by simp [hm]
              clear hm
              go_wp2_with fail
              go_roundw
              case rel => exact ⟨1, by omega, rfl, rfl, unhide F1⟩
              case measure => simp [intOf]
          · have hu : un 1 = 100 := rfl
            rw [hu]
            clear hu
            by_cases hm : a0 % 100 = 0
            · have hmb : (a0 % 100 == 0) = true := by simp [hm]
              have HM := hide hm
              clear hm
              go_wp2_with fail
              refine (render_dot a0 1 wr h0 h1 (by omega)).mono ?_
              rintro e w1 ⟨⟨s1, rfl, hs1⟩, hb1⟩
              have HS1 := hide hs1
              have F2 := hide ((unhide F1).trans (hb1.mono (unhide F1).size))
              clear hs1 hb1
              go_wp2_with fail
              refine (reads_any s1 a0 w1 (by rw [unhide HS1]; exact read1 h0 h1 (unhide HM))).mono ?_
              rintro e w2 ⟨rfl, rfl⟩
              go_wp2_with fail
              go_roundw
              case rel => exact ⟨2, by omega, rfl, rfl, unhide F2⟩
              case measure => simp [intOf]
            · have hmb : (a0 % 100 == 0) = false := by simp [hm]
              clear hm
              go_wp2_with fail
              go_roundw
              case rel => exact ⟨2, by omega, rfl, rfl, unhide F1⟩
              case measure => simp [intOf]
          · have hu : un 2 = 10 := rfl
            rw [hu]
            clear hu
            by_cases hm : a0 % 10 = 0
            · have hmb : (a0 % 10 == 0) = true := by simp [hm]
              have HM := hide hm
              clear hm
              go_wp2_with fail
              refine (render_dot a0 2 wr h0 h1 (by omega)).mono ?_
              rintro e w1 ⟨⟨s1, rfl, hs1⟩, hb1⟩
              have HS1 := hide hs1
              have F2 := hide ((unhide F1).trans (hb1.mono (unhide F1).size))
              clear hs1 hb1
              go_wp2_with fail
              refine (reads_any s1 a0 w1 (by rw [unhide HS1]; exact read2 h0 h1 (unhide HM))).mono ?_
              rintro e w2 ⟨rfl, rfl⟩
              go_wp2_with fail
              go_roundw
              case rel => exact ⟨3, by omega, rfl, rfl, unhide F2⟩
              case measure => simp [intOf]
            · have hmb : (a0 % 10 == 0) = false := by simp [hm]
              clear hm
              go_wp2_with fail
              go_roundw
              case rel => exact ⟨3, by omega, rfl, rfl, unhide F1⟩
              case measure => simp [intOf]
          · have hu : un 3 = 1 := rfl
            rw [hu]
            clear hu
            go_wp2_with fail
            refine (render_dot a0 3 wr h0 h1 (by omega)).mono ?_
            rintro e w1 ⟨⟨s1, rfl, hs1⟩, hb1⟩
            have HS1 := hide hs1
            have F2 := hide ((unhide F1).trans (hb1.mono (unhide F1).size))
            clear hs1 hb1
            go_wp2_with fail
            refine (reads_any s1 a0 w1 (by rw [unhide HS1]; exact read3 h0 h1)).mono ?_
            rintro e w2 ⟨rfl, rfl⟩
            go_wp2_with fail
            go_roundw
            case rel => exact ⟨4, by omega, rfl, rfl, unhide F2⟩
            case measure => simp [intOf]
        · have h3 : ¬ (k : Int) ≤ 3 := by omega
          go_wp2_with fail
          go_ret
          exact ⟨rfl, unhide F1⟩
    · have h2 : 1000 < a0 := by omega
      go_enter Try.func4, Try.ntmps4
      go_wp2_with fail
      go_ret
      exact ⟨rfl, Below.refl _ _⟩
  · have h2 : a0 < 0 := by omega
    go_enter Try.func4, Try.ntmps4
    go_wp2_with fail
    go_ret
    exact ⟨rfl, Below.refl _ _⟩

/-! ### The row -/
set_option maxRecDepth 100000 in
theorem lifted (os : Os) (started : os.Started) (H : Type) (enc : TypeId × Value → H) :
    ReturnsInHanded {} Try.checked os 4 .any (Rows.fnParseWeightReadsEveryRenderingSpec.pre6 enc Try.prog Try.f4 Rows.fnParseWeightReadsEveryRenderingRow.domain false) (Rows.fnParseWeightReadsEveryRenderingSpec.post enc Try.prog Try.f4 false true false false) := by
  refine returnsInHanded_of_change (C := Try.checked) own started (by kernel_rfl) Try.func4
    (ChangeSpec.witness6 (enc := enc) (C := Try.checked) false ⟨#[], #[.int .i64 0], []⟩ 8 (by kernel_rfl) (by kernel_rfl) (by kernel_rfl) (by kernel_rfl)) ?_
  intro W base args ds gs before hval0 hW hcnd _
  have hval : ∀ (j : Nat) t v, Try.f4.params[j]? = some t → args[j]? = some v → Value.okWide Try.prog W .any base t v := hval0
  have hW' := hW
  obtain ⟨p, q, hA0, hV, rfl, hfz, hnd⟩ := hW
  have hA : DataW.TrodAll enc Try.prog W 0 (fun _ => true) true Try.f4.params.toList args.toList ds p := hA0
  rw [Try.params4] at hA hval
  obtain ⟨v0, vs0, d0, ds0, p0, q0, hargs, rfl, rfl, h0, r0⟩ := trodAll_cons hA
  obtain ⟨rfl, rfl, rfl⟩ := trodAll_nil r0
  obtain rfl : args = #[v0] := by cases args; simp_all
  obtain ⟨rfl, rfl⟩ := trodVars_none hV
  obtain ⟨a0, rfl, rfl, rfl, w0⟩ := open_int Try.underlying3 (hval 0 3 v0 rfl rfl) h0
  clear hA0 hval0
  simp only [List.append_nil] at hW'
  refine (walk a0 w0 W).mono fun e W' ⟨he, bel⟩ => ?_
  subst he
  exact ⟨_, rfl, _, _, _, [], [], [], hW', trodAll_mk1 (shut_bool Try.underlying4 _), trodAll_mk1 (shut_int Try.underlying3 w0), rfl, bel.frame _, fun h => by cases h⟩

theorem closed : joinedFacts Try.pinned.checked.prog 4 Try.f4 Rows.fnParseWeightReadsEveryRenderingSpec Rows.fnParseWeightReadsEveryRenderingRow = true := by
  unfold joinedFacts
  rw [enters, lifts, made]
  kernel_rfl

theorem over : Rows.fnParseWeightReadsEveryRenderingRow.holds Try.pinned (OpenSpec.ofChange Rows.fnParseWeightReadsEveryRenderingSpec) :=
  OpenClaim.holds_of_wide 4 Try.f4 rfl rfl rfl rfl rfl rfl rfl ⟨rfl, rfl, rfl, rfl, rfl⟩ rfl rfl rfl rfl rfl (by kernel_rfl) Try.func4 closed
    (of_decide_eq_true (by kernel_rfl)) (by unfold Func.isWrapper; first | (rw [if_pos (by decide +kernel)]; kernel_rfl) | (rw [if_neg (by decide +kernel)]; exact ⟨rfl, rfl⟩))
    (fun os started H enc _ => lifted os started H enc)

/-- THE STATEMENT -/
theorem proved : Rows.FnParseWeightReadsEveryRenderingSaid :=
  over
#print axioms proved
end Go.Proofs.Qxb6603176a.fnParseWeightReadsEveryRendering

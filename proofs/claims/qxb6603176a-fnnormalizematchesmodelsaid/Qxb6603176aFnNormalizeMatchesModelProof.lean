import Derived.Test.Qxb6603176aNormModel
import Derived.Test.Qxb6603176aHead
import Derived.WalkKit
import Derived.ProofKit
import Derived.OpenShut
import Derived.ShutString
namespace Go.Proofs.Qxb6603176a.fnNormalizeMatchesModel
open Go.ChangeShapes Go.WideShapes Go.ChangeAt Go.RowKit
open Go.ChangeMaps (open_string shut_string)
set_option linter.unusedVariables false

theorem own : ownKnob Try.prog.godebug = none := by kernel_rfl

set_option maxHeartbeats 400000 in
/-- zzBytes_FnNormalizeMatchesModel. -/
theorem bytes_any (s : ByteArray) (w : World) (h : (s.size : Int) ≤ 1048576) : Calls Try.prog 27 #[.string s] w fun e w' => e = .returned (.bool true) ∧ w' = w := by
  go_enter Try.func27, Try.ntmps27
  go_wp2
  go_ret
  exact ⟨rfl, rfl⟩

set_option maxHeartbeats 400000 in
theorem bytes_long (s : ByteArray) (w : World) (h : 1048576 < (s.size : Int)) : Calls Try.prog 27 #[.string s] w fun e w' => e = .returned (.bool false) ∧ w' = w := by
  go_enter Try.func27, Try.ntmps27
  go_wp2
  go_ret
  exact ⟨rfl, rfl⟩

open Go.Proofs.Qxb6603176a.Norm in
/-- Two texts that are good at every place are one text. -/
theorem one_text (t : ByteArray) {v v' : Nat → Int} (h : ∀ p, p < t.size → Norm.Good (sp t) (at_ t) p (v p)) (h' : ∀ p, p < t.size → Norm.Good (sp t) (at_ t) p (v' p)) :
    strOfNums ((List.range t.size).map v') = strOfNums ((List.range t.size).map v) := by
  congr 1
  refine List.map_congr_left fun p hp => ?_
  have hp := List.mem_range.1 hp
  exact Norm.Good.uniq (n := t.size) (sp_end t) (by omega) (h' p hp) (h p hp)

open Go.Proofs.Qxb6603176a.Norm in
theorem walk (a0 : ByteArray) (w0 : a0.size ≤ maxLen) (w : World) :
    Calls Try.prog 8 #[.string a0] w fun e w' => e = .returned (.bool true) ∧ Below w.heap.size w w' := by
  by_cases h : (a0.size : Int) ≤ 1048576
  · have H0 := hide (bytes_any a0 w h)
    have H1 := hide (norm_any a0 w (by omega))
    have H2 := hide (fun w => Mod.model_any a0 w (by omega))
    go_enter Try.func8, Try.ntmps8
    go_wp2_with fail
    refine (unhide H0).mono ?_
    rintro e w1 ⟨rfl, hw⟩
    subst hw
    go_wp2_with fail
    refine (unhide H1).mono ?_
    rintro e w2 ⟨⟨v, rfl, hv⟩, hb⟩
    have HV := hide hv
    have HB := hide hb
    clear hv hb
    go_wp2_with fail
    refine (unhide H2 w2).mono ?_
    rintro e w3 ⟨⟨v', rfl, hv'⟩, hb'⟩
    have e1 := one_text a0 (unhide HV) hv'
    rw [e1]
    have HB2 := hide ((unhide HB).trans (hb'.mono (unhide HB).size))
    clear hv' hb' e1
    go_wp2_with fail
    go_ret
    exact ⟨by simp, unhide HB2⟩
  · have h' : 1048576 < (a0.size : Int) := by omega
    have H0 := hide (bytes_long a0 w h')
    clear h
    go_enter Try.func8, Try.ntmps8
    go_wp2_with fail
    refine (unhide H0).mono ?_
    rintro e w1 ⟨rfl, hw⟩
    subst hw
    go_wp2_with fail
    go_ret
    exact ⟨rfl, Below.refl _ _⟩

/-! ### The row -/
set_option maxRecDepth 100000 in
theorem lifted (os : Os) (started : os.Started) (H : Type) (enc : TypeId × Value → H) :
    ReturnsInHanded {} Try.checked os 8 .any (Rows.fnNormalizeMatchesModelSpec.pre6 enc Try.prog Try.f8 Rows.fnNormalizeMatchesModelRow.domain false) (Rows.fnNormalizeMatchesModelSpec.post enc Try.prog Try.f8 false true false false) := by
  refine returnsInHanded_of_change (C := Try.checked) own started (by kernel_rfl) Try.func8
    (ChangeSpec.witness6 (enc := enc) (C := Try.checked) false ⟨#[], #[.string ByteArray.empty], []⟩ 8 (by kernel_rfl) (by kernel_rfl) (by kernel_rfl) (by kernel_rfl)) ?_
  intro W base args ds gs before hval0 hW hcnd _
  have hval : ∀ (j : Nat) t v, Try.f8.params[j]? = some t → args[j]? = some v → Value.okWide Try.prog W .any base t v := hval0
  have hW' := hW
  obtain ⟨p, q, hA0, hV, rfl, hfz, hnd⟩ := hW
  have hA : DataW.TrodAll enc Try.prog W 0 (fun _ => true) true Try.f8.params.toList args.toList ds p := hA0
  rw [Try.params8] at hA hval
  obtain ⟨v0, vs0, d0, ds0, p0, q0, hargs, rfl, rfl, h0, r0⟩ := trodAll_cons hA
  obtain ⟨rfl, rfl, rfl⟩ := trodAll_nil r0
  obtain rfl : args = #[v0] := by cases args; simp_all
  obtain ⟨rfl, rfl⟩ := trodVars_none hV
  obtain ⟨a0, rfl, rfl, rfl, w0⟩ := open_string Try.underlying9 (hval 0 9 v0 rfl rfl) h0
  clear hA0 hval0
  simp only [List.append_nil] at hW'
  refine (walk a0 w0 W).mono fun e W' ⟨he, bel⟩ => ?_
  subst he
  exact ⟨_, rfl, _, _, _, [], [], [], hW', trodAll_mk1 (shut_bool Try.underlying4 _), trodAll_mk1 (shut_string Try.underlying9 w0), rfl, bel.frame _, fun h => by cases h⟩

theorem closed : joinedFacts Try.pinned.checked.prog 8 Try.f8 Rows.fnNormalizeMatchesModelSpec Rows.fnNormalizeMatchesModelRow = true := by
  unfold joinedFacts
  rw [enters, lifts, made]
  kernel_rfl

theorem over : Rows.fnNormalizeMatchesModelRow.holds Try.pinned (OpenSpec.ofChange Rows.fnNormalizeMatchesModelSpec) :=
  OpenClaim.holds_of_wide 8 Try.f8 rfl rfl rfl rfl rfl rfl rfl ⟨rfl, rfl, rfl, rfl, rfl⟩ rfl rfl rfl rfl rfl (by kernel_rfl) Try.func8 closed
    (of_decide_eq_true (by kernel_rfl)) (by unfold Func.isWrapper; first | (rw [if_pos (by decide +kernel)]; kernel_rfl) | (rw [if_neg (by decide +kernel)]; exact ⟨rfl, rfl⟩))
    (fun os started H enc _ => lifted os started H enc)

/-- THE STATEMENT -/
theorem proved : Rows.FnNormalizeMatchesModelSaid :=
  over
#print axioms proved
end Go.Proofs.Qxb6603176a.fnNormalizeMatchesModel

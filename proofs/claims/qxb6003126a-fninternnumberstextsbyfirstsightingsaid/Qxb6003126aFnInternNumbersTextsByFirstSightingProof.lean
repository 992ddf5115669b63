import Derived.Test.Qxb6003126aLaw1Nil
import Derived.Test.Qxb6003126aHead
import Derived.WalkKit
import Derived.ProofKit
import Derived.OpenShut
import Derived.SliceStrings
import Derived.Deep.Slices
import Derived.ChangeOld
namespace Go.Proofs.Qxb6003126a.fnInternNumbersTextsByFirstSighting
open Go.ChangeShapes Go.WideShapes Go.ChangeAt Go.RowKit Go.Deep

theorem own : ownKnob Try.prog.godebug = none := by kernel_rfl
theorem laidOut : laidOutB Try.prog = true := by kernel_rfl
theorem Try.cells9 : Try.prog.cellsOf 9 = 1 := by kernel_rfl

theorem addr_add (a : Addr) (i : Nat) (h : a.spot = none) : a.add i = ⟨a.block, a.off + i, none⟩ := by
  cases a
  simp at h
  subst h
  unfold Addr.add
  simp

/-- A slice of strings that came in. -/
def Strs (w : World) (a : Option Addr) (n : Nat) (K : Nat → ByteArray) : Prop :=
  n = 0 ∨ ∃ b o, a = some ⟨b, o, none⟩ ∧ b < w.heap.size ∧ ∀ i, i < n → w.cell? ⟨b, o + i, none⟩ = some (.string (K i))

/-- The law's walk: the Go text returns true. -/
theorem walk (a : Option Addr) (n cap : Nat) (K : Nat → ByteArray) (w : World) (h : Strs w a n K) :
    Calls Try.prog 4 #[.slice a n cap] w fun e w' => e = .returned (.bool true) ∧ Below w.heap.size w w' := by
  rcases h with rfl | ⟨b, o, rfl, hb, hc⟩
  · cases a with
    | none => exact walk_nil cap w
    | some a => exact walk_none a cap w
  · exact walk_full b o n cap K w hb hc

/-- A slice of strings, opened. -/
theorem open_strs' {H : Type} {enc : TypeId × Value → H} {W : World} {fuel : Nat} {a0 : Option Addr} {len0 cap0 : Nat} {x : DataW H × List MemPlace} (h : DataW.trod enc Try.prog W 0 (fun _ => true) true fuel 39 [.slice a0 len0 cap0] = some x) :
    ∃ K, Strs W a0 len0 K := by
  rcases open_strings Try.underlying39 Try.underlying9 Try.cells9 h with ⟨hcs, _⟩ | ⟨a, len, cap, ss, hcs, _, hl, _, hz, _, hcell, _⟩
  · simp at hcs
    exact ⟨fun _ => ByteArray.empty, .inl hcs.2.1⟩
  · simp at hcs
    obtain ⟨rfl, rfl, rfl⟩ := hcs
    simp only [if_true] at hz
    refine ⟨fun i => ss.getD i ByteArray.empty, ?_⟩
    by_cases h0 : len0 = 0
    · exact .inl h0
    · have hs : a.spot = none := by
        have := World.cell?_spot (hcell 0 (by omega))
        cases a
        simpa [Addr.add] using this
      have hb : a.block < W.heap.size := by
        have := World.block_lt_of_cell? _ _ (hcell 0 (by omega))
        rw [addr_add a 0 hs] at this
        exact this
      refine .inr ⟨a.block, a.off, by cases a; simp at hs; subst hs; rfl, hb, fun i hi => ?_⟩
      have := hcell i (by omega)
      rwa [addr_add a i hs] at this

set_option maxRecDepth 100000 in
theorem lifted (os : Os) (started : os.Started) (H : Type) (enc : TypeId × Value → H) :
    ReturnsInHanded {} Try.checked os 4 .any (Rows.fnInternNumbersTextsByFirstSightingSpec.pre6 enc Try.prog Try.f4 Rows.fnInternNumbersTextsByFirstSightingRow.domain false) (Rows.fnInternNumbersTextsByFirstSightingSpec.post enc Try.prog Try.f4 false true false false) := by
  refine returnsInHanded_of_change (C := Try.checked) own started (by kernel_rfl) Try.func4
    (ChangeSpec.witness6 (enc := enc) (C := Try.checked) false ⟨#[], #[.slice none 0 0], []⟩ 8 (by kernel_rfl) (by kernel_rfl) (by kernel_rfl) (by kernel_rfl)) ?_
  intro W base args ds gs before hval0 hW hcnd _
  have hval : ∀ (j : Nat) t v, Try.f4.params[j]? = some t → args[j]? = some v → Value.okWide Try.prog W .any base t v := hval0
  have hW' := hW
  obtain ⟨p, q, hA0, hV, rfl, hfz, hnd⟩ := hW
  have hA : DataW.TrodAll enc Try.prog W 0 (fun _ => true) true Try.f4.params.toList args.toList ds p := hA0
  rw [Try.params4] at hA hval
  obtain ⟨v0, d0, rfl, rfl, h0⟩ := trodAll_one hA
  obtain ⟨rfl, rfl⟩ := trodVars_none hV
  obtain ⟨a0, len0, cap0, rfl⟩ := okWide_slice Try.underlying39 (hval 0 39 v0 rfl rfl)
  have k0 := h0
  have lt0 : ∀ x ∈ p, x.block < W.heap.size := by obtain ⟨m, hm⟩ := k0; exact DataW.trod_lt m _ _ _ hm
  obtain ⟨K, w0⟩ : ∃ K, Strs W a0 len0 K := by
    obtain ⟨fuel, hf⟩ := h0
    exact open_strs' (by simpa [Value.cells] using hf)
  clear hA0 hval0
  refine (walk a0 len0 cap0 K W w0).mono fun e W' ⟨he, bel⟩ => ?_
  subst he
  exact ⟨_, rfl, _, _, _, [], _, [], hW', trodAll_mk1 (shut_bool Try.underlying4 _), trodAll_mk1 (Below.trod laidOut (by kernel_rfl) (of_decide_eq_true (by kernel_rfl)) k0 bel lt0), rfl, bel.frame _, fun h => by cases h⟩

theorem closed : joinedFacts Try.pinned.checked.prog 4 Try.f4 Rows.fnInternNumbersTextsByFirstSightingSpec Rows.fnInternNumbersTextsByFirstSightingRow = true := by
  unfold joinedFacts
  rw [enters, lifts, made]
  kernel_rfl

theorem over : Rows.fnInternNumbersTextsByFirstSightingRow.holds Try.pinned (OpenSpec.ofChange Rows.fnInternNumbersTextsByFirstSightingSpec) :=
  OpenClaim.holds_of_wide 4 Try.f4 rfl rfl rfl rfl rfl rfl rfl ⟨rfl, rfl, rfl, rfl, rfl⟩ rfl rfl rfl rfl rfl (by kernel_rfl) Try.func4 closed
    (of_decide_eq_true (by kernel_rfl)) (by unfold Func.isWrapper; first | (rw [if_pos (by decide +kernel)]; kernel_rfl) | (rw [if_neg (by decide +kernel)]; exact ⟨rfl, rfl⟩))
    (fun os started H enc _ => lifted os started H enc)

/-- THE STATEMENT -/
theorem proved : Rows.FnInternNumbersTextsByFirstSightingSaid := over
#print axioms proved
end Go.Proofs.Qxb6003126a.fnInternNumbersTextsByFirstSighting

import Derived.Test.Qxb6603155aLaw1
import Derived.Test.Qxb6603155aOpen
namespace Go.Proofs.Qxb6603155a.fnNameSetAddReportsRepeats
open Go.ChangeShapes Go.WideShapes Go.ChangeAt Go.RowKit Go.Deep

/-- What the row knows of a list of names that came in, in the walk's words. -/
theorem walk (a0 : Option Addr) (len0 cap0 : Nat) (w : World) (f : Nat → List UInt8) (qs : Nat → Option Addr) (cs : Nat → Nat) (h : Lies w.heap.size w a0 len0 f qs cs) :
    Calls Try.prog 3 #[.slice a0 len0 cap0] w fun e w' => e = .returned (.bool true) ∧ Below w.heap.size w w' := by
  rcases h with rfl | ⟨b, o, rfl, hb, hc⟩
  · exact walk_empty a0 cap0 w
  · exact walk_full b o len0 cap0 f qs cs w hb hc

theorem lies_of_rows {w : World} {a : Addr} {len cap : Nat} {A : Nat → Option Addr} {L C : Nat → Nat} {Z : Nat → List Int} (hlc : len ≤ cap)
    (h : ∀ r, r < cap → w.cell? (a.add r) = some (.slice (A r) (L r) (C r)) ∧ L r ≤ C r ∧ C r ≤ maxLen ∧ (Z r).length = C r ∧ (∀ n ∈ Z r, (Lit.int .u8 n).wf = true) ∧ (A r = none → C r = 0) ∧
        ∀ a', A r = some a' → 0 ≤ a'.block ∧ ∀ c, c < C r → w.cell? (a'.add c) = some (.int .u8 ((Z r).getD c 0))) :
    Lies w.heap.size w (some a) len (fun r => bytesOf ((Z r).take (L r))) A C := by
  by_cases h0 : len = 0
  · exact .inl h0
  · have hs : a.spot = none := by
      have := World.cell?_spot (h 0 (by omega)).1
      cases a
      simpa [Addr.add] using this
    have hb : a.block < w.heap.size := by
      have := World.block_lt_of_cell? _ _ (h 0 (by omega)).1
      rw [addr_add a 0 hs] at this
      exact this
    refine .inr ⟨a.block, a.off, by cases a; simp at hs; subst hs; rfl, hb, fun i hi => ?_⟩
    obtain ⟨h1, h2, _, h4, h5, h6, h7⟩ := h i (by omega)
    obtain ⟨k1, k2⟩ := holds_of_cells h2 h4 h5 h6 (fun a' ha => (h7 a' ha).2)
    rw [addr_add a i hs] at h1
    exact ⟨by rw [h1, k2], k1⟩

set_option maxRecDepth 100000 in
theorem lifted (os : Os) (started : os.Started) (H : Type) (enc : TypeId × Value → H) :
    ReturnsInHanded {} Try.checked os 3 .any (Rows.fnNameSetAddReportsRepeatsSpec.pre6 enc Try.prog Try.f3 Rows.fnNameSetAddReportsRepeatsRow.domain false) (Rows.fnNameSetAddReportsRepeatsSpec.post enc Try.prog Try.f3 false true false false) := by
  refine returnsInHanded_of_change (C := Try.checked) own started (by kernel_rfl) Try.func3
    (ChangeSpec.witness6 (enc := enc) (C := Try.checked) false ⟨#[], #[.slice none 0 0], []⟩ 8 (by kernel_rfl) (by kernel_rfl) (by kernel_rfl) (by kernel_rfl)) ?_
  intro W base args ds gs before hval0 hW hcnd _
  have hval : ∀ (j : Nat) t v, Try.f3.params[j]? = some t → args[j]? = some v → Value.okWide Try.prog W .any base t v := hval0
  have hW' := hW
  obtain ⟨p, q, hA0, hV, rfl, hfz, hnd⟩ := hW
  have hA : DataW.TrodAll enc Try.prog W 0 (fun _ => true) true Try.f3.params.toList args.toList ds p := hA0
  rw [Try.params3] at hA hval
  obtain ⟨v0, d0, rfl, rfl, h0⟩ := trodAll_one hA
  obtain ⟨rfl, rfl⟩ := trodVars_none hV
  obtain ⟨a0, len0, cap0, rfl⟩ := okWide_slice Try.underlying22 (hval 0 22 v0 rfl rfl)
  have k0 := h0
  have lt0 : ∀ x ∈ p, x.block < W.heap.size := by obtain ⟨m, hm⟩ := k0; exact DataW.trod_lt m _ _ _ hm
  obtain ⟨f, qs, cs, w0⟩ : ∃ f qs cs, Lies W.heap.size W a0 len0 f qs cs := by
    obtain ⟨fuel, hf⟩ := h0
    rcases open_int_rows Try.underlying22 Try.underlying24 Try.underlying5 Try.cells24 Try.cells5 hf with ⟨hcs, _⟩ | ⟨a, l, c, A, L, C, Z, hcs, _, hl, _, _, hr⟩
    · simp [Value.cells] at hcs
      obtain ⟨rfl, rfl, rfl⟩ := hcs
      exact ⟨fun _ => [], fun _ => none, fun _ => 0, .inl rfl⟩
    · simp [Value.cells] at hcs
      obtain ⟨rfl, rfl, rfl⟩ := hcs
      exact ⟨_, _, _, lies_of_rows hl hr⟩
  clear hA0 hval0
  refine (walk a0 len0 cap0 W f qs cs w0).mono fun e W' ⟨he, bel⟩ => ?_
  subst he
  exact ⟨_, rfl, _, _, _, [], _, [], hW', trodAll_mk1 (shut_bool Try.underlying4 _), trodAll_mk1 (Below.trod laidOut (by kernel_rfl) (of_decide_eq_true (by kernel_rfl)) k0 bel lt0), rfl, bel.frame _, fun h => by cases h⟩

theorem over : Rows.fnNameSetAddReportsRepeatsRow.holds Try.pinned (OpenSpec.ofChange Rows.fnNameSetAddReportsRepeatsSpec) :=
  OpenClaim.holds_of_wide 3 Try.f3 rfl rfl rfl rfl rfl rfl rfl ⟨rfl, rfl, rfl, rfl, rfl⟩ rfl rfl rfl rfl rfl (by kernel_rfl) Try.func3 (by kernel_rfl)
    (of_decide_eq_true (by kernel_rfl)) (by unfold Func.isWrapper; first | (rw [if_pos (by decide +kernel)]; kernel_rfl) | (rw [if_neg (by decide +kernel)]; exact ⟨rfl, rfl⟩))
    (fun os started H enc _ => lifted os started H enc)

/-- THE STATEMENT -/
theorem proved : Rows.FnNameSetAddReportsRepeatsSaid := over
#print axioms proved
end Go.Proofs.Qxb6603155a.fnNameSetAddReportsRepeats

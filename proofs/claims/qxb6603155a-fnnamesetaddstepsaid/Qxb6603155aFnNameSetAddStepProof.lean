import Derived.Test.Qxb6603155aLaw2
import Derived.Test.Qxb6603155aOpen
import Derived.OpenShut
import Derived.SliceStrings
import Derived.Deep.Slices
namespace Go.Proofs.Qxb6603155a.fnNameSetAddStep
open Go.ChangeShapes Go.WideShapes Go.ChangeAt Go.RowKit Go.Deep
open Go.Proofs.Qxb6603155a.Step

theorem Try.cells28 : Try.prog.cellsOf 28 = 8 := by kernel_rfl
theorem Try.cells9 : Try.prog.cellsOf 9 = 1 := by kernel_rfl

theorem okWide_array {P : Program} {w : World} {r : Reach} {base : Nat} {t : TypeId} {v : Value} {n : Nat} {e : TypeId} (ht : P.underlying t = some (.array n e)) (h : Value.okWide P w r base t v) : ∃ cs, v = .agg cs ∧ cs.size = P.cellsOf t := by
  simp only [Value.okWide, ht] at h
  obtain ⟨cs, h1, h2, _⟩ := h
  exact ⟨cs, h1, h2⟩

theorem array8 {α : Type} {cs : Array α} (h : cs.size = 8) (d : α) : cs = #[cs.getD 0 d, cs.getD 1 d, cs.getD 2 d, cs.getD 3 d, cs.getD 4 d, cs.getD 5 d, cs.getD 6 d, cs.getD 7 d] := by
  obtain ⟨l⟩ := cs
  match l, h with
  | [c0, c1, c2, c3, c4, c5, c6, c7], _ => rfl

section
variable {H : Type} {enc : TypeId × Value → H} {W : World}

/-- A slice of bytes, opened. -/
theorem open_bytes {fuel : Nat} {v : Value} {x : DataW H × List MemPlace} (h : DataW.trod enc Try.prog W 0 (fun _ => true) true fuel 24 [v] = some x) :
    ∃ y : Option Addr × List UInt8 × Nat, v = .slice y.1 y.2.1.length y.2.2 ∧ Holds W.heap.size W y.1 y.2.1 := by
  rcases open_ints Try.underlying24 Try.underlying5 Try.cells5 h with ⟨hcs, _⟩ | ⟨a, len, cap, zs, hcs, _, hl, _, hz, _, hcell, hwf⟩
  · simp at hcs
    exact ⟨(none, [], 0), by simpa using hcs, .inl rfl⟩
  · simp at hcs
    simp only [if_true] at hz
    obtain ⟨k1, k2⟩ := holds_of_cells (w := W) (A := some a) (L := len) (C := cap) hl hz hwf (fun h => by cases h) (fun a' ha c hc => by cases ha; exact hcell c (by omega))
    exact ⟨(some a, bytesOf (zs.take len), cap), by rw [hcs]; simp [k2], k1⟩

/-- The array of eight slices, opened. -/
theorem open_few {r : Reach} {b0 : Nat} {v : Value} {d : DataW H} {p : List MemPlace} (hv : Value.okWide Try.prog W r b0 28 v) (h : DataW.Trod enc Try.prog W 0 (fun _ => true) true 28 v d p) :
    ∃ fp fs fc, v = Agg fp fs fc ∧ ∀ i, i < 8 → Holds W.heap.size W (fp i) (fs i) := by
  obtain ⟨cs, rfl, hsz⟩ := okWide_array Try.underlying28 hv
  obtain ⟨fuel, hf⟩ := h
  obtain ⟨xs, m, _, _, _, hl, hx⟩ := DataW.trod_array Try.underlying28 hf
  have hs8 : cs.size = 8 := hsz.trans Try.cells28
  have each : ∀ i, i < 8 → ∃ y : Option Addr × List UInt8 × Nat, cs.getD i undef = .slice y.1 y.2.1.length y.2.2 ∧ Holds W.heap.size W y.1 y.2.1 := by
    intro i hi
    have h1 := hx i hi
    rw [Try.cells24, Nat.mul_one, List.getElem?_eq_getElem (by omega)] at h1
    have h2 : ((Value.agg cs).cells.toList.drop i).take 1 = [cs.getD i undef] := by
      have hlt : i < cs.toList.length := by rw [Array.length_toList, hs8]; exact hi
      show (cs.toList.drop i).take 1 = _
      rw [List.drop_eq_getElem_cons hlt, List.take_succ_cons, List.take_zero]
      simp [Array.getD, hs8, hi]
    rw [h2] at h1
    exact open_bytes h1
  obtain ⟨y, hy⟩ := choose_lt each
  refine ⟨fun i => (y i).1, fun i => (y i).2.1, fun i => (y i).2.2, ?_, fun i hi => (hy i hi).2⟩
  rw [array8 hs8 undef, (hy 0 (by omega)).1, (hy 1 (by omega)).1, (hy 2 (by omega)).1, (hy 3 (by omega)).1, (hy 4 (by omega)).1, (hy 5 (by omega)).1, (hy 6 (by omega)).1, (hy 7 (by omega)).1]

/-- A slice of strings, opened. -/
theorem open_strs' {fuel : Nat} {a0 : Option Addr} {len0 cap0 : Nat} {x : DataW H × List MemPlace} (h : DataW.trod enc Try.prog W 0 (fun _ => true) true fuel 31 [.slice a0 len0 cap0] = some x) :
    ∃ K, Strs W.heap.size W a0 len0 K := by
  rcases open_strings Try.underlying31 Try.underlying9 Try.cells9 h with ⟨hcs, _⟩ | ⟨a, len, cap, ss, hcs, _, hl, _, hz, _, hcell, _⟩
  · simp at hcs
    exact ⟨fun _ => ByteArray.empty, .inl hcs.2.1⟩
  · simp at hcs
    obtain ⟨rfl, rfl, rfl⟩ := hcs
    simp only [if_true] at hz
    refine ⟨fun i => ss.getD i ByteArray.empty, ?_⟩
    by_cases h0 : len0 = 0
    · exact .inl h0
    · have hs : a.spot = none := by
        have := World.cell?_spot (hcell 0 (by omega))
        cases a
        simpa [Addr.add] using this
      have hb : a.block < W.heap.size := by
        have := World.block_lt_of_cell? _ _ (hcell 0 (by omega))
        rw [addr_add a 0 hs] at this
        exact this
      refine .inr ⟨a.block, a.off, by cases a; simp at hs; subst hs; rfl, hb, fun i hi => ?_⟩
      have := hcell i (by omega)
      rwa [addr_add a i hs] at this
end


set_option maxRecDepth 100000 in
theorem lifted (os : Os) (started : os.Started) (H : Type) (enc : TypeId × Value → H) :
    ReturnsInHanded {} Try.checked os 4 .any (Rows.fnNameSetAddStepSpec.pre6 enc Try.prog Try.f4 Rows.fnNameSetAddStepRow.domain false) (Rows.fnNameSetAddStepSpec.post enc Try.prog Try.f4 false true false false) := by
  refine returnsInHanded_of_change (C := Try.checked) own started (by kernel_rfl) Try.func4
    (ChangeSpec.witness6 (enc := enc) (C := Try.checked) false ⟨#[], #[.agg #[.slice none 0 0, .slice none 0 0, .slice none 0 0, .slice none 0 0, .slice none 0 0, .slice none 0 0, .slice none 0 0, .slice none 0 0], .int .i64 0, .bool false, .slice none 0 0, .slice none 0 0], []⟩ 8 (by kernel_rfl) (by kernel_rfl) (by kernel_rfl) (by kernel_rfl)) ?_
  intro W base args ds gs before hval0 hW hcnd _
  have hval : ∀ (j : Nat) t v, Try.f4.params[j]? = some t → args[j]? = some v → Value.okWide Try.prog W .any base t v := hval0
  have hW' := hW
  obtain ⟨p, q, hA0, hV, rfl, hfz, hnd⟩ := hW
  have hA : DataW.TrodAll enc Try.prog W 0 (fun _ => true) true Try.f4.params.toList args.toList ds p := hA0
  rw [Try.params4] at hA hval
  obtain ⟨v0, vs0, d0, ds0, p0, q0, hargs, rfl, rfl, h0, r0⟩ := trodAll_cons hA
  obtain ⟨v1, vs1, d1, ds1, p1, q1, rfl, rfl, rfl, h1, r1⟩ := trodAll_cons r0
  obtain ⟨v2, vs2, d2, ds2, p2, q2, rfl, rfl, rfl, h2, r2⟩ := trodAll_cons r1
  obtain ⟨v3, vs3, d3, ds3, p3, q3, rfl, rfl, rfl, h3, r3⟩ := trodAll_cons r2
  obtain ⟨v4, vs4, d4, ds4, p4, q4, rfl, rfl, rfl, h4, r4⟩ := trodAll_cons r3
  obtain ⟨rfl, rfl, rfl⟩ := trodAll_nil r4
  obtain rfl : args = #[v0, v1, v2, v3, v4] := by cases args; simp_all
  obtain ⟨rfl, rfl⟩ := trodVars_none hV
  have k0 := h0
  have k3 := h3
  have k4 := h4
  have lt0 : ∀ x ∈ p0, x.block < W.heap.size := by obtain ⟨m, hm⟩ := k0; exact DataW.trod_lt m _ _ _ hm
  have lt3 : ∀ x ∈ p3, x.block < W.heap.size := by obtain ⟨m, hm⟩ := k3; exact DataW.trod_lt m _ _ _ hm
  have lt4 : ∀ x ∈ p4, x.block < W.heap.size := by obtain ⟨m, hm⟩ := k4; exact DataW.trod_lt m _ _ _ hm
  obtain ⟨fp, fs, fc, rfl, w0⟩ := open_few (hval 0 28 v0 rfl rfl) h0
  obtain ⟨n, rfl, rfl, rfl, w1⟩ := open_int Try.underlying3 (hval 1 3 v1 rfl rfl) h1
  obtain ⟨hm, rfl, rfl, rfl⟩ := open_bool Try.underlying4 (hval 2 4 v2 rfl rfl) h2
  obtain ⟨kp, kn, kc, rfl⟩ := okWide_slice Try.underlying31 (hval 3 31 v3 rfl rfl)
  obtain ⟨np, nl, nc, rfl⟩ := okWide_slice Try.underlying24 (hval 4 24 v4 rfl rfl)
  obtain ⟨K, w3⟩ : ∃ K, Strs W.heap.size W kp kn K := by
    obtain ⟨fuel, hf⟩ := h3
    exact open_strs' (by simpa [Value.cells] using hf)
  obtain ⟨y, hy, w4⟩ : ∃ y : Option Addr × List UInt8 × Nat, Value.slice np nl nc = .slice y.1 y.2.1.length y.2.2 ∧ Holds W.heap.size W y.1 y.2.1 := by
    obtain ⟨fuel, hf⟩ := h4
    exact open_bytes (by simpa [Value.cells] using hf)
  obtain ⟨y1, s, y3⟩ := y
  simp only [Value.slice.injEq] at hy
  obtain ⟨rfl, rfl, rfl⟩ := hy
  clear hA0 hval0
  refine (walk_any fp fs fc n hm kp kn kc K np s nc W w0 w3 w4).mono fun e W' ⟨he, bel⟩ => ?_
  subst he
  exact ⟨_, rfl, _, _, _, [], _, [], hW', trodAll_mk1 (shut_bool Try.underlying4 _), (trodAll_cons_mk (Below.trod laidOut (by kernel_rfl) (of_decide_eq_true (by kernel_rfl)) k0 bel lt0) (trodAll_cons_mk (shut_int Try.underlying3 w1) (trodAll_cons_mk (shut_bool Try.underlying4 hm) (trodAll_cons_mk (Below.trod laidOut (by kernel_rfl) (of_decide_eq_true (by kernel_rfl)) k3 bel lt3) (trodAll_cons_mk (Below.trod laidOut (by kernel_rfl) (of_decide_eq_true (by kernel_rfl)) k4 bel lt4) trodAll_mk0))))), rfl, bel.frame _, fun h => by cases h⟩

theorem over : Rows.fnNameSetAddStepRow.holds Try.pinned (OpenSpec.ofChange Rows.fnNameSetAddStepSpec) :=
  OpenClaim.holds_of_wide 4 Try.f4 rfl rfl rfl rfl rfl rfl rfl ⟨rfl, rfl, rfl, rfl, rfl⟩ rfl rfl rfl rfl rfl (by kernel_rfl) Try.func4 (by kernel_rfl)
    (of_decide_eq_true (by kernel_rfl)) (by unfold Func.isWrapper; first | (rw [if_pos (by decide +kernel)]; kernel_rfl) | (rw [if_neg (by decide +kernel)]; exact ⟨rfl, rfl⟩))
    (fun os started H enc _ => lifted os started H enc)

/-- THE STATEMENT -/
theorem proved : Rows.FnNameSetAddStepSaid := over
#print axioms proved
end Go.Proofs.Qxb6603155a.fnNameSetAddStep

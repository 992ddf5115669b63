import Derived.Test.Qxb6003126aLaw2
import Derived.Test.Qxb6003126aLaw2Nil
import Derived.Test.Qxb6003126aHead
import Derived.WalkKit
import Derived.ProofKit
import Derived.OpenShut
import Derived.Deep.SlicePairs
import Derived.Deep.Slices
import Derived.ChangeOld
namespace Go.Proofs.Qxb6003126a.fnAddKeepsEveryMarkInFileOrder
open Go.Proofs.Qxb6003126a.Marks Go.ChangeShapes Go.WideShapes Go.ChangeAt Go.RowKit Go.Deep Go.Proofs.Qxb6003126a

theorem Try.cells45 : Try.prog.cellsOf 45 = 4 := by kernel_rfl
theorem Try.cells21 : Try.prog.cellsOf 21 = 1 := by kernel_rfl
theorem Try.cells24 : Try.prog.cellsOf 24 = 1 := by kernel_rfl

theorem addr_add (a : Addr) (i : Nat) (h : a.spot = none) : a.add i = ⟨a.block, a.off + i, none⟩ := by
  cases a
  simp at h
  subst h
  unfold Addr.add
  simp

/-- A slice of marks that came in. -/
def Rows4 (w : World) (a : Option Addr) (n : Nat) (R : Nat → Nat → Int) : Prop :=
  n = 0 ∨ ∃ b o, a = some ⟨b, o, none⟩ ∧ b < w.heap.size ∧ ∀ k, k < n → w.cell? ⟨b, o + k * 4, none⟩ = some (.int .i32 (R k 0)) ∧ w.cell? ⟨b, o + k * 4 + 1, none⟩ = some (.int .i16 (R k 1)) ∧ w.cell? ⟨b, o + k * 4 + 2, none⟩ = some (.int .i32 (R k 2)) ∧ w.cell? ⟨b, o + k * 4 + 3, none⟩ = some (.int .i32 (R k 3))

theorem open_rows4 {H : Type} {enc : TypeId × Value → H} {W : World} {fuel : Nat} {a0 : Option Addr} {len0 cap0 : Nat} {x : DataW H × List MemPlace} (h : DataW.trod enc Try.prog W 0 (fun _ => true) true fuel 42 [.slice a0 len0 cap0] = some x) :
    ∃ R, Rows4 W a0 len0 R := by
  rcases open_slice Try.underlying42 h with ⟨hcs, _⟩ | ⟨a, len, cap, m, n, D, Pl, hcs, hb, hl, hm, hmm, _, hx⟩
  · simp at hcs
    exact ⟨fun _ _ => 0, .inl hcs.2.1⟩
  · simp at hcs
    obtain ⟨rfl, rfl, rfl⟩ := hcs
    have hlm : len0 ≤ m := by rw [hmm]; split <;> omega
    have each : ∀ i, i < len0 → ∃ q : Int × Int × Int × Int, W.cell? (a.add (i * 4)) = some (.int .i32 q.1) ∧ W.cell? (a.add (i * 4 + 1)) = some (.int .i16 q.2.1) ∧ W.cell? (a.add (i * 4 + 2)) = some (.int .i32 q.2.2.1) ∧ W.cell? (a.add (i * 4 + 3)) = some (.int .i32 q.2.2.2) := by
      intro i hi
      obtain ⟨cs', h1, h2⟩ := hx i (by omega)
      rw [Try.cells45] at h1
      obtain ⟨_, hlen, hcell⟩ := World.cells?_some h1
      obtain ⟨xs, k, hk, hxy, _, hxl, hf⟩ := DataW.trod_struct Try.underlying45 h2
      match xs, hxl, cs', hlen with
      | [y0, y1, y2, y3], _, [v0, v1, v2, v3], _ =>
        have g0 := hf 0 _ rfl
        have g1 := hf 1 _ rfl
        have g2 := hf 2 _ rfl
        have g3 := hf 3 _ rfl
        simp [Try.cells21, Try.cells24] at g0 g1 g2 g3
        obtain ⟨n0, c0, _, _⟩ := DataW.trod_int Try.underlying21 g0
        obtain ⟨n1, c1, _, _⟩ := DataW.trod_int Try.underlying24 g1
        obtain ⟨n2, c2, _, _⟩ := DataW.trod_int Try.underlying21 g2
        obtain ⟨n3, c3, _, _⟩ := DataW.trod_int Try.underlying21 g3
        simp at c0 c1 c2 c3
        subst c0 c1 c2 c3
        have e0 := hcell 0 (by omega)
        have e1 := hcell 1 (by omega)
        have e2 := hcell 2 (by omega)
        have e3 := hcell 3 (by omega)
        rw [add_add] at e0 e1 e2 e3
        exact ⟨(n0, n1, n2, n3), by simpa using e0, by simpa using e1, by simpa using e2, by simpa using e3⟩
    by_cases h0 : len0 = 0
    · exact ⟨fun _ _ => 0, .inl h0⟩
    · obtain ⟨q, hq⟩ := choose_lt each
      have hs : a.spot = none := by
        have := World.cell?_spot (hq 0 (by omega)).1
        cases a
        simpa [Addr.add] using this
      have hb : a.block < W.heap.size := by
        have := World.block_lt_of_cell? _ _ (hq 0 (by omega)).1
        rw [addr_add a _ hs] at this
        exact this
      refine ⟨fun k i => match i with | 0 => (q k).1 | 1 => (q k).2.1 | 2 => (q k).2.2.1 | _ => (q k).2.2.2, .inr ⟨a.block, a.off, by cases a; simp at hs; subst hs; rfl, hb, fun k hk => ?_⟩⟩
      obtain ⟨e0, e1, e2, e3⟩ := hq k hk
      rw [addr_add a _ hs] at e0 e1 e2 e3
      exact ⟨e0, e1, e2, e3⟩

/-- The law's walk: the Go text returns true. -/
theorem walk (a : Option Addr) (n cap : Nat) (R : Nat → Nat → Int) (w : World) (h : Rows4 w a n R) :
    Calls Try.prog 5 #[.slice a n cap] w fun e w' => e = .returned (.bool true) ∧ Below w.heap.size w w' := by
  rcases h with rfl | ⟨b, o, rfl, hb, hc⟩
  · cases a with
    | none => exact Marks.walk_nil cap w
    | some a => exact Marks.walk_none a cap w
  · exact Marks.walk_full b o n cap R w hb hc

theorem own : ownKnob Try.prog.godebug = none := by kernel_rfl
theorem laidOut : laidOutB Try.prog = true := by kernel_rfl

set_option maxRecDepth 100000 in
theorem lifted (os : Os) (started : os.Started) (H : Type) (enc : TypeId × Value → H) :
    ReturnsInHanded {} Try.checked os 5 .any (Rows.fnAddKeepsEveryMarkInFileOrderSpec.pre6 enc Try.prog Try.f5 Rows.fnAddKeepsEveryMarkInFileOrderRow.domain false) (Rows.fnAddKeepsEveryMarkInFileOrderSpec.post enc Try.prog Try.f5 false true false false) := by
  refine returnsInHanded_of_change (C := Try.checked) own started (by kernel_rfl) Try.func5
    (ChangeSpec.witness6 (enc := enc) (C := Try.checked) false ⟨#[], #[.slice none 0 0], []⟩ 8 (by kernel_rfl) (by kernel_rfl) (by kernel_rfl) (by kernel_rfl)) ?_
  intro W base args ds gs before hval0 hW hcnd _
  have hval : ∀ (j : Nat) t v, Try.f5.params[j]? = some t → args[j]? = some v → Value.okWide Try.prog W .any base t v := hval0
  have hW' := hW
  obtain ⟨p, q, hA0, hV, rfl, hfz, hnd⟩ := hW
  have hA : DataW.TrodAll enc Try.prog W 0 (fun _ => true) true Try.f5.params.toList args.toList ds p := hA0
  rw [Try.params5] at hA hval
  obtain ⟨v0, d0, rfl, rfl, h0⟩ := trodAll_one hA
  obtain ⟨rfl, rfl⟩ := trodVars_none hV
  obtain ⟨a0, len0, cap0, rfl⟩ := okWide_slice Try.underlying42 (hval 0 42 v0 rfl rfl)
  have k0 := h0
  have lt0 : ∀ x ∈ p, x.block < W.heap.size := by obtain ⟨m, hm⟩ := k0; exact DataW.trod_lt m _ _ _ hm
  obtain ⟨R, w0⟩ : ∃ R, Rows4 W a0 len0 R := by
    obtain ⟨fuel, hf⟩ := h0
    exact open_rows4 (by simpa [Value.cells] using hf)
  clear hA0 hval0
  refine (walk a0 len0 cap0 R W w0).mono fun e W' ⟨he, bel⟩ => ?_
  subst he
  exact ⟨_, rfl, _, _, _, [], _, [], hW', trodAll_mk1 (shut_bool Try.underlying4 _), trodAll_mk1 (Below.trod laidOut (by kernel_rfl) (of_decide_eq_true (by kernel_rfl)) k0 bel lt0), rfl, bel.frame _, fun h => by cases h⟩

theorem closed : joinedFacts Try.pinned.checked.prog 5 Try.f5 Rows.fnAddKeepsEveryMarkInFileOrderSpec Rows.fnAddKeepsEveryMarkInFileOrderRow = true := by
  unfold joinedFacts
  rw [enters, lifts, made]
  kernel_rfl

theorem over : Rows.fnAddKeepsEveryMarkInFileOrderRow.holds Try.pinned (OpenSpec.ofChange Rows.fnAddKeepsEveryMarkInFileOrderSpec) :=
  OpenClaim.holds_of_wide 5 Try.f5 rfl rfl rfl rfl rfl rfl rfl ⟨rfl, rfl, rfl, rfl, rfl⟩ rfl rfl rfl rfl rfl (by kernel_rfl) Try.func5 closed
    (of_decide_eq_true (by kernel_rfl)) (by unfold Func.isWrapper; first | (rw [if_pos (by decide +kernel)]; kernel_rfl) | (rw [if_neg (by decide +kernel)]; exact ⟨rfl, rfl⟩))
    (fun os started H enc _ => lifted os started H enc)

/-- THE STATEMENT -/
theorem proved : Rows.FnAddKeepsEveryMarkInFileOrderSaid := over
#print axioms proved
end Go.Proofs.Qxb6003126a.fnAddKeepsEveryMarkInFileOrder

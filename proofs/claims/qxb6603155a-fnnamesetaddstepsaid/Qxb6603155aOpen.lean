import Derived.Test.Qxb6603155aBase
import Derived.Deep.Matrix
import Derived.ProofKit
import Derived.ChangeOld
namespace Go.Proofs.Qxb6603155a
open Go.ChangeShapes Go.WideShapes Go.ChangeAt Go.RowKit Go.Deep

theorem own : ownKnob Try.prog.godebug = none := by kernel_rfl
theorem laidOut : laidOutB Try.prog = true := by kernel_rfl
theorem Try.cells24 : Try.prog.cellsOf 24 = 1 := by kernel_rfl
theorem Try.cells5 : Try.prog.cellsOf 5 = 1 := by kernel_rfl

/-- The bytes of a row of numbers. -/
def bytesOf (zs : List Int) : List UInt8 := zs.map fun n => UInt8.ofNat n.toNat

theorem toNat_ofNat {n : Int} (h : (Lit.int .u8 n).wf = true) : ((UInt8.ofNat n.toNat).toNat : Int) = n := by
  have h1 : 0 ≤ n ∧ n ≤ 255 := by
    simp [Lit.wf, IntKind.min, IntKind.max, IntKind.signed, IntKind.bits] at h
    omega
  simp
  omega

theorem addr_add (a : Addr) (i : Nat) (h : a.spot = none) : a.add i = ⟨a.block, a.off + i, none⟩ := by
  cases a
  simp at h
  subst h
  unfold Addr.add
  simp

/-- What a row of bytes that came in gives. -/
theorem holds_of_cells {w : World} {A : Option Addr} {L C : Nat} {Z : List Int} (hLC : L ≤ C) (hZ : Z.length = C) (hwf : ∀ n ∈ Z, (Lit.int .u8 n).wf = true) (hnone : A = none → C = 0)
    (hcell : ∀ a, A = some a → ∀ c, c < C → w.cell? (a.add c) = some (.int .u8 (Z.getD c 0))) : Holds w.heap.size w A (bytesOf (Z.take L)) ∧ (bytesOf (Z.take L)).length = L := by
  have hlen : (bytesOf (Z.take L)).length = L := by simp [bytesOf]; omega
  refine ⟨?_, hlen⟩
  by_cases h0 : L = 0
  · left; subst h0; simp [bytesOf]
  · cases A with
    | none => have := hnone rfl; omega
    | some a =>
      have hc := hcell a rfl
      have hs : a.spot = none := by
        have := World.cell?_spot (hc 0 (by omega))
        cases a
        simpa [Addr.add] using this
      right
      have hb : a.block < w.heap.size := by
        have := World.block_lt_of_cell? _ _ (hc 0 (by omega))
        rw [addr_add a 0 hs] at this
        exact this
      refine ⟨a.block, a.off, by cases a; simp at hs; subst hs; rfl, hb, fun i hi => ?_⟩
      rw [hlen] at hi
      have := hc i (by omega)
      rw [addr_add a i hs] at this
      rw [this]
      have hi' : i < Z.length := by omega
      have e1 : Z.getD i 0 = Z[i] := by simp [List.getD, hi']
      have e2 : (bytesOf (Z.take L)).getD i 0 = UInt8.ofNat Z[i].toNat := by
        simp [bytesOf, List.getD, hi', hi]
      rw [e1, e2, toNat_ofNat (hwf _ (List.getElem_mem hi'))]

end Go.Proofs.Qxb6603155a

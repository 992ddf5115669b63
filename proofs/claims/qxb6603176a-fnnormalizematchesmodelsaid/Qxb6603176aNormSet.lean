import Derived.Test.Qxb6603176aNormLeaf
namespace Go.Proofs.Qxb6603176a.Norm
open Go.RowKit

/-- Byte i of the text. -/
def at_ (t : ByteArray) (i : Nat) : Int := ((t.data.toList.getD i 0).toNat : Int)

/-- What lies in Normalize's two captured variables: the text; nil while nothing has turned, or the bytes v. -/
def Cur (B : Nat) (w0 w : World) (t : ByteArray) (v : Nat → Int) : Prop :=
  w.cell? ⟨B, 0, none⟩ = some (.string t) ∧ Below B w0 w ∧ w.frozen? ⟨B + 1, 0, none⟩ = false ∧ B + 1 < w.heap.size ∧
  ((w.cell? ⟨B + 1, 0, none⟩ = some (.slice none 0 0) ∧ ∀ i, i < t.size → v i = at_ t i) ∨
   ∃ g cap, w.cell? ⟨B + 1, 0, none⟩ = some (.slice (some ⟨g, 0, none⟩) t.size cap) ∧ B + 1 < g ∧ g < w.heap.size ∧ Bytes w g t.size v)

theorem bytesWorld_below (w : World) (t : ByteArray) : Below w.heap.size w (Lib.bytesWorld w 5 t) :=
  ⟨rfl, rfl, rfl, by rw [Lib.bytesWorld_size]; omega, fun k hk => Lib.bytesWorld_at_old w 5 t k hk⟩

theorem bytesWorld_bytes (w : World) (t : ByteArray) : Bytes (Lib.bytesWorld w 5 t) w.heap.size t.size (at_ t) := by
  intro i hi
  refine ⟨Lib.bytesWorld_cell w 5 t i hi, ?_⟩
  have h1 := Lib.bytesWorld_at_new w 5 t
  have h2 : t.size ≤ (Lib.bytesCells w 5 t).size := by unfold Lib.bytesCells; rw [Array.size_append, Array.size_map]; exact Nat.le_add_right _ _
  simp [World.frozen?, h1]
  omega

theorem Bytes.other {w : World} {g n : Nat} {v : Nat → Int} (h : Bytes w g n v) (a : Addr) (ha : g ≠ a.block) (u : Value) : Bytes (w.setCell a u) g n v :=
  fun i hi => ⟨by rw [World.cell?_setCell_other _ _ _ _ (by intro e; exact ha (by rw [e]))]; exact (h i hi).1, by rw [World.frozen?_setCell]; exact (h i hi).2⟩

theorem cur_first {B : Nat} {w0 w w1 : World} {t : ByteArray} {v : Nat → Int} {i cap : Nat} {c : Int} (c0 : w.cell? ⟨B, 0, none⟩ = some (.string t)) (hbel : Below B w0 w) (hsz : B + 1 < w.heap.size) (hi : i < t.size)
    (d0 : w1.cell? ⟨B + 1, 0, none⟩ = some (.slice none 0 0)) (d1 : w1.frozen? ⟨B + 1, 0, none⟩ = false) (b1 : Below w.heap.size w w1) (b2 : Bytes w1 w.heap.size t.size (at_ t)) (b3 : w1.heap.size = w.heap.size + 1) (hv : ∀ i, i < t.size → v i = at_ t i) :
    Cur B w0 ((w1.setCell ⟨B + 1, 0, none⟩ (.slice (some ⟨w.heap.size, 0, none⟩) t.size cap)).setCell ⟨w.heap.size, i, none⟩ (.int .u8 c)) t (fun j => if j = i then c else v j) := by
  have n1 : ∀ (x y : Nat) (u : Value) (W : World) (b : Addr), b.block ≠ x → (W.setCell ⟨x, y, none⟩ u).cell? b = W.cell? b := fun x y u W b hb => World.cell?_setCell_other _ _ _ _ (by intro e; exact hb (by rw [← e]))
  refine ⟨?_, ?_, ?_, ?_, .inr ⟨w.heap.size, cap, ?_, hsz, ?_, ?_⟩⟩
  · rw [n1 _ _ _ _ _ (by show B ≠ _; omega), n1 _ _ _ _ _ (by show B ≠ _; omega)]
    exact (b1.cell (p := ⟨B, 0, none⟩) (by show B < _; omega)).trans c0
  · exact ((hbel.trans (b1.mono (by omega))).setCell (p := ⟨B + 1, 0, none⟩) (by show B ≤ B + 1; omega) _).setCell (p := ⟨w.heap.size, i, none⟩) (by show B ≤ w.heap.size; omega) _
  · rw [World.frozen?_setCell, World.frozen?_setCell]; exact d1
  · simp; omega
  · rw [n1 _ _ _ _ _ (by show B + 1 ≠ _; omega)]
    exact World.cell?_setCell_same _ _ _ d0
  · simp; omega
  · have h1 := (b2.other ⟨B + 1, 0, none⟩ (by show w.heap.size ≠ B + 1; omega) (.slice (some ⟨w.heap.size, 0, none⟩) t.size cap)).set i hi c
    exact h1.congr (fun j hj => by by_cases e : j = i <;> simp [e, hv j hj])

theorem cur_again {B : Nat} {w0 w : World} {t : ByteArray} {v : Nat → Int} {i g cap : Nat} {c : Int} (c0 : w.cell? ⟨B, 0, none⟩ = some (.string t)) (hbel : Below B w0 w) (fz : w.frozen? ⟨B + 1, 0, none⟩ = false) (hsz : B + 1 < w.heap.size) (hi : i < t.size)
    (cb : w.cell? ⟨B + 1, 0, none⟩ = some (.slice (some ⟨g, 0, none⟩) t.size cap)) (hg1 : B + 1 < g) (hg2 : g < w.heap.size) (hby : Bytes w g t.size v) :
    Cur B w0 (w.setCell ⟨g, i, none⟩ (.int .u8 c)) t (fun j => if j = i then c else v j) := by
  have n1 : ∀ (x y : Nat) (u : Value) (W : World) (b : Addr), b.block ≠ x → (W.setCell ⟨x, y, none⟩ u).cell? b = W.cell? b := fun x y u W b hb => World.cell?_setCell_other _ _ _ _ (by intro e; exact hb (by rw [← e]))
  refine ⟨?_, ?_, ?_, ?_, .inr ⟨g, cap, ?_, hg1, ?_, hby.set i hi c⟩⟩
  · rw [n1 _ _ _ _ _ (by show B ≠ _; omega)]; exact c0
  · exact hbel.setCell (p := ⟨g, i, none⟩) (by show B ≤ g; omega) _
  · rw [World.frozen?_setCell]; exact fz
  · simp; omega
  · rw [n1 _ _ _ _ _ (by show B + 1 ≠ _; omega)]; exact cb
  · simp; omega

set_option maxHeartbeats 1000000 in
/-- The closure 'set'. -/
theorem set_any (B : Nat) (w0 w : World) (t : ByteArray) (v : Nat → Int) (h : Cur B w0 w t v) (i : Nat) (c : Int) (hi : i < t.size) :
    Calls Try.prog 34 #[.int .i64 i, .int .u8 c, .pointer (some ⟨B + 1, 0, none⟩), .pointer (some ⟨B, 0, none⟩)] w fun e w' => e = .returned (.tuple #[]) ∧ Cur B w0 w' t (fun j => if j = i then c else v j) := by
  obtain ⟨c0, hbel, fz, hsz, hb⟩ := h
  have g1 : (i : Int) < (t.size : Int) := by omega
  have hnil := fun (a : Option Addr) (n c : Nat) (w : World) => Lib.run_eql_slice_nil (P := Try.prog) w 34 5 a n c 0 0 Try.underlying34
  have HB := hide hbel
  clear hbel
  rcases hb with ⟨cb, hv⟩ | ⟨g, cap, cb, hg1, hg2, hby⟩
  · have hcv := Lib.run_convert_string_bytes (P := Try.prog) w 9 34 5 t Try.underlying9 Try.underlying34 Try.underlying5
    have b1 := bytesWorld_below w t
    have b2 := bytesWorld_bytes w t
    have b3 := Lib.bytesWorld_size w 5 t
    generalize Lib.bytesWorld w 5 t = w1 at hcv b1 b2 b3
    have d0 : w1.cell? ⟨B + 1, 0, none⟩ = some (.slice none 0 0) := (b1.cell (p := ⟨B + 1, 0, none⟩) hsz).trans cb
    have d1 : w1.frozen? ⟨B + 1, 0, none⟩ = false := (b1.frozen (p := ⟨B + 1, 0, none⟩) hsz).trans fz
    have d2 := (b2 i hi).1
    have d3 := (b2 i hi).2
    have hne : w.heap.size ≠ B + 1 := by omega
    have E0 := hide b1
    have E1 := hide b2
    have E2 := hide b3
    have HV := hide hv
    clear b1 b2 b3 hv
    go_enter Try.func34, Try.ntmps34
    go_wp2
    go_end0
    exact ⟨rfl, cur_first c0 (unhide HB) hsz hi d0 d1 (unhide E0) (unhide E1) (unhide E2) (unhide HV)⟩
  · have d2 := (hby i hi).1
    have d3 := (hby i hi).2
    have E1 := hide hby
    clear hby
    go_enter Try.func34, Try.ntmps34
    go_wp2
    go_end0
    exact ⟨rfl, cur_again c0 (unhide HB) fz hsz hi cb hg1 hg2 (unhide E1)⟩
end Go.Proofs.Qxb6603176a.Norm

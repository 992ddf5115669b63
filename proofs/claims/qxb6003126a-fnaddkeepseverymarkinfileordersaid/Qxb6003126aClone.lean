import Derived.Test.Qxb6003126aRows
import Derived.Shelf.LaysM
import Derived.Shelf.Strconv.Clone
import Derived.WalkKit
import Derived.WalkSpells
import Derived.WalkLawsBesides
import Derived.BigQuiet
import Derived.Deep.QuietTactic
import Derived.Deep.OwnRows
import Derived.Deep.AppendLies
import Derived.Maps.AppendAt
import Derived.Below
namespace Go.Proofs.Qxb6003126a
open Go.RowKit Go.Shelf

theorem hide {p : Prop} (h : p) : Hid p := h
theorem unhide {p : Prop} (h : Hid p) : p := h

/-- How the shelf's numbers are called here. -/
def ren : Ren := ⟨fun x => if x = 316 then 23 else x, fun x => if x = 37 then 63 else if x = 127 then 64 else x, fun x => x⟩

/-- What internal/stringslite.Clone is made of lies in this program. -/
theorem lays316 : LaysM.n316 Try.prog ren where
  mixed := by kernel_rfl
  f316 := by kernel_rfl
  t0 := by kernel_rfl
  a0 := fun w => by kernel_rfl
  z0 := fun w => by kernel_rfl
  v0 := fun w => by kernel_rfl
  t3 := by kernel_rfl
  a3 := fun w => by kernel_rfl
  z3 := fun w => by kernel_rfl
  v3 := fun w => by kernel_rfl
  t4 := by kernel_rfl
  a4 := fun w => by kernel_rfl
  z4 := fun w => by kernel_rfl
  v4 := fun w => by kernel_rfl
  t9 := by kernel_rfl
  a9 := fun w => by kernel_rfl
  z9 := fun w => by kernel_rfl
  v9 := fun w => by kernel_rfl
  t37 := by kernel_rfl
  a37 := fun w => by kernel_rfl
  z37 := fun w => by kernel_rfl
  v37 := fun w => by kernel_rfl
  t127 := by kernel_rfl
  a127 := fun w => by kernel_rfl
  z127 := fun w => by kernel_rfl
  v127 := fun w => by kernel_rfl
  t5 := by kernel_rfl
  a5 := fun w => by kernel_rfl
  z5 := fun w => by kernel_rfl
  v5 := fun w => by kernel_rfl
  i0 := by kernel_rfl
  i3 := by kernel_rfl
  i4 := by kernel_rfl
  i5 := by kernel_rfl
  i9 := by kernel_rfl
  i37 := by kernel_rfl
  i127 := by kernel_rfl

/-- internal/stringslite.Clone: the same bytes (the shelf's contract). -/
theorem clone23 (s : ByteArray) (w : World) (hlim : s.size ≤ 281474976710656) :
    Calls Try.prog 23 #[.string s] w fun e w' => e = .returned (.string s) ∧ Below w.heap.size w w' :=
  Any.stringslite_Clone lays316 s w hlim

set_option maxHeartbeats 400000 in
/-- strings.Clone. -/
theorem clone22 (s : ByteArray) (w : World) (hlim : s.size ≤ 281474976710656) :
    Calls Try.prog 22 #[.string s] w fun e w' => e = .returned (.string s) ∧ Below w.heap.size w w' := by
  have H := hide (clone23 s w hlim)
  go_enter Try.func22, Try.ntmps22
  go_wp2_with fail
  refine (unhide H).mono ?_
  rintro e w1 ⟨rfl, hb⟩
  have HB := hide hb
  clear hb
  go_wp2_with fail
  go_ret
  exact ⟨rfl, unhide HB⟩
end Go.Proofs.Qxb6003126a

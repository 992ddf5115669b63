import Derived.Test.Qxb6603155aLeaf
import Derived.Maps.OwnSet
import Derived.Maps.OwnOps
import Derived.Maps.Views
namespace Go.Proofs.Qxb6603155a
open Go.RowKit Go.Maps

theorem law : Keyed Try.prog 9 := string_keyed Try.underlying9
theorem zero4 (w : World) : (zeroValue 4).run Try.prog w = .ok (.bool false) w := by kernel_rfl

/-- Block b is a map[string]bool whose keys are the names of L, each with the element true. -/
def Names (w : World) (b : Nat) (L : List (List UInt8)) : Prop :=
  w.ownsMap (H := Unit) Try.prog 9 (plainElem Try.prog 4) b L.length (setOf (.lit (.bool true)) (L.map Lit.string))

theorem keyLit (s : List UInt8) : WideAt.IsKeyLit (.string s) := by trivial
theorem keysOf (L : List (List UInt8)) : ∀ x ∈ L.map Lit.string, WideAt.IsKeyLit x := by
  intro x hx
  obtain ⟨s, _, rfl⟩ := List.mem_map.1 hx
  exact keyLit s

theorem sameKey_string (s t : List UInt8) : (Lit.string s).sameKey (.string t) = (s == t) := by
  by_cases h : s = t
  · subst h
    rw [WideAt.sameKey_self (keyLit s)]; simp
  · rw [sameKey_ne (fun e => h (by cases e; rfl))]
    exact (beq_eq_false_iff_ne.2 h).symm

theorem any_string (L : List (List UInt8)) (s : List UInt8) : (L.map Lit.string).any (fun x => x.sameKey (.string s)) = L.contains s := by
  induction L with
  | nil => rfl
  | cons x r ih => 
    rw [List.map_cons, List.any_cons, ih, sameKey_string, List.contains_cons, Bool.beq_comm]

theorem has_names (L : List (List UInt8)) (s : List UInt8) : Maps.has (H := Unit) (setOf (.lit (.bool true)) (L.map Lit.string)) (.string s) = L.contains s := by
  rw [has_setOf _ _ _ (keysOf L), any_string]

theorem atKey_fold (s : List UInt8) : ∀ (L : List (List UInt8)) (D : DataW Unit), IsMap D → ((D.atKey (.string s) (.lit (.bool false)) = .lit (.bool (Maps.has D (.string s))))) →
    ((L.map Lit.string).foldl (fun m x => m.put x (.lit (.bool true))) D).atKey (.string s) (.lit (.bool false)) = .lit (.bool (Maps.has ((L.map Lit.string).foldl (fun m x => m.put x (.lit (.bool true))) D) (.string s)))
  | [], D, _, h => h
  | x :: r, D, hD, h => by
    rw [List.map_cons, List.foldl_cons]
    refine atKey_fold s r _ (hD.put _ _) ?_
    by_cases e : s = x
    · subst e
      rw [atKey_put_same hD (keyLit s), has_put_same hD (keyLit s)]
    · have e' : Lit.string s ≠ Lit.string x := fun h => e (by cases h; rfl)
      rw [atKey_put_other e', has_put_other e', h]

theorem atKey_names (L : List (List UInt8)) (s : List UInt8) : (setOf (H := Unit) (.lit (.bool true)) (L.map Lit.string)).atKey (.string s) (.lit (.bool false)) = .lit (.bool (L.contains s)) := by
  rw [← has_names L s]
  exact atKey_fold s L (.map []) isMap_empty rfl

theorem plainElem_bool_inv {v : Value} {z : DataW Unit × List MemPlace} (h : plainElem Try.prog 4 v = some z) : ∃ x, v = .bool x ∧ z = (.lit (.bool x), []) := by
  unfold plainElem at h
  rw [Try.underlying4] at h
  cases v <;> simp at h
  exact ⟨_, rfl, h.symm⟩

theorem key_mk (s : List UInt8) (hs : s.length ≤ maxLen) : keyOf Try.prog 9 (.string ⟨s.toArray⟩) = some (.string s) := by
  have := Go.WideMaps.keyOf_string_mk (P := Try.prog) (k := 9) Try.underlying9 (s := ⟨s.toArray⟩) (by simpa [ByteArray.size] using hs)
  simpa using this

/-- 'm[string(name)]'. -/
theorem Names.look {w : World} {b : Nat} {L : List (List UInt8)} (h : Names w b L) (s : List UInt8) (hs : s.length ≤ maxLen) :
    (Instr.lookup 33 (.map (some b)) (.string ⟨s.toArray⟩) false).run Try.prog w = .ok (.bool (L.contains s)) w := by
  obtain ⟨v, ps, hrun, hv⟩ := World.ownsMap.lookup h law Try.underlying33 (zero4 w) (plainElem_bool Try.underlying4 false) (key_mk s hs)
  obtain ⟨x, rfl, hx⟩ := plainElem_bool_inv hv
  rw [hrun]
  rw [atKey_names] at hx
  simp only [Prod.mk.injEq, DataW.lit.injEq, Lit.bool.injEq] at hx
  rw [hx.1]

/-- 'v, ok := m[string(name)]'. -/
theorem Names.lookOk {w : World} {b : Nat} {L : List (List UInt8)} (h : Names w b L) (s : List UInt8) (hs : s.length ≤ maxLen) :
    (Instr.lookup 33 (.map (some b)) (.string ⟨s.toArray⟩) true).run Try.prog w = .ok (.tuple #[.bool (L.contains s), .bool (L.contains s)]) w := by
  obtain ⟨v, ps, hrun, hv⟩ := World.ownsMap.look_ok h law Try.underlying33 (zero4 w) (plainElem_bool Try.underlying4 false) (key_mk s hs)
  obtain ⟨x, rfl, hx⟩ := plainElem_bool_inv hv
  rw [hrun, has_names]
  rw [atKey_names] at hx
  simp only [Prod.mk.injEq, DataW.lit.injEq, Lit.bool.injEq] at hx
  rw [hx.1]

/-- 'm[string(name)] = true'. -/
theorem Names.put {w : World} {b : Nat} {L : List (List UInt8)} (h : Names w b L) (s : List UInt8) (hs : s.length ≤ maxLen) (hL : L.length < maxLen) :
    ∃ w', (Instr.mapUpdate 33 (.map (some b)) (.string ⟨s.toArray⟩) (.bool true)).run Try.prog w = .ok () w' ∧ Names w' b (L ++ [s]) ∧ w.mapTurned w' b := by
  obtain ⟨w', hrun, hown, hturn⟩ := World.ownsMap.store h law Try.underlying33 hL (key_mk s hs) (plainElem_bool Try.underlying4 true)
  refine ⟨w', hrun, ?_, hturn⟩
  unfold Names
  rw [List.map_append, List.map_singleton, setOf_snoc, List.length_append]
  exact hown

theorem Names.made (w : World) : Names (w.alloc (.map #[] 0)) w.heap.size [] := World.ownsMap_made w _ _ _

theorem Names.drewN {w : World} {b : Nat} {L : List (List UInt8)} (h : Names w b L) (n : Nat) : Names (w.drewN n) b L := h
theorem Names.drew {w : World} {b : Nat} {L : List (List UInt8)} (h : Names w b L) : Names w.drew b L := h
theorem Names.alloc {w : World} {b : Nat} {L : List (List UInt8)} (h : Names w b L) (o : Obj) : Names (w.alloc o) b L := World.ownsMap.alloc h o
theorem Names.setCell {w : World} {b : Nat} {L : List (List UInt8)} (h : Names w b L) {a : Addr} (ha : b ≠ a.block) (u : Value) : Names (w.setCell a u) b L := World.ownsMap.setCell h ha u
theorem Names.lt {w : World} {b : Nat} {L : List (List UInt8)} (h : Names w b L) : b < w.heap.size := World.ownsMap.lt h

/-- How many different names. -/
def distinct (L : List (List UInt8)) : Nat := ((L.map Lit.string).foldl addKey []).length

theorem Names.len {w : World} {b : Nat} {L : List (List UInt8)} (h : Names w b L) (ty : TypeId) : (Builtin.len_ #[33] ty #[.map (some b)]).run Try.prog w = .ok (.int .i64 (distinct L)) w := by
  rw [World.ownsMap.len h Try.underlying33 ty, size_setOf _ _ (keysOf L)]
  rfl

theorem turned_cell {w w' : World} {b : Nat} (h : w.mapTurned w' b) (a : Addr) : w'.cell? a = w.cell? a := by
  obtain ⟨es, clock, es', clock', hb, rfl⟩ := h
  by_cases e : a.block = b
  · have h1 : (ChangeMaps.setBlock w b (.map es' clock')).heap[a.block]? = some (.map es' clock') := by rw [e]; exact ChangeMaps.heap_setBlock_same hb _
    rw [← e] at hb
    simp [World.cell?, h1, hb]
  · exact World.cell?_of_block (ChangeMaps.heap_setBlock_other hb _ e)

end Go.Proofs.Qxb6603155a

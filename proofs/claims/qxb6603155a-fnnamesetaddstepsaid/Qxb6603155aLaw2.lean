import Derived.Test.Qxb6603155aStepLeaf
import Derived.Deep.CutRange
namespace Go.Proofs.Qxb6603155a.Step
open Go.RowKit Go.Maps

theorem Strs.below {B : Nat} {w w' : World} {p : Option Addr} {n : Nat} {K : Nat → ByteArray} (h : Strs B w p n K) (hb : Below B w w') : Strs B w' p n K := by
  rcases h with h | ⟨b, o, h1, h2, h3⟩
  · exact .inl h
  · exact .inr ⟨b, o, h1, h2, fun i hi => (hb.cell (p := ⟨b, o + i, none⟩) h2).trans (h3 i hi)⟩

theorem Names.below {B : Nat} {w w' : World} {b : Nat} {L : List (List UInt8)} (h : Names w b L) (hb : Below B w w') (hB : b < B) : Names w' b L := by
  obtain ⟨es, clock, e1, r⟩ := h
  exact ⟨es, clock, (hb.block b hB).trans e1, r⟩

theorem Strs.mono {B B' : Nat} {w : World} {p : Option Addr} {n : Nat} {K : Nat → ByteArray} (h : Strs B w p n K) (hb : B ≤ B') : Strs B' w p n K := by
  rcases h with h | ⟨b, o, h1, h2, h3⟩
  · exact .inl h
  · exact .inr ⟨b, o, h1, by omega, h3⟩

/-- zzBytes_FnNameSetAddStep, as the law calls it. -/
theorem bytes10_at (fp : Nat → Option Addr) (fs : Nat → List UInt8) (fc : Nat → Nat) (n : Int) (hm : Bool) (kp : Option Addr) (kn kc : Nat) (K : Nat → ByteArray) (p : Option Addr) (nl nc : Nat) (w : World)
    (hk : Strs w.heap.size w kp kn K) :
    Calls Try.prog 10 #[Agg fp fs fc, .int .i64 n, .bool hm, .slice kp kn kc, .slice p nl nc] (w.alloc (.cells #[.slice (fp 0) (fs 0).length (fc 0), .slice (fp 1) (fs 1).length (fc 1), .slice (fp 2) (fs 2).length (fc 2), .slice (fp 3) (fs 3).length (fc 3), .slice (fp 4) (fs 4).length (fc 4), .slice (fp 5) (fs 5).length (fc 5), .slice (fp 6) (fs 6).length (fc 6), .slice (fp 7) (fs 7).length (fc 7)] 28)) fun e w' =>
      SomeBool e ∧ w'.rowIs w.heap.size 28 8 (fun i => .slice (fp i) (fs i).length (fc i)) ∧ Below w.heap.size w w' := by
  have hb0 : ∀ o, Below w.heap.size w (w.alloc o) := fun o => (Below.refl _ _).alloc (Nat.le_refl _) _
  refine (bytes10 fp fs fc n hm kp kn kc K p nl nc _ (hk.below (hb0 _)) (by simp)).mono ?_
  rintro e w' ⟨h1, h2⟩
  have r := agg_row w fp fs fc 28
  exact ⟨h1, r.of_block (h2.block _ r.lt), (hb0 _).trans (h2.mono (by simp))⟩

theorem Try.info9 : (Try.prog.info? 9).map (fun i => (i.zero, i.size, i.bytes)) = some (some (.string ByteArray.empty), 1, 16) := by kernel_rfl

theorem bytes_toArray (b : ByteArray) : (⟨b.data.toList.toArray⟩ : ByteArray) = b := by cases b; simp

/-- 'm[k] = true', k a string. -/
theorem Names.putS {w : World} {b : Nat} {L : List (List UInt8)} (h : Names w b L) (k : ByteArray) (hs : k.size ≤ maxLen) (hL : L.length < maxLen) :
    ∃ w', (Instr.mapUpdate 33 (.map (some b)) (.string k) (.bool true)).run Try.prog w = .ok () w' ∧ Names w' b (L ++ [k.data.toList]) ∧ w.mapTurned w' b := by
  have := h.put k.data.toList (by rw [Array.length_toList]; exact hs) hL
  rwa [bytes_toArray] at this

theorem held_yes (K : Nat → ByteArray) (s : List UInt8) (t : Nat) (h : ((K t).toList == s) = true) : (true = true ↔ ∃ j, j < t + 1 ∧ (K j).data.toList = s) := by
  refine ⟨fun _ => ⟨t, by omega, ?_⟩, fun _ => rfl⟩
  rw [← ByteArray.toList_eq]
  exact beq_iff_eq.1 h

theorem held_no (K : Nat → ByteArray) (s : List UInt8) (t : Nat) (hb : Bool) (h : ((K t).toList == s) = false) (hi : hb = true ↔ ∃ j, j < t ∧ (K j).data.toList = s) : (hb = true ↔ ∃ j, j < t + 1 ∧ (K j).data.toList = s) := by
  rw [hi]
  constructor
  · rintro ⟨j, hj, e⟩; exact ⟨j, by omega, e⟩
  · rintro ⟨j, hj, e⟩
    by_cases hjt : j = t
    · subst hjt
      rw [ByteArray.toList_eq] at h
      rw [e] at h
      simp at h
    · exact ⟨j, by omega, e⟩

theorem held_all (K : Nat → ByteArray) (s : List UInt8) (kn t : Nat) (hb : Bool) (ht : t = kn) (hi : hb = true ↔ ∃ j, j < t ∧ (K j).data.toList = s) : ((List.range kn).map (fun i => (K i).data.toList)).contains s = hb := by
  subst ht
  rw [Bool.eq_iff_iff, hi]
  simp

theorem distinct_size (L : List (List UInt8)) : distinct L = Maps.size (H := Unit) (setOf (.lit (.bool true)) (L.map Lit.string)) := (size_setOf _ _ (keysOf L)).symm

theorem distinct_snoc (L : List (List UInt8)) (s : List UInt8) : distinct (L ++ [s]) = if L.contains s then distinct L else distinct L + 1 := by
  rw [distinct_size, distinct_size, List.map_append, List.map_singleton, setOf_snoc, size_put (tidy_setOf _ _ (keysOf L)), has_names]

theorem distinct_le_snoc (L : List (List UInt8)) (s : List UInt8) : distinct L ≤ distinct (L ++ [s]) := by
  rw [distinct_snoc]; split <;> omega

theorem names_distinct_le {w : World} {b : Nat} {L : List (List UInt8)} (h : Names w b L) : distinct L ≤ L.length := by
  rw [distinct_size]; exact World.ownsMap.size_le h

/-- ZZAdd, where the set is a map. -/
theorem add_many {S B2 F : Nat} {gp : Nat → Option Addr} {fs : Nat → List UInt8} {gc : Nat → Nat} {n : Int} {w w2 wq w4 : World} {L : List (List UInt8)} {s : List UInt8} {p2 : Option Addr} {hb : Bool} {o o' : Obj}
    (hr4 : w4.rowIs S 40 10 (Rec gp fs gc n (some B2))) (hw4 : w4 = (wq.alloc o).alloc o') (hN : Names wq B2 L) (hbel : Below B2 w2 wq) (rF : wq.rowIs F 28 8 (fun i => .slice (gp i) (fs i).length (gc i)))
    (hs : Holds B2 w2 p2 s) (hw : Below w.heap.size w w2) (hBw : w.heap.size ≤ B2) (he : L.contains s = hb) (hsl : s.length ≤ 1048576) (hL : L.length < 1048576) (c2 : Nat) :
    Calls Try.prog 9 #[.pointer (some ⟨S, 0, none⟩), .slice p2 s.length c2] w4 fun e w' => e = .returned (.bool hb) ∧ Names w' B2 (L ++ [s]) ∧ w'.rowIs S 40 10 (Rec gp fs gc n (some B2)) ∧ w'.rowIs F 28 8 (fun i => .slice (gp i) (fs i).length (gc i)) ∧ Below w.heap.size w w' ∧ (∀ a : Addr, a.block < B2 → w'.cell? a = w2.cell? a) := by
  have hd : ∀ B, B ≤ wq.heap.size → Below B wq w4 := fun B hB => by rw [hw4]; exact ((Below.refl _ _).alloc hB _).alloc (by simp; omega) _
  have hN4 : Names w4 B2 L := by rw [hw4]; exact (hN.alloc _).alloc _
  have h24 : Below B2 w2 w4 := hbel.trans (hd B2 (by have := hN.lt; omega))
  have hadd := add_map S B2 L p2 s c2 w4 (hr4.cell (i := 9) (by omega)) hN4 (hs.below h24) hsl hL
  have hz := zzadd (R := fun e w' => e = .returned (.bool hb) ∧ Names w' B2 (L ++ [s]) ∧ w'.rowIs S 40 10 (Rec gp fs gc n (some B2)) ∧ w'.rowIs F 28 8 (fun i => .slice (gp i) (fs i).length (gc i)) ∧ Below w.heap.size w w' ∧ (∀ a : Addr, a.block < B2 → w'.cell? a = w2.cell? a)) (hadd.mono fun e w' h => by
    obtain ⟨rfl, h1, m, hturn⟩ := h
    have hle : w.heap.size ≤ B2 := hBw
    refine ⟨_, rfl, by rw [he], h1, turned_row (w := w4.drewN m) hturn hr4, turned_row (w := w4.drewN m) hturn (rF.of_block ((hd _ (Nat.le_refl _)).block _ rF.lt)), ?_, fun a ha => ?_⟩
    · exact ((hw.trans (h24.mono hle)).trans (below_drewN (Below.refl _ _) m)).trans (turned_below hturn hle)
    · exact (turned_cell hturn a).trans (h24.cell (p := a) ha))
  exact hz.mono fun e w' ⟨x, _, h⟩ => h

theorem Names.lookS {w : World} {b : Nat} {L : List (List UInt8)} (h : Names w b L) (k : ByteArray) (hs : k.size ≤ maxLen) (hin : k.data.toList ∈ L) :
    (Instr.lookup 33 (.map (some b)) (.string k) true).run Try.prog w = .ok (.tuple #[.bool true, .bool true]) w := by
  have := h.lookOk k.data.toList (by rw [Array.length_toList]; exact hs)
  rw [bytes_toArray] at this
  rw [this]
  simp [hin]

/-- The test that ends the law early: no map, and a count that is none. -/
def bad (hm : Bool) (n : Int) : Bool := !hm && (decide (n < 0) || decide (8 < n))

theorem few_range {n : Int} (h : bad false n = false) : ∃ N : Nat, n = N ∧ N ≤ 8 := by
  simp [bad] at h
  exact ⟨n.toNat, by omega, by omega⟩

theorem few_no (fs : Nat → List UInt8) (s : List UInt8) (t : Nat) (hb : Bool) (h : ¬ fs t = s) (hi : hb = true ↔ ∃ j, j < t ∧ fs j = s) : (hb = true ↔ ∃ j, j < t + 1 ∧ fs j = s) := by
  rw [hi]
  constructor
  · rintro ⟨j, hj, e⟩; exact ⟨j, by omega, e⟩
  · rintro ⟨j, hj, e⟩
    by_cases hjt : j = t
    · subst hjt; exact absurd e h
    · exact ⟨j, by omega, e⟩

/-- ZZAdd, where the set is an array that holds the name. -/
theorem addz_held {B S N : Nat} {gp : Nat → Option Addr} {fs : Nat → List UInt8} {gc : Nat → Nat} {w4 : World} {s : List UInt8} {p2 : Option Addr} (hr : w4.rowIs S 40 10 (Rec gp fs gc (N : Int) none)) (hf : ∀ i, i < 8 → Holds B w4 (gp i) (fs i)) (hs : Holds B w4 p2 s)
    (hB : B ≤ S) (hN : N ≤ 8) (hl : s.length ≤ 1048576) (hfl : ∀ i, i < 8 → (fs i).length ≤ 1048576) (hh : ∃ j, j < N ∧ fs j = s) (c2 : Nat) :
    Calls Try.prog 9 #[.pointer (some ⟨S, 0, none⟩), .slice p2 s.length c2] w4 fun e w' => e = .returned (.bool true) ∧ ∃ m, w' = w4.drewN m := by
  have hz := zzadd (R := fun e w' => e = .returned (.bool true) ∧ ∃ m, w' = w4.drewN m) ((add_few S gp fs gc N p2 s c2 w4 hr hf hs hB hN hl hfl).mono fun e w' h => by
    obtain ⟨j, hj, e1⟩ := hh
    rcases h with ⟨_, rfl, h⟩ | ⟨hno, _⟩ | ⟨hno, _⟩
    · exact ⟨_, rfl, rfl, h⟩
    · exact absurd e1 (hno j hj)
    · exact absurd e1 (hno j hj))
  exact hz.mono fun e w' ⟨x, _, h⟩ => h

/-- .. an array with room. -/
theorem addz_room {B S N : Nat} {gp : Nat → Option Addr} {fs : Nat → List UInt8} {gc : Nat → Nat} {w4 : World} {s : List UInt8} {p2 : Option Addr} (hr : w4.rowIs S 40 10 (Rec gp fs gc (N : Int) none)) (hf : ∀ i, i < 8 → Holds B w4 (gp i) (fs i)) (hs : Holds B w4 p2 s)
    (hB : B ≤ S) (hN : N < 8) (hl : s.length ≤ 1048576) (hfl : ∀ i, i < 8 → (fs i).length ≤ 1048576) (hh : ∀ j, j < N → fs j ≠ s) (c2 : Nat) :
    Calls Try.prog 9 #[.pointer (some ⟨S, 0, none⟩), .slice p2 s.length c2] w4 fun e w' => e = .returned (.bool false) ∧ Below S w4 w' ∧ ∃ gp' fs' gc', w'.rowIs S 40 10 (Rec gp' fs' gc' ((N : Int) + 1) none) ∧ (∀ i, i < 8 → Holds B w' (gp' i) (fs' i)) ∧ ∀ i, i < 8 → fs' i = if i = N then s else fs i := by
  have hz := zzadd (R := fun e w' => e = .returned (.bool false) ∧ Below S w4 w' ∧ ∃ gp' fs' gc', w'.rowIs S 40 10 (Rec gp' fs' gc' ((N : Int) + 1) none) ∧ (∀ i, i < 8 → Holds B w' (gp' i) (fs' i)) ∧ ∀ i, i < 8 → fs' i = if i = N then s else fs i) ((add_few S gp fs gc N p2 s c2 w4 hr hf hs hB (by omega) hl hfl).mono fun e w' h => by
    rcases h with ⟨⟨j, hj, e1⟩, _⟩ | ⟨_, rfl, _, hb, hr'⟩ | ⟨_, _, hn, _⟩
    · exact absurd e1 (hh j hj)
    · refine ⟨_, rfl, rfl, hb, _, _, _, hr', fun i hi => ?_, fun i hi => rfl⟩
      have hb' := hb.mono hB
      by_cases hi' : i = N
      · simp only [hi', if_true]; exact hs.below hb'
      · simp only [hi', if_false]; exact (hf i hi).below hb'
    · omega)
  exact hz.mono fun e w' ⟨x, _, h⟩ => h

/-- .. a full array. -/
theorem addz_full {B S N : Nat} {gp : Nat → Option Addr} {fs : Nat → List UInt8} {gc : Nat → Nat} {w4 : World} {s : List UInt8} {p2 : Option Addr} (hr : w4.rowIs S 40 10 (Rec gp fs gc (N : Int) none)) (hf : ∀ i, i < 8 → Holds B w4 (gp i) (fs i)) (hs : Holds B w4 p2 s)
    (hB : B ≤ S) (hN : N = 8) (hl : s.length ≤ 1048576) (hfl : ∀ i, i < 8 → (fs i).length ≤ 1048576) (hh : ∀ j, j < N → fs j ≠ s) (c2 : Nat) :
    Calls Try.prog 9 #[.pointer (some ⟨S, 0, none⟩), .slice p2 s.length c2] w4 fun e w' => e = .returned (.bool false) ∧ Below S w4 w' ∧ ∃ mb, w4.heap.size ≤ mb ∧ w'.rowIs S 40 10 (Rec gp fs gc (N : Int) (some mb)) ∧ Names w' mb ((List.range 8).map fs ++ [s]) := by
  have hz := zzadd (R := fun e w' => e = .returned (.bool false) ∧ Below S w4 w' ∧ ∃ mb, w4.heap.size ≤ mb ∧ w'.rowIs S 40 10 (Rec gp fs gc (N : Int) (some mb)) ∧ Names w' mb ((List.range 8).map fs ++ [s])) ((add_few S gp fs gc N p2 s c2 w4 hr hf hs hB (by omega) hl hfl).mono fun e w' h => by
    rcases h with ⟨⟨j, hj, e1⟩, _⟩ | ⟨_, _, hn, _⟩ | ⟨_, rfl, _, hb, mb, h1, h2, h3⟩
    · exact absurd e1 (hh j hj)
    · omega
    · exact ⟨_, rfl, rfl, hb, mb, h1, h2, h3⟩)
  exact hz.mono fun e w' ⟨x, _, h⟩ => h

theorem quiet_of2 {f : FuncId} {args : Array Value} {w : World} {m n : Nat} {v : Value} (h : ∀ n, Calls Try.prog f args (w.drewN n) fun e w' => e = .returned v ∧ ∃ q, w' = (w.drewN n).drewN q) :
    Calls Try.prog f args (w.drewN (m + n)) fun e w'' => e = .returned v ∧ ∃ q, w'' = w.drewN (m + q) :=
  (h (m + n)).mono fun _ _ ⟨he, q, hq⟩ => ⟨he, n + q, by rw [hq, World.drewN_drewN, Nat.add_assoc]⟩

theorem cell_setCell_block (w : World) (a : Addr) (v : Value) (b : Addr) (h : b.block ≠ a.block) : (w.setCell a v).cell? b = w.cell? b :=
  World.cell?_setCell_other _ _ _ _ (fun e => h (by rw [e]))

theorem distinct_range (xs : Nat → List UInt8) (t : Nat) : distinct ((List.range (t + 1)).map xs) = if ((List.range t).map xs).contains (xs t) then distinct ((List.range t).map xs) else distinct ((List.range t).map xs) + 1 := by
  rw [List.range_succ, List.map_append, List.map_singleton, distinct_snoc]

theorem distinct_le_length (L : List (List UInt8)) : distinct L ≤ L.length := by
  have h : ∀ (r : List (List UInt8)), distinct r.reverse ≤ r.length := by
    intro r
    induction r with
    | nil => simp [distinct]
    | cons x r ih =>
      rw [List.reverse_cons, distinct_snoc, List.length_cons]
      split <;> omega
  have := h L.reverse
  simpa using this

theorem fresh_no (xs : Nat → List UInt8) (q t : Nat) (fb : Bool) (h : ¬ xs q = xs t) (hi : fb = false ↔ ∃ j, j < q ∧ xs j = xs t) : (fb = false ↔ ∃ j, j < q + 1 ∧ xs j = xs t) := by
  rw [hi]
  constructor
  · rintro ⟨j, hj, e⟩; exact ⟨j, by omega, e⟩
  · rintro ⟨j, hj, e⟩
    by_cases hjt : j = q
    · subst hjt; exact absurd e h
    · exact ⟨j, by omega, e⟩

theorem fresh_all (xs : Nat → List UInt8) (q t : Nat) (fb : Bool) (hq : q = t) (hi : fb = false ↔ ∃ j, j < q ∧ xs j = xs t) : ((List.range t).map xs).contains (xs t) = !fb := by
  subst hq
  rw [Bool.eq_iff_iff]
  simp
  exact hi.symm

theorem nil9 (i : Nat) (hi : i < (#[.slice none 0 0, .slice none 0 0, .slice none 0 0, .slice none 0 0, .slice none 0 0, .slice none 0 0, .slice none 0 0, .slice none 0 0, .slice none 0 0] : Array Value).size) :
    (#[.slice none 0 0, .slice none 0 0, .slice none 0 0, .slice none 0 0, .slice none 0 0, .slice none 0 0, .slice none 0 0, .slice none 0 0, .slice none 0 0] : Array Value)[i]? = some (.slice none 0 0) := by
  have h : i = 0 ∨ i = 1 ∨ i = 2 ∨ i = 3 ∨ i = 4 ∨ i = 5 ∨ i = 6 ∨ i = 7 ∨ i = 8 := by simp at hi; omega
  rcases h with rfl | rfl | rfl | rfl | rfl | rfl | rfl | rfl | rfl <;> rfl

/-- The nine names, behind 'all[8] = name'. -/
theorem all_nine {w : World} {A B t : Nat} {gp : Nat → Option Addr} {fs : Nat → List UInt8} {gc : Nat → Nat} (p2 : Option Addr) (s : List UInt8) (c2 : Nat) (ht : t = 8)
    (hr : w.rowIs A 38 9 (fun i => if i < t then .slice (gp i) (fs i).length (gc i) else .slice none 0 0)) (hf : ∀ i, i < 8 → Holds B w (gp i) (fs i)) (hs : Holds B w p2 s) (hA : B ≤ A) (hfl : ∀ i, i < 8 → (fs i).length ≤ 1048576) (hsl : s.length ≤ 1048576) :
    ∃ (xp : Nat → Option Addr) (xs : Nat → List UInt8) (xc : Nat → Nat), (w.setCell ⟨A, 8, none⟩ (.slice p2 s.length c2)).rowIs A 38 9 (fun i => .slice (xp i) (xs i).length (xc i)) ∧ (∀ i, i < 9 → Holds B (w.setCell ⟨A, 8, none⟩ (.slice p2 s.length c2)) (xp i) (xs i)) ∧ (∀ i, i < 9 → (xs i).length ≤ 1048576) ∧ (List.range 9).map xs = (List.range 8).map fs ++ [s] := by
  subst ht
  refine ⟨fun i => if i < 8 then gp i else p2, fun i => if i < 8 then fs i else s, fun i => if i < 8 then gc i else c2, (hr.set 8 (.slice p2 s.length c2)).congr ?_, ?_, ?_, ?_⟩
  · intro i hi
    by_cases h8 : i = 8
    · subst h8; simp
    · simp [h8, show i < 8 by omega]
  · have hk : ∀ {p s'}, Holds B w p s' → Holds B (w.setCell ⟨A, 8, none⟩ (.slice p2 s.length c2)) p s' := fun h => h.kept (fun a ha => cell_setCell_block _ _ _ _ (by show a.block ≠ A; omega))
    intro i hi
    by_cases h8 : i < 8
    · simp only [h8, if_true]; exact hk (hf i h8)
    · simp only [h8, if_false]; exact hk hs
  · intro i hi
    by_cases h8 : i < 8
    · simp only [h8, if_true]; exact hfl i h8
    · simp only [h8, if_false]; exact hsl
  · rw [List.range_succ, List.map_append]
    exact congrArg (· ++ [s]) (List.map_congr_left (fun i hi => by simp at hi; simp [hi]))

theorem nil8 (i : Nat) (hi : i < (#[.slice none 0 0, .slice none 0 0, .slice none 0 0, .slice none 0 0, .slice none 0 0, .slice none 0 0, .slice none 0 0, .slice none 0 0] : Array Value).size) :
    (#[.slice none 0 0, .slice none 0 0, .slice none 0 0, .slice none 0 0, .slice none 0 0, .slice none 0 0, .slice none 0 0, .slice none 0 0] : Array Value)[i]? = some (.slice none 0 0) := by
  have h : i = 0 ∨ i = 1 ∨ i = 2 ∨ i = 3 ∨ i = 4 ∨ i = 5 ∨ i = 6 ∨ i = 7 := by simp at hi; omega
  rcases h with rfl | rfl | rfl | rfl | rfl | rfl | rfl | rfl <;> rfl

/-- Bytes lie apart from a block of slices: whatever is done to that block, they lie as they lay. -/
theorem apart_row {B : Nat} {w w' : World} {p : Option Addr} {s : List UInt8} {F : Nat} {t : TypeId} {n : Nat} {f : Nat → Value} (h : Holds B w p s) (hr : w.rowIs F t n f) (hv : ∀ i, i < n → ∀ k m, f i ≠ .int k m)
    (hc : ∀ a : Addr, a.block ≠ F → w'.cell? a = w.cell? a) : Holds B w' p s := by
  rcases h with h | ⟨b, o, h1, h2, h3⟩
  · exact .inl h
  · refine .inr ⟨b, o, h1, h2, fun i hi => ?_⟩
    have hb : b ≠ F := by
      rintro rfl
      have := h3 i hi
      obtain ⟨c, e1, e2, e3⟩ := hr
      by_cases hlt : o + i < n
      · simp [World.cell?, e1, e3 _ hlt] at this
        exact hv _ hlt _ _ this
      · simp [World.cell?, e1, Array.getElem?_eq_none (show c.size ≤ o + i by omega)] at this
    exact (hc _ hb).trans (h3 i hi)

theorem store8 {w : World} {F : Nat} {t : TypeId} {f : Nat → Value} (g : Nat → Value) (h : w.rowIs F t 8 f) :
    ((((((((w.setCell ⟨F, 0, none⟩ (g 0)).setCell ⟨F, 1, none⟩ (g 1)).setCell ⟨F, 2, none⟩ (g 2)).setCell ⟨F, 3, none⟩ (g 3)).setCell ⟨F, 4, none⟩ (g 4)).setCell ⟨F, 5, none⟩ (g 5)).setCell ⟨F, 6, none⟩ (g 6)).setCell ⟨F, 7, none⟩ (g 7)).rowIs F t 8 g := by
  refine ((((((((h.set 0 (g 0)).set 1 (g 1)).set 2 (g 2)).set 3 (g 3)).set 4 (g 4)).set 5 (g 5)).set 6 (g 6)).set 7 (g 7)).congr ?_
  intro i hi
  have h : i = 0 ∨ i = 1 ∨ i = 2 ∨ i = 3 ∨ i = 4 ∨ i = 5 ∨ i = 6 ∨ i = 7 := by omega
  rcases h with rfl | rfl | rfl | rfl | rfl | rfl | rfl | rfl <;> rfl

theorem store8_cell (w : World) (F : Nat) (g : Nat → Value) (a : Addr) (h : a.block ≠ F) :
    ((((((((w.setCell ⟨F, 0, none⟩ (g 0)).setCell ⟨F, 1, none⟩ (g 1)).setCell ⟨F, 2, none⟩ (g 2)).setCell ⟨F, 3, none⟩ (g 3)).setCell ⟨F, 4, none⟩ (g 4)).setCell ⟨F, 5, none⟩ (g 5)).setCell ⟨F, 6, none⟩ (g 6)).setCell ⟨F, 7, none⟩ (g 7)).cell? a = w.cell? a := by
  rw [cell_setCell_block _ _ _ _ h, cell_setCell_block _ _ _ _ h, cell_setCell_block _ _ _ _ h, cell_setCell_block _ _ _ _ h, cell_setCell_block _ _ _ _ h, cell_setCell_block _ _ _ _ h, cell_setCell_block _ _ _ _ h, cell_setCell_block _ _ _ _ h]

set_option maxRecDepth 100000 in
set_option maxHeartbeats 4000000 in
theorem walk_any (fp : Nat → Option Addr) (fs : Nat → List UInt8) (fc : Nat → Nat) (n : Int) (hm : Bool) (kp : Option Addr) (kn kc : Nat) (K : Nat → ByteArray) (p : Option Addr) (s : List UInt8) (nc : Nat) (w : World)
    (hf : ∀ i, i < 8 → Holds w.heap.size w (fp i) (fs i)) (hk : Strs w.heap.size w kp kn K) (hs : Holds w.heap.size w p s) :
    Calls Try.prog 4 #[Agg fp fs fc, .int .i64 n, .bool hm, .slice kp kn kc, .slice p s.length nc] w fun e w' => e = .returned (.bool true) ∧ Below w.heap.size w w' := by
  have HF := hide hf
  have HS := hide hs
  have HK := hide hk
  have HB10 := hide (bytes10_at fp fs fc n hm kp kn kc K p s.length nc w hk)
  clear hf hs hk
  go_enter Try.func4, Try.ntmps4
  go_wp2_with fail
  refine (unhide HB10).mono ?_
  rintro e w1 ⟨⟨x, rfl⟩, r1, hb1⟩
  clear HB10
  cases x
  · go_wp2
    go_ret
    exact ⟨rfl, hb1⟩
  have HR1 := hide r1
  have HB1 := hide hb1
  clear r1 hb1
  by_cases hsl : s.length ≤ 1048576
  · have g1 : (s.length : Int) ≤ 1048576 := by omega
    by_cases hkn : kn ≤ 65536
    · have g2 : (kn : Int) ≤ 65536 := by omega
      by_cases htot : (s.length : Int) + 16 * kn ≤ 1048576
      · go_wp2_with fail
        go_loop [11, 12] (fun z i => ∃ (k : Nat) (y : Int), k ≤ 8 ∧ i = .int .i64 k ∧ z = .int .i64 y ∧ 0 ≤ y ∧ y ≤ 1048576 ∧ ∀ j, j < k → (fs j).length ≤ 1048576) (fun _ i => 8 - (intOf i).toNat)
        case atStart => exact ⟨0, _, Nat.zero_le _, rfl, rfl, by omega, by omega, fun j hj => absurd hj (Nat.not_lt_zero _)⟩
        case round =>
          obtain ⟨k, y, hk8, rfl, rfl, hy0, hy1, hfl⟩ := hrel
          have HFL := hide hfl
          clear hfl
          by_cases hlt : k < 8
          · have c1 := World.rowIs.cell (unhide HR1) hlt
            have h3 : (k : Int) < 8 := by omega
            by_cases h6 : (fs k).length ≤ 1048576
            · have h7 : ((fs k).length : Int) ≤ 1048576 := by omega
              by_cases h8 : y + (24 + (fs k).length) ≤ 1048576
              · go_wp2_with fail
                go_round
                case rel =>
                  refine ⟨k + 1, y + (24 + (fs k).length), by omega, by go_num, rfl, by omega, h8, fun j hj => ?_⟩
                  by_cases hjk : j = k
                  · subst hjk; exact h6
                  · exact unhide HFL j (by omega)
                case measure => simp [intOf]; omega
              · have h9 : 1048576 < y + (24 + (fs k).length) := by omega
                go_wp2_with fail
                go_ret
                exact ⟨rfl, unhide HB1⟩
            · have h7 : 1048576 < ((fs k).length : Int) := by omega
              go_wp2_with fail
              go_ret
              exact ⟨rfl, unhide HB1⟩
          · have h3 : ¬ (k : Int) < 8 := by omega
            have HFL8 : Hid (∀ j, j < 8 → (fs j).length ≤ 1048576) := fun j hj => unhide HFL j (by omega)
            clear HFL
            go_wp2_with fail
            go_loop [11, 13] (fun z i => ∃ (j : Nat) (x : Int), j ≤ kn ∧ i = .int .i64 j ∧ z = .int .i64 x ∧ 0 ≤ x ∧ x ≤ 1048576 ∧ ∀ t, t < j → (K t).size ≤ 1048576) (fun _ i => kn - (intOf i).toNat)
            case atStart => exact ⟨0, y, Nat.zero_le _, rfl, rfl, by omega, by omega, fun j hj => absurd hj (Nat.not_lt_zero _)⟩
            case round =>
              obtain ⟨j, x, hj, rfl, rfl, hx0, hx1, hkl⟩ := hrel
              have HKL := hide hkl
              clear hkl
              by_cases hjk : j < kn
              · rcases (unhide HK).below (unhide HB1) with h0 | ⟨b, o, rfl, hbB, hc⟩
                · omega
                · have c1 := hc j hjk
                  clear hc
                  have h10 : (j : Int) < (kn : Int) := by omega
                  by_cases h11 : (K j).size ≤ 1048576
                  · have h12 : ((K j).size : Int) ≤ 1048576 := by omega
                    by_cases h13 : x + (K j).size ≤ 1048576
                    · go_wp2_with fail
                      go_round
                      case rel =>
                        refine ⟨j + 1, x + (K j).size, by omega, by go_num, rfl, by omega, h13, fun t ht => ?_⟩
                        by_cases htj : t = j
                        · subst htj; exact h11
                        · exact unhide HKL t (by omega)
                      case measure => simp [intOf]; omega
                    · have h14 : 1048576 < x + (K j).size := by omega
                      go_wp2_with fail
                      go_ret
                      exact ⟨rfl, unhide HB1⟩
                  · have h12 : 1048576 < ((K j).size : Int) := by omega
                    go_wp2_with fail
                    go_ret
                    exact ⟨rfl, unhide HB1⟩
              · have h10 : ¬ (j : Int) < (kn : Int) := by omega
                have HKL8 : Hid (∀ t, t < kn → (K t).size ≤ 1048576) := fun t ht => unhide HKL t (by omega)
                clear HKL
                go_upto_region 24 with fail
                go_cut [116] from 107 to 116 (fun v wx => v = .bool (bad hm n) ∧ wx = w1)
                case first =>
                  cases hm
                  · by_cases hn0 : n < 0
                    · go_wp2_with fail
                      go_meet
                      exact ⟨by simp [bad, hn0], rfl⟩
                    · by_cases hn8 : 8 < n
                      · go_wp2_with fail
                        go_meet
                        exact ⟨by simp [bad, hn8], rfl⟩
                      · go_wp2_with fail
                        go_meet
                        exact ⟨by simp [bad, hn0, hn8], rfl⟩
                  · go_wp2_with fail
                    go_meet
                    exact ⟨by simp [bad], rfl⟩
                case rest =>
                  obtain ⟨rfl, rfl⟩ := hcut
                  by_cases hbad : bad hm n = true
                  · rw [hbad]
                    go_wp2_with fail
                    go_ret
                    exact ⟨rfl, unhide HB1⟩
                  · have HBAD := hide (show bad hm n = false by simpa using hbad)
                    rw [unhide HBAD]
                    clear hbad
                    have HRow0 := hide (World.rowIs_alloc wc #[.slice none 0 0, .slice none 0 0, .slice none 0 0, .slice none 0 0, .slice none 0 0, .slice none 0 0, .slice none 0 0, .slice none 0 0] 28 (fun _ => .slice none 0 0) (nil8))
                    have hFG : w.heap.size < wc.heap.size := World.rowIs.lt (unhide HR1)
                    go_wp2_with fail
                    go_loopw [15] (fun i wr => ∃ (t : Nat) (gp : Nat → Option Addr) (gc : Nat → Nat), t ≤ 8 ∧ i = .int .i64 t ∧ wr.rowIs w.heap.size 28 8 (fun i => .slice (fp i) (fs i).length (fc i)) ∧
                        wr.rowIs wc.heap.size 28 8 (fun i => if i < t then .slice (gp i) (fs i).length (gc i) else .slice none 0 0) ∧ (∀ i, i < t → Holds wr.heap.size wr (gp i) (fs i)) ∧ Below w.heap.size w wr) (fun i _ => 8 - (intOf i).toNat)
                    case atStart => exact ⟨0, fun _ => none, fun _ => 0, Nat.zero_le _, rfl, World.rowIs.alloc (unhide HR1) _, World.rowIs.congr (unhide HRow0) (by simp), fun i hi => absurd hi (Nat.not_lt_zero _), (unhide HB1).alloc (Nat.le_of_lt hFG) _⟩
                    case round =>
                      obtain ⟨t, gp, gc, ht, rfl, r1, r2, hh, hbel⟩ := hrel
                      clear HRow0
                      by_cases ht8 : t < 8
                      · have c1 := r1.cell ht8
                        have h20 : (t : Int) < 8 := by omega
                        have HCL := hide (clone_any (fp t) (fs t) (fc t) wr ((unhide HF t ht8).below hbel) hbel.size (unhide HFL8 t ht8))
                        have K1 := hide r1
                        have K2 := hide r2
                        have K3 := hide hh
                        have K4 := hide hbel
                        clear r1 r2 hh hbel
                        go_wp2_with fail
                        refine (unhide HCL).mono ?_
                        rintro e w2 ⟨p2, c2, rfl, hh2, hb2⟩
                        have q1 := World.rowIs.of_block (unhide K1) (hb2.block _ (World.rowIs.lt (unhide K1)))
                        have q2 := World.rowIs.of_block (unhide K2) (hb2.block _ (World.rowIs.lt (unhide K2)))
                        have k1 := q2.cell ht8
                        have k2 := q2.frozen t
                        simp only [Nat.lt_irrefl, if_false] at k1
                        have hap : ∀ {p s}, Holds w2.heap.size w2 p s → Holds w2.heap.size (w2.setCell ⟨wc.heap.size, t, none⟩ (.slice p2 (fs t).length c2)) p s := fun h => apart_row h q2 (fun i _ k m => by split <;> simp) (fun a ha => cell_setCell_block _ _ _ _ ha)
                        have L1 := hide (q1.setOther (a := ⟨wc.heap.size, t, none⟩) (Nat.ne_of_lt hFG) (.slice p2 (fs t).length c2))
                        have L2 := hide (q2.set t (.slice p2 (fs t).length c2))
                        have L3 := hide (hap hh2)
                        have L4 : Hid (∀ i, i < t → Holds w2.heap.size (w2.setCell ⟨wc.heap.size, t, none⟩ (.slice p2 (fs t).length c2)) (gp i) (fs i)) := fun i hi => hap (((unhide K3 i hi).below hb2).mono hb2.size)
                        have L5 := hide (((unhide K4).trans (hb2.mono (unhide K4).size)).setCell (p := ⟨wc.heap.size, t, none⟩) (Nat.le_of_lt hFG) (.slice p2 (fs t).length c2))
                        clear q1 q2 hap hh2 hb2
                        go_wp2_with fail
                        go_roundw
                        case rel =>
                          refine ⟨t + 1, fun i => if i = t then p2 else gp i, fun i => if i = t then c2 else gc i, by omega, by go_num, unhide L1, World.rowIs.congr (unhide L2) ?_, ?_, unhide L5⟩
                          · intro i hi
                            by_cases hij : i = t
                            · subst hij; simp
                            · by_cases h' : i < t
                              · simp [hij, h', show i < t + 1 by omega]
                              · simp [hij, h', show ¬ i < t + 1 by omega]
                          · intro i hi
                            by_cases hij : i = t
                            · subst hij; simpa using unhide L3
                            · simpa [hij] using unhide L4 i (by omega)
                        case measure => simp [intOf]; omega
                      · have h20 : ¬ (t : Int) < 8 := by omega
                        have et : t = 8 := by omega
                        have r3 : wr.rowIs wc.heap.size 28 8 (fun i => .slice (gp i) (fs i).length (gc i)) := r2.congr (fun i hi => by rw [if_pos (by omega)])
                        have hh8 : ∀ i, i < 8 → Holds wr.heap.size wr (gp i) (fs i) := fun i hi => hh i (by omega)
                        have M1 := hide (store8 (fun i => .slice (gp i) (fs i).length (gc i)) r1)
                        have M2 : Hid (∀ i, i < 8 → Holds wr.heap.size _ (gp i) (fs i)) := fun i hi => apart_row (hh8 i hi) r1 (fun _ _ _ _ => by simp) (fun a ha => store8_cell wr w.heap.size (fun i => .slice (gp i) (fs i).length (gc i)) a ha)
                        have M3 := hide ((((((((hbel.setCell (p := ⟨w.heap.size, 0, none⟩) (Nat.le_refl _) (.slice (gp 0) (fs 0).length (gc 0))).setCell (p := ⟨w.heap.size, 1, none⟩) (Nat.le_refl _) (.slice (gp 1) (fs 1).length (gc 1))).setCell (p := ⟨w.heap.size, 2, none⟩) (Nat.le_refl _) (.slice (gp 2) (fs 2).length (gc 2))).setCell (p := ⟨w.heap.size, 3, none⟩) (Nat.le_refl _) (.slice (gp 3) (fs 3).length (gc 3))).setCell (p := ⟨w.heap.size, 4, none⟩) (Nat.le_refl _) (.slice (gp 4) (fs 4).length (gc 4))).setCell (p := ⟨w.heap.size, 5, none⟩) (Nat.le_refl _) (.slice (gp 5) (fs 5).length (gc 5))).setCell (p := ⟨w.heap.size, 6, none⟩) (Nat.le_refl _) (.slice (gp 6) (fs 6).length (gc 6))).setCell (p := ⟨w.heap.size, 7, none⟩) (Nat.le_refl _) (.slice (gp 7) (fs 7).length (gc 7)))
                        have a0 := r3.cell (i := 0) (by omega)
                        have a1 := r3.cell (i := 1) (by omega)
                        have a2 := r3.cell (i := 2) (by omega)
                        have a3 := r3.cell (i := 3) (by omega)
                        have a4 := r3.cell (i := 4) (by omega)
                        have a5 := r3.cell (i := 5) (by omega)
                        have a6 := r3.cell (i := 6) (by omega)
                        have a7 := r3.cell (i := 7) (by omega)
                        have b0 := r1.cell (i := 0) (by omega)
                        have b1 := r1.cell (i := 1) (by omega)
                        have b2 := r1.cell (i := 2) (by omega)
                        have b3 := r1.cell (i := 3) (by omega)
                        have b4 := r1.cell (i := 4) (by omega)
                        have b5 := r1.cell (i := 5) (by omega)
                        have b6 := r1.cell (i := 6) (by omega)
                        have b7 := r1.cell (i := 7) (by omega)
                        have d0 := r1.frozen 0
                        have d1 := r1.frozen 1
                        have d2 := r1.frozen 2
                        have d3 := r1.frozen 3
                        have d4 := r1.frozen 4
                        have d5 := r1.frozen 5
                        have d6 := r1.frozen 6
                        have d7 := r1.frozen 7
                        clear r1 r2 r3 hh hbel hh8 et
                        go_upto_region 31 with fail
                        go_cut [127] from 117 to 127 (fun _ wx => wx.rowIs w.heap.size 28 8 (fun i => .slice (gp i) (fs i).length (gc i)) ∧ (∀ i, i < 8 → Holds wx.heap.size wx (gp i) (fs i)) ∧ Below w.heap.size w wx)
                        case first =>
                          go_wp2_with fail
                          go_meet
                          exact ⟨unhide M1, by simpa using unhide M2, unhide M3⟩
                        case rest =>
                          clear a0 a1 a2 a3 a4 a5 a6 a7 b0 b1 b2 b3 b4 b5 b6 b7 d0 d1 d2 d3 d4 d5 d6 d7 M1 M2 M3
                          obtain ⟨r1, hh, hbel⟩ := hcut
                          have K1 := hide r1
                          have K3 := hide hh
                          have K4 := hide hbel
                          clear r1 hh hbel
                          have hnil := fun (a : Option Addr) (n c : Nat) (w : World) => run_neq_slice_nil_any (P := Try.prog) w 31 9 a n c 0 0 Try.underlying31
                          have hmk := fun kl kc w => run_make_row' (P := Try.prog) 31 9 (.string ByteArray.empty) 16 Try.underlying31 Try.info9 rfl kl kc kn (by omega) (by omega) w
                          go_upto_if 129 with fail
                          go_cut [16] from 128 to 145 (fun v wx => ∃ kp' kc', v = .slice kp' kn kc' ∧ Strs wx.heap.size wx kp' kn K ∧ wx.rowIs w.heap.size 28 8 (fun i => .slice (gp i) (fs i).length (gc i)) ∧ (∀ i, i < 8 → Holds wx.heap.size wx (gp i) (fs i)) ∧ Below w.heap.size w wx)
                          case first =>
                            cases kp with
                            | none =>
                              have hk0 : kn = 0 := by
                                rcases unhide HK with h | ⟨b, o, h, _⟩
                                · exact h
                                · cases h
                              have HK0 := hide hk0
                              clear hk0
                              go_wp2_with fail
                              go_meet
                              exact ⟨none, 0, by rw [unhide HK0], .inl (unhide HK0), unhide K1, unhide K3, unhide K4⟩
                            | some ka =>
                              have HRow0 := hide (World.rowIs_made wc (.string ByteArray.empty) kn 9)
                              go_wp2_with fail
                              go_loopw [17] (fun i wr => ∃ (t : Nat), t ≤ kn ∧ i = .int .i64 t ∧ wr.rowIs wc.heap.size 9 kn (fun i => if i < t then .string (K i) else .string ByteArray.empty) ∧
                                  wr.rowIs w.heap.size 28 8 (fun i => .slice (gp i) (fs i).length (gc i)) ∧ (∀ i, i < 8 → Holds wr.heap.size wr (gp i) (fs i)) ∧ Below w.heap.size w wr) (fun i _ => kn - (intOf i).toNat)
                              case atStart =>
                                have hb : Below wc.heap.size wc (wc.alloc (.cells (madeCells #[.string ByteArray.empty] kn) 9)) := (Below.refl _ _).alloc (Nat.le_refl _) _
                                exact ⟨0, Nat.zero_le _, rfl, World.rowIs.congr (unhide HRow0) (by simp), World.rowIs.alloc (unhide K1) _, fun i hi => ((unhide K3 i hi).below hb).mono hb.size, (unhide K4).alloc (unhide K4).size _⟩
                              case round =>
                                obtain ⟨t, ht, rfl, r0, r1, hh, hbel⟩ := hrel
                                clear HRow0
                                have hFw : w.heap.size < wc.heap.size := World.rowIs.lt (unhide K1)
                                by_cases htk : t < kn
                                · rcases (unhide HK).below hbel with h0 | ⟨b, o, he, hbB, hc⟩
                                  · omega
                                  · cases he
                                    have c1 := hc t htk
                                    have h20 : (t : Int) < (kn : Int) := by omega
                                    have k1 := r0.cell htk
                                    have k2 := r0.frozen t
                                    simp only [Nat.lt_irrefl, if_false] at k1
                                    have hap : ∀ {p s}, Holds wr.heap.size wr p s → Holds wr.heap.size (wr.setCell ⟨wc.heap.size, t, none⟩ (.string (K t))) p s := fun h => apart_row h r0 (fun i _ k m => by split <;> simp) (fun a ha => cell_setCell_block _ _ _ _ ha)
                                    have L1 := hide (r1.setOther (a := ⟨wc.heap.size, t, none⟩) (Nat.ne_of_lt hFw) (.string (K t)))
                                    have L2 := hide (r0.set t (.string (K t)))
                                    have L4 : Hid (∀ i, i < 8 → Holds wr.heap.size (wr.setCell ⟨wc.heap.size, t, none⟩ (.string (K t))) (gp i) (fs i)) := fun i hi => hap (hh i hi)
                                    have L5 := hide (hbel.setCell (p := ⟨wc.heap.size, t, none⟩) (Nat.le_of_lt hFw) (.string (K t)))
                                    clear r0 r1 hh hbel hap hc
                                    go_wp2_with fail
                                    go_roundw
                                    case rel =>
                                      refine ⟨t + 1, by omega, by go_num, World.rowIs.congr (unhide L2) ?_, unhide L1, by simpa using unhide L4, unhide L5⟩
                                      intro i hi
                                      by_cases hij : i = t
                                      · subst hij; simp
                                      · by_cases h' : i < t
                                        · simp [hij, h', show i < t + 1 by omega]
                                        · simp [hij, h', show ¬ i < t + 1 by omega]
                                    case measure => simp [intOf]; omega
                                · have h20 : ¬ (t : Int) < (kn : Int) := by omega
                                  have L0 : Hid (Strs wr.heap.size wr (some ⟨wc.heap.size, 0, none⟩) kn K) := .inr ⟨wc.heap.size, 0, rfl, r0.lt, fun i hi => by rw [Nat.zero_add, r0.cell hi, if_pos (by omega)]⟩
                                  have L1 := hide r1
                                  have L2 := hide hh
                                  have L3 := hide hbel
                                  clear r0 r1 hh hbel
                                  go_wp2_with fail
                                  go_meet
                                  exact ⟨_, _, rfl, unhide L0, unhide L1, unhide L2, unhide L3⟩
                          case rest =>
                            obtain ⟨kp', kc', rfl, hks, r1, hh, hbel⟩ := hcut
                            clear K1 K3 K4 hmk hnil
                            have HCL := hide (clone_any p s nc wc ((unhide HS).below hbel) hbel.size hsl)
                            have K0 := hide hks
                            have K1 := hide r1
                            have K3 := hide hh
                            have K4 := hide hbel
                            clear hks r1 hh hbel
                            go_wp2_with fail
                            refine (unhide HCL).mono ?_
                            rintro e w2 ⟨p2, c2, rfl, hh2, hb2⟩
                            have N0 := hide (((unhide K0).below hb2).mono hb2.size)
                            have N1 := hide (World.rowIs.of_block (unhide K1) (hb2.block _ (World.rowIs.lt (unhide K1))))
                            have N2 := hide hh2
                            have N3 : Hid (∀ i, i < 8 → Holds w2.heap.size w2 (gp i) (fs i)) := fun i hi => ((unhide K3 i hi).below hb2).mono hb2.size
                            have N4 := hide ((unhide K4).trans (hb2.mono (unhide K4).size))
                            clear HCL K0 K1 K3 K4 hh2 hb2 HK HS HF HR1 HB1 hFG
                            cases hm
                            · obtain ⟨N, rfl, hN8⟩ := few_range (unhide HBAD)
                              have hn0 : (0 : Int) ≤ (N : Int) := by omega
                              have hn8 : (N : Int) ≤ 8 := by omega
                              have hlen := fun ty w => Maps.len_nil (P := Try.prog) (w := w) Try.underlying33 ty
                              go_wp2_with fail
                              go_loopw [21, 23] (fun h i wi => ∃ (t m : Nat) (hb : Bool), t ≤ N ∧ i = .int .i64 t ∧ h = .bool hb ∧ wi = w2.drewN m ∧ (hb = true ↔ ∃ j, j < t ∧ fs j = s)) (fun _ i _ => N - (intOf i).toNat)
                              case atStart => exact ⟨0, 0, false, Nat.zero_le _, rfl, rfl, rfl, by simp⟩
                              case round =>
                                obtain ⟨t, m, hb, ht, rfl, rfl, rfl, hiff⟩ := hrel
                                have HI := hide hiff
                                clear hiff
                                by_cases htk : t < N
                                · have h21 : (t : Int) < (N : Int) := by omega
                                  have c1 := World.rowIs.cell (unhide N1) (i := t) (by omega)
                                  have HQ := hide (eq_any (gp t) p2 (fs t) s (gc t) c2 (w2.drewN m) ((unhide N3 t (by omega)).drewN m) ((unhide N2).drewN m) (by have := unhide HFL8 t (by omega); omega) (by omega))
                                  by_cases hft : fs t = s
                                  · have HFT := hide hft
                                    have HQ1 := hide ((unhide HQ).mono (R' := fun e w' => e = .returned (.bool true) ∧ ∃ q, w' = w2.drewN (m + q)) (fun e w' h => ⟨h.1.trans (ret_bool (by simp [hft])), by obtain ⟨q, hq⟩ := h.2; exact ⟨q, by rw [hq, drewN_drewN]⟩⟩))
                                    clear hft HQ
                                    go_wp2_with fail
                                    refine (unhide HQ1).mono ?_
                                    rintro e w3 ⟨rfl, q, rfl⟩
                                    go_wp2_with fail
                                    go_roundw
                                    case rel => exact ⟨t + 1, _, true, by omega, by go_num, rfl, rfl, ⟨fun _ => ⟨t, by omega, unhide HFT⟩, fun _ => rfl⟩⟩
                                    case measure => simp [intOf]; omega
                                  · have HFT := hide hft
                                    have HQ1 := hide ((unhide HQ).mono (R' := fun e w' => e = .returned (.bool false) ∧ ∃ q, w' = w2.drewN (m + q)) (fun e w' h => ⟨h.1.trans (ret_bool (by simp [hft])), by obtain ⟨q, hq⟩ := h.2; exact ⟨q, by rw [hq, drewN_drewN]⟩⟩))
                                    clear hft HQ
                                    go_wp2_with fail
                                    refine (unhide HQ1).mono ?_
                                    rintro e w3 ⟨rfl, q, rfl⟩
                                    go_wp2_with fail
                                    go_roundw
                                    case rel => exact ⟨t + 1, _, hb, by omega, by go_num, rfl, rfl, few_no fs s t hb (unhide HFT) (unhide HI)⟩
                                    case measure => simp [intOf]; omega
                                · have h21 : ¬ (t : Int) < (N : Int) := by omega
                                  have et : N = t := by omega
                                  subst et
                                  obtain ⟨wq, hwq⟩ : ∃ wq, wq = w2.drewN m := ⟨_, rfl⟩
                                  have P2 := hide (show Below w2.heap.size w2 wq by rw [hwq]; exact below_drewN (Below.refl _ _) m)
                                  rw [← hwq]
                                  clear hwq
                                  have rF : wq.rowIs w.heap.size 28 8 (fun i => .slice (gp i) (fs i).length (gc i)) := World.rowIs.of_block (unhide N1) ((unhide P2).block _ (World.rowIs.lt (unhide N1)))
                                  have a0 := rF.cell (i := 0) (by omega)
                                  have a1 := rF.cell (i := 1) (by omega)
                                  have a2 := rF.cell (i := 2) (by omega)
                                  have a3 := rF.cell (i := 3) (by omega)
                                  have a4 := rF.cell (i := 4) (by omega)
                                  have a5 := rF.cell (i := 5) (by omega)
                                  have a6 := rF.cell (i := 6) (by omega)
                                  have a7 := rF.cell (i := 7) (by omega)
                                  have RF := hide rF
                                  clear rF
                                  go_wp2_with fail
                                  refine (new_any gp fs gc N none wq).mono ?_
                                  rintro e w4 ⟨rfl, hr4, o, o', hw4⟩
                                  clear a0 a1 a2 a3 a4 a5 a6 a7
                                  have hd4 : Below wq.heap.size wq w4 := by rw [hw4]; exact ((Below.refl _ _).alloc (Nat.le_refl _) _).alloc (by simp) _
                                  have H4 := hide hr4
                                  have R4 := hide (World.rowIs.of_block (unhide RF) (hd4.block _ (World.rowIs.lt (unhide RF))))
                                  have P4 := hide ((unhide P2).trans (hd4.mono (unhide P2).size))
                                  have HW4 : Hid (w4.heap.size = wq.heap.size + 2) := by unfold Hid; rw [hw4]; simp
                                  clear hr4 hw4 hd4 RF
                                  go_wp2_with fail
                                  cases hb
                                  · have hno : ∀ j, j < N → fs j ≠ s := fun j hj e => by have := (unhide HI).2 ⟨j, hj, e⟩; cases this
                                    by_cases hNlt : N < 8
                                    · have hN8' : (N : Int) < 8 := by omega
                                      refine (addz_room (unhide H4) (fun i hi => (unhide N3 i hi).below (unhide P4)) ((unhide N2).below (unhide P4)) (by have := (unhide P2).size; omega) hNlt hsl (unhide HFL8) hno c2).mono ?_
                                      rintro e w5 ⟨rfl, hb5, gp', fs', gc', hr5, hh5, hfs⟩
                                      have hSF : w.heap.size < wq.heap.size + 1 := by have := (unhide P2).size; have := (unhide N4).size; omega
                                      have hS2 : w2.heap.size ≤ wq.heap.size + 1 := by have := (unhide P2).size; omega
                                      have H5 := hide hr5
                                      have R5 := hide (World.rowIs.of_block (unhide R4) (hb5.block _ hSF))
                                      have P5 := hide ((unhide P4).trans (hb5.mono hS2))
                                      have HH5 := hide hh5
                                      have HFS := hide hfs
                                      clear hb5 hr5 hh5 hfs H4 R4 P4 hno
                                      go_wp2_with fail
                                      refine (fields_any _ gp' fs' gc' (N + 1) none w5 (unhide H5)).mono ?_
                                      rintro e w6 ⟨rfl, hb6⟩
                                      have h256 : Below w2.heap.size w5 w6 := hb6.mono (unhide P5).size
                                      have R6 := hide (World.rowIs.alloc (World.rowIs.of_block (unhide R5) (hb6.block _ (World.rowIs.lt (unhide R5)))) (.cells #[.slice (gp' 0) (fs' 0).length (gc' 0), .slice (gp' 1) (fs' 1).length (gc' 1), .slice (gp' 2) (fs' 2).length (gc' 2), .slice (gp' 3) (fs' 3).length (gc' 3), .slice (gp' 4) (fs' 4).length (gc' 4), .slice (gp' 5) (fs' 5).length (gc' 5), .slice (gp' 6) (fs' 6).length (gc' 6), .slice (gp' 7) (fs' 7).length (gc' 7)] 28))
                                      have P6 := hide (((unhide P5).trans h256).alloc (Nat.le_trans (unhide P5).size h256.size) (.cells #[.slice (gp' 0) (fs' 0).length (gc' 0), .slice (gp' 1) (fs' 1).length (gc' 1), .slice (gp' 2) (fs' 2).length (gc' 2), .slice (gp' 3) (fs' 3).length (gc' 3), .slice (gp' 4) (fs' 4).length (gc' 4), .slice (gp' 5) (fs' 5).length (gc' 5), .slice (gp' 6) (fs' 6).length (gc' 6), .slice (gp' 7) (fs' 7).length (gc' 7)] 28))
                                      have Q6 := hide (agg_row w6 gp' fs' gc' 28)
                                      have HH6 : Hid (∀ i, i < 8 → Holds w2.heap.size (w6.alloc (.cells #[.slice (gp' 0) (fs' 0).length (gc' 0), .slice (gp' 1) (fs' 1).length (gc' 1), .slice (gp' 2) (fs' 2).length (gc' 2), .slice (gp' 3) (fs' 3).length (gc' 3), .slice (gp' 4) (fs' 4).length (gc' 4), .slice (gp' 5) (fs' 5).length (gc' 5), .slice (gp' 6) (fs' 6).length (gc' 6), .slice (gp' 7) (fs' 7).length (gc' 7)] 28)) (gp' i) (fs' i)) := fun i hi => ((unhide HH5 i hi).below h256).below ((Below.refl _ _).alloc (Nat.le_trans (unhide P5).size h256.size) _)
                                      clear hb6 h256 H5 R5 P5 HH5
                                      have hmn := fun (w : World) => run_neq_map_nil (P := Try.prog) w 33 9 4 none Try.underlying33
                                      go_wp2_with fail
                                      obtain ⟨wz, hwz⟩ : ∃ wz, wz = w6.alloc (.cells #[.slice (gp' 0) (fs' 0).length (gc' 0), .slice (gp' 1) (fs' 1).length (gc' 1), .slice (gp' 2) (fs' 2).length (gc' 2), .slice (gp' 3) (fs' 3).length (gc' 3), .slice (gp' 4) (fs' 4).length (gc' 4), .slice (gp' 5) (fs' 5).length (gc' 5), .slice (gp' 6) (fs' 6).length (gc' 6), .slice (gp' 7) (fs' 7).length (gc' 7)] 28) := ⟨_, rfl⟩
                                      rw [← hwz] at R6 P6 Q6 HH6 ⊢
                                      clear hwz
                                      go_loopw [35] (fun i wr => ∃ t m : Nat, t ≤ 8 ∧ i = .int .i64 t ∧ wr = wz.drewN m) (fun i _ => 8 - (intOf i).toNat)
                                      case atStart => exact ⟨0, 0, Nat.zero_le _, rfl, rfl⟩
                                      case round =>
                                        obtain ⟨t, m, ht, rfl, rfl⟩ := hrel
                                        by_cases ht8 : t < 8
                                        · have h22 : (t : Int) < 8 := by omega
                                          have c1 : wz.cell? ⟨w6.heap.size, t, none⟩ = some (.slice (gp' t) (fs' t).length (gc' t)) := World.rowIs.cell (unhide Q6) ht8
                                          have c2' : wz.cell? ⟨w.heap.size, t, none⟩ = some (.slice (gp t) (fs t).length (gc t)) := World.rowIs.cell (unhide R6) ht8
                                          by_cases htN : t = N
                                          · have hbq : ((t : Int) == (N : Int)) = true := by simp [htN]
                                            have hfe : fs' t = s := (unhide HFS t ht8).trans (if_pos htN)
                                            have HQ := hide ((eq_any (gp' t) p2 (fs' t) s (gc' t) c2 (wz.drewN m) ((unhide HH6 t ht8).drewN m) (((unhide N2).below (unhide P6)).drewN m) (by rw [hfe]; omega) (by omega)).mono (R' := fun e w' => e = .returned (.bool true) ∧ ∃ q, w' = wz.drewN (m + q)) (fun e w' h => ⟨h.1.trans (ret_bool (by simp [hfe])), by obtain ⟨q, hq⟩ := h.2; exact ⟨q, by rw [hq, drewN_drewN]⟩⟩))
                                            clear hfe htN
                                            go_wp2_with fail
                                            refine (unhide HQ).mono ?_
                                            rintro e w8 ⟨rfl, q, rfl⟩
                                            go_wp2_with fail
                                            go_roundw
                                            case rel => exact ⟨t + 1, _, by omega, by go_num, rfl⟩
                                            case measure => simp [intOf]; omega
                                          · have hbq : ((t : Int) == (N : Int)) = false := by simp; omega
                                            have hfe : fs' t = fs t := (unhide HFS t ht8).trans (if_neg htN)
                                            have HQ := hide (fun n => (eq_any (gp' t) (gp t) (fs' t) (fs t) (gc' t) (gc t) (wz.drewN n) ((unhide HH6 t ht8).drewN n) (((unhide N3 t ht8).below (unhide P6)).drewN n) (by rw [hfe]; have := unhide HFL8 t ht8; omega) (by have := unhide HFL8 t ht8; omega)).mono (R' := fun e w' => e = .returned (.bool true) ∧ ∃ q, w' = (wz.drewN n).drewN q) (fun e w' h => ⟨h.1.trans (ret_bool (by simp [hfe])), h.2⟩))
                                            clear hfe htN
                                            go_wp2_with fail
                                            go_quiet ((go_at_call 8; exact quiet_of2 (unhide HQ)))
                                            go_wp2_with fail
                                            go_roundw
                                            case rel => exact ⟨t + 1, _, by omega, by go_num, rfl⟩
                                            case measure => simp [intOf]; omega
                                        · have h22 : ¬ (t : Int) < 8 := by omega
                                          have U4 := hide ((unhide N4).trans ((unhide P6).mono (unhide N4).size))
                                          go_wp2_with fail
                                          go_ret
                                          exact ⟨rfl, below_drewN (unhide U4) _⟩
                                    · have hN8' : ¬ (N : Int) < 8 := by omega
                                      have hbq : ((N : Int) != 8) = false := by simp; omega
                                      refine (addz_full (unhide H4) (fun i hi => (unhide N3 i hi).below (unhide P4)) ((unhide N2).below (unhide P4)) (by have := (unhide P2).size; omega) (by omega) hsl (unhide HFL8) hno c2).mono ?_
                                      rintro e w5 ⟨rfl, hb5, mb, hmb, hr5, hN5⟩
                                      have hSF : w.heap.size < wq.heap.size + 1 := by have := (unhide P2).size; have := (unhide N4).size; omega
                                      have hS2 : w2.heap.size ≤ wq.heap.size + 1 := by have := (unhide P2).size; omega
                                      have H5 := hide hr5
                                      have R5 := hide (World.rowIs.of_block (unhide R4) (hb5.block _ hSF))
                                      have P5 := hide ((unhide P4).trans (hb5.mono hS2))
                                      have M5 := hide hN5
                                      clear hb5 hr5 hN5 H4 R4 P4 hno
                                      go_wp2_with fail
                                      refine (fields_any _ gp fs gc N (some mb) w5 (unhide H5)).mono ?_
                                      rintro e w6 ⟨rfl, hb6⟩
                                      have h256 : Below w2.heap.size w5 w6 := hb6.mono (unhide P5).size
                                      have R6 := hide (World.rowIs.alloc (World.rowIs.of_block (unhide R5) (hb6.block _ (World.rowIs.lt (unhide R5)))) (.cells #[.slice (gp 0) (fs 0).length (gc 0), .slice (gp 1) (fs 1).length (gc 1), .slice (gp 2) (fs 2).length (gc 2), .slice (gp 3) (fs 3).length (gc 3), .slice (gp 4) (fs 4).length (gc 4), .slice (gp 5) (fs 5).length (gc 5), .slice (gp 6) (fs 6).length (gc 6), .slice (gp 7) (fs 7).length (gc 7)] 28))
                                      have P6 := hide (((unhide P5).trans h256).alloc (Nat.le_trans (unhide P5).size h256.size) (.cells #[.slice (gp 0) (fs 0).length (gc 0), .slice (gp 1) (fs 1).length (gc 1), .slice (gp 2) (fs 2).length (gc 2), .slice (gp 3) (fs 3).length (gc 3), .slice (gp 4) (fs 4).length (gc 4), .slice (gp 5) (fs 5).length (gc 5), .slice (gp 6) (fs 6).length (gc 6), .slice (gp 7) (fs 7).length (gc 7)] 28))
                                      have M6 := hide (Names.alloc (Names.below (unhide M5) hb6 (unhide M5).lt) (.cells #[.slice (gp 0) (fs 0).length (gc 0), .slice (gp 1) (fs 1).length (gc 1), .slice (gp 2) (fs 2).length (gc 2), .slice (gp 3) (fs 3).length (gc 3), .slice (gp 4) (fs 4).length (gc 4), .slice (gp 5) (fs 5).length (gc 5), .slice (gp 6) (fs 6).length (gc 6), .slice (gp 7) (fs 7).length (gc 7)] 28))
                                      clear hb6 h256 H5 R5 P5 M5
                                      have hmn := fun (w : World) => run_eql_map_nil (P := Try.prog) w 33 9 4 (some mb) Try.underlying33
                                      have a0 := World.rowIs.cell (unhide R6) (i := 0) (by omega)
                                      have a1 := World.rowIs.cell (unhide R6) (i := 1) (by omega)
                                      have a2 := World.rowIs.cell (unhide R6) (i := 2) (by omega)
                                      have a3 := World.rowIs.cell (unhide R6) (i := 3) (by omega)
                                      have a4 := World.rowIs.cell (unhide R6) (i := 4) (by omega)
                                      have a5 := World.rowIs.cell (unhide R6) (i := 5) (by omega)
                                      have a6 := World.rowIs.cell (unhide R6) (i := 6) (by omega)
                                      have a7 := World.rowIs.cell (unhide R6) (i := 7) (by omega)
                                      have HSAME := hide (same_any (B := w2.heap.size) gp gp fs fs gc gc (w6.alloc (.cells #[.slice (gp 0) (fs 0).length (gc 0), .slice (gp 1) (fs 1).length (gc 1), .slice (gp 2) (fs 2).length (gc 2), .slice (gp 3) (fs 3).length (gc 3), .slice (gp 4) (fs 4).length (gc 4), .slice (gp 5) (fs 5).length (gc 5), .slice (gp 6) (fs 6).length (gc 6), .slice (gp 7) (fs 7).length (gc 7)] 28)) (fun i hi => (unhide N3 i hi).below (unhide P6)) (fun i hi => (unhide N3 i hi).below (unhide P6)) (unhide P6).size (unhide HFL8) (fun _ _ => rfl))
                                      go_wp2_with fail
                                      refine (unhide HSAME).mono ?_
                                      rintro e w7 ⟨rfl, hb7⟩
                                      have R7 := hide (World.rowIs.of_block (unhide R6) (hb7.block _ (World.rowIs.lt (unhide R6))))
                                      have P7 := hide ((unhide P6).trans (hb7.mono (unhide P6).size))
                                      have M7 := hide (Names.below (unhide M6) hb7 (unhide M6).lt)
                                      clear hb7 R6 P6 M6 HSAME a0 a1 a2 a3 a4 a5 a6 a7
                                      have HRow9 := hide (World.rowIs_alloc w7 #[.slice none 0 0, .slice none 0 0, .slice none 0 0, .slice none 0 0, .slice none 0 0, .slice none 0 0, .slice none 0 0, .slice none 0 0, .slice none 0 0] 38 (fun _ => .slice none 0 0) nil9)
                                      have hF7 : w.heap.size < w7.heap.size := World.rowIs.lt (unhide R7)
                                      have hM7 : mb < w7.heap.size := (unhide M7).lt
                                      have hP7 : w2.heap.size ≤ w7.heap.size := (unhide P7).size
                                      go_wp2_with fail
                                      go_loopw [37] (fun i wr => ∃ t : Nat, t ≤ 8 ∧ i = .int .i64 t ∧ wr.rowIs w7.heap.size 38 9 (fun i => if i < t then .slice (gp i) (fs i).length (gc i) else .slice none 0 0) ∧ wr.rowIs w.heap.size 28 8 (fun i => .slice (gp i) (fs i).length (gc i)) ∧
                                          Names wr mb ((List.range 8).map fs ++ [s]) ∧ Below w2.heap.size w2 wr) (fun i _ => 8 - (intOf i).toNat)
                                      case atStart => exact ⟨0, Nat.zero_le _, rfl, World.rowIs.congr (unhide HRow9) (by simp), World.rowIs.alloc (unhide R7) _, (unhide M7).alloc _, (unhide P7).alloc hP7 _⟩
                                      case round =>
                                        obtain ⟨t, ht, rfl, r9, rF, hNm, hbel⟩ := hrel
                                        clear HRow9
                                        by_cases ht8 : t < 8
                                        · have h22 : (t : Int) < 8 := by omega
                                          have h23 : (t : Int) < 9 := by omega
                                          have c1 := rF.cell ht8
                                          have k1 := r9.cell (i := t) (by omega)
                                          have k2 := r9.frozen t
                                          simp only [Nat.lt_irrefl, if_false] at k1
                                          have L1 := hide (rF.setOther (a := ⟨w7.heap.size, t, none⟩) (Nat.ne_of_lt hF7) (.slice (gp t) (fs t).length (gc t)))
                                          have L2 := hide (r9.set t (.slice (gp t) (fs t).length (gc t)))
                                          have L3 := hide (hNm.setCell (a := ⟨w7.heap.size, t, none⟩) (Nat.ne_of_lt hM7) (.slice (gp t) (fs t).length (gc t)))
                                          have L4 := hide (hbel.setCell (p := ⟨w7.heap.size, t, none⟩) hP7 (.slice (gp t) (fs t).length (gc t)))
                                          clear r9 rF hNm hbel
                                          go_wp2_with fail
                                          go_roundw
                                          case rel =>
                                            refine ⟨t + 1, by omega, by go_num, World.rowIs.congr (unhide L2) ?_, unhide L1, unhide L3, unhide L4⟩
                                            intro i hi
                                            by_cases hij : i = t
                                            · subst hij; simp
                                            · by_cases h' : i < t
                                              · simp [hij, h', show i < t + 1 by omega]
                                              · simp [hij, h', show ¬ i < t + 1 by omega]
                                          case measure => simp [intOf]; omega
                                        · have h22 : ¬ (t : Int) < 8 := by omega
                                          obtain ⟨v8, k1⟩ : ∃ v, wr.cell? ⟨w7.heap.size, 8, none⟩ = some v := ⟨_, r9.cell (i := 8) (by omega)⟩
                                          have k2 := r9.frozen 8
                                          obtain ⟨xp, xs, xc, g9, gh, gs, g8⟩ := all_nine (w := wr) (B := w2.heap.size) p2 s c2 (show t = 8 by omega) r9 (fun i hi => (unhide N3 i hi).below hbel) ((unhide N2).below hbel) hP7 (unhide HFL8) hsl
                                          have L2 := hide g9
                                          have L3 := hide (hNm.setCell (a := ⟨w7.heap.size, 8, none⟩) (Nat.ne_of_lt hM7) (.slice p2 s.length c2))
                                          have L4 := hide (hbel.setCell (p := ⟨w7.heap.size, 8, none⟩) hP7 (.slice p2 s.length c2))
                                          have GH := hide gh
                                          have GS := hide gs
                                          have G8 := hide g8
                                          clear r9 rF hNm hbel g9 gh gs g8
                                          go_wp2_with fail
                                          obtain ⟨wz, hwz⟩ : ∃ wz, wz = wr.setCell ⟨w7.heap.size, 8, none⟩ (.slice p2 s.length c2) := ⟨_, rfl⟩
                                          rw [← hwz] at L2 L3 L4 GH ⊢
                                          clear hwz
                                          go_loopw [38, 39] (fun d i wr => ∃ t m : Nat, t ≤ 9 ∧ i = .int .i64 t ∧ d = .int .i64 (distinct ((List.range t).map xs) : Int) ∧ wr = wz.drewN m) (fun _ i _ => 9 - (intOf i).toNat)
                                          case atStart => exact ⟨0, 0, Nat.zero_le _, rfl, rfl, rfl⟩
                                          case round =>
                                            obtain ⟨t, m, ht, rfl, rfl, rfl⟩ := hrel
                                            by_cases ht9 : t < 9
                                            · have h24 : (t : Int) < 9 := by omega
                                              have c1 := World.rowIs.cell (unhide L2) ht9
                                              have hdt : (distinct ((List.range t).map xs) : Int) ≤ 9 := by have := distinct_le_length ((List.range t).map xs); simp at this; omega
                                              have hdt0 : (0 : Int) ≤ (distinct ((List.range t).map xs) : Int) := by omega
                                              have HD := hide (distinct_range xs t)
                                              go_wp2_with fail
                                              go_loopw [40, 41] (fun fr i wi => ∃ (q m : Nat) (fb : Bool), q ≤ t ∧ i = .int .i64 q ∧ fr = .bool fb ∧ wi = wz.drewN m ∧ (fb = false ↔ ∃ j, j < q ∧ xs j = xs t)) (fun _ i _ => t - (intOf i).toNat)
                                              case atStart => exact ⟨0, m, true, Nat.zero_le _, rfl, rfl, rfl, by simp⟩
                                              case round =>
                                                obtain ⟨q, m', fb, hq, rfl, rfl, rfl, hiff⟩ := hrel
                                                have HI2 := hide hiff
                                                clear hiff
                                                by_cases hqt : q < t
                                                · have h25 : (q : Int) < (t : Int) := by omega
                                                  have h26 : (q : Int) < 9 := by omega
                                                  have c2' := World.rowIs.cell (unhide L2) (i := q) (by omega)
                                                  have HQ := hide (fun n => eq_any (xp q) (xp t) (xs q) (xs t) (xc q) (xc t) (wz.drewN n) ((unhide GH q (by omega)).drewN n) ((unhide GH t ht9).drewN n) (by have := unhide GS q (by omega); omega) (by have := unhide GS t ht9; omega))
                                                  by_cases hxe : xs q = xs t
                                                  · have HQ1 := hide (fun n => (unhide HQ n).mono (R' := fun e w' => e = .returned (.bool true) ∧ ∃ q, w' = (wz.drewN n).drewN q) (fun e w' h => ⟨h.1.trans (ret_bool (by simp [hxe])), h.2⟩))
                                                    have HX := hide hxe
                                                    clear HQ hxe
                                                    go_wp2_with fail
                                                    go_quiet ((go_at_call 8; exact quiet_of2 (unhide HQ1)))
                                                    go_wp2_with fail
                                                    go_roundw
                                                    case rel => exact ⟨q + 1, _, false, by omega, by go_num, rfl, rfl, ⟨fun _ => ⟨q, by omega, unhide HX⟩, fun _ => rfl⟩⟩
                                                    case measure => simp [intOf]; omega
                                                  · have HQ1 := hide (fun n => (unhide HQ n).mono (R' := fun e w' => e = .returned (.bool false) ∧ ∃ q, w' = (wz.drewN n).drewN q) (fun e w' h => ⟨h.1.trans (ret_bool (by simp [hxe])), h.2⟩))
                                                    have HX := hide hxe
                                                    clear HQ hxe
                                                    go_wp2_with fail
                                                    go_quiet ((go_at_call 8; exact quiet_of2 (unhide HQ1)))
                                                    go_wp2_with fail
                                                    go_roundw
                                                    case rel => exact ⟨q + 1, _, fb, by omega, by go_num, rfl, rfl, fresh_no xs q t fb (unhide HX) (unhide HI2)⟩
                                                    case measure => simp [intOf]; omega
                                                · have h25 : ¬ (q : Int) < (t : Int) := by omega
                                                  have hfr := fresh_all xs q t fb (by omega) (unhide HI2)
                                                  have HFR := hide hfr
                                                  clear hfr HI2
                                                  cases fb
                                                  · go_wp2_with fail
                                                    go_roundw
                                                    case rel => exact ⟨t + 1, _, by omega, by go_num, by rw [unhide HD, unhide HFR]; simp, rfl⟩
                                                    case measure => simp [intOf]; omega
                                                  · go_wp2_with fail
                                                    go_roundw
                                                    case rel => exact ⟨t + 1, _, by omega, by go_num, by rw [unhide HD, unhide HFR]; simp, rfl⟩
                                                    case measure => simp [intOf]; omega
                                            · have h24 : ¬ (t : Int) < 9 := by omega
                                              have hdd : distinct ((List.range t).map xs) = distinct ((List.range 8).map fs ++ [s]) := by rw [show t = 9 by omega, unhide G8]
                                              have hlen2 := fun ty => ((unhide L3).drewN m).len ty
                                              rw [hdd]
                                              have U4 := hide ((unhide N4).trans ((unhide L4).mono (unhide N4).size))
                                              clear hdd hlen
                                              go_wp2_with fail
                                              clear hlen2
                                              go_loop [42] (fun i => ∃ t : Nat, t ≤ 9 ∧ i = .int .i64 t) (fun i => 9 - (intOf i).toNat)
                                              case atStart => exact ⟨0, Nat.zero_le _, rfl⟩
                                              case round =>
                                                obtain ⟨q, hq, rfl⟩ := hrel
                                                by_cases hq9 : q < 9
                                                · have h26 : (q : Int) < 9 := by omega
                                                  have c1 := World.rowIs.cell (unhide L2) hq9
                                                  have hst := ((unhide GH q hq9).drewN m).str (xc q)
                                                  have hlk := ((unhide L3).drewN m).lookOk (xs q) (by have := unhide GS q hq9; unfold maxLen; omega)
                                                  have hin : ((List.range 8).map fs ++ [s]).contains (xs q) = true := by rw [← unhide G8]; simp; exact ⟨q, hq9, rfl⟩
                                                  rw [hin] at hlk
                                                  clear hin
                                                  go_wp2_with fail
                                                  go_round
                                                  case rel => exact ⟨q + 1, by omega, by go_num⟩
                                                  case measure => simp [intOf]; omega
                                                · have h26 : ¬ (q : Int) < 9 := by omega
                                                  go_wp2_with fail
                                                  go_ret
                                                  exact ⟨rfl, below_drewN (unhide U4) _⟩
                                  · refine (addz_held (unhide H4) (fun i hi => (unhide N3 i hi).below (unhide P4)) ((unhide N2).below (unhide P4)) (by have := (unhide P2).size; omega) hN8 hsl (unhide HFL8) ((unhide HI).1 rfl) c2).mono ?_
                                    rintro e w5 ⟨rfl, m5, hw5⟩
                                    have hb5 : ∀ B, Below B w4 w5 := fun B => by rw [hw5]; exact below_drewN (Below.refl _ _) m5
                                    have H5 := hide (World.rowIs.of_block (unhide H4) ((hb5 _).block _ (World.rowIs.lt (unhide H4))))
                                    have R5 := hide (World.rowIs.of_block (unhide R4) ((hb5 _).block _ (World.rowIs.lt (unhide R4))))
                                    have P5 := hide ((unhide P4).trans (hb5 _))
                                    clear hb5 hw5 H4 R4 P4
                                    go_wp2_with fail
                                    refine (fields_any _ gp fs gc N none w5 (unhide H5)).mono ?_
                                    rintro e w6 ⟨rfl, hb6⟩
                                    have R6 := hide (World.rowIs.of_block (unhide R5) (hb6.block _ (World.rowIs.lt (unhide R5))))
                                    have P6 := hide ((unhide P5).trans (hb6.mono (unhide P5).size))
                                    clear hb6 H5 R5 P5
                                    have P7 := hide ((unhide P6).alloc (unhide P6).size (.cells #[.slice (gp 0) (fs 0).length (gc 0), .slice (gp 1) (fs 1).length (gc 1), .slice (gp 2) (fs 2).length (gc 2), .slice (gp 3) (fs 3).length (gc 3), .slice (gp 4) (fs 4).length (gc 4), .slice (gp 5) (fs 5).length (gc 5), .slice (gp 6) (fs 6).length (gc 6), .slice (gp 7) (fs 7).length (gc 7)] 28))
                                    have a0 := World.rowIs.cell (World.rowIs.alloc (unhide R6) (.cells #[.slice (gp 0) (fs 0).length (gc 0), .slice (gp 1) (fs 1).length (gc 1), .slice (gp 2) (fs 2).length (gc 2), .slice (gp 3) (fs 3).length (gc 3), .slice (gp 4) (fs 4).length (gc 4), .slice (gp 5) (fs 5).length (gc 5), .slice (gp 6) (fs 6).length (gc 6), .slice (gp 7) (fs 7).length (gc 7)] 28)) (i := 0) (by omega)
                                    have a1 := World.rowIs.cell (World.rowIs.alloc (unhide R6) (.cells #[.slice (gp 0) (fs 0).length (gc 0), .slice (gp 1) (fs 1).length (gc 1), .slice (gp 2) (fs 2).length (gc 2), .slice (gp 3) (fs 3).length (gc 3), .slice (gp 4) (fs 4).length (gc 4), .slice (gp 5) (fs 5).length (gc 5), .slice (gp 6) (fs 6).length (gc 6), .slice (gp 7) (fs 7).length (gc 7)] 28)) (i := 1) (by omega)
                                    have a2 := World.rowIs.cell (World.rowIs.alloc (unhide R6) (.cells #[.slice (gp 0) (fs 0).length (gc 0), .slice (gp 1) (fs 1).length (gc 1), .slice (gp 2) (fs 2).length (gc 2), .slice (gp 3) (fs 3).length (gc 3), .slice (gp 4) (fs 4).length (gc 4), .slice (gp 5) (fs 5).length (gc 5), .slice (gp 6) (fs 6).length (gc 6), .slice (gp 7) (fs 7).length (gc 7)] 28)) (i := 2) (by omega)
                                    have a3 := World.rowIs.cell (World.rowIs.alloc (unhide R6) (.cells #[.slice (gp 0) (fs 0).length (gc 0), .slice (gp 1) (fs 1).length (gc 1), .slice (gp 2) (fs 2).length (gc 2), .slice (gp 3) (fs 3).length (gc 3), .slice (gp 4) (fs 4).length (gc 4), .slice (gp 5) (fs 5).length (gc 5), .slice (gp 6) (fs 6).length (gc 6), .slice (gp 7) (fs 7).length (gc 7)] 28)) (i := 3) (by omega)
                                    have a4 := World.rowIs.cell (World.rowIs.alloc (unhide R6) (.cells #[.slice (gp 0) (fs 0).length (gc 0), .slice (gp 1) (fs 1).length (gc 1), .slice (gp 2) (fs 2).length (gc 2), .slice (gp 3) (fs 3).length (gc 3), .slice (gp 4) (fs 4).length (gc 4), .slice (gp 5) (fs 5).length (gc 5), .slice (gp 6) (fs 6).length (gc 6), .slice (gp 7) (fs 7).length (gc 7)] 28)) (i := 4) (by omega)
                                    have a5 := World.rowIs.cell (World.rowIs.alloc (unhide R6) (.cells #[.slice (gp 0) (fs 0).length (gc 0), .slice (gp 1) (fs 1).length (gc 1), .slice (gp 2) (fs 2).length (gc 2), .slice (gp 3) (fs 3).length (gc 3), .slice (gp 4) (fs 4).length (gc 4), .slice (gp 5) (fs 5).length (gc 5), .slice (gp 6) (fs 6).length (gc 6), .slice (gp 7) (fs 7).length (gc 7)] 28)) (i := 5) (by omega)
                                    have a6 := World.rowIs.cell (World.rowIs.alloc (unhide R6) (.cells #[.slice (gp 0) (fs 0).length (gc 0), .slice (gp 1) (fs 1).length (gc 1), .slice (gp 2) (fs 2).length (gc 2), .slice (gp 3) (fs 3).length (gc 3), .slice (gp 4) (fs 4).length (gc 4), .slice (gp 5) (fs 5).length (gc 5), .slice (gp 6) (fs 6).length (gc 6), .slice (gp 7) (fs 7).length (gc 7)] 28)) (i := 6) (by omega)
                                    have a7 := World.rowIs.cell (World.rowIs.alloc (unhide R6) (.cells #[.slice (gp 0) (fs 0).length (gc 0), .slice (gp 1) (fs 1).length (gc 1), .slice (gp 2) (fs 2).length (gc 2), .slice (gp 3) (fs 3).length (gc 3), .slice (gp 4) (fs 4).length (gc 4), .slice (gp 5) (fs 5).length (gc 5), .slice (gp 6) (fs 6).length (gc 6), .slice (gp 7) (fs 7).length (gc 7)] 28)) (i := 7) (by omega)
                                    have hmn := fun (w : World) => run_eql_map_nil (P := Try.prog) w 33 9 4 none Try.underlying33
                                    have HSAME := hide (same_any (B := w2.heap.size) gp gp fs fs gc gc (w6.alloc (.cells #[.slice (gp 0) (fs 0).length (gc 0), .slice (gp 1) (fs 1).length (gc 1), .slice (gp 2) (fs 2).length (gc 2), .slice (gp 3) (fs 3).length (gc 3), .slice (gp 4) (fs 4).length (gc 4), .slice (gp 5) (fs 5).length (gc 5), .slice (gp 6) (fs 6).length (gc 6), .slice (gp 7) (fs 7).length (gc 7)] 28)) (fun i hi => (unhide N3 i hi).below (unhide P7)) (fun i hi => (unhide N3 i hi).below (unhide P7)) (unhide P7).size (unhide HFL8) (fun _ _ => rfl))
                                    go_wp2_with fail
                                    refine (unhide HSAME).mono ?_
                                    rintro e w7 ⟨rfl, hb7⟩
                                    have U4 := hide ((unhide N4).trans (((unhide P7).trans (hb7.mono (unhide P7).size)).mono (unhide N4).size))
                                    clear hb7
                                    go_wp2_with fail
                                    go_ret
                                    exact ⟨rfl, unhide U4⟩
                            · have hmm := @run_makeMap Try.prog
                              have HM0 := hide (Names.made w2)
                              go_wp2_with fail
                              go_loopw [19] (fun i wr => ∃ t : Nat, t ≤ kn ∧ i = .int .i64 t ∧ Names wr w2.heap.size ((List.range t).map (fun i => (K i).data.toList)) ∧ Below w2.heap.size w2 wr) (fun i _ => kn - (intOf i).toNat)
                              case atStart => exact ⟨0, Nat.zero_le _, rfl, unhide HM0, (Below.refl _ _).alloc (Nat.le_refl _) _⟩
                              case round =>
                                obtain ⟨t, ht, rfl, hN, hbel⟩ := hrel
                                clear HM0
                                by_cases htk : t < kn
                                · rcases (unhide N0).below hbel with h0 | ⟨b, o, he, hbB, hc⟩
                                  · omega
                                  · cases he
                                    have c1 := hc t htk
                                    have h20 : (t : Int) < (kn : Int) := by omega
                                    obtain ⟨w3, hrun, hN3, hturn⟩ := Names.putS hN (K t) (by have := unhide HKL8 t htk; unfold maxLen; omega) (by simp; unfold maxLen; omega)
                                    have HT := hide hturn
                                    have HN3 := hide hN3
                                    have HB := hide hbel
                                    clear hturn hN3 hbel hN hc
                                    go_wp2_with fail
                                    go_roundw
                                    case rel => exact ⟨t + 1, by omega, by go_num, by rw [List.range_succ, List.map_append]; exact unhide HN3, (unhide HB).trans (turned_below (unhide HT) (Nat.le_refl _))⟩
                                    case measure => simp [intOf]; omega
                                · have h20 : ¬ (t : Int) < (kn : Int) := by omega
                                  have et : kn = t := by omega
                                  subst et
                                  have hlen := fun ty => hN.len ty
                                  have HN := hide hN
                                  have HB := hide hbel
                                  clear hN hbel
                                  go_wp2_with fail
                                  go_loopw [21, 22] (fun h i wi => ∃ (t m : Nat) (hb : Bool), t ≤ kn ∧ i = .int .i64 t ∧ h = .bool hb ∧ wi = wr.drewN m ∧ (hb = true ↔ ∃ j, j < t ∧ (K j).data.toList = s)) (fun _ i _ => kn - (intOf i).toNat)
                                  case atStart => exact ⟨0, 0, false, Nat.zero_le _, rfl, rfl, rfl, by simp⟩
                                  case round =>
                                    obtain ⟨t, m, hb, ht, rfl, rfl, rfl, hiff⟩ := hrel
                                    have HI := hide hiff
                                    clear hiff
                                    by_cases htk : t < kn
                                    · rcases (unhide N0).below (unhide HB) with h0 | ⟨b, o, he, hbB, hc⟩
                                      · omega
                                      · cases he
                                        have c1 := hc t htk
                                        have h21 : (t : Int) < (kn : Int) := by omega
                                        have hst := fun q => (((unhide N2).below (unhide HB)).drewN q).str c2
                                        clear hc
                                        go_wp2_with fail
                                        go_quiet (fail)
                                        go_wp2_with fail
                                        · have he : ((K t).toList == s) = true := by assumption
                                          go_roundw
                                          case rel => exact ⟨t + 1, _, true, by omega, by go_num, rfl, rfl, held_yes K s t he⟩
                                          case measure => simp [intOf]; omega
                                        · have he : ((K t).toList == s) = false := by assumption
                                          go_roundw
                                          case rel => exact ⟨t + 1, _, hb, by omega, by go_num, rfl, rfl, held_no K s t hb he (unhide HI)⟩
                                          case measure => simp [intOf]; omega
                                    · have h21 : ¬ (t : Int) < (kn : Int) := by omega
                                      have ehb := held_all K s kn t hb (by omega) (unhide HI)
                                      have HEB := hide ehb
                                      clear ehb HI
                                      obtain ⟨wq, hwq⟩ : ∃ wq, wq = wr.drewN m := ⟨_, rfl⟩
                                      have P1 := hide (show Names wq w2.heap.size ((List.range kn).map (fun i => (K i).data.toList)) by rw [hwq]; exact (unhide HN).drewN m)
                                      have P2 := hide (show Below w2.heap.size w2 wq by rw [hwq]; exact below_drewN (unhide HB) m)
                                      rw [← hwq]
                                      clear hwq HN HB hlen
                                      have rF : wq.rowIs w.heap.size 28 8 (fun i => .slice (gp i) (fs i).length (gc i)) := World.rowIs.of_block (unhide N1) ((unhide P2).block _ (World.rowIs.lt (unhide N1)))
                                      have a0 := rF.cell (i := 0) (by omega)
                                      have a1 := rF.cell (i := 1) (by omega)
                                      have a2 := rF.cell (i := 2) (by omega)
                                      have a3 := rF.cell (i := 3) (by omega)
                                      have a4 := rF.cell (i := 4) (by omega)
                                      have a5 := rF.cell (i := 5) (by omega)
                                      have a6 := rF.cell (i := 6) (by omega)
                                      have a7 := rF.cell (i := 7) (by omega)
                                      have RF := hide rF
                                      clear rF
                                      go_wp2_with fail
                                      refine (new_any gp fs gc n (some w2.heap.size) wq).mono ?_
                                      rintro e w4 ⟨rfl, hr4, o, o', hw4⟩
                                      clear a0 a1 a2 a3 a4 a5 a6 a7
                                      have HADD := hide (add_many hr4 hw4 (unhide P1) (unhide P2) (unhide RF) (unhide N2) (unhide N4) (unhide N4).size (unhide HEB) hsl (by simp; omega) c2)
                                      clear hr4 hw4
                                      go_wp2_with fail
                                      refine (unhide HADD).mono ?_
                                      rintro e w5 ⟨rfl, q1, q2, q3, q4, q5⟩
                                      have Q1 := hide q1
                                      have Q2 := hide q2
                                      have Q3 := hide q3
                                      have Q4 := hide q4
                                      have Q5 := hide q5
                                      clear q1 q2 q3 q4 q5 HADD
                                      go_wp2_with fail
                                      refine (fields_any _ gp fs gc n (some w2.heap.size) w5 (unhide Q2)).mono ?_
                                      rintro e w6 ⟨rfl, hb6⟩
                                      have T1 := hide (Names.below (unhide Q1) hb6 (unhide Q1).lt)
                                      have T3 := hide (World.rowIs.of_block (unhide Q3) (hb6.block _ (World.rowIs.lt (unhide Q3))))
                                      have T4 := hide ((unhide Q4).trans (hb6.mono (unhide Q4).size))
                                      have T5 : Hid (∀ a : Addr, a.block < w2.heap.size → w6.cell? a = w2.cell? a) := fun a ha => (hb6.cell (p := a) (Nat.lt_of_lt_of_le (Nat.lt_trans ha (unhide Q1).lt) (Nat.le_refl _))).trans (unhide Q5 a ha)
                                      clear Q1 Q2 Q3 Q4 Q5 hb6 P1 P2 RF N1 N4
                                      have a0 := World.rowIs.cell (World.rowIs.alloc (unhide T3) (.cells #[.slice (gp 0) (fs 0).length (gc 0), .slice (gp 1) (fs 1).length (gc 1), .slice (gp 2) (fs 2).length (gc 2), .slice (gp 3) (fs 3).length (gc 3), .slice (gp 4) (fs 4).length (gc 4), .slice (gp 5) (fs 5).length (gc 5), .slice (gp 6) (fs 6).length (gc 6), .slice (gp 7) (fs 7).length (gc 7)] 28)) (i := 0) (by omega)
                                      have a1 := World.rowIs.cell (World.rowIs.alloc (unhide T3) (.cells #[.slice (gp 0) (fs 0).length (gc 0), .slice (gp 1) (fs 1).length (gc 1), .slice (gp 2) (fs 2).length (gc 2), .slice (gp 3) (fs 3).length (gc 3), .slice (gp 4) (fs 4).length (gc 4), .slice (gp 5) (fs 5).length (gc 5), .slice (gp 6) (fs 6).length (gc 6), .slice (gp 7) (fs 7).length (gc 7)] 28)) (i := 1) (by omega)
                                      have a2 := World.rowIs.cell (World.rowIs.alloc (unhide T3) (.cells #[.slice (gp 0) (fs 0).length (gc 0), .slice (gp 1) (fs 1).length (gc 1), .slice (gp 2) (fs 2).length (gc 2), .slice (gp 3) (fs 3).length (gc 3), .slice (gp 4) (fs 4).length (gc 4), .slice (gp 5) (fs 5).length (gc 5), .slice (gp 6) (fs 6).length (gc 6), .slice (gp 7) (fs 7).length (gc 7)] 28)) (i := 2) (by omega)
                                      have a3 := World.rowIs.cell (World.rowIs.alloc (unhide T3) (.cells #[.slice (gp 0) (fs 0).length (gc 0), .slice (gp 1) (fs 1).length (gc 1), .slice (gp 2) (fs 2).length (gc 2), .slice (gp 3) (fs 3).length (gc 3), .slice (gp 4) (fs 4).length (gc 4), .slice (gp 5) (fs 5).length (gc 5), .slice (gp 6) (fs 6).length (gc 6), .slice (gp 7) (fs 7).length (gc 7)] 28)) (i := 3) (by omega)
                                      have a4 := World.rowIs.cell (World.rowIs.alloc (unhide T3) (.cells #[.slice (gp 0) (fs 0).length (gc 0), .slice (gp 1) (fs 1).length (gc 1), .slice (gp 2) (fs 2).length (gc 2), .slice (gp 3) (fs 3).length (gc 3), .slice (gp 4) (fs 4).length (gc 4), .slice (gp 5) (fs 5).length (gc 5), .slice (gp 6) (fs 6).length (gc 6), .slice (gp 7) (fs 7).length (gc 7)] 28)) (i := 4) (by omega)
                                      have a5 := World.rowIs.cell (World.rowIs.alloc (unhide T3) (.cells #[.slice (gp 0) (fs 0).length (gc 0), .slice (gp 1) (fs 1).length (gc 1), .slice (gp 2) (fs 2).length (gc 2), .slice (gp 3) (fs 3).length (gc 3), .slice (gp 4) (fs 4).length (gc 4), .slice (gp 5) (fs 5).length (gc 5), .slice (gp 6) (fs 6).length (gc 6), .slice (gp 7) (fs 7).length (gc 7)] 28)) (i := 5) (by omega)
                                      have a6 := World.rowIs.cell (World.rowIs.alloc (unhide T3) (.cells #[.slice (gp 0) (fs 0).length (gc 0), .slice (gp 1) (fs 1).length (gc 1), .slice (gp 2) (fs 2).length (gc 2), .slice (gp 3) (fs 3).length (gc 3), .slice (gp 4) (fs 4).length (gc 4), .slice (gp 5) (fs 5).length (gc 5), .slice (gp 6) (fs 6).length (gc 6), .slice (gp 7) (fs 7).length (gc 7)] 28)) (i := 6) (by omega)
                                      have a7 := World.rowIs.cell (World.rowIs.alloc (unhide T3) (.cells #[.slice (gp 0) (fs 0).length (gc 0), .slice (gp 1) (fs 1).length (gc 1), .slice (gp 2) (fs 2).length (gc 2), .slice (gp 3) (fs 3).length (gc 3), .slice (gp 4) (fs 4).length (gc 4), .slice (gp 5) (fs 5).length (gc 5), .slice (gp 6) (fs 6).length (gc 6), .slice (gp 7) (fs 7).length (gc 7)] 28)) (i := 7) (by omega)
                                      have hmn := fun (w : World) => run_eql_map_nil (P := Try.prog) w 33 9 4 (some w2.heap.size) Try.underlying33
                                      have HSAME := hide (fun o => same_any (B := w2.heap.size) gp gp fs fs gc gc (w6.alloc o) (fun i hi => (unhide N3 i hi).kept (fun a ha => (World.cell?_alloc_lt w6 _ _ (Nat.lt_trans ha (unhide T1).lt)).trans (unhide T5 a ha))) (fun i hi => (unhide N3 i hi).kept (fun a ha => (World.cell?_alloc_lt w6 _ _ (Nat.lt_trans ha (unhide T1).lt)).trans (unhide T5 a ha))) (by have := (unhide T1).lt; simp; omega) (unhide HFL8) (fun _ _ => rfl))
                                      go_wp2_with fail
                                      refine (unhide HSAME _).mono ?_
                                      rintro e w7 ⟨rfl, hb7⟩
                                      have hsz6 := (unhide T1).lt
                                      have U1 := hide (Names.below ((unhide T1).alloc _) hb7 (by simp; omega))
                                      have U4 := hide (((unhide T4).alloc (unhide T4).size _).trans (hb7.mono (by have := (unhide T4).size; simp; omega)))
                                      have U5 : Hid (∀ a : Addr, a.block < w2.heap.size → w7.cell? a = w2.cell? a) := fun a ha => (hb7.cell (p := a) (by simp; omega)).trans ((World.cell?_alloc_lt w6 _ _ (by omega)).trans (unhide T5 a ha))
                                      clear T1 T3 T4 T5 hb7 HSAME a0 a1 a2 a3 a4 a5 a6 a7
                                      have hdl := names_distinct_le (unhide U1)
                                      have hdk : (distinct ((List.range kn).map (fun i => (K i).data.toList)) : Int) ≤ 65537 := by have := distinct_le_snoc ((List.range kn).map (fun i => (K i).data.toList)) s; simp at hdl; omega
                                      have HDS := hide (distinct_snoc ((List.range kn).map (fun i => (K i).data.toList)) s)
                                      have hlen := fun ty => (unhide U1).len ty
                                      clear hdl
                                      go_upto_if 220 with fail
                                      go_cut [29] from 218 to 222 (fun v wx => v = .int .i64 (distinct ((List.range kn).map (fun i => (K i).data.toList) ++ [s]) : Int) ∧ wx = w7)
                                      case first =>
                                        cases hb
                                        · go_wp2_with fail
                                          go_meet
                                          exact ⟨by rw [unhide HDS, unhide HEB]; simp, rfl⟩
                                        · go_wp2_with fail
                                          go_meet
                                          exact ⟨by rw [unhide HDS, unhide HEB]; simp, rfl⟩
                                      case rest =>
                                        obtain ⟨rfl, rfl⟩ := hcut
                                        go_wp2_with fail
                                        clear hlen hdk HDS
                                        go_loop [30] (fun i => ∃ t : Nat, t ≤ kn ∧ i = .int .i64 t) (fun i => kn - (intOf i).toNat)
                                        case atStart => exact ⟨0, Nat.zero_le _, rfl⟩
                                        case round =>
                                          obtain ⟨t, ht, rfl⟩ := hrel
                                          by_cases htk : t < kn
                                          · rcases unhide N0 with h0 | ⟨b, o, he, hbB, hc⟩
                                            · omega
                                            · cases he
                                              have c1 : wc.cell? ⟨b, o + t, none⟩ = some (.string (K t)) := (unhide U5 ⟨b, o + t, none⟩ hbB).trans (hc t htk)
                                              have h22 : (t : Int) < (kn : Int) := by omega
                                              have hlk := Names.lookS (unhide U1) (K t) (by have := unhide HKL8 t htk; unfold maxLen; omega) (by simp; exact .inl ⟨t, htk, rfl⟩)
                                              clear hc
                                              go_wp2_with fail
                                              go_round
                                              case rel => exact ⟨t + 1, by omega, by go_num⟩
                                              case measure => simp [intOf]; omega
                                          · have h22 : ¬ (t : Int) < (kn : Int) := by omega
                                            have hst := ((unhide N2).kept (unhide U5)).str c2
                                            have hlk := (unhide U1).lookOk s (by unfold maxLen; omega)
                                            have hin : (((List.range kn).map (fun i => (K i).data.toList)) ++ [s]).contains s = true := by simp
                                            rw [hin] at hlk
                                            clear hin
                                            go_wp2_with fail
                                            go_ret
                                            exact ⟨rfl, unhide U4⟩
      · have g3 : 1048576 < (s.length : Int) + 16 * kn := by omega
        go_wp2_with fail
        go_ret
        exact ⟨rfl, unhide HB1⟩
    · have g2 : 65536 < (kn : Int) := by omega
      go_wp2_with fail
      go_ret
      exact ⟨rfl, unhide HB1⟩
  · have g1 : 1048576 < (s.length : Int) := by omega
    go_wp2_with fail
    go_ret
    exact ⟨rfl, unhide HB1⟩
end Go.Proofs.Qxb6603155a.Step

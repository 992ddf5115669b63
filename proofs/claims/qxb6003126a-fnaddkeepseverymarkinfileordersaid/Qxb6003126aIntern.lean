import Derived.Test.Qxb6003126aClone
import Derived.Maps.OwnSet
import Derived.Maps.OwnOps
import Derived.Maps.Views
namespace Go.Proofs.Qxb6003126a
open Go.RowKit Go.Maps

theorem Try.info9 : (Try.prog.info? 9).map (fun i => (i.zero, i.size, i.bytes)) = some (some (.string ByteArray.empty), 1, 16) := by kernel_rfl
theorem law : Keyed Try.prog 9 := string_keyed Try.underlying9
theorem zero21 (w : World) : (zeroValue 21).run Try.prog w = .ok (.int .i32 0) w := by kernel_rfl

set_option maxHeartbeats 1000000 in
/-- grades.ZZNew. -/
theorem new_any (w : World) : Calls Try.prog 7 #[] w fun e w' => e = .returned (.pointer (some ⟨w.heap.size + 2, 0, none⟩)) ∧ w' = ((w.alloc (.map #[] 0)).alloc (.map #[] 0)).alloc (.cells #[.map (some w.heap.size), .slice none 0 0, .int .i32 0, .slice none 0 0, .map (some (w.heap.size + 1)), .int .i64 0] 53) := by
  have hmk := fun w => run_makeMap (P := Try.prog) 28 w
  go_enter Try.func7, Try.ntmps7
  go_wp2_with fail
  go_ret
  exact ⟨by simp, by simp⟩

/-- The key of a text. -/
def key (s : ByteArray) : Lit := .string s.data.toList
theorem key_ne {s t : ByteArray} (h : s ≠ t) : key s ≠ key t := by
  intro e
  apply h
  unfold key at e
  have e1 : s.data.toList = t.data.toList := by cases s; cases t; simpa using e
  cases s; cases t
  simp at e1
  rw [e1]
theorem key_mk (s : ByteArray) (hs : s.size ≤ maxLen) : keyOf Try.prog 9 (.string s) = some (key s) := Go.WideMaps.keyOf_string_mk (P := Try.prog) (k := 9) Try.underlying9 hs
theorem key_lit (s : ByteArray) : WideAt.IsKeyLit (key s) := by trivial

/-- The map numbers the texts of T. -/
def Nums (D : DataW Unit) (T : List ByteArray) : Prop :=
  (∀ (i : Nat) (s : ByteArray), T[i]? = some s → has D (key s) = true ∧ D.atKey (key s) (.lit (.int .i32 0)) = .lit (.int .i32 i)) ∧ ∀ s, s ∉ T → has D (key s) = false

theorem Nums.nil : Nums (.map []) [] := ⟨fun i s h => by simp at h, fun s _ => rfl⟩

theorem Nums.put {D : DataW Unit} {T : List ByteArray} (h : Nums D T) (hD : IsMap D) {s : ByteArray} (hs : s ∉ T) : Nums (D.put (key s) (.lit (.int .i32 (T.length : Int)))) (T ++ [s]) := by
  refine ⟨fun i t ht => ?_, fun t ht => ?_⟩
  · by_cases e : t = s
    · subst e
      have hi : i = T.length := by
        by_cases hi : i < T.length
        · rw [List.getElem?_append_left hi] at ht
          exact absurd (List.mem_of_getElem? ht) hs
        · have : i < (T ++ [t]).length := (List.getElem?_eq_some_iff.1 ht).1
          simp at this; omega
      subst hi
      exact ⟨has_put_same hD (key_lit _) _, atKey_put_same hD (key_lit _) _ _⟩
    · rw [has_put_other (key_ne e), atKey_put_other (key_ne e)]
      refine h.1 i t ?_
      by_cases hi : i < T.length
      · rwa [List.getElem?_append_left hi] at ht
      · rw [List.getElem?_append_right (by omega)] at ht
        have := List.mem_of_getElem? ht
        simp at this
        exact absurd this e
  · simp at ht
    rw [has_put_other (key_ne ht.2)]
    exact h.2 t ht.1

/-- The Grades at block g: its texts T, its map of texts block m. -/
def Gr (w : World) (m g : Nat) (T : List ByteArray) : Prop :=
  m < g ∧ ∃ (A : Option Addr) (C : Nat) (D : DataW Unit) (f : Nat → Value), w.rowIs g 53 6 f ∧ f 3 = .slice A T.length C ∧ f 4 = .map (some m) ∧
    w.ownsRow (g + 1) 9 1 (.slice A T.length C) T.length (T.map Value.string) ∧ w.ownsMap Try.prog 9 (plainElem Try.prog 21) m T.length D ∧ Nums D T

theorem Gr.made (w : World) : Gr (((w.alloc (.map #[] 0)).alloc (.map #[] 0)).alloc (.cells #[.map (some w.heap.size), .slice none 0 0, .int .i32 0, .slice none 0 0, .map (some (w.heap.size + 1)), .int .i64 0] 53)) (w.heap.size + 1) (w.heap.size + 2) [] := by
  refine ⟨by omega, none, 0, .map [], fun i => (#[.map (some w.heap.size), .slice none 0 0, .int .i32 0, .slice none 0 0, .map (some (w.heap.size + 1)), .int .i64 0] : Array Value)[i]?.getD (.bool false), ?_, rfl, rfl, World.ownsRow_nil _ _ _ _, ?_, Nums.nil⟩
  · have h := World.rowIs_alloc ((w.alloc (.map #[] 0)).alloc (.map #[] 0)) #[.map (some w.heap.size), .slice none 0 0, .int .i32 0, .slice none 0 0, .map (some (w.heap.size + 1)), .int .i64 0] 53 (fun i => (#[.map (some w.heap.size), .slice none 0 0, .int .i32 0, .slice none 0 0, .map (some (w.heap.size + 1)), .int .i64 0] : Array Value)[i]?.getD (.bool false)) (fun i hi => by rw [Array.getElem?_eq_getElem hi]; rfl)
    simpa using h
  · have h := (World.ownsMap_made (H := Unit) (w.alloc (.map #[] 0)) Try.prog 9 (plainElem Try.prog 21)).alloc (.cells #[.map (some w.heap.size), .slice none 0 0, .int .i32 0, .slice none 0 0, .map (some (w.heap.size + 1)), .int .i64 0] 53)
    simpa using h

theorem Gr.lt {w : World} {m g : Nat} {T : List ByteArray} (h : Gr w m g T) : g < w.heap.size := by
  obtain ⟨_, A, C, D, f, hr, _⟩ := h
  exact hr.lt

/-- 'append(g.texts, text)'. -/
theorem appS (w : World) {ops : Array Oper} {rest : List Oper} {o : Oper} {a : Act} {Q : Exit → Act → World → Prop} (hgd : o.guard = none) (s x : Operand)
    (ho : o.op = .call { callee := .builtin .append, args := #[s, x], argTypes := #[39, 39] })
    (B : Nat) (v : Value) (n : Nat) (zs : List ByteArray) (hs : a.eval s = v) (hown : w.ownsRow B 9 1 v n (zs.map Value.string)) (y : ByteArray) (H : Nat) (hH : w.heap.size = H) (hx : a.eval x = .slice (some ⟨H, 0, none⟩) 1 1)
    (hn : n ≤ 1048576) (hB : B ≤ w.heap.size)
    (h : ∀ g cap w', w'.ownsRow B 9 1 (.slice (some ⟨g, 0, none⟩) (n + 1) cap) (n + 1) ((zs ++ [y]).map Value.string) → Below B w w' → wpList Try.prog ops Q rest (a.put o.dst (.slice (some ⟨g, 0, none⟩) (n + 1) cap)) w') :
    wpList Try.prog ops Q (o :: rest) a (w.alloc (.cells #[.string y] 9)) := by
  subst hH
  obtain ⟨i0, hi, hz0, hz1, hz2⟩ := info_parts Try.info9
  refine wpList_append_lies (w.alloc (.cells #[.string y] 9)) hgd s x 39 ho B 9 i0 (.string ByteArray.empty) 1 16 Try.underlying39 hi hz0 hz1 hz2 rfl (by decide) v n (zs.map Value.string) hs (hown.alloc _) ⟨w.heap.size, 0, none⟩ 1 1 [.string y] hx rfl (cell_one_new _ _ _) (by simp [Value.oneCell']) (by decide) (by unfold maxLen; omega) (by omega) (by simp; omega) _ rfl ?_
  intro g cap w' h1 h2 h3 h4
  have hg : ∀ k, v.ownBlock = some k → B ≤ k := fun k hk => (hown.lt k hk).1
  refine h g cap w' (by simpa using h1) (((Below.refl B w).alloc hB _).grown h2 (by simp; omega) hg)

theorem any_iff (T : List ByteArray) (s : ByteArray) : (T.any fun t => t == s) = true ↔ s ∈ T := by
  rw [List.any_eq_true]
  constructor
  · rintro ⟨t, ht, e⟩
    rw [← (MapKept.bytes_beq t s).1 e]
    exact ht
  · exact fun h => ⟨s, h, (MapKept.bytes_beq s s).2 rfl⟩
/-- The texts behind s. -/
def nx (T : List ByteArray) (s : ByteArray) : List ByteArray := if (T.any fun t => t == s) = true then T else T ++ [s]
theorem nx_old {T : List ByteArray} {s : ByteArray} (h : s ∈ T) : nx T s = T := if_pos ((any_iff T s).2 h)
theorem nx_new {T : List ByteArray} {s : ByteArray} (h : s ∉ T) : nx T s = T ++ [s] := if_neg (fun e => h ((any_iff T s).1 e))

theorem Gr.below {w w' : World} {m g : Nat} {T : List ByteArray} (h : Gr w m g T) (hb : Below w.heap.size w w') : Gr w' m g T := by
  obtain ⟨h0, A, C, D, f, hr, h3, h4, ho, hm, hn⟩ := h
  have hmb : w'.heap[m]? = w.heap[m]? := hb.block m hm.lt
  refine ⟨h0, A, C, D, f, hr.of_block (hb.block g hr.lt), h3, h4, ?_, ?_, hn⟩
  · exact ho.kept (row := none) ⟨hb.os, hb.tape, hb.output, hb.size, fun k hk _ => hb.block k hk⟩ (by cases A <;> simp [Value.ownBlock])
  · exact hm.kept (row := none) ⟨hb.os, hb.tape, hb.output, hb.size, fun k hk _ => hb.block k hk⟩ (by simp)

/-- Behind the append: the store into 'g.texts' and 'g.textOf[text] = i'. -/
theorem after_app {w1 w2 : World} {m g g2 cap2 : Nat} {T : List ByteArray} {s : ByteArray} {D1 : DataW Unit} {f1 : Nat → Value} (h0 : m < g) (hr : w1.rowIs g 53 6 f1) (h4 : f1 4 = .map (some m))
    (hm : w1.ownsMap Try.prog 9 (plainElem Try.prog 21) m T.length D1) (hn : Nums D1 T) (hs : s.size ≤ 1048576) (hT : T.length ≤ 1048576) (hmem : s ∉ T)
    (ho : w2.ownsRow (g + 1) 9 1 (.slice (some ⟨g2, 0, none⟩) (T.length + 1) cap2) (T.length + 1) ((T ++ [s]).map Value.string)) (hb : Below (g + 1) w1 w2) :
    w2.frozen? ⟨g, 3, none⟩ = false ∧ w2.cell? ⟨g, 3, none⟩ = some (f1 3) ∧ (w2.setCell ⟨g, 3, none⟩ (.slice (some ⟨g2, 0, none⟩) (T.length + 1) cap2)).cell? ⟨g, 4, none⟩ = some (.map (some m)) ∧
    ∃ w4, (Instr.mapUpdate 28 (.map (some m)) (.string s) (.int .i32 (T.length : Int))).run Try.prog (w2.setCell ⟨g, 3, none⟩ (.slice (some ⟨g2, 0, none⟩) (T.length + 1) cap2)) = .ok () w4 ∧ Hid (Gr w4 m g (T ++ [s])) ∧ Hid (Below m w1 w4) := by
  have hr2 : w2.rowIs g 53 6 f1 := hr.of_block (hb.block g (by omega))
  have hr3 := hr2.set 3 (.slice (some ⟨g2, 0, none⟩) (T.length + 1) cap2)
  have hm2 : w2.ownsMap Try.prog 9 (plainElem Try.prog 21) m T.length D1 := by
    obtain ⟨es, clock, hbk, F, hsz, hD⟩ := hm
    exact ⟨es, clock, (hb.block m (by omega)).trans hbk, F, hsz, hD⟩
  have hm3 := World.ownsMap.setCell hm2 (a := ⟨g, 3, none⟩) (show m ≠ g by omega) (.slice (some ⟨g2, 0, none⟩) (T.length + 1) cap2)
  have ho3 := ownsRow_setCell_below ho (a := ⟨g, 3, none⟩) (show g < g + 1 by omega) (.slice (some ⟨g2, 0, none⟩) (T.length + 1) cap2)
  have hwf : (Lit.int .i32 (T.length : Int)).wf = true := by
    simp [Lit.wf, IntKind.min, IntKind.max, IntKind.signed, IntKind.bits]
    omega
  obtain ⟨w4, hrun, hm4, ht⟩ := World.ownsMap.store hm3 law Try.underlying28 (by unfold maxLen; omega) (key_mk s (by unfold maxLen; omega)) (plainElem_int Try.underlying21 hwf)
  have hg4 := ht.grown
  have e1 : (T ++ [s]).length = T.length + 1 := by simp
  refine ⟨hr2.frozen 3, hr2.cell (by omega), by rw [hr3.cell (by omega)]; simp [h4], w4, hrun, ?_, ?_⟩
  · refine hide ⟨h0, some ⟨g2, 0, none⟩, cap2, _, _, hr3.of_block (hg4.block g hr3.lt (by simp; omega)), by rw [e1]; simp, by simp [h4], ?_, ?_, hn.put (World.ownsMap.isMap hm3) hmem⟩
    · rw [e1]
      refine ho3.kept hg4 (.inr ?_)
      have := (ho.lt g2 rfl).1
      simp [Value.ownBlock]
      omega
    · rw [e1]; exact hm4
  · exact hide (((hb.mono (by omega)).setCell (p := ⟨g, 3, none⟩) (show m ≤ g by omega) _).grown hg4 (by have := hm3.lt; omega) (fun k hk => by simp at hk; omega))

set_option maxHeartbeats 1000000 in
/-- (*Grades).intern. -/
theorem intern_any (m g : Nat) (T : List ByteArray) (s : ByteArray) (w : World) (h : Gr w m g T) (hs : s.size ≤ 1048576) (hT : T.length ≤ 1048576) :
    Calls Try.prog 19 #[.pointer (some ⟨g, 0, none⟩), .string s] w fun e w' => (∃ i : Nat, e = .returned (.int .i32 i) ∧ (nx T s)[i]? = some s) ∧ Gr w' m g (nx T s) ∧ Below m w w' := by
  have HG := hide h
  obtain ⟨h0, A, C, D, f, hr, h3, h4, ho, hm, hn⟩ := h
  have c3 : w.cell? ⟨g, 3, none⟩ = some (.slice A T.length C) := by rw [hr.cell (by omega), h3]
  have c4 : w.cell? ⟨g, 4, none⟩ = some (.map (some m)) := by rw [hr.cell (by omega), h4]
  have hmax : s.size ≤ maxLen := by unfold maxLen; omega
  obtain ⟨v, ps, hrun, hv⟩ := World.ownsMap.look_ok hm law Try.underlying28 (zero21 w) (plainElem_int Try.underlying21 (by decide)) (key_mk s hmax)
  obtain ⟨c, rfl, hc, hwc⟩ := plainElem_int_inv Try.underlying21 hv
  simp only [Prod.mk.injEq] at hc
  have hc := hc.1
  by_cases hmem : s ∈ T
  · obtain ⟨i, hi⟩ := List.getElem?_of_mem hmem
    obtain ⟨k1, k2⟩ := hn.1 i s hi
    rw [k1] at hrun
    rw [k2] at hc
    have hci : c = (i : Int) := by simpa using hc.symm
    subst hci
    have HI := hide hi
    have HM := hide hmem
    clear hmem hi k1 k2 hc hwc hv hn hm ho h3 h4 hr h0
    go_enter Try.func19, Try.ntmps19
    go_wp2_with fail
    go_ret
    exact ⟨⟨i, rfl, by rw [nx_old (unhide HM)]; exact unhide HI⟩, by rw [nx_old (unhide HM)]; exact unhide HG, Below.refl _ _⟩
  · rw [hn.2 s hmem] at hrun
    have HM := hide hmem
    have HC := hide (clone22 s w (by omega))
    clear hmem hc hwc hv hn hm ho h3 h4 hr h0
    go_enter Try.func19, Try.ntmps19
    go_wp2_with fail
    refine (unhide HC).mono ?_
    rintro e w1 ⟨rfl, hb1⟩
    have HB1 := hide hb1
    have hlt := (unhide HG).lt
    have hlt1 : g < w1.heap.size := Nat.lt_of_lt_of_le hlt hb1.size
    have HG1 := hide ((unhide HG).below hb1)
    clear hb1 HC c3 c4
    obtain ⟨h0, A1, C1, D1, f1, hr1, h31, h41, ho1, hm1, hn1⟩ := unhide HG1
    have c3 : w1.cell? ⟨g, 3, none⟩ = some (.slice A1 T.length C1) := by rw [hr1.cell (by omega), h31]
    have HO1 := hide ho1
    have HR1 := hide hr1
    have HM1 := hide hm1
    have HN1 := hide hn1
    have H41 := hide h41
    clear ho1 hr1 hm1 hn1 h31 h41
    go_wp2_with (at_builtin; refine appS _ rfl _ _ rfl (g + 1) _ T.length T rfl (unhide HO1) _ _ rfl rfl hT hlt1 ?_; intro g2 cap2 w2 hown2 hbel2; obtain ⟨q1, q2, q3, w4, q4, q5, q6⟩ := after_app h0 (unhide HR1) (unhide H41) (unhide HM1) (unhide HN1) hs hT (unhide HM) hown2 hbel2; clear hown2 hbel2)
    go_ret
    refine ⟨⟨T.length, rfl, by rw [nx_new (unhide HM)]; simp⟩, by rw [nx_new (unhide HM)]; exact unhide q5, ?_⟩
    exact ((unhide HB1).mono (by omega)).trans (unhide q6)

set_option maxHeartbeats 400000 in
/-- grades.ZZIntern. -/
theorem zzintern_any (m g : Nat) (T : List ByteArray) (s : ByteArray) (w : World) (h : Gr w m g T) (hs : s.size ≤ 1048576) (hT : T.length ≤ 1048576) :
    Calls Try.prog 8 #[.pointer (some ⟨g, 0, none⟩), .string s] w fun e w' => (∃ i : Nat, e = .returned (.int .i32 i) ∧ (nx T s)[i]? = some s) ∧ Gr w' m g (nx T s) ∧ Below m w w' := by
  have H := hide (intern_any m g T s w h hs hT)
  clear h
  go_enter Try.func8, Try.ntmps8
  go_wp2_with fail
  refine (unhide H).mono ?_
  rintro e w1 ⟨⟨i, rfl, hi⟩, hg, hb⟩
  have HI := hide hi
  have HG := hide hg
  have HB := hide hb
  clear hi hg hb
  go_wp2_with fail
  go_ret
  exact ⟨⟨i, rfl, unhide HI⟩, unhide HG, unhide HB⟩

set_option maxHeartbeats 400000 in
/-- grades.ZZTexts. -/
theorem texts_any (m g : Nat) (T : List ByteArray) (w : World) (h : Gr w m g T) :
    Calls Try.prog 13 #[.pointer (some ⟨g, 0, none⟩)] w fun e w' => (∃ A C, e = .returned (.slice A T.length C) ∧ w.ownsRow (g + 1) 9 1 (.slice A T.length C) T.length (T.map Value.string)) ∧ w = w' := by
  obtain ⟨h0, A, C, D, f, hr, h3, h4, ho, hm, hn⟩ := h
  have c3 : w.cell? ⟨g, 3, none⟩ = some (.slice A T.length C) := by rw [hr.cell (by omega), h3]
  have HO := hide ho
  clear hr h3 h4 ho hm hn
  go_enter Try.func13, Try.ntmps13
  go_wp2_with fail
  go_ret
  exact ⟨⟨A, C, rfl, unhide HO⟩, rfl⟩
end Go.Proofs.Qxb6003126a

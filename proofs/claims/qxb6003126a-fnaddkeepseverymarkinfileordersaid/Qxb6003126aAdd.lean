import Derived.Test.Qxb6003126aMarks
namespace Go.Proofs.Qxb6003126a.Marks
open Go.RowKit Go.Proofs.Qxb6003126a

theorem Try.info57 : (Try.prog.info? 57).map (fun i => (i.zero, i.size, i.bytes)) = some (some (.agg #[.int .i32 0, .int .i16 0, .int .i32 0, .int .i32 0]), 4, 16) := by kernel_rfl
theorem Try.info60 : (Try.prog.info? 60).map (fun i => (i.zero, i.size, i.bytes)) = some (some (.slice none 0 0), 1, 24) := by kernel_rfl

/-- How many chunks hold c marks, and how many the j-th holds. -/
def nch (c : Nat) : Nat := (c + 4095) / 4096
def ln (c j : Nat) : Nat := min 4096 (c - 4096 * j)

/-- The Grades at block g holds the first c marks of R. -/
def Mk (w : World) (g c : Nat) (R : Nat → Nat → Int) : Prop :=
  ∃ (f : Nat → Value) (A : Option Addr) (C : Nat) (cb cc : Nat → Nat), w.rowIs g 53 6 f ∧ f 1 = .slice A (nch c) C ∧ f 2 = .int .i32 c ∧ Ch w g (nch c) A C (ln c) cb cc R

theorem Mk.made (w : World) (R : Nat → Nat → Int) : Mk (((w.alloc (.map #[] 0)).alloc (.map #[] 0)).alloc (.cells #[.map (some w.heap.size), .slice none 0 0, .int .i32 0, .slice none 0 0, .map (some (w.heap.size + 1)), .int .i64 0] 53)) (w.heap.size + 2) 0 R := by
  refine ⟨fun i => (#[.map (some w.heap.size), .slice none 0 0, .int .i32 0, .slice none 0 0, .map (some (w.heap.size + 1)), .int .i64 0] : Array Value)[i]?.getD (.bool false), none, 0, fun _ => 0, fun _ => 0, ?_, rfl, rfl, Ch.nil _ _ _ _ _ _⟩
  have h := World.rowIs_alloc ((w.alloc (.map #[] 0)).alloc (.map #[] 0)) #[.map (some w.heap.size), .slice none 0 0, .int .i32 0, .slice none 0 0, .map (some (w.heap.size + 1)), .int .i64 0] 53 (fun i => (#[.map (some w.heap.size), .slice none 0 0, .int .i32 0, .slice none 0 0, .map (some (w.heap.size + 1)), .int .i64 0] : Array Value)[i]?.getD (.bool false)) (fun i hi => by rw [Array.getElem?_eq_getElem hi]; rfl)
  simpa using h


theorem box_row (w : World) (a b c d : Value) : (w.alloc (.cells #[a, b, c, d] 57)).rowIs w.heap.size 57 4 (fun i => ([a, b, c, d] : List Value)[i]?.getD (.bool false)) := by
  have h := World.rowIs_alloc w #[a, b, c, d] 57 (fun i => ([a, b, c, d] : List Value)[i]?.getD (.bool false)) (fun i hi => by
    have : i < 4 := hi
    have h4 : i = 0 ∨ i = 1 ∨ i = 2 ∨ i = 3 := by omega
    rcases h4 with rfl | rfl | rfl | rfl <;> rfl)
  exact h

theorem box_cells (W : World) (a b c d : Value) : ∀ j u, ([a, b, c, d] : List Value)[j]? = some u → (W.alloc (.cells #[a, b, c, d] 57)).cell? ((⟨W.heap.size, 0, none⟩ : Addr).add j) = some u := by
  intro j u hu
  have hj : j < 4 := (List.getElem?_eq_some_iff.1 hu).1
  rw [Addr.add_lit, Nat.zero_add, (box_row W a b c d).cell hj, hu]
  rfl

theorem drewNB {B m : Nat} {a w : World} (h : Below B a w) : Below B a (w.drewN m) := ⟨h.os, h.tape, h.output, h.size, h.block⟩

theorem ln_last {c n : Nat} (hn : c / 4096 = n) : ln c n = c % 4096 := by unfold ln; omega
theorem ln_next {c n : Nat} (hn : c / 4096 = n) : ∀ j, j < n + 1 → upd (ln c) n (c % 4096 + 1) j = ln (c + 1) j := by
  intro j hj
  unfold upd ln
  split <;> omega
theorem nch_next {c n : Nat} (hn : c / 4096 = n) : nch (c + 1) = n + 1 := by unfold nch; omega

/-- '*last = append(*last, m)', at its place in the region that draws. -/
theorem stepM (W : World) {ops : Array Oper} {o : Oper} {a : Act} {K : Act → World → Prop} {Q : Exit → Act → World → Prop} {E : Prop} (hgd : o.guard = none) (s x : Operand)
    (ho : o.op = .call { callee := .builtin .append, args := #[s, x], argTypes := #[60, 60] }) {g c n mb C : Nat} {f : Nat → Value} {cb cc : Nat → Nat} {R : Nat → Nat → Int}
    (hrow : W.rowIs g 53 6 f) (h1 : f 1 = .slice (some ⟨mb, 0, none⟩) (n + 1) C) (h2 : f 2 = .int .i32 c) (hch : Ch W g (n + 1) (some ⟨mb, 0, none⟩) C (ln c) cb cc R) (hn : c / 4096 = n)
    (hs : a.eval s = .slice (some ⟨cb n, 0, none⟩) (c % 4096) (cc n)) (H : Nat) (hH : W.heap.size = H) (hx : a.eval x = .slice (some ⟨H, 0, none⟩) 1 1)
    (h : ∀ g2 cap2 w', w'.frozen? ⟨mb, n, none⟩ = false → w'.cell? ⟨mb, n, none⟩ = some (hd (ln c) cb cc n) →
      (w'.setCell ⟨mb, n, none⟩ (.slice (some ⟨g2, 0, none⟩) (c % 4096 + 1) cap2)).cell? ⟨g, 2, none⟩ = some (.int .i32 c) → (w'.setCell ⟨mb, n, none⟩ (.slice (some ⟨g2, 0, none⟩) (c % 4096 + 1) cap2)).frozen? ⟨g, 2, none⟩ = false →
      Hid (Mk ((w'.setCell ⟨mb, n, none⟩ (.slice (some ⟨g2, 0, none⟩) (c % 4096 + 1) cap2)).setCell ⟨g, 2, none⟩ (.int .i32 ((c : Int) + 1))) g (c + 1) R) →
      Hid (Below g W ((w'.setCell ⟨mb, n, none⟩ (.slice (some ⟨g2, 0, none⟩) (c % 4096 + 1) cap2)).setCell ⟨g, 2, none⟩ (.int .i32 ((c : Int) + 1)))) → K (a.put o.dst (.slice (some ⟨g2, 0, none⟩) (c % 4096 + 1) cap2)) w') :
    if Region.wanted o (yielded ops a.tmps) = true then Oper.wp Try.prog o a (W.alloc (.cells #[.int .i32 (R c 0), .int .i16 (R c 1), .int .i32 (R c 2), .int .i32 (R c 3)] 57)) K Q else E := by
  subst hH
  obtain ⟨i0, hi, hz0, hz1, hz2⟩ := info_parts Try.info57
  have ek : 4096 * n + c % 4096 = c := by omega
  have hl := ln_last hn
  have hgl := hrow.lt
  have hown := hch.2.1 n (by omega)
  rw [hl] at hown
  have hv : hd (ln c) cb cc n = .slice (some ⟨cb n, 0, none⟩) (c % 4096) (cc n) := by unfold hd; rw [hl]
  rw [hv] at hown
  refine step_append_lies (W.alloc (.cells #[.int .i32 (R c 0), .int .i16 (R c 1), .int .i32 (R c 2), .int .i32 (R c 3)] 57)) hgd s x 60 ho (g + 1) 57 i0 _ 4 16 Try.underlying60 hi hz0 hz1 hz2 rfl (by decide) _ (c % 4096) (ck R (4096 * n) (c % 4096)) hs (hown.alloc _) ⟨W.heap.size, 0, none⟩ 1 1 [.int .i32 (R c 0), .int .i16 (R c 1), .int .i32 (R c 2), .int .i32 (R c 3)] hx rfl (box_cells W _ _ _ _) (by simp [Value.oneCell']) (by decide) (by unfold maxLen; omega) (by omega) (by simp; omega) (W.heap.size + 1) (by simp) ?_
  intro g2 cap2 w' q1 q2 q3 q4
  have e4 : ([.int .i32 (R c 0), .int .i16 (R c 1), .int .i32 (R c 2), .int .i32 (R c 3)] : List Value) = cell4 R (4096 * n + c % 4096) := by rw [ek]; rfl
  rw [e4] at q1
  have q2' : (W.alloc (.cells (cell4 R (4096 * n + c % 4096)).toArray 57)).grownBy w' (some (cb n)) := by rw [← e4]; exact q2
  have q3' : cb n = g2 ∨ g2 = W.heap.size + 1 := by simpa [Value.ownBlock] using q3
  obtain ⟨p1, p2, p3, p4⟩ := hch.push hl q1 q2' q3'
  have hcb := (hown.lt (cb n) rfl).1
  have hrw : w'.rowIs g 53 6 f := (hrow.alloc _).of_block (q2'.block g (by simp; omega) (by simp; omega))
  have hr1 := hrw.setOther (a := ⟨mb, n, none⟩) (show g ≠ mb by omega) (.slice (some ⟨g2, 0, none⟩) (c % 4096 + 1) cap2)
  have hr2 := hr1.set 2 (.int .i32 ((c : Int) + 1))
  refine h g2 cap2 w' p2 p3 (by rw [hr1.cell (by omega), h2]) (hr1.frozen 2) ?_ ?_
  · refine ⟨_, some ⟨mb, 0, none⟩, C, upd cb n g2, upd cc n cap2, hr2, ?_, ?_, ?_⟩
    · rw [nch_next hn]; simpa using h1
    · simp
    · rw [nch_next hn]
      exact (p1.set (a := ⟨g, 2, none⟩) (show g < g + 1 by omega) _).congr (ln_next hn)
  · exact ((((Below.refl g W).alloc (by omega) _).grown q2' (by simp; omega) (fun k hk => by simp at hk; omega)).setCell (p := ⟨mb, n, none⟩) (show g ≤ mb by omega) _).setCell (p := ⟨g, 2, none⟩) (Nat.le_refl _) _

set_option maxHeartbeats 1000000 in
/-- (*Grades).add, where the last chunk has room. -/
theorem add_room (g c n : Nat) (R : Nat → Nat → Int) (w : World) (h : Mk w g c R) (hc : c < 65536) (hn : c / 4096 = n) (hr : ¬ c % 4096 = 0) :
    Calls Try.prog 20 #[.pointer (some ⟨g, 0, none⟩), .agg #[.int .i32 (R c 0), .int .i16 (R c 1), .int .i32 (R c 2), .int .i32 (R c 3)]] w fun e w' => e = .returned (.tuple #[]) ∧ Mk w' g (c + 1) R ∧ Below g w w' := by
  obtain ⟨f, A, C, cb, cc, hrow, h1, h2, hch⟩ := h
  have en : nch c = n + 1 := by unfold nch; omega
  rw [en] at h1 hch
  obtain ⟨mb, C', e, hm1, hm2⟩ := hch.1.form (by omega)
  cases e
  have hl : ln c n = c % 4096 := by unfold ln; omega
  have hgl := hrow.lt
  have HR := hide (hrow.alloc (.cells #[.int .i32 (R c 0), .int .i16 (R c 1), .int .i32 (R c 2), .int .i32 (R c 3)] 57))
  have HC := hide (hch.alloc (.cells #[.int .i32 (R c 0), .int .i16 (R c 1), .int .i32 (R c 2), .int .i32 (R c 3)] 57))
  have HX := hide (box_row w (.int .i32 (R c 0)) (.int .i16 (R c 1)) (.int .i32 (R c 2)) (.int .i32 (R c 3)))
  have HB := hide ((Below.refl g w).alloc (Nat.le_of_lt hgl) (.cells #[.int .i32 (R c 0), .int .i16 (R c 1), .int .i32 (R c 2), .int .i32 (R c 3)] 57))
  have hc0 : (c : Int) < 65536 := by omega
  have b1 : ((c : Int) % 4096 == 0) = false := by simp; omega
  have c2 : (w.alloc (.cells #[.int .i32 (R c 0), .int .i16 (R c 1), .int .i32 (R c 2), .int .i32 (R c 3)] 57)).cell? ⟨g, 2, none⟩ = some (.int .i32 c) := by rw [(unhide HR).cell (by omega), h2]
  clear hrow hch
  go_enter Try.func20, Try.ntmps20
  go_wp2_with fail
  obtain ⟨W, hW⟩ : ∃ W, W = w.alloc (.cells #[.int .i32 (R c 0), .int .i16 (R c 1), .int .i32 (R c 2), .int .i32 (R c 3)] 57) := ⟨_, rfl⟩
  rw [← hW] at HR HC HX HB c2 ⊢
  have hlt : w.heap.size < W.heap.size := by rw [hW]; simp
  clear hW
  have c1 : W.cell? ⟨g, 1, none⟩ = some (.slice (some ⟨mb, 0, none⟩) (n + 1) C) := by rw [(unhide HR).cell (by omega), h1]
  have hm0 := (unhide HC).2.1 n (by omega)
  have hn1 : (n : Int) < 16 := by omega
  have k0 := (unhide HX).cell (i := 0) (by omega)
  have k1 := (unhide HX).cell (i := 1) (by omega)
  have k2 := (unhide HX).cell (i := 2) (by omega)
  have k3 := (unhide HX).cell (i := 3) (by omega)
  have c3 := (unhide HC).1.cellAt n (by omega)
  rw [List.getElem?_map, List.getElem?_range (by omega)] at c3
  simp only [Option.map_some, hd, ln_last hn] at c3
  have c4 : ∀ m, ((W.drewN m).alloc (.cells #[.int .i32 (R c 0), .int .i16 (R c 1), .int .i32 (R c 2), .int .i32 (R c 3)] 57)).cell? ⟨mb, n, none⟩ = some (.slice (some ⟨cb n, 0, none⟩) (c % 4096) (cc n)) := fun m => by
    have h := ((show Ch (W.drewN m) g (n + 1) (some ⟨mb, 0, none⟩) C (ln c) cb cc R from unhide HC).alloc (.cells #[.int .i32 (R c 0), .int .i16 (R c 1), .int .i32 (R c 2), .int .i32 (R c 3)] 57)).1.cellAt n (by omega)
    rw [List.getElem?_map, List.getElem?_range (by omega)] at h
    simpa only [Option.map_some, hd, ln_last hn] using h
  clear hm0
  go_quiet (fail)
  go_wp2_with fail
  go_region_law (refine stepM _ rfl (.tmp 35) (.tmp 37) rfl (unhide HR) h1 h2 (unhide HC) hn rfl W.heap.size rfl rfl ?_; intro g2 cap2 w2 z1 z2 z3 z4 z5 z6)
  all_goals
    go_wp2_with fail
    go_end0
    exact ⟨rfl, unhide z5, (drewNB (unhide HB)).trans (unhide z6)⟩

/-- 'g.marks = append(g.marks, make([]mark, 0, 4096))', at its place in the region that draws. -/
theorem stepC (W : World) {ops : Array Oper} {o : Oper} {a : Act} {K : Act → World → Prop} {Q : Exit → Act → World → Prop} {E : Prop} (hgd : o.guard = none) (s x : Operand)
    (ho : o.op = .call { callee := .builtin .append, args := #[s, x], argTypes := #[51, 51] }) {g c n C : Nat} {A : Option Addr} {f : Nat → Value} {cb cc : Nat → Nat} {R : Nat → Nat → Int} {cur : Array Value}
    (hrow : W.rowIs g 53 6 f) (hch : Ch W g n A C (ln c) cb cc R) (hn : c / 4096 = n) (hc : c < 65536) (hr : c % 4096 = 0) (hcur : cur.size = 4096 * 4)
    (hs : a.eval s = .slice A n C) (H : Nat) (hH : W.heap.size = H) (hx : a.eval x = .slice (some ⟨H + 1, 0, none⟩) 1 1)
    (h : ∀ g2 cap2 w', w'.frozen? ⟨g, 1, none⟩ = false → w'.cell? ⟨g, 1, none⟩ = some (f 1) →
      Hid ((w'.setCell ⟨g, 1, none⟩ (.slice (some ⟨g2, 0, none⟩) (n + 1) cap2)).rowIs g 53 6 (fun i => if i = 1 then .slice (some ⟨g2, 0, none⟩) (n + 1) cap2 else f i)) →
      Hid (Ch (w'.setCell ⟨g, 1, none⟩ (.slice (some ⟨g2, 0, none⟩) (n + 1) cap2)) g (n + 1) (some ⟨g2, 0, none⟩) cap2 (ln c) (upd cb n H) (upd cc n 4096) R) →
      Hid (W.grownBy w' (Value.slice A n C).ownBlock) → Hid (g + 1 ≤ g2) → K (a.put o.dst (.slice (some ⟨g2, 0, none⟩) (n + 1) cap2)) w') :
    if Region.wanted o (yielded ops a.tmps) = true then Oper.wp Try.prog o a ((W.alloc (.cells cur 57)).alloc (.cells #[.slice (some ⟨H, 0, none⟩) 0 4096] 60)) K Q else E := by
  subst hH
  obtain ⟨i0, hi, hz0, hz1, hz2⟩ := info_parts Try.info60
  have hgl := hrow.lt
  have hl : ln c n = 0 := by rw [ln_last hn]; exact hr
  refine step_append_lies ((W.alloc (.cells cur 57)).alloc (.cells #[.slice (some ⟨W.heap.size, 0, none⟩) 0 4096] 60)) hgd s x 51 ho (g + 1) 60 i0 _ 1 24 Try.underlying51 hi hz0 hz1 hz2 rfl (by decide) _ n ((List.range n).map (hd (ln c) cb cc)) hs ((hch.1.alloc _).alloc _) ⟨W.heap.size + 1, 0, none⟩ 1 1 [.slice (some ⟨W.heap.size, 0, none⟩) 0 4096] hx rfl ?_ (by simp [Value.oneCell']) (by decide) (by unfold maxLen; omega) (by omega) (by simp; omega) (W.heap.size + 2) (by simp) ?_
  · have h1 := cell_one_new (W.alloc (.cells cur 57)) (.slice (some ⟨W.heap.size, 0, none⟩) 0 4096) 60
    simpa using h1
  intro g2 cap2 w' q1 q2 q3 q4
  have hA : ∀ k, (Value.slice A n C).ownBlock = some k → g + 1 ≤ k := fun k hk => (hch.1.lt k hk).1
  have hrw : w'.rowIs g 53 6 f := ((hrow.alloc _).alloc _).of_block (q2.block g (by simp; omega) (fun e => by have := hA g e.symm; omega))
  have hch2 := hch.fresh hl hgl hcur q1 q2 q3
  refine h g2 cap2 w' (hrw.frozen 1) (hrw.cell (by omega)) (hrw.set 1 _) (hch2.set (a := ⟨g, 1, none⟩) (show g < g + 1 by omega) _) ?_ (q1.lt g2 rfl).1
  exact ⟨q2.os, q2.tape, q2.output, by have := q2.size; simp at this; omega, fun k hk hne => by
    rw [q2.block k (by simp; omega) hne, Below.heap_alloc _ _ _ (by simp; omega), Below.heap_alloc _ _ _ hk]⟩

set_option maxHeartbeats 2000000 in
/-- (*Grades).add, where a new chunk is laid. -/
theorem add_fresh (g c n : Nat) (R : Nat → Nat → Int) (w : World) (h : Mk w g c R) (hc : c < 65536) (hn : c / 4096 = n) (hr : c % 4096 = 0) :
    Calls Try.prog 20 #[.pointer (some ⟨g, 0, none⟩), .agg #[.int .i32 (R c 0), .int .i16 (R c 1), .int .i32 (R c 2), .int .i32 (R c 3)]] w fun e w' => e = .returned (.tuple #[]) ∧ Mk w' g (c + 1) R ∧ Below g w w' := by
  obtain ⟨f, A, C, cb, cc, hrow, h1, h2, hch⟩ := h
  have en : nch c = n := by unfold nch; omega
  rw [en] at h1 hch
  have hgl := hrow.lt
  have HR := hide (hrow.alloc (.cells #[.int .i32 (R c 0), .int .i16 (R c 1), .int .i32 (R c 2), .int .i32 (R c 3)] 57))
  have HC := hide (hch.alloc (.cells #[.int .i32 (R c 0), .int .i16 (R c 1), .int .i32 (R c 2), .int .i32 (R c 3)] 57))
  have HX := hide (box_row w (.int .i32 (R c 0)) (.int .i16 (R c 1)) (.int .i32 (R c 2)) (.int .i32 (R c 3)))
  have HB := hide ((Below.refl g w).alloc (Nat.le_of_lt hgl) (.cells #[.int .i32 (R c 0), .int .i16 (R c 1), .int .i32 (R c 2), .int .i32 (R c 3)] 57))
  have hc0 : (c : Int) < 65536 := by omega
  have b1 : ((c : Int) % 4096 == 0) = true := by simp; omega
  have c2 : (w.alloc (.cells #[.int .i32 (R c 0), .int .i16 (R c 1), .int .i32 (R c 2), .int .i32 (R c 3)] 57)).cell? ⟨g, 2, none⟩ = some (.int .i32 c) := by rw [(unhide HR).cell (by omega), h2]
  have hA : ∀ k, (Value.slice A n C).ownBlock = some k → g + 1 ≤ k ∧ k < w.heap.size := fun k hk => hch.1.lt k hk
  obtain ⟨i0, hi, hz0, hz1, hz2⟩ := info_parts Try.info57
  obtain ⟨M, hM⟩ : ∃ M, M = madeCells (Value.agg #[.int .i32 0, .int .i16 0, .int .i32 0, .int .i32 0]).cells ((4096 : Int).toNat * i0.size) := ⟨_, rfl⟩
  have hMs : M.size = 4096 * 4 := by rw [hM, size_madeCells, hz1]; rfl
  have hmk : ∀ W : World, (Instr.makeSlice 60 (.int .i64 0) (.int .i64 4096)).run Try.prog W = .ok (.slice (some ⟨W.heap.size, 0, none⟩) 0 4096) (W.alloc (.cells M 57)) := fun W => by
    have h := run_make (P := Try.prog) W 60 57 i0 _ Try.underlying60 hi hz0 .i64 .i64 0 4096 (by omega) (by omega) (by rw [hz2]; omega) (by omega)
    rw [← hM] at h
    simpa using h
  clear hM hi hz0 hz1 hz2 i0
  have HZ := hide hr
  clear hrow hch hr
  go_enter Try.func20, Try.ntmps20
  go_wp2_with fail
  obtain ⟨W, hW⟩ : ∃ W, W = w.alloc (.cells #[.int .i32 (R c 0), .int .i16 (R c 1), .int .i32 (R c 2), .int .i32 (R c 3)] 57) := ⟨_, rfl⟩
  rw [← hW] at HR HC HX HB c2 ⊢
  have hlt : w.heap.size < W.heap.size := by rw [hW]; simp
  clear hW
  have c1 : W.cell? ⟨g, 1, none⟩ = some (.slice A n C) := by rw [(unhide HR).cell (by omega), h1]
  have c4 : ∀ o, (W.alloc o).cell? ⟨g, 1, none⟩ = some (.slice A n C) := fun o => by rw [((unhide HR).alloc o).cell (by omega), h1]
  have c5 : ∀ o o', ((W.alloc o).alloc o').cell? ⟨g, 1, none⟩ = some (.slice A n C) := fun o o' => by rw [(((unhide HR).alloc o).alloc o').cell (by omega), h1]
  go_region_law (refine stepC W.drew rfl (.tmp 15) (.tmp 17) rfl (unhide HR) (unhide HC) hn hc (unhide HZ) hMs rfl W.heap.size rfl rfl ?_; intro m2 C2 wf y1 y2 y3 y4 y5 y6)
  all_goals
    have HX2 : Hid ((wf.setCell ⟨g, 1, none⟩ (.slice (some ⟨m2, 0, none⟩) (n + 1) C2)).rowIs w.heap.size 57 4 (fun i => ([.int .i32 (R c 0), .int .i16 (R c 1), .int .i32 (R c 2), .int .i32 (R c 3)] : List Value)[i]?.getD (.bool false))) :=
      World.rowIs.setOther (World.rowIs.of_block (unhide HX) ((unhide y5).block w.heap.size hlt (fun e => by have := hA _ e.symm; omega))) (a := ⟨g, 1, none⟩) (show w.heap.size ≠ g by omega) _
    have HB2 : Hid (Below g w (wf.setCell ⟨g, 1, none⟩ (.slice (some ⟨m2, 0, none⟩) (n + 1) C2))) :=
      (((unhide HB).drew).grown (unhide y5) (show g ≤ W.heap.size by omega) (fun k hk => by have := hA _ hk; omega)).setCell (p := ⟨g, 1, none⟩) (Nat.le_refl _) _
    clear HX HB c1 c2 c4 c5 y5 HC HZ b1
    obtain ⟨W2, hW2⟩ : ∃ W2, W2 = wf.setCell ⟨g, 1, none⟩ (.slice (some ⟨m2, 0, none⟩) (n + 1) C2) := ⟨_, rfl⟩
    obtain ⟨f', hf'⟩ : ∃ f' : Nat → Value, f' = (fun i => if i = 1 then .slice (some ⟨m2, 0, none⟩) (n + 1) C2 else f i) := ⟨_, rfl⟩
    obtain ⟨cb', hcb'⟩ : ∃ cb', cb' = upd cb n W.heap.size := ⟨_, rfl⟩
    obtain ⟨cc', hcc'⟩ : ∃ cc', cc' = upd cc n 4096 := ⟨_, rfl⟩
    rw [← hW2] at HX2 HB2 y3 y4 ⊢
    rw [← hf'] at y3
    rw [← hcb', ← hcc'] at y4
    have h1' : f' 1 = .slice (some ⟨m2, 0, none⟩) (n + 1) C2 := by rw [hf']; rfl
    have h2' : f' 2 = .int .i32 c := by rw [hf']; exact h2
    have HR2 := y3
    have HC2 := y4
    clear y1 y2 y3 y4 hf' hcb' hcc' hW2 HR hmk
    have c1 : W2.cell? ⟨g, 1, none⟩ = some (.slice (some ⟨m2, 0, none⟩) (n + 1) C2) := by rw [(unhide HR2).cell (by omega), h1']
    have c2 : W2.cell? ⟨g, 2, none⟩ = some (.int .i32 c) := by rw [(unhide HR2).cell (by omega), h2']
    go_wp2_with fail
    have hm0 := (unhide HC2).2.1 n (by omega)
    have hn1 : (n : Int) < 16 := by omega
    have k0 := (unhide HX2).cell (i := 0) (by omega)
    have k1 := (unhide HX2).cell (i := 1) (by omega)
    have k2 := (unhide HX2).cell (i := 2) (by omega)
    have k3 := (unhide HX2).cell (i := 3) (by omega)
    have c3 := (unhide HC2).1.cellAt n (by omega)
    rw [List.getElem?_map, List.getElem?_range (by omega)] at c3
    simp only [Option.map_some, hd, ln_last hn] at c3
    have c4 : ∀ m, ((W2.drewN m).alloc (.cells #[.int .i32 (R c 0), .int .i16 (R c 1), .int .i32 (R c 2), .int .i32 (R c 3)] 57)).cell? ⟨m2, n, none⟩ = some (.slice (some ⟨cb' n, 0, none⟩) (c % 4096) (cc' n)) := fun m => by
      have h := ((show Ch (W2.drewN m) g (n + 1) (some ⟨m2, 0, none⟩) C2 (ln c) cb' cc' R from unhide HC2).alloc (.cells #[.int .i32 (R c 0), .int .i16 (R c 1), .int .i32 (R c 2), .int .i32 (R c 3)] 57)).1.cellAt n (by omega)
      rw [List.getElem?_map, List.getElem?_range (by omega)] at h
      simpa only [Option.map_some, hd, ln_last hn] using h
    clear hm0
    go_quiet (fail)
    go_wp2_with fail
    go_region_law (refine stepM _ rfl (.tmp 35) (.tmp 37) rfl (unhide HR2) h1' h2' (unhide HC2) hn rfl W2.heap.size rfl rfl ?_; intro g2 cap2 w2 z1 z2 z3 z4 z5 z6)
    all_goals
      go_wp2_with fail
      go_end0
      exact ⟨rfl, unhide z5, (drewNB (unhide HB2)).trans (unhide z6)⟩
end Go.Proofs.Qxb6003126a.Marks

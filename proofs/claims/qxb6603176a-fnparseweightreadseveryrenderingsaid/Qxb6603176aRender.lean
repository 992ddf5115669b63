import Derived.Test.Qxb6603176aWeight
import Derived.Deep.AppendLies
import Derived.Maps.AppendAt
import Derived.Laws.BytesArg
namespace Go.Proofs.Qxb6603176a
open Go.RowKit

theorem Try.info5 : (Try.prog.info? 5).map (fun i => (i.zero, i.size, i.bytes)) = some (some (.int .u8 0), 1, 1) := by kernel_rfl

/-- 'append(b, c)': b a row of bytes of the call's own. -/
theorem app1 (w : World) {ops : Array Oper} {rest : List Oper} {o : Oper} {a : Act} {Q : Exit → Act → World → Prop} (hgd : o.guard = none) (s x : Operand)
    (ho : o.op = .call { callee := .builtin .append, args := #[s, x], argTypes := #[34, 34] })
    (B : Nat) (v : Value) (n : Nat) (zs : List Int) (hs : a.eval s = v) (hown : w.ownsRow B 5 1 v n (zs.map (Value.int .u8))) (y : Int) (H : Nat) (hH : w.heap.size = H) (hx : a.eval x = .slice (some ⟨H, 0, none⟩) 1 1)
    (hn : n ≤ 1048576) (hB : B ≤ w.heap.size)
    (h : ∀ g cap w', w'.ownsRow B 5 1 (.slice (some ⟨g, 0, none⟩) (n + 1) cap) (n + 1) ((zs ++ [y]).map (Value.int .u8)) → Below B w w' → B ≤ w'.heap.size → wpList Try.prog ops Q rest (a.put o.dst (.slice (some ⟨g, 0, none⟩) (n + 1) cap)) w') :
    wpList Try.prog ops Q (o :: rest) a (w.alloc (.cells #[.int .u8 y] 5)) := by
  subst hH
  obtain ⟨i0, hi, hz0, hz1, hz2⟩ := info_parts Try.info5
  refine wpList_append_lies (w.alloc (.cells #[.int .u8 y] 5)) hgd s x 34 ho B 5 i0 (.int .u8 0) 1 1 Try.underlying34 hi hz0 hz1 hz2 rfl (by decide) v n (zs.map (Value.int .u8)) hs (hown.alloc _) ⟨w.heap.size, 0, none⟩ 1 1 [.int .u8 y] hx rfl (cell_one_new _ _ _) (ints_oneCell .u8 [y]) (by decide) (by unfold maxLen; omega) (by omega) (by simp; omega) _ rfl ?_
  intro g cap w' h1 h2 h3 h4
  have hg : ∀ k, v.ownBlock = some k → B ≤ k := fun k hk => (hown.lt k hk).1
  refine h g cap w' (by simpa using h1) (((Below.refl B w).alloc hB _).grown h2 (by simp; omega) hg) (by have := h2.size; simp at this; omega)

theorem own_first (w : World) (y : Int) : (w.alloc (.cells #[.int .u8 y] 5)).ownsRow w.heap.size 5 1 (.slice (some ⟨w.heap.size, 0, none⟩) 1 1) 1 ([y].map (Value.int .u8)) :=
  ⟨by simp, .inr ⟨w.heap.size, 1, #[.int .u8 y], rfl, Nat.le_refl _, heap_alloc_new w _, Nat.le_refl _, by unfold maxLen; omega, rfl, by simp⟩⟩

/-- 'string(b)', b a row of the call's own. -/
theorem own_str {w : World} {B g n cap : Nat} {zs : List Int} (h : w.ownsRow B 5 1 (.slice (some ⟨g, 0, none⟩) n cap) n (zs.map (Value.int .u8))) (hn : zs.length = n) :
    (convert 34 9 (.slice (some ⟨g, 0, none⟩) n cap)).run Try.prog w = .ok (.string (strOfNums zs)) w :=
  run_convert_bytes_arg (P := Try.prog) w 34 5 Try.underlying34 Try.underlying5 g 0 n cap zs hn (fun i hi => by
    rw [Nat.zero_add, h.cellAt i (by omega)]
    have : i < zs.length := by omega
    simp [List.getD, this]) 9 Try.underlying9

theorem nums_str (zs : List Int) (h : ∀ z ∈ zs, 0 ≤ z ∧ z ≤ 255) : nums (strOfNums zs) = zs := by
  unfold nums
  rw [strOfNums_data, List.map_map]
  refine (List.map_congr_left (fun z hz => ?_)).trans (List.map_id _)
  have := h z hz
  simp
  omega

/-- The place of digit k. -/
def pl (k : Nat) : Int := if k = 0 then 100 else if k = 1 then 10 else if k = 2 then 1 else 0
theorem pl0 : pl 0 = 100 := rfl
theorem pl1 : pl 1 = 10 := rfl
theorem pl2 : pl 2 = 1 := rfl
theorem pl_step (k : Nat) : pl (k + 1) = pl k / 10 := by
  unfold pl
  by_cases h0 : k = 0
  · subst h0; rfl
  · by_cases h1 : k = 1
    · subst h1; rfl
    · by_cases h2 : k = 2
      · subst h2; rfl
      · simp [h0, h1, h2]
/-- The first k digits. -/
def digs (f : Int) (k : Nat) : List Int := (List.range k).map fun t => 48 + f / pl t % 10
theorem digs_succ (f : Int) (k : Nat) : digs f (k + 1) = digs f k ++ [48 + f / pl k % 10] := by simp [digs, List.range_succ]

theorem digs_byte (f : Int) (k : Nat) : ∀ z ∈ digs f k, 0 ≤ z ∧ z ≤ 255 := by
  intro z hz
  obtain ⟨t, _, rfl⟩ := List.mem_map.1 hz
  omega
theorem byte_list {u : Int} {l : List Int} (h0 : 0 ≤ u) (h1 : u ≤ 255) (hl : ∀ z ∈ l, 0 ≤ z ∧ z ≤ 255) : ∀ z ∈ [u, 46] ++ l, 0 ≤ z ∧ z ≤ 255 := by
  intro z hz
  simp at hz
  rcases hz with rfl | rfl | hz
  · exact ⟨h0, h1⟩
  · omega
  · exact hl z hz
theorem byte_one {u : Int} (h0 : 0 ≤ u) (h1 : u ≤ 255) : ∀ z ∈ [u], 0 ≤ z ∧ z ≤ 255 := by
  intro z hz
  simp at hz
  subst hz
  exact ⟨h0, h1⟩

set_option maxHeartbeats 1000000 in
theorem render_dot (x : Int) (d : Nat) (w : World) (h0 : 0 ≤ x) (h1 : x ≤ 1000) (hd : d ≤ 3) :
    Calls Try.prog 15 #[.int .i64 x, .int .i64 d, .bool true] w fun e w' => (∃ s : ByteArray, e = .returned (.string s) ∧ nums s = [48 + x / 1000, 46] ++ digs (x % 1000) d) ∧ Below w.heap.size w w' := by
  have hd0 : (d : Int) ≤ 3 := by omega
  have HO := hide (own_first w (48 + x / 1000))
  go_enter Try.func15, Try.ntmps15
  go_wp2_with (at_builtin; refine app1 _ rfl _ _ rfl w.heap.size _ 1 [48 + x / 1000] rfl (unhide HO) 46 (w.heap.size + 1) (by simp) rfl (by omega) (by simp) ?_; intro g cap w1 hown1 hbel1 hsz1)
  clear HO
  have E0 := hide hown1
  have E1 := hide (((Below.refl w.heap.size w).alloc (Nat.le_refl _) _).trans hbel1)
  clear hown1 hbel1
  go_loopw [7, 9, 10] (fun v p i wr => ∃ (k g cap : Nat), k ≤ d ∧ i = .int .i64 k ∧ p = .int .i64 (pl k) ∧ v = .slice (some ⟨g, 0, none⟩) (2 + k) cap ∧ wr.ownsRow w.heap.size 5 1 (.slice (some ⟨g, 0, none⟩) (2 + k) cap) (2 + k) (([48 + x / 1000, 46] ++ digs (x % 1000) k).map (Value.int .u8)) ∧ Below w.heap.size w wr ∧ w.heap.size ≤ wr.heap.size) (fun _ _ i _ => d - (intOf i).toNat)
  case atStart => exact ⟨0, g, cap, Nat.zero_le _, rfl, rfl, rfl, unhide E0, unhide E1, hsz1⟩
  case round =>
    obtain ⟨k, g', cap', hk, rfl, rfl, rfl, hown, hbel, hsz⟩ := hrel
    have F0 := hide hown
    have F1 := hide hbel
    clear hown hbel E0 E1
    by_cases hkd : k < d
    · have h3 : (k : Int) < (d : Int) := by omega
      have hk3 : k = 0 ∨ k = 1 ∨ k = 2 := by omega
      have HDS := hide (digs_succ (x % 1000) k)
      have hpl : pl k = 100 ∨ pl k = 10 ∨ pl k = 1 := by rcases hk3 with rfl | rfl | rfl <;> simp [pl]
      have HPS := hide (pl_step k)
      rcases hpl with hp | hp | hp
      all_goals
        have HP := hide hp
        rw [hp]
        clear hp
        go_wp2_with (at_builtin; refine app1 _ rfl _ _ rfl w.heap.size _ (2 + k) ([48 + x / 1000, 46] ++ digs (x % 1000) k) rfl (unhide F0) _ _ rfl rfl (by omega) hsz ?_; intro g2 cap2 w2 hown2 hbel2 hsz2)
        have G0 := hide hown2
        have G1 := hide ((unhide F1).trans hbel2)
        clear hown2 hbel2
        go_wp2_with fail
        go_roundw
        case rel =>
          refine ⟨k + 1, g2, cap2, by omega, by go_num, ?_, rfl, ?_, unhide G1, hsz2⟩
          · rw [unhide HPS, unhide HP]; rfl
          · rw [unhide HDS, unhide HP, ← List.append_assoc]
            have := unhide G0
            first | exact this | (simp only [Int.ediv_one]; rw [show x % 1000 % 10 = x % 10 from by omega]; exact this)
        case measure => simp [intOf]; omega
    · have ek : d = k := by omega
      subst ek
      have h3 : ¬ (d : Int) < (d : Int) := by omega
      have hst := own_str (unhide F0) (by simp [digs]; omega)
      have HN := hide (nums_str ([48 + x / 1000, 46] ++ digs (x % 1000) d) (byte_list (by omega) (by omega) (digs_byte (x % 1000) d)))
      clear F0
      go_wp2_with fail
      go_ret
      exact ⟨⟨_, rfl, unhide HN⟩, unhide F1⟩

set_option maxHeartbeats 1000000 in
theorem render_plain (x : Int) (w : World) (h0 : 0 ≤ x) (h1 : x ≤ 1000) :
    Calls Try.prog 15 #[.int .i64 x, .int .i64 0, .bool false] w fun e w' => (∃ s : ByteArray, e = .returned (.string s) ∧ nums s = [48 + x / 1000]) ∧ Below w.heap.size w w' := by
  have hst := own_str (own_first w (48 + x / 1000)) rfl
  have HN := hide (nums_str [48 + x / 1000] (byte_one (by omega) (by omega)))
  go_enter Try.func15, Try.ntmps15
  go_wp2_with fail
  refine wp_loop_rounds 1 ?_; rw [rounds_succ]
  go_wp2_with fail
  go_ret
  exact ⟨⟨_, rfl, unhide HN⟩, (Below.refl _ _).alloc (Nat.le_refl _) _⟩

set_option maxHeartbeats 400000 in
/-- weightReads. -/
theorem reads_any (s : ByteArray) (x : Int) (w : World) (h : wt (nums s) = (x, true)) : Calls Try.prog 14 #[.string s, .int .i64 x] w fun e w' => e = .returned (.bool true) ∧ w = w' := by
  have H0 := zzparse_any s w
  rw [h] at H0
  have H := hide H0
  clear H0 h
  go_enter Try.func14, Try.ntmps14
  go_wp2_with fail
  refine (unhide H).mono ?_
  rintro e w' ⟨rfl, rfl⟩
  go_wp2_with fail
  go_ret
  exact ⟨rfl, rfl⟩

theorem two_cases {x : Int} (h0 : 0 ≤ x) (h1 : x ≤ 1000) : x = 1000 ∨ x < 1000 := by omega

theorem read_plain {x : Int} (h0 : 0 ≤ x) (h1 : x ≤ 1000) (h : x % 1000 = 0) : wt [48 + x / 1000] = (x, true) := by
  have : x = 0 ∨ x = 1000 := by omega
  rcases this with rfl | rfl <;> rfl
theorem read0 {x : Int} (h0 : 0 ≤ x) (h1 : x ≤ 1000) (h : x % 1000 = 0) : wt ([48 + x / 1000, 46] ++ digs (x % 1000) 0) = (x, true) := by
  have : x = 0 ∨ x = 1000 := by omega
  rcases this with rfl | rfl <;> rfl
theorem read1 {x : Int} (h0 : 0 ≤ x) (h1 : x ≤ 1000) (h : x % 100 = 0) : wt ([48 + x / 1000, 46] ++ digs (x % 1000) 1) = (x, true) := by
  rcases two_cases h0 h1 with rfl | h2
  · rfl
  · show wt [48 + x / 1000, 46, 48 + x % 1000 / 100 % 10] = _
    have e1 : x / 1000 = 0 := by omega
    rw [e1]
    show fr [48 + x % 1000 / 100 % 10] = _
    simp only [fr]
    rw [if_pos (by omega)]
    simp
    omega
theorem read2 {x : Int} (h0 : 0 ≤ x) (h1 : x ≤ 1000) (h : x % 10 = 0) : wt ([48 + x / 1000, 46] ++ digs (x % 1000) 2) = (x, true) := by
  rcases two_cases h0 h1 with rfl | h2
  · rfl
  · show wt [48 + x / 1000, 46, 48 + x % 1000 / 100 % 10, 48 + x % 1000 / 10 % 10] = _
    have e1 : x / 1000 = 0 := by omega
    rw [e1]
    show fr [48 + x % 1000 / 100 % 10, 48 + x % 1000 / 10 % 10] = _
    simp only [fr]
    rw [if_pos (by omega)]
    simp
    omega
theorem read3 {x : Int} (h0 : 0 ≤ x) (h1 : x ≤ 1000) : wt ([48 + x / 1000, 46] ++ digs (x % 1000) 3) = (x, true) := by
  rcases two_cases h0 h1 with rfl | h2
  · rfl
  · show wt [48 + x / 1000, 46, 48 + x % 1000 / 100 % 10, 48 + x % 1000 / 10 % 10, 48 + x % 1000 / 1 % 10] = _
    have e1 : x / 1000 = 0 := by omega
    rw [e1]
    show fr [48 + x % 1000 / 100 % 10, 48 + x % 1000 / 10 % 10, 48 + x % 1000 / 1 % 10] = _
    simp only [fr]
    rw [if_pos (by omega)]
    simp
    omega

end Go.Proofs.Qxb6603176a

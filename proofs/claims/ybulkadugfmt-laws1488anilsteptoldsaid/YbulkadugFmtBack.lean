/-
  LawS1488ANilStep over toys/ybulkadugfmt: (*applier).countBack.
-/
import Derived.Test.YbulkadugFmtApply
import Derived.LoopN
import Derived.BigRegion
namespace Go.Proofs.YbulkadugFmt
open Go.RowKit Go.Maps
attribute [local go_sem ↓] Go.wp_at_zero Go.wp_at_succ

theorem Ybaf.info4 : (Ybaf.prog.info? 4).map (fun i => (i.zero, i.size, i.bytes)) = some (some (.bool false), 1, 1) := by kernel_rfl

theorem made1 (z : Value) : madeCells #[z] 1 = #[z] := by
  unfold madeCells; rw [show Array.range 1 = #[0] by decide]; simp
theorem made2 (z : Value) : madeCells #[z] 2 = #[z, z] := by
  unfold madeCells; rw [show Array.range 2 = #[0, 1] by decide]; simp

theorem clear_empty (w : World) (r : Nat) (hb : w.heap[r]? = some (.map #[] 0)) : Sem.run Ybaf.prog (Builtin.clear_ #[95] 0 #[.map (some r)]) w = .ok (.tuple #[]) w := by
  simp [Builtin.clear_, run_underlying Ybaf.underlying95, MapKept.run_getObj_map hb, MapKept.run_setObj_map _ hb, Result.andThen]
  have : w.heap.setIfInBounds r (.map #[] 0) = w.heap := by
    apply Array.ext_getElem?
    intro k
    rw [Array.getElem?_setIfInBounds]
    by_cases e : r = k
    · subst e
      have := (Array.getElem?_eq_some_iff.1 hb).1
      simp [this]
      exact ((Array.getElem?_eq_some_iff.1 hb).2).symm
    · simp [e]
  rw [this]

theorem law21 : Keyed Ybaf.prog 21 := int_keyed Ybaf.underlying21
theorem zero3 (w : World) : (zeroValue 3).run Ybaf.prog w = .ok (.int .i64 0) w := by kernel_rfl
set_option maxRecDepth 100000 in
theorem look_yes {w : World} {mb s : Nat} (h : w.ownsMap Ybaf.prog 9 (plainElem Ybaf.prog 21) mb 4 (Dk 4)) (h1 : 1 ≤ s) (h4 : s ≤ 4) : (Instr.lookup 71 (.map (some mb)) (.string (selS s)) true).run Ybaf.prog w = .ok (.tuple #[.int .i32 (selI s), .bool true]) w := by
  obtain ⟨v, ps, hrun, hv⟩ := h.look_ok law9 Ybaf.underlying71 (zero21 w) (plainElem_int (q := .i32) Ybaf.underlying21 (by decide)) (WideMaps.keyOf_string_mk Ybaf.underlying9 (selS_small s))
  obtain ⟨hy, hat⟩ := dk_at s h1 h4
  rw [hy] at hrun
  obtain ⟨c, rfl, hc, _⟩ := plainElem_int_inv Ybaf.underlying21 hv
  have := congrArg Prod.fst hc
  simp only at this
  rw [hat] at this
  injection this with this
  injection this with _ this
  rw [hrun, this]
set_option maxRecDepth 100000 in
theorem look_no {w : World} {mb s : Nat} (h : w.ownsMap Ybaf.prog 9 (plainElem Ybaf.prog 21) mb 4 (Dk 4)) (hs : s = 0 ∨ s = 5) : (Instr.lookup 71 (.map (some mb)) (.string (selS s)) true).run Ybaf.prog w = .ok (.tuple #[.int .i32 0, .bool false]) w := by
  obtain ⟨v, ps, hrun, hv⟩ := h.look_ok law9 Ybaf.underlying71 (zero21 w) (plainElem_int (q := .i32) Ybaf.underlying21 (by decide)) (WideMaps.keyOf_string_mk Ybaf.underlying9 (selS_small s))
  have hy : Maps.has (Dk 4) (.string (selS s).data.toList) = false ∧ (Dk 4).atKey (.string (selS s).data.toList) (.lit (.int .i32 0)) = .lit (.int .i32 0) := by
    rcases hs with rfl | rfl
    · exact ⟨by rfl, by rfl⟩
    · exact ⟨by rfl, by rfl⟩
  rw [hy.1] at hrun
  obtain ⟨c, rfl, hc, _⟩ := plainElem_int_inv Ybaf.underlying21 hv
  have := congrArg Prod.fst hc
  simp only at this
  rw [hy.2] at this
  injection this with this
  injection this with _ this
  rw [hrun, ← this]
theorem sel_cases (s : Nat) (h : s ≤ 5) : (1 ≤ s ∧ s ≤ 4 ∧ 0 ≤ selI s ∧ selI s ≤ 3) ∨ ((s = 0 ∨ s = 5) ∧ selI s < 0) := by
  rcases (by omega : s = 0 ∨ s = 1 ∨ s = 2 ∨ s = 3 ∨ s = 4 ∨ s = 5) with rfl | rfl | rfl | rfl | rfl | rfl
  all_goals decide
theorem sel_empty (s : Nat) (h : s ≤ 5) (h0 : s ≠ 0) : (selS s).toList.isEmpty = false := by
  rw [Lib.toList_data]
  rcases (by omega : s = 1 ∨ s = 2 ∨ s = 3 ∨ s = 4 ∨ s = 5) with rfl | rfl | rfl | rfl | rfl
  all_goals decide

theorem map_kp {X : Nat → Prop} {w w' : World} {k b n : Nat} {R : Value → Option (DataW Unit × List MemPlace)} {D : DataW Unit} (h : w.ownsMap Ybaf.prog k R b n D) (hk : Kp X w w') (hX : ¬ X b) : w'.ownsMap Ybaf.prog k R b n D := by
  obtain ⟨es, clock, hb, hr⟩ := h
  exact ⟨es, clock, (hk.block b (Array.getElem?_eq_some_iff.1 hb).1 hX).trans hb, hr⟩
theorem map_none {w : World} {k b : Nat} {R : Value → Option (DataW Unit × List MemPlace)} (h : w.heap[b]? = some (.map #[] 0)) : w.ownsMap Ybaf.prog k R b 0 (.map []) :=
  ⟨#[], 0, h, ⟨by simp, MapKept.stamped_empty 0, by simp⟩, Nat.le_refl _, rfl⟩
theorem net0 {a c : Int} (h : (DataW.map [] : DataW Unit).atKey (.int .i32 a) (.lit (.int .i64 0)) = .lit (.int .i64 c)) : c = 0 := by
  have : (DataW.map [] : DataW Unit).atKey (.int .i32 a) (.lit (.int .i64 0)) = .lit (.int .i64 0) := rfl
  rw [this] at h
  injection h with h
  injection h with _ h
  exact h.symm
theorem net1 {a b c : Int} (h : ((DataW.map [] : DataW Unit).put (.int .i32 a) (.lit (.int .i64 (-1)))).atKey (.int .i32 b) (.lit (.int .i64 0)) = .lit (.int .i64 c)) : c = -1 ∨ c = 0 := by
  by_cases e : b = a
  · subst e
    rw [atKey_put_same ⟨_, rfl⟩ (by simp [WideAt.IsKeyLit])] at h
    injection h with h
    injection h with _ h
    exact .inl h.symm
  · rw [atKey_put_other (by intro e2; injection e2 with _ e2; exact e e2)] at h
    exact .inr (net0 h)
theorem net2 {a c : Int} (h : ((DataW.map [] : DataW Unit).put (.int .i32 a) (.lit (.int .i64 1))).atKey (.int .i32 a) (.lit (.int .i64 0)) = .lit (.int .i64 c)) : c = 1 := by
  rw [atKey_put_same ⟨_, rfl⟩ (by simp [WideAt.IsKeyLit])] at h
  injection h with h
  injection h with _ h
  exact h.symm
theorem wf32 {a : Int} (h0 : -10 ≤ a) (h1 : a ≤ 10) : (Lit.int .i32 a).wf = true := by
  have e1 : IntKind.i32.min = -2147483648 := rfl
  have e2 : IntKind.i32.max = 2147483647 := rfl
  simp [Lit.wf, e1, e2]; omega

/-- Was the move counted back? -/
def cbF (gok : Bool) (c mc : Int) (fs ts : Nat) : Bool := decide (gok = true ∧ mc = c - 1 ∧ 0 ≤ selI fs ∧ ts = 0)

/-- What countBack leaves. -/
def BP (w : World) (ab : Nat) (p0 p1 p2 p4 p5 p6 : Value) (b : Bool) (e : Ending) (w' : World) : Prop :=
  e = .returned (.tuple #[]) ∧ ∃ cbb, Blk w' ab 77 [p0, p1, p2, .pointer none, p4, p5, p6, .slice (some ⟨cbb, 0, none⟩) 1 1, .slice none 0 0, .int .u32 0] ∧ Blk w' cbb 4 [.bool b] ∧ w.heap.size ≤ cbb ∧ Kp (· = ab) w w'

set_option maxRecDepth 100000 in
set_option maxHeartbeats 4000000 in
theorem back_any (ab pb mvb sb gp slb grb mb fs ts : Nat) (gok : Bool) (c mc : Int) (p6 z0 z4 y0 y2 y3 y4 y5 y6 x0 x1 x2 x3 : Value) (w : World)
    (hap : Blk w ab 77 [.pointer (some ⟨sb, 0, none⟩), .pointer (some ⟨pb, 0, none⟩), .map (some mb), .pointer none, .slice (some ⟨slb, 0, none⟩) 1 1, .slice (some ⟨grb, 0, none⟩) 1 1, p6, .slice none 0 0, .slice none 0 0, .int .u32 0])
    (hpl : Blk w pb 68 [.slice (some ⟨mvb, 0, none⟩) 1 1]) (hmv : Blk w mvb 65 [z0, .int .i64 mc, .string (selS fs), .string (selS ts), z4]) (hsn : Blk w sb 50 [y0, .slice (some ⟨gp, 0, none⟩) 1 1, y2, y3, y4, y5, y6]) (hg : Blk w gp 41 [x0, x1, x2, x3, .int .i64 c])
    (hsl : Blk w slb 21 [.int .i32 0]) (hgr : Blk w grb 21 [.int .i32 (if gok then 0 else -1)]) (hmp : w.ownsMap Ybaf.prog 9 (plainElem Ybaf.prog 21) mb 4 (Dk 4)) (hfs : fs ≤ 5) (hts : ts ≤ 5) (hc0 : -10 ≤ c) (hc1 : c ≤ 90) (hm0 : -10 ≤ mc) (hm1 : mc ≤ 90) :
    Calls Ybaf.prog 18 #[.pointer (some ⟨ab, 0, none⟩)] w fun e w' => BP w ab (.pointer (some ⟨sb, 0, none⟩)) (.pointer (some ⟨pb, 0, none⟩)) (.map (some mb)) (.slice (some ⟨slb, 0, none⟩) 1 1) (.slice (some ⟨grb, 0, none⟩) 1 1) p6 (cbF gok c mc fs ts) e w' := by
  have hmk1 := run_make_row' (P := Ybaf.prog) 73 4 (.bool false) 1 Ybaf.underlying73 Ybaf.info4 rfl .i64 .i64 1 (by omega) (by omega)
  have hmk2 := run_make_row' (P := Ybaf.prog) 31 21 (.int .i32 0) 4 Ybaf.underlying31 Ybaf.info21 rfl .i64 .i64 2 (by omega) (by omega)
  have hmk3 := run_make_row' (P := Ybaf.prog) 31 21 (.int .i32 0) 4 Ybaf.underlying31 Ybaf.info21 rfl .i64 .i64 1 (by omega) (by omega)
  rw [show ((1 : Nat) : Int) = 1 from rfl, made1] at hmk1
  rw [show ((2 : Nat) : Int) = 2 from rfl, made2] at hmk2
  rw [show ((1 : Nat) : Int) = 1 from rfl, made1] at hmk3
  have a0 := hap.at_ 0 rfl
  have a1 := hap.at_ 1 rfl
  have a2 := hap.at_ 2 rfl
  have a4 := hap.at_ 4 rfl
  have a5 := hap.at_ 5 rfl
  have a7 := hap.at_ 7 rfl
  have f7 := hap.frozen 7
  have l1 := hap.lt
  have pl0 := hpl.at_ 0 rfl
  have l2 := hpl.lt
  have sl0 := hsl.at_ 0 rfl
  have l3 := hsl.lt
  have gr0 := hgr.at_ 0 rfl
  have l4 := hgr.lt
  have l6 := hmv.lt
  have l7 : mb < w.heap.size := by obtain ⟨es, clock, hb, _⟩ := hmp; exact (Array.getElem?_eq_some_iff.1 hb).1
  have n1 := hpl.ne hap (by decide)
  have n2 := hsl.ne hap (by decide)
  have n3 := hgr.ne hap (by decide)
  have e11 : ab < w.heap.size + 1 := by omega
  have e12 : ab < w.heap.size + 1 + 1 := by omega
  have e21 : pb < w.heap.size + 1 := by omega
  have e22 : pb < w.heap.size + 1 + 1 := by omega
  have e31 : slb < w.heap.size + 1 := by omega
  have e32 : slb < w.heap.size + 1 + 1 := by omega
  have e41 : grb < w.heap.size + 1 := by omega
  have e42 : grb < w.heap.size + 1 + 1 := by omega
  go_enter Ybaf.func18, Ybaf.ntmps18
  go_wp2_with fail
  refine wp_loop_rounds 2 ?_
  rw [rounds_succ]
  go_wp2_with fail
  rw [rounds_succ]
  go_wp2_with fail
  refine wp_loop_rounds 2 ?_
  rw [rounds_succ]
  go_wp2_with fail
  go_region
  all_goals go_wp2_with fail
  all_goals rw [rounds_succ]
  all_goals go_wp2_with fail
  have hA1 : Blk ((((w.setCell ⟨ab, 7, none⟩ (.slice (some ⟨w.heap.size, 0, none⟩) 1 1)).alloc (.cells #[.bool false] 4)).alloc (.cells #[.int .i32 0, .int .i32 1] 21)).alloc (.cells #[.int .i32 0] 21)) ab 77 [.pointer (some ⟨sb, 0, none⟩), .pointer (some ⟨pb, 0, none⟩), .map (some mb), .pointer none, .slice (some ⟨slb, 0, none⟩) 1 1, .slice (some ⟨grb, 0, none⟩) 1 1, p6, .slice (some ⟨w.heap.size, 0, none⟩) 1 1, .slice none 0 0, .int .u32 0] := (((hap.set 7 _).alloc _).alloc _).alloc _
  have hA2 : Blk ((((w.setCell ⟨ab, 7, none⟩ (.slice (some ⟨w.heap.size, 0, none⟩) 1 1)).alloc (.cells #[.bool false] 4)).alloc (.cells #[.int .i32 0, .int .i32 1] 21)).alloc (.cells #[.int .i32 0] 21)) w.heap.size 4 [.bool false] := by
    have h := Blk.new (w.setCell ⟨ab, 7, none⟩ (.slice (some ⟨w.heap.size, 0, none⟩) 1 1)) 4 [.bool false]
    rw [show (w.setCell ⟨ab, 7, none⟩ (.slice (some ⟨w.heap.size, 0, none⟩) 1 1)).heap.size = w.heap.size by simp] at h
    exact (h.alloc _).alloc _
  have hA3 : Blk ((((w.setCell ⟨ab, 7, none⟩ (.slice (some ⟨w.heap.size, 0, none⟩) 1 1)).alloc (.cells #[.bool false] 4)).alloc (.cells #[.int .i32 0, .int .i32 1] 21)).alloc (.cells #[.int .i32 0] 21)) (w.heap.size + 1) 21 [.int .i32 0, .int .i32 1] := by
    have h := Blk.new ((w.setCell ⟨ab, 7, none⟩ (.slice (some ⟨w.heap.size, 0, none⟩) 1 1)).alloc (.cells #[.bool false] 4)) 21 [.int .i32 0, .int .i32 1]
    rw [show ((w.setCell ⟨ab, 7, none⟩ (.slice (some ⟨w.heap.size, 0, none⟩) 1 1)).alloc (.cells #[.bool false] 4)).heap.size = w.heap.size + 1 by simp] at h
    exact h.alloc _
  have hA4 : Blk ((((w.setCell ⟨ab, 7, none⟩ (.slice (some ⟨w.heap.size, 0, none⟩) 1 1)).alloc (.cells #[.bool false] 4)).alloc (.cells #[.int .i32 0, .int .i32 1] 21)).alloc (.cells #[.int .i32 0] 21)) (w.heap.size + 2) 21 [.int .i32 0] := by
    have h := Blk.new (((w.setCell ⟨ab, 7, none⟩ (.slice (some ⟨w.heap.size, 0, none⟩) 1 1)).alloc (.cells #[.bool false] 4)).alloc (.cells #[.int .i32 0, .int .i32 1] 21)) 21 [.int .i32 0]
    rw [show (((w.setCell ⟨ab, 7, none⟩ (.slice (some ⟨w.heap.size, 0, none⟩) 1 1)).alloc (.cells #[.bool false] 4)).alloc (.cells #[.int .i32 0, .int .i32 1] 21)).heap.size = w.heap.size + 2 by simp] at h
    exact h
  have hK : Kp (· = ab) w ((((w.setCell ⟨ab, 7, none⟩ (.slice (some ⟨w.heap.size, 0, none⟩) 1 1)).alloc (.cells #[.bool false] 4)).alloc (.cells #[.int .i32 0, .int .i32 1] 21)).alloc (.cells #[.int .i32 0] 21)) := ((((Kp.refl (· = ab) w).setCell (.inl rfl) _).alloc _).alloc _).alloc _
  have hsz : ((((w.setCell ⟨ab, 7, none⟩ (.slice (some ⟨w.heap.size, 0, none⟩) 1 1)).alloc (.cells #[.bool false] 4)).alloc (.cells #[.int .i32 0, .int .i32 1] 21)).alloc (.cells #[.int .i32 0] 21)).heap.size = w.heap.size + 3 := by simp
  generalize World.alloc (World.alloc (World.alloc (World.setCell w _ _) _) _) _ = W1 at hA1 hA2 hA3 hA4 hK hsz ⊢
  rw [show w.heap.size + 1 + 1 = w.heap.size + 2 from rfl]
  clear hmk1 hmk2 hmk3 a0 a1 a2 a4 a5 a7 f7 pl0 sl0 gr0 e11 e12 e21 e22 e31 e32 e41 e42
  refine (clone_any (w.heap.size + 1) 1 2 [0] W1.drew rfl (by omega) (fun j hj => by
    obtain rfl : j = 0 := by simpa using hj
    exact hA3.at_ 0 rfl)).mono ?_
  rintro e w2 ⟨v, rfl, hov, hbe⟩
  obtain ⟨nx, cap, rfl, hnx, hnx2⟩ : ∃ nx cap, v = .slice (some ⟨nx, 0, none⟩) 1 cap ∧ W1.heap.size ≤ nx ∧ nx < w2.heap.size := by
    rcases hov.2 with ⟨_, h0⟩ | ⟨nx, cap, cur, rfl, hb, hh, _⟩
    · exact absurd h0 (by decide)
    · exact ⟨nx, cap, rfl, hb, (Array.getElem?_eq_some_iff.1 hh).1⟩
  have hx0 : w2.cell? ⟨nx, 0, none⟩ = some (.int .i32 0) := hov.cellAt 0 (by decide)
  have hxf : w2.frozen? ⟨nx, 0, none⟩ = false := hov.frozenAt 0
  have hbe' : Below W1.heap.size W1 w2 := ⟨hbe.os, hbe.tape, hbe.output, hbe.size, hbe.block⟩
  have hB1 := hA1.below hbe' hA1.lt
  have hB2 := hA2.below hbe' hA2.lt
  have hB3 := hA3.below hbe' hA3.lt
  have hB4 := hA4.below hbe' hA4.lt
  have hK2 : Kp (· = ab) w w2 := hK.trans (Y := fun _ => False) (.of_self hbe') (fun _ _ h => h.elim)
  have hn2 : nx ≠ ab := by have := hA1.lt; omega
  have hn3 : nx ≠ w.heap.size + 2 := by omega
  have hn4 : nx ≠ w.heap.size + 1 := by omega
  have hn5 : nx ≠ w.heap.size := by omega
  have hs2 := hbe'.size
  have hs3 : w.heap.size + 3 ≤ w2.heap.size := by omega
  have hs4 : w.heap.size + 3 ≤ nx := by omega
  clear hA1 hA2 hA3 hA4 hK hbe hbe' hov hsz
  generalize hH : w.heap.size = H at *
  have HH : Hid (w.heap.size = H) := hH
  have a4 := hB1.at_ 4 rfl
  have sl0 := (hK2.blk hsl n2).at_ 0 rfl
  have m0 := hB4.at_ 0 rfl
  have mf := hB4.frozen 0
  have l5 := hB4.lt
  have hmm := @run_makeMap Ybaf.prog
  have a5 := hB1.at_ 5 rfl
  have k1 := hB1.lt
  have n6 : slb ≠ nx := by omega
  have n7 : slb ≠ H + 2 := by omega
  have n8 : ab ≠ H + 2 := by omega
  clear hH
  go_wp2_with fail
  refine wp_loop_rounds 2 ?_
  rw [rounds_succ]
  go_wp2_with fail
  rw [rounds_succ]
  go_wp2_with fail
  have hC1 := ((hB1.other (a := ⟨H + 2, 0, none⟩) n8 (.int .i32 0)).other (a := ⟨nx, 0, none⟩) (fun e => hn2 e.symm) (.int .i32 1)).alloc (.map #[] 0)
  have hC2 := ((hB2.other (a := ⟨H + 2, 0, none⟩) (by show H ≠ H + 2; omega) (.int .i32 0)).other (a := ⟨nx, 0, none⟩) (fun e => hn5 e.symm) (.int .i32 1)).alloc (.map #[] 0)
  have hC3 := ((hB3.other (a := ⟨H + 2, 0, none⟩) (by show H + 1 ≠ H + 2; omega) (.int .i32 0)).other (a := ⟨nx, 0, none⟩) (fun e => hn4 e.symm) (.int .i32 1)).alloc (.map #[] 0)
  have hC4 := ((hB4.set 0 (.int .i32 0)).other (a := ⟨nx, 0, none⟩) (fun e => hn3 e.symm) (.int .i32 1)).alloc (.map #[] 0)
  have hCK := ((hK2.setCell (p := ⟨H + 2, 0, none⟩) (.inr (by rw [HH.out]; show H ≤ H + 2; omega)) (.int .i32 0)).setCell (p := ⟨nx, 0, none⟩) (.inr (by rw [HH.out]; show H ≤ nx; omega)) (.int .i32 1)).alloc (.map #[] 0)
  have hCM : (((w2.setCell ⟨H + 2, 0, none⟩ (.int .i32 0)).setCell ⟨nx, 0, none⟩ (.int .i32 1)).alloc (.map #[] 0)).heap[w2.heap.size]? = some (.map #[] 0) := by
    rw [show w2.heap.size = ((w2.setCell ⟨H + 2, 0, none⟩ (.int .i32 0)).setCell ⟨nx, 0, none⟩ (.int .i32 1)).heap.size by simp]
    exact heap_alloc_new _ _
  generalize World.alloc (World.setCell (World.setCell w2 _ _) _ _) _ = W3 at hC1 hC2 hC3 hC4 hCK hCM ⊢
  generalize hN : w2.heap.size = N at *
  have hN3 : H + 3 ≤ N := by omega
  clear hB1 hB2 hB3 hB4 hK2 hx0 hxf m0 mf sl0 a4 a5 hmm hn2 hn3 hn4 hn5 hs2 hs3 hs4 hnx hnx2 n6 n7 n8 l5 k1 hN
  have a0 := hC1.at_ 0 rfl
  have a1 := hC1.at_ 1 rfl
  have a2 := hC1.at_ 2 rfl
  have a5 := hC1.at_ 5 rfl
  have a7 := hC1.at_ 7 rfl
  have pl0 := (hCK.blk hpl n1).at_ 0 rfl
  have hmv3 := hCK.blk hmv (hmv.ne hap (by decide))
  have mv1 := hmv3.at_ 1 rfl
  have mv2 := hmv3.at_ 2 rfl
  have mv3 := hmv3.at_ 3 rfl
  have sn1 := (hCK.blk hsn (hsn.ne hap (by decide))).at_ 1 rfl
  have g4 := (hCK.blk hg (hg.ne hap (by decide))).at_ 4 rfl
  have gr0 := (hCK.blk hgr n3).at_ 0 rfl
  have st0 := hC3.at_ 0 rfl
  have st1 := hC3.at_ 1 rfl
  have mo0 := hC4.at_ 0 rfl
  have cb0 := hC2.at_ 0 rfl
  have cbf := hC2.frozen 0
  have l8 := hC4.lt
  have HC : Hid (Blk W3 ab 77 [.pointer (some ⟨sb, 0, none⟩), .pointer (some ⟨pb, 0, none⟩), .map (some mb), .pointer none, .slice (some ⟨slb, 0, none⟩) 1 1, .slice (some ⟨grb, 0, none⟩) 1 1, p6, .slice (some ⟨H, 0, none⟩) 1 1, .slice none 0 0, .int .u32 0] ∧ Blk W3 H 4 [.bool false] ∧ Kp (· = ab) w W3 ∧ H ≤ H) := ⟨hC1, hC2, hCK, Nat.le_refl _⟩
  have HMP : Hid (W3.ownsMap Ybaf.prog 9 (plainElem Ybaf.prog 21) mb 4 (Dk 4)) := by
    obtain ⟨es, clock, hb, hr⟩ := hmp
    have hlt := (Array.getElem?_eq_some_iff.1 hb).1
    refine ⟨es, clock, (hCK.block mb hlt (fun e => ?_)).trans hb, hr⟩
    rw [e] at hb
    have := hap
    unfold Blk at this
    rw [this] at hb
    cases hb
  have hclr : ∀ d, Sem.run Ybaf.prog (Builtin.clear_ #[95] 0 #[.map (some N)]) (W3.drewN d) = .ok (.tuple #[]) (W3.drewN d) := fun d => clear_empty _ _ hCM
  clear hap hpl hmv hsn hg hsl hgr hmp hC1 hC2 hC3 hC4 hCK hmv3
  cases gok with
  | false =>
    simp only [Bool.false_eq_true, if_false] at gr0
    have HB : Hid (cbF false c mc fs ts = false) := by show cbF false c mc fs ts = false; simp [cbF]
    refine wp_loop_rounds 2 ?_
    rw [rounds_succ]
    go_wp2_with fail
    rw [rounds_succ]
    go_wp2_with fail
    go_end0
    exact ⟨rfl, H, HC.out.1, by rw [HB.out]; exact HC.out.2.1, by rw [HH.out]; exact Nat.le_refl _, HC.out.2.2.1⟩
  | true =>
    simp only [if_true] at gr0
    by_cases hlt : mc < c
    · have hd : decide (mc < c) = true := decide_eq_true hlt
      have hd0 : decide ((1 : Int) < 1) = false := by decide
      refine wp_loop_rounds 2 ?_
      rw [rounds_succ]
      go_wp2_with fail
      go_quiet (fail)
      go_wp2_with fail
      refine wp_loop_rounds 2 ?_
      rw [rounds_succ]
      go_wp2_with fail
      go_quiet (fail)
      go_wp2_with fail
      rw [rounds_succ]
      go_wp2_with fail
      go_quiet (fail)
      go_wp2_with fail
      refine wp_loop_rounds 2 ?_
      rw [rounds_succ]
      by_cases hw : mc = c - 1
      · subst hw
        have hmbN : mb ≠ N := by omega
        have HCM : Hid (W3.heap[N]? = some (.map #[] 0)) := hCM
        have hbA := HC.out.1
        have hbH := HC.out.2.1
        have hKw := HC.out.2.2.1
        have hM := HMP.out
        clear hCM
        rcases sel_cases ts hts with ⟨t1, t4, t0, t3⟩ | ⟨tn, t0⟩
        · rcases sel_cases fs hfs with ⟨f1, f4, f0, f3⟩ | ⟨fn, f0⟩
          · have HB : Hid (cbF true c (c - 1) fs ts = false) := by show cbF true c (c - 1) fs ts = false; simp [cbF]; omega
            have hlT : ∀ d, (Instr.lookup 71 (.map (some mb)) (.string (selS ts)) true).run Ybaf.prog (W3.drewN d) = .ok (.tuple #[.int .i32 (selI ts), .bool true]) (W3.drewN d) := fun d => look_yes HMP.out t1 t4
            have HLF : Hid (∀ W, W.ownsMap Ybaf.prog 9 (plainElem Ybaf.prog 21) mb 4 (Dk 4) → (Instr.lookup 71 (.map (some mb)) (.string (selS fs)) true).run Ybaf.prog W = .ok (.tuple #[.int .i32 (selI fs), .bool true]) W) := fun W h => look_yes h f1 f4
            have htE := sel_empty ts hts (by omega)
            have htN : ¬ (selS ts).toList = [] := by intro e; rw [e] at htE; cases htE
            generalize selS ts = sT at *
            generalize selS fs = sF at *
            generalize selI ts = tI at *
            generalize selI fs = fI at *
            go_wp2_with fail
            go_quiet (fail)
            go_wp2_with (first | (at_lookup; refine wpList_lookup_own_int _ rfl _ _ 95 rfl 21 3 .i64 law21 Ybaf.underlying95 Ybaf.underlying3 (zero3 _) N 0 (.map []) rfl (map_none HCM.out) _ _ rfl (keyOf_int_mk Ybaf.underlying21 (wf32 (by omega) (by omega))) ?_; intro c1 hat hwc; obtain rfl := net0 hat) | (at_mapUpdate; refine wpList_mapUpdate_own _ rfl _ _ _ 95 rfl 21 3 law21 Ybaf.underlying95 _ N 0 _ rfl (map_none HCM.out) (by decide) _ _ _ rfl rfl (keyOf_int_mk Ybaf.underlying21 (wf32 (by omega) (by omega))) _ [] (plainElem_int Ybaf.underlying3 (by decide)) ?_; intro w5 hown5 hgrow; have hk5 : Kp (· = N) (W3.drewN _) w5 := (Kp.refl (· = N) (W3.drewN _)).grown hgrow (fun k hk => by cases hk; exact .inl rfl); have a0 := hk5.cell a0 (by show ¬ ab = N; omega); have a2 := hk5.cell a2 (by show ¬ ab = N; omega); have a7 := hk5.cell a7 (by show ¬ ab = N; omega); have mv2 := hk5.cell mv2 (by show ¬ mvb = N; omega); have mv3 := hk5.cell mv3 (by show ¬ mvb = N; omega); have cb0 := hk5.cell cb0 (by show ¬ H = N; omega); have cbf : w5.frozen? ⟨H, 0, none⟩ = false := (World.frozen?_of_block (hk5.block H (show H < W3.heap.size by omega) (by show ¬ H = N; omega))).trans cbf; have l9 : H < w5.heap.size := Nat.lt_of_lt_of_le (show H < W3.heap.size by omega) hk5.size; have hbA := hk5.blk hbA (by show ¬ ab = N; omega); have hbH := hk5.blk hbH (by show ¬ H = N; omega); have hKw := (hKw.drewN _).trans hk5 (fun i hi e => by have := HH.out; subst e; omega); have hM := map_kp (X := (· = N)) (w := (W3.drewN _)) hM hk5 hmbN))
            have hlF := fun d => HLF.out (w5.drewN d) hM
            go_quiet (fail)
            go_wp2_with (first | (at_lookup; refine wpList_lookup_own_int _ rfl _ _ 95 rfl 21 3 .i64 law21 Ybaf.underlying95 Ybaf.underlying3 (zero3 _) N 1 _ rfl hown5 _ _ rfl (keyOf_int_mk Ybaf.underlying21 (wf32 (by omega) (by omega))) ?_; intro c1 hat hwc; have hc1 := net1 hat) | (at_mapUpdate; refine wpList_mapUpdate_own _ rfl _ _ _ 95 rfl 21 3 law21 Ybaf.underlying95 _ N 1 _ rfl hown5 (by decide) _ _ _ rfl rfl (keyOf_int_mk Ybaf.underlying21 (wf32 (by omega) (by omega))) _ [] (plainElem_int Ybaf.underlying3 (by rcases hc1 with rfl | rfl <;> decide)) ?_; intro w6 hown6 hgrow; have hk6 : Kp (· = N) (w5.drewN _) w6 := (Kp.refl (· = N) (w5.drewN _)).grown hgrow (fun k hk => by cases hk; exact .inl rfl); have a0 := hk6.cell a0 (by show ¬ ab = N; omega); have a2 := hk6.cell a2 (by show ¬ ab = N; omega); have a7 := hk6.cell a7 (by show ¬ ab = N; omega); have mv2 := hk6.cell mv2 (by show ¬ mvb = N; omega); have mv3 := hk6.cell mv3 (by show ¬ mvb = N; omega); have cb0 := hk6.cell cb0 (by show ¬ H = N; omega); have cbf : w6.frozen? ⟨H, 0, none⟩ = false := (World.frozen?_of_block (hk6.block H l9 (by show ¬ H = N; omega))).trans cbf; have l10 : H < w6.heap.size := Nat.lt_of_lt_of_le l9 hk6.size; have hbA := hk6.blk hbA (by show ¬ ab = N; omega); have hbH := hk6.blk hbH (by show ¬ H = N; omega); have hKw := (hKw.drewN _).trans hk6 (fun i hi e => by have := HH.out; subst e; omega); have hM := map_kp (X := (· = N)) (w := (w5.drewN _)) hM hk6 hmbN))
            go_frame
            go_region
            all_goals
              go_wp2_with fail
              rw [rounds_succ]
              go_wp2_with fail
              rw [rounds_succ]
              go_wp2_with fail
              go_end0
              exact ⟨rfl, H, hbA.other (by show ab ≠ H; omega) _, by rw [HB.out]; exact hbH.set 0 _, by rw [HH.out]; exact Nat.le_refl _, (hKw.setCell (.inr (by rw [HH.out]; exact Nat.le_refl _)) _).drew⟩
          · have HB : Hid (cbF true c (c - 1) fs ts = false) := by show cbF true c (c - 1) fs ts = false; simp [cbF]; omega
            have hlT : ∀ d, (Instr.lookup 71 (.map (some mb)) (.string (selS ts)) true).run Ybaf.prog (W3.drewN d) = .ok (.tuple #[.int .i32 (selI ts), .bool true]) (W3.drewN d) := fun d => look_yes HMP.out t1 t4
            have HLF : Hid (∀ W, W.ownsMap Ybaf.prog 9 (plainElem Ybaf.prog 21) mb 4 (Dk 4) → (Instr.lookup 71 (.map (some mb)) (.string (selS fs)) true).run Ybaf.prog W = .ok (.tuple #[.int .i32 0, .bool false]) W) := fun W h => look_no h fn
            have htE := sel_empty ts hts (by omega)
            have htN : ¬ (selS ts).toList = [] := by intro e; rw [e] at htE; cases htE
            generalize selS ts = sT at *
            generalize selS fs = sF at *
            generalize selI ts = tI at *
            generalize selI fs = fI at *
            go_wp2_with fail
            go_quiet (fail)
            go_wp2_with (first | (at_lookup; refine wpList_lookup_own_int _ rfl _ _ 95 rfl 21 3 .i64 law21 Ybaf.underlying95 Ybaf.underlying3 (zero3 _) N 0 (.map []) rfl (map_none HCM.out) _ _ rfl (keyOf_int_mk Ybaf.underlying21 (wf32 (by omega) (by omega))) ?_; intro c1 hat hwc; obtain rfl := net0 hat) | (at_mapUpdate; refine wpList_mapUpdate_own _ rfl _ _ _ 95 rfl 21 3 law21 Ybaf.underlying95 _ N 0 _ rfl (map_none HCM.out) (by decide) _ _ _ rfl rfl (keyOf_int_mk Ybaf.underlying21 (wf32 (by omega) (by omega))) _ [] (plainElem_int Ybaf.underlying3 (by decide)) ?_; intro w5 hown5 hgrow; have hk5 : Kp (· = N) (W3.drewN _) w5 := (Kp.refl (· = N) (W3.drewN _)).grown hgrow (fun k hk => by cases hk; exact .inl rfl); have a0 := hk5.cell a0 (by show ¬ ab = N; omega); have a2 := hk5.cell a2 (by show ¬ ab = N; omega); have a7 := hk5.cell a7 (by show ¬ ab = N; omega); have mv2 := hk5.cell mv2 (by show ¬ mvb = N; omega); have mv3 := hk5.cell mv3 (by show ¬ mvb = N; omega); have cb0 := hk5.cell cb0 (by show ¬ H = N; omega); have cbf : w5.frozen? ⟨H, 0, none⟩ = false := (World.frozen?_of_block (hk5.block H (show H < W3.heap.size by omega) (by show ¬ H = N; omega))).trans cbf; have l9 : H < w5.heap.size := Nat.lt_of_lt_of_le (show H < W3.heap.size by omega) hk5.size; have hbA := hk5.blk hbA (by show ¬ ab = N; omega); have hbH := hk5.blk hbH (by show ¬ H = N; omega); have hKw := (hKw.drewN _).trans hk5 (fun i hi e => by have := HH.out; subst e; omega); have hM := map_kp (X := (· = N)) (w := (W3.drewN _)) hM hk5 hmbN))
            have hlF := fun d => HLF.out (w5.drewN d) hM
            go_quiet (fail)
            go_wp2_with fail
            rw [rounds_succ]
            go_wp2_with fail
            rw [rounds_succ]
            go_wp2_with fail
            go_end0
            exact ⟨rfl, H, hbA, by rw [HB.out]; exact hbH, by rw [HH.out]; exact Nat.le_refl _, hKw.drewN _⟩
        · rcases sel_cases fs hfs with ⟨f1, f4, f0, f3⟩ | ⟨fn, f0⟩
          · by_cases ts0 : ts = 0
            · subst ts0
              have hlT : ∀ d, (Instr.lookup 71 (.map (some mb)) (.string (selS 0)) true).run Ybaf.prog (W3.drewN d) = .ok (.tuple #[.int .i32 0, .bool false]) (W3.drewN d) := fun d => look_no HMP.out (.inl rfl)
              have HLF : Hid (∀ W, W.ownsMap Ybaf.prog 9 (plainElem Ybaf.prog 21) mb 4 (Dk 4) → (Instr.lookup 71 (.map (some mb)) (.string (selS fs)) true).run Ybaf.prog W = .ok (.tuple #[.int .i32 (selI fs), .bool true]) W) := fun W h => look_yes h f1 f4
              have HB : Hid (cbF true c (c - 1) fs 0 = true) := by show cbF true c (c - 1) fs 0 = true; simp [cbF]; omega
              have hs0 : selS 0 = ⟨#[]⟩ := rfl
              rw [hs0] at mv3 hlT
              generalize selS fs = sF at *
              generalize selI fs = fI at *
              go_wp2_with fail
              go_quiet (fail)
              go_wp2_with fail
              have hlF := fun d => HLF.out (W3.drewN d) hM
              go_quiet (fail)
              go_wp2_with (first | (at_lookup; refine wpList_lookup_own_int _ rfl _ _ 95 rfl 21 3 .i64 law21 Ybaf.underlying95 Ybaf.underlying3 (zero3 _) N 0 (.map []) rfl (map_none HCM.out) _ _ rfl (keyOf_int_mk Ybaf.underlying21 (wf32 (by omega) (by omega))) ?_; intro c1 hat hwc; obtain rfl := net0 hat) | (at_mapUpdate; refine wpList_mapUpdate_own _ rfl _ _ _ 95 rfl 21 3 law21 Ybaf.underlying95 _ N 0 _ rfl (map_none HCM.out) (by decide) _ _ _ rfl rfl (keyOf_int_mk Ybaf.underlying21 (wf32 (by omega) (by omega))) _ [] (plainElem_int Ybaf.underlying3 (by decide)) ?_; intro w5 hown5 hgrow; have hk5 : Kp (· = N) (W3.drewN _) w5 := (Kp.refl (· = N) (W3.drewN _)).grown hgrow (fun k hk => by cases hk; exact .inl rfl); have a0 := hk5.cell a0 (by show ¬ ab = N; omega); have a2 := hk5.cell a2 (by show ¬ ab = N; omega); have a7 := hk5.cell a7 (by show ¬ ab = N; omega); have mv2 := hk5.cell mv2 (by show ¬ mvb = N; omega); have mv3 := hk5.cell mv3 (by show ¬ mvb = N; omega); have cb0 := hk5.cell cb0 (by show ¬ H = N; omega); have cbf : w5.frozen? ⟨H, 0, none⟩ = false := (World.frozen?_of_block (hk5.block H (show H < W3.heap.size by omega) (by show ¬ H = N; omega))).trans cbf; have l9 : H < w5.heap.size := Nat.lt_of_lt_of_le (show H < W3.heap.size by omega) hk5.size; have hbA := hk5.blk hbA (by show ¬ ab = N; omega); have hbH := hk5.blk hbH (by show ¬ H = N; omega); have hKw := (hKw.drewN _).trans hk5 (fun i hi e => by have := HH.out; subst e; omega); have hM := map_kp (X := (· = N)) (w := (W3.drewN _)) hM hk5 hmbN))
              have hl5 : ∀ q : Nat, ∃ c1, (Instr.lookup 95 (.map (some N)) (.int .i32 fI) false).run Ybaf.prog (w5.drewN q) = .ok (.int .i64 c1) (w5.drewN q) ∧ c1 = 1 := fun q => by
                obtain ⟨c1, hrun, hat, _⟩ := World.ownsMap.lookup_int (w := w5.drewN q) hown5 law21 Ybaf.underlying95 Ybaf.underlying3 (zero3 _) (key := .int .i32 fI) (kl := .int .i32 fI) (keyOf_int_mk Ybaf.underlying21 (wf32 (by omega) (by omega)))
                exact ⟨c1, hrun, net2 hat⟩
              have hl6 : (Instr.lookup 95 (.map (some N)) (.int .i32 fI) false).run Ybaf.prog w5 = .ok (.int .i64 1) w5 := by obtain ⟨c1, h1, rfl⟩ := hl5 0; exact h1
              have hl7 : (Instr.lookup 95 (.map (some N)) (.int .i32 fI) false).run Ybaf.prog w5.drew = .ok (.int .i64 1) w5.drew := by obtain ⟨c1, h1, rfl⟩ := hl5 1; exact h1
              clear hl5
              go_frame
              go_region
              all_goals
                go_wp2_with fail
                rw [rounds_succ]
                go_wp2_with fail
                rw [rounds_succ]
                go_wp2_with fail
                go_end0
                exact ⟨rfl, H, hbA.other (by show ab ≠ H; omega) _, by rw [HB.out]; exact hbH.set 0 _, by rw [HH.out]; exact Nat.le_refl _, (hKw.setCell (.inr (by rw [HH.out]; exact Nat.le_refl _)) _).drew⟩
            · obtain rfl : ts = 5 := by omega
              have hlT : ∀ d, (Instr.lookup 71 (.map (some mb)) (.string (selS 5)) true).run Ybaf.prog (W3.drewN d) = .ok (.tuple #[.int .i32 0, .bool false]) (W3.drewN d) := fun d => look_no HMP.out (.inr rfl)
              have HLF : Hid (∀ W, W.ownsMap Ybaf.prog 9 (plainElem Ybaf.prog 21) mb 4 (Dk 4) → (Instr.lookup 71 (.map (some mb)) (.string (selS fs)) true).run Ybaf.prog W = .ok (.tuple #[.int .i32 (selI fs), .bool true]) W) := fun W h => look_yes h f1 f4
              have HB : Hid (cbF true c (c - 1) fs 5 = false) := by show cbF true c (c - 1) fs 5 = false; simp [cbF]
              have hs0 : selS 5 = ⟨#[122, 122]⟩ := rfl
              rw [hs0] at mv3 hlT
              generalize selS fs = sF at *
              generalize selI fs = fI at *
              go_wp2_with fail
              go_quiet (fail)
              go_wp2_with fail
              have hlF := fun d => HLF.out (W3.drewN d) hM
              go_quiet (fail)
              go_wp2_with (first | (at_lookup; refine wpList_lookup_own_int _ rfl _ _ 95 rfl 21 3 .i64 law21 Ybaf.underlying95 Ybaf.underlying3 (zero3 _) N 0 (.map []) rfl (map_none HCM.out) _ _ rfl (keyOf_int_mk Ybaf.underlying21 (wf32 (by omega) (by omega))) ?_; intro c1 hat hwc; obtain rfl := net0 hat) | (at_mapUpdate; refine wpList_mapUpdate_own _ rfl _ _ _ 95 rfl 21 3 law21 Ybaf.underlying95 _ N 0 _ rfl (map_none HCM.out) (by decide) _ _ _ rfl rfl (keyOf_int_mk Ybaf.underlying21 (wf32 (by omega) (by omega))) _ [] (plainElem_int Ybaf.underlying3 (by decide)) ?_; intro w5 hown5 hgrow; have hk5 : Kp (· = N) (W3.drewN _) w5 := (Kp.refl (· = N) (W3.drewN _)).grown hgrow (fun k hk => by cases hk; exact .inl rfl); have a0 := hk5.cell a0 (by show ¬ ab = N; omega); have a2 := hk5.cell a2 (by show ¬ ab = N; omega); have a7 := hk5.cell a7 (by show ¬ ab = N; omega); have mv2 := hk5.cell mv2 (by show ¬ mvb = N; omega); have mv3 := hk5.cell mv3 (by show ¬ mvb = N; omega); have cb0 := hk5.cell cb0 (by show ¬ H = N; omega); have cbf : w5.frozen? ⟨H, 0, none⟩ = false := (World.frozen?_of_block (hk5.block H (show H < W3.heap.size by omega) (by show ¬ H = N; omega))).trans cbf; have l9 : H < w5.heap.size := Nat.lt_of_lt_of_le (show H < W3.heap.size by omega) hk5.size; have hbA := hk5.blk hbA (by show ¬ ab = N; omega); have hbH := hk5.blk hbH (by show ¬ H = N; omega); have hKw := (hKw.drewN _).trans hk5 (fun i hi e => by have := HH.out; subst e; omega); have hM := map_kp (X := (· = N)) (w := (W3.drewN _)) hM hk5 hmbN))
              go_frame
              go_region
              all_goals
                go_wp2_with fail
                rw [rounds_succ]
                go_wp2_with fail
                rw [rounds_succ]
                go_wp2_with fail
                go_end0
                exact ⟨rfl, H, hbA.other (by show ab ≠ H; omega) _, by rw [HB.out]; exact hbH.set 0 _, by rw [HH.out]; exact Nat.le_refl _, (hKw.setCell (.inr (by rw [HH.out]; exact Nat.le_refl _)) _).drew⟩
          · have HB : Hid (cbF true c (c - 1) fs ts = false) := by show cbF true c (c - 1) fs ts = false; simp [cbF]; omega
            have hlT : ∀ d, (Instr.lookup 71 (.map (some mb)) (.string (selS ts)) true).run Ybaf.prog (W3.drewN d) = .ok (.tuple #[.int .i32 0, .bool false]) (W3.drewN d) := fun d => look_no HMP.out tn
            have HLF : Hid (∀ W, W.ownsMap Ybaf.prog 9 (plainElem Ybaf.prog 21) mb 4 (Dk 4) → (Instr.lookup 71 (.map (some mb)) (.string (selS fs)) true).run Ybaf.prog W = .ok (.tuple #[.int .i32 0, .bool false]) W) := fun W h => look_no h fn
            generalize selS ts = sT at *
            generalize selS fs = sF at *
            generalize selI ts = tI at *
            generalize selI fs = fI at *
            go_wp2_with fail
            go_quiet (fail)
            go_wp2_with fail
            have hlF := fun d => HLF.out (W3.drewN d) hM
            go_quiet (fail)
            go_wp2_with fail
            rw [rounds_succ]
            go_wp2_with fail
            rw [rounds_succ]
            go_wp2_with fail
            go_end0
            exact ⟨rfl, H, hbA, by rw [HB.out]; exact hbH, by rw [HH.out]; exact Nat.le_refl _, hKw.drewN _⟩
      · have HB : Hid (cbF true c mc fs ts = false) := by show cbF true c mc fs ts = false; simp [cbF]; omega
        have hw2 : (mc == c - 1) = false := by rw [beq_eq_false_iff_ne]; exact hw
        go_wp2_with fail
        rw [rounds_succ]
        go_wp2_with fail
        go_end0
        exact ⟨rfl, H, HC.out.1, by rw [HB.out]; exact HC.out.2.1, by rw [HH.out]; exact Nat.le_refl _, HC.out.2.2.1.drewN _⟩
    · have HB : Hid (cbF true c mc fs ts = false) := by show cbF true c mc fs ts = false; simp [cbF]; omega
      have hd : decide (mc < c) = false := decide_eq_false hlt
      refine wp_loop_rounds 2 ?_
      rw [rounds_succ]
      go_wp2_with fail
      go_quiet (fail)
      go_wp2_with fail
      refine wp_loop_rounds 1 ?_
      rw [rounds_succ]
      go_wp2_with fail
      go_quiet (fail)
      go_wp2_with fail
      refine wp_loop_rounds 1 ?_
      rw [rounds_succ]
      go_wp2_with fail
      rw [rounds_succ]
      go_wp2_with fail
      go_end0
      exact ⟨rfl, H, HC.out.1, by rw [HB.out]; exact HC.out.2.1, by rw [HH.out]; exact Nat.le_refl _, HC.out.2.2.1.drewN _⟩

end Go.Proofs.YbulkadugFmt

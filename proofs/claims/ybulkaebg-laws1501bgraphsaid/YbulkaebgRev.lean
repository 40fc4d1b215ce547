/-
  LawS1501BGraph over toys/ybulkaebg: (*successorLists).reversed: a counting sort.
-/
import Derived.Test.YbulkaebgSucc
import Derived.Deep.DeepCutAuto
import Derived.Deep.RegionHeld3
import Derived.Deep.DrawnRows
import Derived.Laws.CopyOwn
namespace Go.Proofs.Ybulkaebg
open Go.RowKit
attribute [local go_sem ↓] Go.wp_at_zero Go.wp_at_succ

theorem Yba.info3 : (Yba.prog.info? 3).map (fun i => (i.zero, i.size, i.bytes)) = some (some (.int .i64 0), 1, 8) := by kernel_rfl
theorem Yba.info21 : (Yba.prog.info? 21).map (fun i => (i.zero, i.size, i.bytes)) = some (some (.int .i32 0), 1, 4) := by kernel_rfl

/-- The new lists while they are made: 'start' holds F, 'to' holds T. -/
structure RV (w wr : World) (bx gs gt n m : Nat) (F T : Nat → Int) : Prop where
  rs : wr.rowIs gs 3 (n + 1) (fun i => .int .i64 (F i))
  rt : wr.rowIs gt 21 m (fun i => .int .i32 (T i))
  b0 : wr.cell? ⟨bx, 0, none⟩ = some (.slice (some ⟨gs, 0, none⟩) (n + 1) (n + 1))
  b1 : wr.cell? ⟨bx, 1, none⟩ = some (.slice (some ⟨gt, 0, none⟩) m m)
  ne : gs ≠ gt ∧ gs ≠ bx ∧ gt ≠ bx
  lo : w.heap.size ≤ gs ∧ w.heap.size ≤ gt ∧ w.heap.size ≤ bx
  bel : Below w.heap.size w wr

theorem RV.setS {w wr : World} {bx gs gt n m : Nat} {F T : Nat → Int} (h : RV w wr bx gs gt n m F T) (i : Nat) (x : Int) : RV w (wr.setCell ⟨gs, i, none⟩ (.int .i64 x)) bx gs gt n m (fun j => if j = i then x else F j) T :=
  ⟨(h.rs.set i _).congr fun j _ => by split <;> rfl, h.rt.setOther (by show gt ≠ gs; exact fun e => h.ne.1 e.symm) _,
   (World.cell?_setCell_other _ _ _ _ (by simp; exact fun e => absurd e h.ne.2.1)).trans h.b0, (World.cell?_setCell_other _ _ _ _ (by simp; exact fun e => absurd e h.ne.2.1)).trans h.b1, h.ne, h.lo, h.bel.setCell h.lo.1 _⟩
theorem RV.setT {w wr : World} {bx gs gt n m : Nat} {F T : Nat → Int} (h : RV w wr bx gs gt n m F T) (i : Nat) (x : Int) : RV w (wr.setCell ⟨gt, i, none⟩ (.int .i32 x)) bx gs gt n m F (fun j => if j = i then x else T j) :=
  ⟨h.rs.setOther (by show gs ≠ gt; exact h.ne.1) _, (h.rt.set i _).congr fun j _ => by split <;> rfl,
   (World.cell?_setCell_other _ _ _ _ (by simp; exact fun e => absurd e h.ne.2.2)).trans h.b0, (World.cell?_setCell_other _ _ _ _ (by simp; exact fun e => absurd e h.ne.2.2)).trans h.b1, h.ne, h.lo, h.bel.setCell h.lo.2.1 _⟩
theorem RV.block {w wr wr' : World} {bx gs gt n m : Nat} {F T : Nat → Int} (h : RV w wr bx gs gt n m F T) (hs : wr'.heap[gs]? = wr.heap[gs]?) (ht : wr'.heap[gt]? = wr.heap[gt]?) (hx : wr'.heap[bx]? = wr.heap[bx]?) (hb : Below w.heap.size w wr') : RV w wr' bx gs gt n m F T :=
  ⟨h.rs.of_block hs, h.rt.of_block ht, (World.cell?_of_block (a := ⟨bx, 0, none⟩) hx).trans h.b0, (World.cell?_of_block (a := ⟨bx, 1, none⟩) hx).trans h.b1, h.ne, h.lo, hb⟩
theorem RV.drew {w wr : World} {bx gs gt n m : Nat} {F T : Nat → Int} (h : RV w wr bx gs gt n m F T) : RV w wr.drew bx gs gt n m F T := ⟨h.rs, h.rt, h.b0, h.b1, h.ne, h.lo, h.bel.drew⟩
theorem RV.drewN {w wr : World} {bx gs gt n m : Nat} {F T : Nat → Int} (h : RV w wr bx gs gt n m F T) (d : Nat) : RV w (wr.drewN d) bx gs gt n m F T := ⟨h.rs, h.rt, h.b0, h.b1, h.ne, h.lo, below_drewN h.bel d⟩
theorem RV.congr {w wr : World} {bx gs gt n m : Nat} {F T F' : Nat → Int} (h : RV w wr bx gs gt n m F T) (e : ∀ i, i ≤ n → F i = F' i) : RV w wr bx gs gt n m F' T :=
  ⟨h.rs.congr fun i hi => by rw [e i (by omega)], h.rt, h.b0, h.b1, h.ne, h.lo, h.bel⟩

theorem RV.start1 (w : World) (n m : Nat) : RV w (((w.alloc (.cells (madeCells #[.int .i64 0] (n + 1)) 3)).alloc (.cells (madeCells #[.int .i32 0] m) 21)).alloc (.cells #[.slice (some ⟨w.heap.size, 0, none⟩) (n + 1) (n + 1), .slice (some ⟨w.heap.size + 1, 0, none⟩) m m] 69))
    (w.heap.size + 1 + 1) w.heap.size (w.heap.size + 1) n m (fun _ => 0) (fun _ => 0) :=
  ⟨((World.rowIs_made w _ (n + 1) 3).alloc _).alloc _, by have := World.rowIs_made (w.alloc (.cells (madeCells #[.int .i64 0] (n + 1)) 3)) (.int .i32 0) m 21; simp only [World.size_alloc] at this; exact this.alloc _, by go_simp, by go_simp, by omega, by omega,
   (((Below.refl _ _).alloc (Nat.le_refl _) _).alloc (by simp) _).alloc (by simp; omega) _⟩
theorem RV.start2 (w : World) (n m : Nat) : RV w (((w.alloc (.cells (madeCells #[.int .i32 0] m) 21)).alloc (.cells (madeCells #[.int .i64 0] (n + 1)) 3)).alloc (.cells #[.slice (some ⟨w.heap.size + 1, 0, none⟩) (n + 1) (n + 1), .slice (some ⟨w.heap.size, 0, none⟩) m m] 69))
    (w.heap.size + 1 + 1) (w.heap.size + 1) w.heap.size n m (fun _ => 0) (fun _ => 0) :=
  ⟨by have := World.rowIs_made (w.alloc (.cells (madeCells #[.int .i32 0] m) 21)) (.int .i64 0) (n + 1) 3; simp only [World.size_alloc] at this; exact this.alloc _, ((World.rowIs_made w _ m 21).alloc _).alloc _, by go_simp, by go_simp, by omega, by omega,
   (((Below.refl _ _).alloc (Nat.le_refl _) _).alloc (by simp) _).alloc (by simp; omega) _⟩

/-- 'start' while the counts are summed up: the first v + 1 are sums. -/
def pfx (A : Nat → List Nat) (n v j : Nat) : Int := if j ≤ v then (st (edges A n) j : Nat) else ((seg (edges A n) (j - 1)).length : Nat)

/-- How often each vertex stands among the first i. -/
def cnt (l : List Nat) : Nat → Int
  | 0 => 0
  | v + 1 => l.count v

theorem cnt_step (l : List Nat) (i : Nat) (h : i < l.length) (j : Nat) : (if j = l[i] + 1 then cnt (l.take i) (l[i] + 1) + 1 else cnt (l.take i) j) = cnt (l.take (i + 1)) j := by
  have ht : l.take (i + 1) = l.take i ++ [l[i]] := List.take_succ_eq_append_getElem h
  cases j with
  | zero => simp [cnt]
  | succ v =>
    rw [ht]
    simp only [cnt, List.count_append, List.count_cons, List.count_nil]
    by_cases e : v = l[i]
    · subst e; simp
    · have e' : ¬ l[i] = v := fun x => e x.symm
      simp [e, e']

theorem pfx_zero (A : Nat → List Nat) (n j : Nat) : pfx A n 0 j = cnt (cat A n) j := by
  cases j with
  | zero => simp [pfx, cnt, st, pre]
  | succ v => simp [pfx, cnt, seg_edges_count]
theorem pfx_step (A : Nat → List Nat) (n v j : Nat) : (if j = v + 1 then pfx A n v (v + 1) + pfx A n v v else pfx A n v j) = pfx A n (v + 1) j := by
  have hs : st (edges A n) (v + 1) = st (edges A n) v + (seg (edges A n) v).length := rfl
  by_cases h : j = v + 1
  · subst h
    simp [pfx, hs]
    omega
  · by_cases h' : j ≤ v
    · simp [pfx, h, h', show j ≤ v + 1 by omega]
    · simp [pfx, h, h', show ¬ j ≤ v + 1 by omega]
theorem st_le (A : Nat → List Nat) (n v : Nat) (hlt : ∀ u, u < n → ∀ v, v ∈ A u → v < n) (hv : v ≤ n) : st (edges A n) v ≤ (cat A n).length := by
  rw [← edges_length, ← st_total (edges A n) n (edges_lt hlt)]
  exact pre_mono _ hv
theorem cnt_bd (l : List Nat) (v : Nat) (h : l.length ≤ 100000) : 0 ≤ cnt l (v + 1) ∧ cnt l (v + 1) ≤ 100000 := by
  simp only [cnt]
  have := List.count_le_length (a := v) (l := l)
  omega
theorem cat_lt {A : Nat → List Nat} {n : Nat} (h : ∀ u, u < n → ∀ v, v ∈ A u → v < n) : ∀ x, x ∈ cat A n → x < n := by
  have key : ∀ k, (∀ u, u < k → ∀ v, v ∈ A u → v < n) → ∀ x, x ∈ cat A k → x < n := by
    intro k
    induction k with
    | zero => intro _ x hx; simp [cat] at hx
    | succ k ih =>
      intro hk x hx
      simp only [cat, List.mem_append] at hx
      rcases hx with hx | hx
      · exact ih (fun u hu => hk u (by omega)) x hx
      · exact hk k (by omega) x hx
  exact key n h

theorem pfx_bd (A : Nat → List Nat) (n v : Nat) (hlt : ∀ u, u < n → ∀ v, v ∈ A u → v < n) (hv : v < n) (hm : (cat A n).length ≤ 100000) : 0 ≤ pfx A n v v ∧ pfx A n v v ≤ 100000 ∧ 0 ≤ pfx A n v (v + 1) ∧ pfx A n v (v + 1) ≤ 100000 := by
  have h1 := st_le A n v hlt (by omega)
  have h2 := List.count_le_length (a := v) (l := cat A n)
  rw [← seg_edges_count] at h2
  simp only [pfx, Nat.le_refl, if_true, show ¬ v + 1 ≤ v by omega, if_false, Nat.add_sub_cancel]
  omega

/-- .. and the row 'next' beside them. -/
structure RN (w wr : World) (bx gs gt gn n m : Nat) (F T N : Nat → Int) : Prop where
  rv : RV w wr bx gs gt n m F T
  rn : wr.rowIs gn 3 n (fun i => .int .i64 (N i))
  nn : gn ≠ gs ∧ gn ≠ gt ∧ gn ≠ bx
  ln : w.heap.size ≤ gn

theorem RN.start {w wr : World} {bx gs gt n m : Nat} {F T : Nat → Int} {made : Array Value} (h : RV w wr bx gs gt n m F T) (hmd : made.size = n) :
    RN w ((wr.alloc (.cells made 3)).setRow wr.heap.size (((List.range n).map fun j => Value.int .i64 (F j)) ++ List.drop n made.toList).toArray) bx gs gt wr.heap.size n m F T F := by
  have hbx := block_lt_of_cell h.b0
  have hs := h.rs.lt
  have ht := h.rt.lt
  simp only at hbx
  have hblk : ∀ k, k < wr.heap.size → ((wr.alloc (.cells made 3)).setRow wr.heap.size (((List.range n).map fun j => Value.int .i64 (F j)) ++ List.drop n made.toList).toArray).heap[k]? = wr.heap[k]? := fun k hk =>
    (setRow_other _ _ _ _ (by omega)).trans (Below.heap_alloc _ _ _ hk)
  refine ⟨h.block (hblk gs hs) (hblk gt ht) (hblk bx hbx) (below_setRow (h.bel.alloc h.bel.size _) h.bel.size _), ⟨_, setRow_heap _ _ made _ 3 (0, 0) (heap_alloc_new wr _), ?_, fun i hi => ?_⟩, ⟨by omega, by omega, by omega⟩, h.bel.size⟩
  · simp [hmd]
  · rw [List.getElem?_toArray, List.getElem?_append_left (by simpa using hi), List.getElem?_map, List.getElem?_range hi]
    rfl

theorem RN.setT {w wr : World} {bx gs gt gn n m : Nat} {F T N : Nat → Int} (h : RN w wr bx gs gt gn n m F T N) (i : Nat) (x : Int) : RN w (wr.setCell ⟨gt, i, none⟩ (.int .i32 x)) bx gs gt gn n m F (fun j => if j = i then x else T j) N :=
  ⟨h.rv.setT i x, h.rn.setOther (by show gn ≠ gt; exact h.nn.2.1) _, h.nn, h.ln⟩
theorem RN.setN {w wr : World} {bx gs gt gn n m : Nat} {F T N : Nat → Int} (h : RN w wr bx gs gt gn n m F T N) (i : Nat) (x : Int) : RN w (wr.setCell ⟨gn, i, none⟩ (.int .i64 x)) bx gs gt gn n m F T (fun j => if j = i then x else N j) :=
  ⟨h.rv.block (Below.heap_setCell _ _ _ _ (by show gs ≠ gn; exact fun e => h.nn.1 e.symm)) (Below.heap_setCell _ _ _ _ (by show gt ≠ gn; exact fun e => h.nn.2.1 e.symm)) (Below.heap_setCell _ _ _ _ (by show bx ≠ gn; exact fun e => h.nn.2.2 e.symm)) (h.rv.bel.setCell h.ln _),
   (h.rn.set i _).congr fun j _ => by split <;> rfl, h.nn, h.ln⟩

/-- The sort under way: the pairs P, the first of E, have been taken. -/
def FS (w wr : World) (bx gs gt gn n m : Nat) (E P : List (Nat × Nat)) : Prop :=
  ∃ T N, RN w wr bx gs gt gn n m (fun j => (st E j : Nat)) T N ∧ Filled E P T ∧ ∀ x, x < n → N x = ((st E x + (seg P x).length : Nat) : Int)

theorem FS.bel {w wr : World} {bx gs gt gn n m : Nat} {E P : List (Nat × Nat)} (h : FS w wr bx gs gt gn n m E P) : Below w.heap.size w wr := by
  obtain ⟨T, N, h, _⟩ := h
  exact h.rv.bel
theorem FS.drewN {w wr : World} {bx gs gt gn n m : Nat} {E P : List (Nat × Nat)} (h : FS w wr bx gs gt gn n m E P) (d : Nat) : FS w (wr.drewN d) bx gs gt gn n m E P := by
  obtain ⟨T, N, h, h2, h3⟩ := h
  exact ⟨T, N, ⟨h.rv.drewN d, h.rn, h.nn, h.ln⟩, h2, h3⟩
theorem FS.pos_lt {n : Nat} {E P Q : List (Nat × Nat)} {u x : Nat} (hE : E = P ++ (u, x) :: Q) (hx : x < n) : st E x + (seg P x).length < st E n := by
  refine pre_in (fun x => (seg E x).length) hx ?_
  rw [hE, seg_append, show (u, x) :: Q = [(u, x)] ++ Q from rfl, seg_append, seg_one, if_pos rfl]
  simp
theorem FS.facts {w wr : World} {bx gs gt gn n m : Nat} {E P : List (Nat × Nat)} {x : Nat} (h : FS w wr bx gs gt gn n m E P) (hp : st E x + (seg P x).length < m) (hx : x < n) :
    wr.cell? ⟨gn, x, none⟩ = some (.int .i64 ((st E x + (seg P x).length : Nat) : Int)) ∧ (∃ y, wr.cell? ⟨gt, st E x + (seg P x).length, none⟩ = some (.int .i32 y)) ∧ wr.frozen? ⟨gt, st E x + (seg P x).length, none⟩ = false ∧ wr.frozen? ⟨gn, x, none⟩ = false ∧
    wr.cell? ⟨bx, 1, none⟩ = some (.slice (some ⟨gt, 0, none⟩) m m) ∧ gn ≠ gt ∧ gn ≠ bx ∧ gt ≠ bx := by
  obtain ⟨T, N, h, h2, h3⟩ := h
  exact ⟨by rw [h.rn.cell hx, h3 x hx], ⟨_, h.rv.rt.cell hp⟩, h.rv.rt.frozen _, h.rn.frozen _, h.rv.b1, h.nn.2.1, h.nn.2.2, h.rv.ne.2.2⟩
theorem FS.succ {w wr : World} {bx gs gt gn n m : Nat} {A : Nat → List Nat} (h : FS w wr bx gs gt gn n m (edges A n) (edges A n)) (hm : m = st (edges A n) n) : Succ wr bx n (rev A n) gs (n + 1) (some ⟨gt, 0, none⟩) m m := by
  obtain ⟨T, N, h, h2, _⟩ := h
  refine ⟨h.rv.b0, h.rv.b1, hm, Nat.le_refl _, fun u hu => h.rv.rs.cell (by omega), .inr ⟨gt, rfl, fun u j hj hu => ?_⟩⟩
  have hpos : st (edges A n) u + j < m := by rw [hm]; exact pre_in (fun x => (seg (edges A n) x).length) hu hj
  have := h.rv.rt.cell hpos
  rw [h2 u j hj] at this
  exact this
theorem FS.step {w wr : World} {bx gs gt gn n m : Nat} {E P Q : List (Nat × Nat)} {u x : Nat} (h : FS w wr bx gs gt gn n m E P) (hE : E = P ++ (u, x) :: Q) (_hx : x < n) :
    FS w (((wr.setCell ⟨gt, st E x + (seg P x).length, none⟩ (.int .i32 (u : Int))).setCell ⟨gn, x, none⟩ (.int .i64 (((st E x + (seg P x).length : Nat) : Int) + 1))).drew) bx gs gt gn n m E (P ++ [(u, x)]) := by
  obtain ⟨T, N, h, h2, h3⟩ := h
  have h4 := (h.setT (st E x + (seg P x).length) (u : Int)).setN x (((st E x + (seg P x).length : Nat) : Int) + 1)
  refine ⟨_, _, ⟨h4.rv.drew, h4.rn, h4.nn, h4.ln⟩, filled_snoc hE h2, fun y hy => ?_⟩
  by_cases e : y = x
  · subst e
    rw [seg_snoc_same]
    simp
    omega
  · rw [seg_snoc_ne P e, if_neg e]
    exact h3 y hy

theorem copy_src {w wr : World} {bx gs gt n m : Nat} {F T : Nat → Int} {o : Obj} (h : RV w wr bx gs gt n m F T) : ∀ j v, ((List.range n).map fun j => Value.int .i64 (F j))[j]? = some v → (wr.alloc o).cell? ((⟨gs, 0, none⟩ : Addr).add j) = some v := by
  intro j v hj
  have hjn : j < n := by
    have := (List.getElem?_eq_some_iff.1 hj).1
    simpa using this
  rw [Addr.add_lit, Nat.zero_add, World.cell?_alloc_past _ _ _ h.rs.lt, h.rs.cell (by omega)]
  rw [List.getElem?_map, List.getElem?_range hjn] at hj
  exact hj

set_option maxRecDepth 100000 in
set_option maxHeartbeats 2000000 in
theorem reversed_any (b n : Nat) (A : Nat → List Nat) (gs0 cs : Nat) (ao : Option Addr) (m ct : Nat) (w : World) (hS : Succ w b n A gs0 cs ao m ct) (hn : n ≤ 1000) (hm : m ≤ 100000) (hlt : ∀ u, u < n → ∀ v, v ∈ A u → v < n) :
    Calls Yba.prog 11 #[.pointer (some ⟨b, 0, none⟩)] w fun e w' => ∃ bx gs gt, e = .returned (.pointer (some ⟨bx, 0, none⟩)) ∧ Succ w' bx n (rev A n) gs (n + 1) (some ⟨gt, 0, none⟩) m m ∧ Below w.heap.size w w' := by
  have c0 := hS.c0
  have c1 := hS.c1
  have hb := block_lt_of_cell c0
  simp only at hb
  have HS : Hid (Succ w b n A gs0 cs ao m ct) := hS
  have HLT : Hid (∀ u, u < n → ∀ v, v ∈ A u → v < n) := hlt
  have hmk1 := run_make_row' (P := Yba.prog) 41 3 (.int .i64 0) 8 Yba.underlying41 Yba.info3 rfl .i64 .i64 (n + 1) (by omega) (by omega)
  have hmk2 := run_make_row' (P := Yba.prog) 59 21 (.int .i32 0) 4 Yba.underlying59 Yba.info21 rfl .i64 .i64 m (by omega) (by omega)
  have ec : ((n + 1 : Nat) : Int) = (n : Int) + 1 := by omega
  rw [ec] at hmk1
  clear ec hS hlt
  go_enter Yba.func11, Yba.ntmps11
  go_upto_region 2 with fail
  go_cut [4] (fun v wc => ∃ bx gs gt, v = .pointer (some ⟨bx, 0, none⟩) ∧ RV w wc bx gs gt n m (fun _ => 0) (fun _ => 0))
  case first =>
    go_region
    all_goals go_wp2_with fail
    all_goals go_meet
    all_goals first | exact ⟨_, _, _, rfl, (RV.start1 w n m).drew⟩ | exact ⟨_, _, _, rfl, (RV.start2 w n m).drew⟩
  case rest =>
    obtain ⟨bx, gs, gt, rfl, hR⟩ := hcut
    clear hmk1 hmk2
    have hm0 := HS.out.hm
    rw [← cat_len] at hm0
    have HM : Hid (m = (cat A n).length) := hm0
    clear hm0
    have hnb := hR.bel
    have c1' := (hnb.cell (p := ⟨b, 1, none⟩) hb).trans c1
    go_wp2_with fail
    go_loopw [34] (fun c wr => ∃ i : Nat, i ≤ m ∧ c = .int .i64 i ∧ RV w wr bx gs gt n m (cnt ((cat A n).take i)) (fun _ => 0)) (fun c _ => m - (intOf c).toNat)
    case atStart => exact ⟨0, Nat.zero_le _, rfl, hR.congr fun j _ => by cases j <;> simp [cnt]⟩
    case round =>
      clear hR hnb c1'
      obtain ⟨i, hi, rfl, hR⟩ := hrel
      by_cases hlt : i < m
      · obtain ⟨gt0, rfl, q⟩ := HS.out.cat (i := i) (by rw [← HM.out]; exact hlt)
        have hq := block_lt_of_cell q
        simp only at hq
        have q1 := (hR.bel.cell (p := ⟨gt0, i, none⟩) hq).trans q
        have hst := cnt_step (cat A n) i (by rw [← HM.out]; exact hlt)
        have hvn : (cat A n)[i]'(by rw [← HM.out]; exact hlt) < n := cat_lt HLT.out _ (List.getElem_mem _)
        obtain ⟨v, hv⟩ : ∃ v, v = (cat A n)[i]'(by rw [← HM.out]; exact hlt) := ⟨_, rfl⟩
        rw [← hv] at q1 hst hvn
        have k0 := hR.rs.cell (i := v + 1) (by omega)
        have f0 := hR.rs.frozen (v + 1)
        have hcb : 0 ≤ cnt ((cat A n).take i) (v + 1) ∧ cnt ((cat A n).take i) (v + 1) ≤ 100000 := cnt_bd _ _ (by simp; omega)
        have HR : Hid (RV w wr bx gs gt n m (cnt ((cat A n).take i)) (fun _ => 0)) := hR
        have b0 := hR.b0
        have HST : Hid (∀ j, (if j = v + 1 then cnt ((cat A n).take i) (v + 1) + 1 else cnt ((cat A n).take i) j) = cnt ((cat A n).take (i + 1)) j) := hst
        generalize cnt ((cat A n).take i) (v + 1) = cv at *
        obtain ⟨hcb0, hcb1⟩ := hcb
        clear hR hst hv q hq
        go_wp2_with fail
        go_roundw
        case rel => exact ⟨i + 1, by omega, by go_num, (HR.out.setS (v + 1) (cv + 1)).congr fun j _ => HST.out j⟩
        case measure => simp [intOf]; omega
      · obtain rfl : i = m := by omega
        have hR2 : RV w wr bx gs gt n i (pfx A n 0) (fun _ => 0) := by
          refine hR.congr fun j _ => ?_
          rw [HM.out, List.take_length]
          exact (pfx_zero A n j).symm
        clear hR hlt
        go_wp2_with fail
        clear hi
        go_loopw [7] (fun c wr => ∃ v : Nat, v ≤ n ∧ c = .int .i64 v ∧ RV w wr bx gs gt n i (pfx A n v) (fun _ => 0)) (fun c _ => n - (intOf c).toNat)
        case atStart => exact ⟨0, Nat.zero_le _, rfl, hR2⟩
        case round =>
          clear hR2
          obtain ⟨v, hv, rfl, hR⟩ := hrel
          by_cases hlt : v < n
          · have k0 := hR.rs.cell (i := v) (by omega)
            have k1 := hR.rs.cell (i := v + 1) (by omega)
            have f1 := hR.rs.frozen (v + 1)
            have b0 := hR.b0
            have hst := pfx_step A n v
            obtain ⟨hb0, hb1, hb2, hb3⟩ := pfx_bd A n v HLT.out hlt (by rw [← HM.out]; exact hm)
            have HR : Hid (RV w wr bx gs gt n i (pfx A n v) (fun _ => 0)) := hR
            have HST : Hid (∀ j, (if j = v + 1 then pfx A n v (v + 1) + pfx A n v v else pfx A n v j) = pfx A n (v + 1) j) := hst
            generalize pfx A n v v = x0 at *
            generalize pfx A n v (v + 1) = x1 at *
            clear hR hst
            have z1 : (0 : Int) ≤ (v : Int) := by omega
            have z2 : (v : Int) < (n : Int) + 1 := by omega
            have z3 : (v : Int) + 1 < (n : Int) + 1 := by omega
            go_wp2_with fail
            go_region
            all_goals
              go_wp2_with fail
              go_roundw
              case rel => exact ⟨v + 1, by omega, by go_num, ((HR.out.setS (v + 1) (x1 + x0)).congr fun j _ => HST.out j).drew⟩
              case measure => simp [intOf]; omega
          · obtain rfl : v = n := by omega
            have hR3 : RV w wr bx gs gt v i (fun j => (st (edges A v) j : Nat)) (fun _ => 0) := hR.congr fun j hj => by simp [pfx, hj]
            clear hR hlt
            have hmk3 := run_make_row' (P := Yba.prog) 41 3 (.int .i64 0) 8 Yba.underlying41 Yba.info3 rfl .i64 .i64 v (by omega) (by omega)
            have b0 := hR3.b0
            have hsz3 := hR3.bel.size
            have hbx : bx < wr.heap.size := block_lt_of_cell hR3.b0
            have HR3 : Hid (RV w wr bx gs gt v i (fun j => (st (edges A v) j : Nat)) (fun _ => 0)) := hR3
            clear hR3
            have hcp := run_copy_row (P := Yba.prog) (wr.alloc (.cells (madeCells #[.int .i64 0] v) 3)) 41 41 3 3 wr.heap.size 0 v v ⟨gs, 0, none⟩ v (v + 1) (madeCells #[.int .i64 0] v) 3 ((List.range v).map fun j => .int .i64 (st (edges A v) j : Nat)) Yba.underlying41 (by kernel_rfl) (heap_alloc_new wr _) (by simp) (copy_src HR3.out) (by simp [madeCells]) (by simp [Value.oneCell'])
            go_wp2_with fail
            obtain ⟨gn, hgn⟩ : ∃ gn, gn = wr.heap.size := ⟨_, rfl⟩
            have hN := RN.start HR3.out (made := madeCells #[.int .i64 0] v) (by simp [madeCells])
            rw [← hgn] at hN ⊢
            generalize World.setRow _ _ _ = W5 at hN ⊢
            clear hcp hmk3 b0 hsz3 hbx hgn HR3
            have hFS : FS w W5 bx gs gt gn v i (edges A v) (edges A 0) := ⟨_, _, hN, filled_nil _ _, fun x _ => by simp [edges, seg]⟩
            have hm2 : i = st (edges A v) v := by rw [st_total (edges A v) v (edges_lt HLT.out), edges_length]; exact HM.out
            have HM2 : Hid (i = st (edges A v) v) := hm2
            clear hN hm2
            go_loopw [9] (fun c wr => ∃ u : Nat, u ≤ v ∧ c = .int .i64 u ∧ FS w wr bx gs gt gn v i (edges A v) (edges A u)) (fun c _ => v - (intOf c).toNat)
            case atStart => exact ⟨0, Nat.zero_le _, rfl, hFS⟩
            case round =>
              clear hFS
              obtain ⟨u, hu, rfl, hF⟩ := hrel
              by_cases hlt : u < v
              · have hSr := HS.out.below hF.bel
                have hF0 : FS w wr bx gs gt gn v i (edges A v) (edges A u ++ ((A u).take 0).map (fun x => (u, x))) := by simpa using hF
                have HF : Hid (FS w wr bx gs gt gn v i (edges A v) (edges A u ++ ((A u).take 0).map (fun x => (u, x)))) := hF0
                clear hF hF0
                go_wp2_with (go_at_call 8; refine (of_any b v u A gs0 cs ao i ct _ hSr hlt hn hm).mono ?_; rintro e w1 ⟨a, ca, rfl, hI, d, rfl⟩)
                have hIs := hI w HS.out
                have hlA : (A u).length ≤ 100000 := by have := at0_mono A (a := u + 1) (b := v) hlt; have := at0_succ A u; have := HS.out.hm; omega
                clear hI hSr
                have HFd : Hid (FS w (wr.drewN d) bx gs gt gn v i (edges A v) (edges A u ++ ((A u).take 0).map (fun x => (u, x)))) := HF.out.drewN d
                have HIs : Hid (I32s w a (A u)) := hIs
                clear HF hIs
                go_loopw [90] (fun c wr => ∃ j : Nat, j ≤ (A u).length ∧ c = .int .i64 j ∧ FS w wr bx gs gt gn v i (edges A v) (edges A u ++ ((A u).take j).map (fun x => (u, x)))) (fun c _ => (A u).length - (intOf c).toNat)
                case atStart => exact ⟨0, Nat.zero_le _, rfl, HFd.out⟩
                case round =>
                  clear HFd
                  obtain ⟨j, hj, rfl, hF⟩ := hrel
                  by_cases hjl : j < (A u).length
                  · obtain ⟨g, off, rfl, hcell⟩ := HIs.out.resolve_left (fun e => by simp [e] at hjl)
                    obtain ⟨Q, hQ⟩ := edges_split A hlt hjl
                    have q0 := hcell j hjl
                    have hg := block_lt_of_cell q0
                    simp only at hg
                    have q1 := (hF.bel.cell (p := ⟨g, off + j, none⟩) hg).trans q0
                    have hxn : (A u)[j] < v := HLT.out u hlt _ (List.getElem_mem _)
                    have HP : Hid (edges A u ++ ((A u).take (j + 1)).map (fun x => (u, x)) = (edges A u ++ ((A u).take j).map (fun x => (u, x))) ++ [(u, (A u)[j])]) := by
                      show _ = _
                      rw [List.take_succ_eq_append_getElem hjl, List.map_append, List.append_assoc]
                      rfl
                    obtain ⟨x, hx⟩ : ∃ x, x = (A u)[j] := ⟨_, rfl⟩
                    rw [← hx] at q1 hQ hxn HP
                    have HQ : Hid (edges A v = (edges A u ++ ((A u).take j).map (fun x => (u, x))) ++ (u, x) :: Q) := hQ
                    generalize edges A u ++ ((A u).take j).map (fun x => (u, x)) = P at *
                    have hnx := FS.pos_lt HQ.out hxn
                    rw [← HM2.out] at hnx
                    obtain ⟨k0, ⟨y, k1⟩, kf1, kf0, kb, hne1, hne2, hne3⟩ := hF.facts hnx hxn
                    have HF : Hid (FS w wr bx gs gt gn v i (edges A v) P) := hF
                    have hstep := hF.step HQ.out hxn
                    have HSTEP : Hid (FS w (((wr.setCell ⟨gt, st (edges A v) x + (seg P x).length, none⟩ (.int .i32 (u : Int))).setCell ⟨gn, x, none⟩ (.int .i64 (((st (edges A v) x + (seg P x).length : Nat) : Int) + 1))).drew) bx gs gt gn v i (edges A v) (P ++ [(u, x)])) := hstep
                    generalize st (edges A v) x + (seg P x).length = nx at *
                    clear hQ hF hstep hcell q0 hx HF
                    go_wp2_with fail
                    go_region
                    all_goals
                      go_wp2_with fail
                      go_roundw
                      case rel => exact ⟨j + 1, by omega, by go_num, by rw [HP.out]; exact HSTEP.out⟩
                      case measure => simp [intOf]; omega
                  · obtain rfl : j = (A u).length := by omega
                    go_wp2_with fail
                    go_roundw
                    case rel => exact ⟨u + 1, by omega, by go_num, by rw [List.take_length] at hF; exact hF⟩
                    case measure => simp [intOf]; omega
              · obtain rfl : u = v := by omega
                go_wp2_with fail
                go_ret
                exact ⟨bx, gs, gt, rfl, hF.succ HM2.out, hF.bel⟩

end Go.Proofs.Ybulkaebg

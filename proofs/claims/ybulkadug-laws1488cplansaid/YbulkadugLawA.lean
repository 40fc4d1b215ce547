/-
  LawS1488CPlan over toys/ybulkadug: what the law's walk speaks of; the way of a long input.
-/
import Derived.Test.YbulkadugPlanOf
namespace Go.Proofs.Ybulkadug
open Go.RowKit
attribute [local go_sem ↓] Go.wp_at_zero Go.wp_at_succ

/-- A []string that came in. -/
def IsStrs (w : World) (ao : Option Addr) (n : Nat) (S : Nat → ByteArray) : Prop :=
  n = 0 ∨ ∃ b off, ao = some ⟨b, off, none⟩ ∧ ∀ i, i < n → w.cell? ⟨b, off + i, none⟩ = some (.string (S i))

/-- A raw move. -/
structure Raw where
  g : Int
  f : Int
  t : Int
  c : Int
  r : Int
  j : Bool

/-- The raw moves that came in: six cells each. -/
def IsRaw (w : World) (ao : Option Addr) (n : Nat) (R : Nat → Raw) : Prop :=
  n = 0 ∨ ∃ b off, ao = some ⟨b, off, none⟩ ∧ ∀ i, i < n → w.cell? ⟨b, off + i * 6, none⟩ = some (.int .i32 (R i).g) ∧ w.cell? ⟨b, off + i * 6 + 1, none⟩ = some (.int .i32 (R i).f) ∧ w.cell? ⟨b, off + i * 6 + 2, none⟩ = some (.int .i32 (R i).t) ∧
    w.cell? ⟨b, off + i * 6 + 3, none⟩ = some (.int .i64 (R i).c) ∧ w.cell? ⟨b, off + i * 6 + 4, none⟩ = some (.int .u8 (R i).r) ∧ w.cell? ⟨b, off + i * 6 + 5, none⟩ = some (.bool (R i).j)

/-- The planned move that a raw one becomes. -/
def pm (nS nG : Nat) (x : Raw) : PM := { c := x.c, g := if x.g < 0 then x.g else idx x.g nG, f := idx x.f nS, t := idx x.t nS, r := x.r, j := x.j }

def srv (s : ByteArray) : List Value := [.string s, .string ⟨#[]⟩, .map none, .int .i64 0, .pointer none]
def grp (s : ByteArray) : List Value := [.string s, .string ⟨#[]⟩, .int .i64 1, .slice none 0 0, .int .i64 0]
/-- The cells of the first k elements. -/
def rows (f : Nat → List Value) : Nat → List Value
  | 0 => []
  | k + 1 => rows f k ++ f k
def srvs (S : Nat → ByteArray) : Nat → List Value := rows fun i => srv (S i)
def grps (S : Nat → ByteArray) : Nat → List Value := rows fun i => grp (S i)
def pms (M : Nat → PM) : Nat → List Value := rows fun i => (M i).cells

theorem pms_succ (M : Nat → PM) (k : Nat) : pms M (k + 1) = pms M k ++ (M k).cells := rfl

theorem rows_length {f : Nat → List Value} {s : Nat} (hf : ∀ i, (f i).length = s) (k : Nat) : (rows f k).length = k * s := by
  induction k with
  | zero => simp [rows]
  | succ k ih => simp [rows, ih, hf, Nat.succ_mul]

theorem rows_at {f : Nat → List Value} {s : Nat} (hf : ∀ i, (f i).length = s) {k i j : Nat} (hi : i < k) (hj : j < s) : (rows f k)[i * s + j]? = (f i)[j]? := by
  induction k with
  | zero => omega
  | succ k ih =>
    have hl := rows_length hf k
    have h1 : i * s + j < (i + 1) * s := by rw [Nat.succ_mul]; omega
    simp only [rows]
    by_cases h : i < k
    · have h2 : (i + 1) * s ≤ k * s := Nat.mul_le_mul_right s h
      rw [List.getElem?_append_left (by omega)]
      exact ih h
    · obtain rfl : i = k := by omega
      rw [List.getElem?_append_right (by omega)]
      congr 1
      omega

def srvZ : Value := .agg #[.string ⟨#[]⟩, .string ⟨#[]⟩, .map none, .int .i64 0, .pointer none]
def grpZ : Value := .agg #[.string ⟨#[]⟩, .string ⟨#[]⟩, .int .i64 0, .slice none 0 0, .int .i64 0]
def pmZ : Value := .agg #[.int .i64 0, .int .i32 0, .int .i32 0, .int .i32 0, .int .u8 0, .bool false]
theorem Yba.info37 : (Yba.prog.info? 37).map (fun i => (i.zero, i.size, i.bytes)) = some (some srvZ, 5, 56) := by kernel_rfl
theorem Yba.info40 : (Yba.prog.info? 40).map (fun i => (i.zero, i.size, i.bytes)) = some (some grpZ, 5, 72) := by kernel_rfl
theorem Yba.info46 : (Yba.prog.info? 46).map (fun i => (i.zero, i.size, i.bytes)) = some (some pmZ, 6, 24) := by kernel_rfl

theorem pm_cells_neg {nS nG : Nat} {x : Raw} (h : x.g < 0) : (pm nS nG x).cells = [.int .i64 x.c, .int .i32 x.g, .int .i32 (idx x.f nS), .int .i32 (idx x.t nS), .int .u8 x.r, .bool x.j] := by
  simp [PM.cells, pm, h]
theorem pm_cells_pos {nS nG : Nat} {x : Raw} (h : 0 ≤ x.g) : (pm nS nG x).cells = [.int .i64 x.c, .int .i32 (idx x.g nG), .int .i32 (idx x.f nS), .int .i32 (idx x.t nS), .int .u8 x.r, .bool x.j] := by
  have h' : ¬ x.g < 0 := by omega
  simp [PM.cells, pm, h']
theorem idx_lt' (x : Int) (n : Nat) : idx x n < n ∨ idx x n < 0 := by
  by_cases h : idx x n < 0
  · exact .inr h
  · exact .inl (idx_lt x n h).2
theorem idx_le (x : Int) (n : Nat) : idx x n < n := by
  rcases idx_lt' x n with h | h <;> omega
theorem pm_g_lt (nS nG : Nat) (x : Raw) : (pm nS nG x).g < nG := by
  simp only [pm]
  split
  · omega
  · exact idx_le _ _

/-- A row of planned moves, six cells each, by its cells. -/
theorem PMs_of_own {w : World} {base g n cap : Nat} {M : Nat → PM} (h : w.ownsRow base 46 6 (.slice (some ⟨g, 0, none⟩) n cap) n (pms M n)) : PMs w g n M := by
  intro i hi
  have key : ∀ j, j < 6 → w.cell? ⟨g, i * 6 + j, none⟩ = (M i).cells[j]? := fun j hj => by
    rw [h.cellAt (i * 6 + j) (by omega)]
    exact rows_at (f := fun i => (M i).cells) (s := 6) (fun i => rfl) hi hj
  exact ⟨key 0 (by omega), key 1 (by omega), key 2 (by omega), key 3 (by omega), key 4 (by omega), key 5 (by omega)⟩

theorem mvs_at {S G : Nat → ByteArray} {l : List PM} {t j : Nat} {x : Value} (ht : t < l.length) (h : (mv S G l[t])[j]? = some x) : (mvs S G l)[t * 5 + j]? = some x := by
  induction l generalizing t with
  | nil => simp at ht
  | cons m l ih =>
    have hj : j < 5 := by have := (List.getElem?_eq_some_iff.1 h).1; simpa [mv] using this
    have hm : mvs S G (m :: l) = mv S G m ++ mvs S G l := by simp [mvs]
    have hl : (mv S G m).length = 5 := rfl
    rw [hm]
    cases t with
    | zero => rw [List.getElem?_append_left (by omega)]; simpa using h
    | succ t =>
      rw [List.getElem?_append_right (by omega), hl, show (t + 1) * 5 + j - 5 = t * 5 + j by omega]
      exact ih (by simpa using ht) (by simpa using h)

set_option maxRecDepth 100000 in
/-- A Move is not unequal to itself. -/
theorem mv_neq (s0 s2 s3 : ByteArray) (c r : Int) (w : World) :
    (binOp .neq 56 (.agg #[.string s0, .int .i64 c, .string s2, .string s3, .int .i64 r]) (.agg #[.string s0, .int .i64 c, .string s2, .string s3, .int .i64 r])).run Yba.prog w = .ok (.bool false) w := by
  simp [go_sem]

/-! Worlds: what is kept but for one block of the call's own. -/
theorem grown_set {w w1 : World} {B : Nat} (h : w.grownBy w1 (some B)) (j : Nat) (v : Value) : w.grownBy (w1.setCell ⟨B, j, none⟩ v) (some B) :=
  ⟨h.os, h.tape, h.output, by simpa using h.size, fun k hk hne => (Below.heap_setCell _ _ _ _ (fun e => hne (by rw [e]))).trans (h.block k hk hne)⟩
theorem grown_row {w w1 w2 : World} {B : Nat} {row : Option Nat} (h : w.grownBy w1 (some B)) (hg : w1.grownBy w2 row) (hr : ∀ k, row = some k → w.heap.size ≤ k) : w.grownBy w2 (some B) :=
  ⟨hg.os.trans h.os, hg.tape.trans h.tape, hg.output.trans h.output, Nat.le_trans h.size hg.size, fun k hk hne =>
    (hg.block k (Nat.lt_of_lt_of_le hk h.size) (fun e => by have := hr k e.symm; omega)).trans (h.block k hk hne)⟩
theorem grown_alloc {w w1 : World} {row : Option Nat} (h : w.grownBy w1 row) (o : Obj) : w.grownBy (w1.alloc o) row :=
  ⟨h.os, h.tape, h.output, by have := h.size; simp; omega, fun k hk hne => (Below.heap_alloc _ _ _ (Nat.lt_of_lt_of_le hk h.size)).trans (h.block k hk hne)⟩
theorem far_cell {wr w1 : World} {o : Obj} {row : Option Nat} {B j : Nat} {v : Value} (hg : (wr.alloc o).grownBy w1 row) (hr : ∀ k, row = some k → B + 1 ≤ k) (x : wr.cell? ⟨B, j, none⟩ = some v) : w1.cell? ⟨B, j, none⟩ = some v := by
  have hB := block_lt_of_cell x
  simp at hB
  rw [hg.cell_far _ (by simp; omega) (fun e => by have := hr _ e.symm; simp only at this; omega), World.cell?_alloc_past _ _ _ hB, x]
theorem far_frozen {wr w1 : World} {o : Obj} {row : Option Nat} {B j : Nat} {v : Value} (hg : (wr.alloc o).grownBy w1 row) (hr : ∀ k, row = some k → B + 1 ≤ k) (x : wr.cell? ⟨B, j, none⟩ = some v) (y : wr.frozen? ⟨B, j, none⟩ = false) : w1.frozen? ⟨B, j, none⟩ = false := by
  have hB := block_lt_of_cell x
  simp at hB
  rw [hg.frozen_far _ (by simp; omega) (fun e => by have := hr _ e.symm; simp only at this; omega), World.frozen?_alloc_old wr o ⟨B, j, none⟩ (by simp; omega), y]
theorem grown_refl (w : World) (row : Option Nat) : w.grownBy w row := ⟨rfl, rfl, rfl, Nat.le_refl _, fun _ _ _ => rfl⟩
theorem below_of_grown {w w1 : World} {o : Obj} (h : (w.alloc o).grownBy w1 (some w.heap.size)) : Below w.heap.size w w1 :=
  ⟨h.os, h.tape, h.output, by have := h.size; simp at this; omega, fun k hk => (h.block k (by simp; omega) (fun e => by have := Option.some.inj e; omega)).trans (Below.heap_alloc _ _ _ hk)⟩

/-- The snapshot's first two fields, in block B. -/
def Snap (B : Nat) (w : World) (v0 v1 : Value) : Prop :=
  w.cell? ⟨B, 0, none⟩ = some v0 ∧ w.cell? ⟨B, 1, none⟩ = some v1 ∧ w.frozen? ⟨B, 0, none⟩ = false ∧ w.frozen? ⟨B, 1, none⟩ = false

theorem Snap.set0 {B : Nat} {w : World} {v0 v1 : Value} (h : Snap B w v0 v1) (v : Value) : Snap B (w.setCell ⟨B, 0, none⟩ v) v v1 :=
  ⟨World.cell?_setCell_same w _ v h.1, (World.cell?_setCell_other w _ _ v (by simp)).trans h.2.1, by simpa using h.2.2.1, by simpa using h.2.2.2⟩
theorem Snap.set1 {B : Nat} {w : World} {v0 v1 : Value} (h : Snap B w v0 v1) (v : Value) : Snap B (w.setCell ⟨B, 1, none⟩ v) v0 v :=
  ⟨(World.cell?_setCell_other w _ _ v (by simp)).trans h.1, World.cell?_setCell_same w _ v h.2.1, by simpa using h.2.2.1, by simpa using h.2.2.2⟩
theorem Snap.far {B : Nat} {w w1 : World} {v0 v1 : Value} {o : Obj} {row : Option Nat} (h : Snap B w v0 v1) (hg : (w.alloc o).grownBy w1 row) (hr : ∀ k, row = some k → B + 1 ≤ k) : Snap B w1 v0 v1 :=
  ⟨far_cell hg hr h.1, far_cell hg hr h.2.1, far_frozen hg hr h.1 h.2.2.1, far_frozen hg hr h.2.1 h.2.2.2⟩

/-- What an owned row of ids, five cells an element, gives. -/
theorem ids_of_own {w : World} {base e : Nat} {v : Value} {n : Nat} {f : ByteArray → List Value} {S : Nat → ByteArray} (hf : ∀ s, (f s).length = 5 ∧ (f s)[0]? = some (.string s)) (h : w.ownsRow base e 5 v n (rows (fun i => f (S i)) n)) :
    ∃ ao cp, v = .slice ao n cp ∧ Ids w ao n S ∧ ∀ a, ao = some a → base ≤ a.block ∧ a.block < w.heap.size := by
  have h0 := h
  have hlt := h.lt
  rcases h.2 with ⟨rfl, rfl⟩ | ⟨g, cap, cur, rfl, hb, hg, hrest⟩
  · exact ⟨none, 0, rfl, fun i hi => absurd hi (by omega), fun a ha => by cases ha⟩
  · refine ⟨some ⟨g, 0, none⟩, cap, rfl, fun i hi => ⟨g, rfl, ?_⟩, fun a ha => by cases ha; exact hlt g rfl⟩
    rw [h0.cellAt (i * 5) (by omega)]
    have := rows_at (f := fun i => f (S i)) (s := 5) (fun i => (hf _).1) hi (j := 0) (by omega)
    rw [Nat.add_zero] at this
    rw [this]
    exact (hf _).2

theorem Ids.grown {w w1 : World} {row : Option Nat} {ao : Option Addr} {n : Nat} {S : Nat → ByteArray} (h : Ids w ao n S) (hg : w.grownBy w1 row) (hne : ∀ a, ao = some a → some a.block ≠ row) : Ids w1 ao n S := fun i hi => by
  obtain ⟨g, rfl, hc⟩ := h i hi
  exact ⟨g, rfl, (hg.cell_far _ (block_lt_of_cell hc) (hne ⟨g, 0, none⟩ rfl)).trans hc⟩

theorem Ids.below {B : Nat} {w w1 : World} {ao : Option Addr} {n : Nat} {S : Nat → ByteArray} (h : Ids w ao n S) (hg : Below B w w1) (hlt : ∀ a, ao = some a → a.block < B) : Ids w1 ao n S := fun i hi => by
  obtain ⟨g, rfl, hc⟩ := h i hi
  exact ⟨g, rfl, (hg.cell (p := ⟨g, i * 5, none⟩) (hlt ⟨g, 0, none⟩ rfl)).trans hc⟩

set_option maxRecDepth 100000 in
set_option maxHeartbeats 1000000 in
theorem law_long (a0 a1 a2 : Option Addr) (n0 c0 n1 c1 n2 c2 : Nat) (w : World) (h : 1024 < n0 ∨ 1024 < n1 ∨ 1024 < n2) :
    Calls Yba.prog 3 #[.slice a0 n0 c0, .slice a1 n1 c1, .slice a2 n2 c2] w fun e w' => e = .returned (.bool true) ∧ Below w.heap.size w w' := by
  by_cases h0 : 1024 < n0
  · go_enter Yba.func3, Yba.ntmps3
    go_wp2
    go_ret
    exact ⟨rfl, Below.refl _ _⟩
  · by_cases h1 : 1024 < n1
    · go_enter Yba.func3, Yba.ntmps3
      go_wp2
      go_ret
      exact ⟨rfl, Below.refl _ _⟩
    · have h2 : 1024 < n2 := by omega
      go_enter Yba.func3, Yba.ntmps3
      go_wp2
      go_ret
      exact ⟨rfl, Below.refl _ _⟩

end Go.Proofs.Ybulkadug

/-
  LawS1501BGraph over toys/ybulkaebg: a frame with exceptions; the plain functions of sessionsAndKeys.
-/
import Derived.Test.YbulkaebgHist
namespace Go.Proofs.Ybulkaebg
open Go.RowKit

/-- BELOW BLOCK B, but for the blocks of S, w' IS AS w WAS. -/
structure Frm (B : Nat) (S : List Nat) (w w' : World) : Prop where
  os : w'.os = w.os
  tape : w'.tape = w.tape
  output : w'.output = w.output
  size : w.heap.size ≤ w'.heap.size
  block : ∀ k, k < B → k ∉ S → w'.heap[k]? = w.heap[k]?

theorem Frm.refl (B : Nat) (S : List Nat) (w : World) : Frm B S w w := ⟨rfl, rfl, rfl, Nat.le_refl _, fun _ _ _ => rfl⟩
theorem Frm.trans {B : Nat} {S : List Nat} {a b c : World} (h : Frm B S a b) (k : Frm B S b c) : Frm B S a c :=
  ⟨k.os.trans h.os, k.tape.trans h.tape, k.output.trans h.output, Nat.le_trans h.size k.size, fun j hj hn => (k.block j hj hn).trans (h.block j hj hn)⟩
theorem Frm.mono {B B' : Nat} {S S' : List Nat} {w w' : World} (h : Frm B S w w') (hB : B' ≤ B) (hS : ∀ k, k ∈ S → k ∈ S' ∨ B' ≤ k) : Frm B' S' w w' :=
  ⟨h.os, h.tape, h.output, h.size, fun k hk hn => h.block k (by omega) (fun hm => by rcases hS k hm with h | h <;> first | exact hn h | omega)⟩
theorem Frm.of_below {B : Nat} {S : List Nat} {w w' : World} (h : Below B w w') : Frm B S w w' := ⟨h.os, h.tape, h.output, h.size, fun k hk _ => h.block k hk⟩
theorem Frm.below {B : Nat} {S : List Nat} {w w' : World} (h : Frm B S w w') {B' : Nat} (hB : B' ≤ B) (hS : ∀ k, k ∈ S → B' ≤ k) : Below B' w w' :=
  ⟨h.os, h.tape, h.output, h.size, fun k hk => h.block k (by omega) (fun hm => by have := hS k hm; omega)⟩
theorem Frm.alloc {B : Nat} {S : List Nat} {a w : World} (h : Frm B S a w) (hB : B ≤ w.heap.size) (o : Obj) : Frm B S a (w.alloc o) := h.trans (.of_below ((Below.refl _ _).alloc hB o))
theorem Frm.drew {B : Nat} {S : List Nat} {a w : World} (h : Frm B S a w) : Frm B S a w.drew := ⟨h.os, h.tape, h.output, h.size, h.block⟩
theorem Frm.setCell {B : Nat} {S : List Nat} {a w : World} (h : Frm B S a w) {p : Addr} (hp : p.block ∈ S ∨ B ≤ p.block) (u : Value) : Frm B S a (w.setCell p u) :=
  ⟨h.os, h.tape, h.output, by simpa using h.size, fun k hk hn => (Below.heap_setCell _ _ _ _ (fun e => by subst e; rcases hp with h | h <;> first | exact hn h | omega)).trans (h.block k hk hn)⟩
theorem Frm.grown {B : Nat} {S : List Nat} {a w w' : World} {row : Option Nat} (h : Frm B S a w) (hg : w.grownBy w' row) (hB : B ≤ w.heap.size) (hr : ∀ k, row = some k → B ≤ k) : Frm B S a w' :=
  h.trans (.of_below ((Below.refl _ _).grown hg hB hr))
theorem Frm.cell {B : Nat} {S : List Nat} {w w' : World} (h : Frm B S w w') {p : Addr} (hp : p.block < B) (hn : p.block ∉ S) : w'.cell? p = w.cell? p := World.cell?_of_block (h.block _ hp hn)
theorem Frm.frozen {B : Nat} {S : List Nat} {w w' : World} (h : Frm B S w w') {p : Addr} (hp : p.block < B) (hn : p.block ∉ S) : w'.frozen? p = w.frozen? p := World.frozen?_of_block (h.block _ hp hn)

theorem Frm.drewN {B : Nat} {S : List Nat} {a w : World} (h : Frm B S a w) (d : Nat) : Frm B S a (w.drewN d) := ⟨h.os, h.tape, h.output, h.size, h.block⟩
theorem Frm.row {B : Nat} {S : List Nat} {w w' : World} (h : Frm B S w w') {b t n : Nat} {f : Nat → Value} (hr : w.rowIs b t n f) (hb : b < B) (hn : b ∉ S) : w'.rowIs b t n f := hr.of_block (h.block b hb hn)

/-! ### What sessionsAndKeys reckons -/
/-- The committed among the first i attempts: (index, session). -/
def coms (A : Nat → Att) : Nat → List (Nat × Nat)
  | 0 => []
  | i + 1 => if (A i).c then coms A i ++ [(i, (A i).s)] else coms A i
/-- Is key x written by a committed one of the first i attempts? -/
def wrt (A : Nat → Att) : Nat → Nat → Bool
  | 0, _ => false
  | i + 1, x => if (A i).c then wrt A i x || (A i).o.any (fun p => p.1 == x && p.2) else wrt A i x

theorem coms_le (A : Nat → Att) (i : Nat) : (coms A i).length ≤ i := by
  induction i with
  | zero => simp [coms]
  | succ i ih =>
    simp only [coms]
    split
    · simp; omega
    · omega
theorem coms_mem {A : Nat → Att} {i : Nat} {e : Nat × Nat} (h : e ∈ coms A i) : e.1 < i ∧ (A e.1).c = true ∧ e.2 = (A e.1).s := by
  induction i with
  | zero => simp [coms] at h
  | succ i ih =>
    simp only [coms] at h
    split at h
    · rename_i hc
      simp only [List.mem_append, List.mem_singleton] at h
      rcases h with h | rfl
      · have := ih h; exact ⟨by omega, this.2⟩
      · exact ⟨by simp, hc, rfl⟩
    · have := ih h; exact ⟨by omega, this.2⟩
theorem mem_coms {A : Nat → Att} {N i : Nat} (hi : i < N) (hc : (A i).c = true) : (i, (A i).s) ∈ coms A N := by
  induction N with
  | zero => omega
  | succ N ih =>
    simp only [coms]
    by_cases h : i = N
    · subst h; simp [hc]
    · have := ih (by omega)
      split
      · simp [this]
      · exact this

/-- 'start' of a counting sort while the counts are summed up. -/
def pfxE (E : List (Nat × Nat)) (v j : Nat) : Int := if j ≤ v then (st E j : Nat) else ((seg E (j - 1)).length : Nat)
theorem pfxE_step (E : List (Nat × Nat)) (v j : Nat) : (if j = v + 1 then pfxE E v (v + 1) + pfxE E v v else pfxE E v j) = pfxE E (v + 1) j := by
  have hs : st E (v + 1) = st E v + (seg E v).length := rfl
  by_cases h : j = v + 1
  · subst h
    simp [pfxE, hs]
    omega
  · by_cases h' : j ≤ v
    · simp [pfxE, h, h', show j ≤ v + 1 by omega]
    · simp [pfxE, h, h', show ¬ j ≤ v + 1 by omega]
theorem pfxE_zero (E : List (Nat × Nat)) (j : Nat) : pfxE E 0 j = cnt (E.map (·.2)) j := by
  cases j with
  | zero => simp [pfxE, cnt, st, pre]
  | succ v => simp [pfxE, cnt, seg_count]
theorem st_mono (E : List (Nat × Nat)) {a b : Nat} (h : a ≤ b) : st E a ≤ st E b := pre_mono _ h
theorem seg_le (E : List (Nat × Nat)) (v : Nat) : (seg E v).length ≤ E.length := by
  unfold seg
  rw [List.length_map]
  exact List.length_filter_le _ _

/-- One more committed attempt is counted. -/
theorem cnt_snoc (l : List Nat) (s j : Nat) : (if j = s + 1 then cnt l (s + 1) + 1 else cnt l j) = cnt (l ++ [s]) j := by
  cases j with
  | zero => simp [cnt]
  | succ v =>
    simp only [cnt, List.count_append, List.count_cons, List.count_nil]
    by_cases e : v = s
    · subst e; simp
    · have e' : ¬ s = v := fun x => e x.symm
      simp [e, e']

end Go.Proofs.Ybulkaebg

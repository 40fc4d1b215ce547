/-
  LawS1488ANilStep over toys/ybulkadugfmt: blocks, frames, slices of int32 in memory.
-/
import Derived.Test.YbulkadugFmtCards
import Derived.WalkKit
import Derived.WalkSpells
import Derived.WalkLawsBesides
import Derived.Deep.QuietTactic
import Derived.BigQuiet
import Derived.Deep.OwnRows
import Derived.Deep.DeepCutAuto
import Derived.Deep.RegionHeld3
import Derived.Deep.DrawnRows
import Derived.Deep.RegionLaw
import Derived.Deep.AppendLies
import Derived.Maps.OwnSet
namespace Go.Proofs.YbulkadugFmt
open Go.RowKit

/-- Block b is a row of type t that holds just l. -/
def Blk (w : World) (b : Nat) (t : TypeId) (l : List Value) : Prop := w.heap[b]? = some (.cells l.toArray t (0, 0))

section
variable {w : World} {b : Nat} {t : TypeId} {l : List Value}
theorem Blk.lt (h : Blk w b t l) : b < w.heap.size := (Array.getElem?_eq_some_iff.1 h).1
theorem Blk.at_ (h : Blk w b t l) (i : Nat) {v : Value} (hv : l[i]? = some v) : w.cell? ⟨b, i, none⟩ = some v := by
  rw [cell_of_row w b i l.toArray t (0, 0) h]; simpa using hv
theorem Blk.frozen (h : Blk w b t l) (i : Nat) : w.frozen? ⟨b, i, none⟩ = false := by
  have hr : w.rowIs b t l.length (fun i => (l[i]?).getD undef) := ⟨l.toArray, h, by simp, fun i hi => by simp [hi]⟩
  exact hr.frozen i
theorem Blk.set (h : Blk w b t l) (i : Nat) (v : Value) : Blk (w.setCell ⟨b, i, none⟩ v) b t (l.set i v) := by
  unfold Blk at *
  simp only [World.setCell, Array.getElem?_modify, if_true, h, Option.map_some]
  simp
theorem Blk.other (h : Blk w b t l) {a : Addr} (hb : b ≠ a.block) (v : Value) : Blk (w.setCell a v) b t l := (Below.heap_setCell _ _ _ _ hb).trans h
theorem Blk.alloc (h : Blk w b t l) (o : Obj) : Blk (w.alloc o) b t l := (Below.heap_alloc _ _ _ h.lt).trans h
theorem Blk.drew (h : Blk w b t l) : Blk w.drew b t l := h
theorem Blk.drewN (h : Blk w b t l) (d : Nat) : Blk (w.drewN d) b t l := h
theorem Blk.new (w : World) (t : TypeId) (l : List Value) : Blk (w.alloc (.cells l.toArray t)) w.heap.size t l := heap_alloc_new w _
theorem Blk.ne {b' : Nat} {t' : TypeId} {l' : List Value} (h : Blk w b t l) (h' : Blk w b' t' l') (ht : t ≠ t') : b ≠ b' := by
  intro e
  subst e
  unfold Blk at h h'
  rw [h] at h'
  injection h' with h'
  injection h' with _ h' _
  exact ht h'
theorem Blk.below {w' : World} {B : Nat} (h : Blk w b t l) (hb : Below B w w') (hB : b < B) : Blk w' b t l := (hb.block _ hB).trans h
end

/-- All blocks of a but those of X stand in b as they stood. -/
structure Kp (X : Nat → Prop) (a b : World) : Prop where
  os : b.os = a.os
  tape : b.tape = a.tape
  output : b.output = a.output
  size : a.heap.size ≤ b.heap.size
  block : ∀ k, k < a.heap.size → ¬ X k → b.heap[k]? = a.heap[k]?

section
variable {X Y : Nat → Prop} {a b c w : World}
theorem Kp.refl (X : Nat → Prop) (w : World) : Kp X w w := ⟨rfl, rfl, rfl, Nat.le_refl _, fun _ _ _ => rfl⟩
theorem Kp.trans (h : Kp X a b) (k : Kp Y b c) (hy : ∀ i, i < a.heap.size → Y i → X i) : Kp X a c :=
  ⟨k.os.trans h.os, k.tape.trans h.tape, k.output.trans h.output, Nat.le_trans h.size k.size, fun i hi hn => (k.block i (Nat.lt_of_lt_of_le hi h.size) (fun hy' => hn (hy i hi hy'))).trans (h.block i hi hn)⟩
theorem Kp.mono (h : Kp X a b) (hX : ∀ i, i < a.heap.size → X i → Y i) : Kp Y a b := ⟨h.os, h.tape, h.output, h.size, fun i hi hn => h.block i hi (fun hx => hn (hX i hi hx))⟩
theorem Kp.of_below {B : Nat} (h : Below B a b) (hX : ∀ i, i < a.heap.size → B ≤ i → X i) : Kp X a b :=
  ⟨h.os, h.tape, h.output, h.size, fun i hi hn => h.block i (by rcases Nat.lt_or_ge i B with h | h; exact h; exact absurd (hX i hi h) hn)⟩
theorem Kp.of_self (h : Below a.heap.size a b) : Kp X a b := Kp.of_below h (fun i hi hB => absurd hi (by omega))
theorem Kp.below {B : Nat} (h : Kp X a b) (hB : B ≤ a.heap.size) (hX : ∀ i, i < B → ¬ X i) : Below B a b := ⟨h.os, h.tape, h.output, h.size, fun i hi => h.block i (by omega) (hX i hi)⟩
theorem Kp.alloc (h : Kp X a w) (o : Obj) : Kp X a (w.alloc o) := h.trans (Y := X) (.of_self ((Below.refl _ _).alloc (Nat.le_refl _) o)) (fun _ _ h => h)
theorem Kp.drew (h : Kp X a w) : Kp X a w.drew := ⟨h.os, h.tape, h.output, h.size, h.block⟩
theorem Kp.drewN (h : Kp X a w) (d : Nat) : Kp X a (w.drewN d) := ⟨h.os, h.tape, h.output, h.size, h.block⟩
theorem Kp.setCell (h : Kp X a w) {p : Addr} (hp : X p.block ∨ a.heap.size ≤ p.block) (v : Value) : Kp X a (w.setCell p v) :=
  ⟨h.os, h.tape, h.output, by simpa using h.size, fun i hi hn => (Below.heap_setCell _ _ _ _ (fun e => by subst e; rcases hp with h | h; exact hn h; omega)).trans (h.block i hi hn)⟩
theorem Kp.grown {row : Option Nat} (h : Kp X a w) (hg : w.grownBy b row) (hr : ∀ k, row = some k → X k ∨ a.heap.size ≤ k) : Kp X a b :=
  ⟨hg.os.trans h.os, hg.tape.trans h.tape, hg.output.trans h.output, Nat.le_trans h.size hg.size, fun i hi hn => (hg.block i (Nat.lt_of_lt_of_le hi h.size) (fun e => by rcases hr i e.symm with h | h; exact hn h; omega)).trans (h.block i hi hn)⟩
theorem Kp.blk {i : Nat} {t : TypeId} {l : List Value} (h : Kp X a b) (hb : Blk a i t l) (hX : ¬ X i) : Blk b i t l := (h.block i hb.lt hX).trans hb
theorem Kp.cell {p : Addr} {v : Value} (h : Kp X a b) (hc : a.cell? p = some v) (hX : ¬ X p.block) : b.cell? p = some v := (World.cell?_of_block (h.block _ (block_lt_of_cell hc) hX)).trans hc
end

/-- A slice of int32 at a holds L. -/
def Ls (w : World) (a : Option Addr) (L : List Int) : Prop := L = [] ∨ ∃ b off, a = some ⟨b, off, none⟩ ∧ ∀ i (h : i < L.length), w.cell? ⟨b, off + i, none⟩ = some (.int .i32 L[i])

theorem Ls.kp {X : Nat → Prop} {a b : World} {p : Option Addr} {L : List Int} (h : Ls a p L) (k : Kp X a b) (hX : ∀ q, p = some q → ¬ X q.block) : Ls b p L := by
  rcases h with h | ⟨bl, off, e, hc⟩
  · exact .inl h
  · exact .inr ⟨bl, off, e, fun i hi => k.cell (hc i hi) (hX ⟨bl, off, none⟩ e)⟩
theorem Ls.of_blk {w : World} {b : Nat} {t : TypeId} {L : List Int} {r : List Value} (h : Blk w b t (L.map (.int .i32 ·) ++ r)) : Ls w (some ⟨b, 0, none⟩) L :=
  .inr ⟨b, 0, rfl, fun i hi => h.at_ _ (by rw [Nat.zero_add, List.getElem?_append_left (by simpa using hi), List.getElem?_map, List.getElem?_eq_getElem hi]; rfl)⟩
theorem Ls.of_own {w : World} {base : Nat} {v : Value} {L : List Int} (h : w.ownsRow base 21 1 v L.length (L.map (.int .i32 ·))) : ∃ a c, v = .slice a L.length c ∧ Ls w a L ∧ ∀ q, a = some q → base ≤ q.block ∧ q.block < w.heap.size := by
  rcases h.2 with ⟨rfl, h0⟩ | ⟨g, cap, cur, rfl, _⟩
  · exact ⟨none, 0, by rw [h0], .inl (List.length_eq_zero_iff.1 h0), fun q hq => by cases hq⟩
  · refine ⟨_, cap, rfl, .inr ⟨g, 0, rfl, fun i hi => ?_⟩, fun q hq => by cases hq; exact h.lt g rfl⟩
    have := h.cells (g := g) rfl i (.int .i32 L[i]) (by rw [List.getElem?_map, List.getElem?_eq_getElem hi]; rfl)
    rw [Addr.add_lit] at this
    exact this

end Go.Proofs.YbulkadugFmt

/-
  The laws of package blocks over toys/ybulkadwy: what the walks speak of.
-/
import Derived.Test.YbulkadwyRows
import Derived.WalkKit
import Derived.WalkSpells
import Derived.WalkLawsBesides
import Derived.Lib.SliceRun
import Derived.Deep.QuietTactic
import Derived.BigQuiet
import Derived.Deep.RegionHeld3
import Derived.Deep.RegionLaw
import Derived.Deep.AppendLies
import Derived.Deep.DrawnRows
namespace Go.Proofs.Ybulkadwy
open Go.RowKit

def ints (xs : List Int) : List Value := xs.map (Value.int .i64)

theorem Yba.info3 : (Yba.prog.info? 3).map (fun i => (i.zero, i.size, i.bytes)) = some (some (.int .i64 0), 1, 8) := by kernel_rfl
theorem Yba.info22 : (Yba.prog.info? 22).map (fun i => (i.zero, i.size, i.bytes)) = some (some (.slice none 0 0), 1, 24) := by kernel_rfl

/-- The list's two cells, in block B. -/
def Cell2 (w : World) (B : Nat) (v0 v1 : Value) : Prop :=
  w.cell? ⟨B, 0, none⟩ = some v0 ∧ w.cell? ⟨B, 1, none⟩ = some v1 ∧ w.frozen? ⟨B, 0, none⟩ = false ∧ w.frozen? ⟨B, 1, none⟩ = false

theorem Cell2.set0 {B : Nat} {w : World} {v0 v1 : Value} (h : Cell2 w B v0 v1) (v : Value) : Cell2 (w.setCell ⟨B, 0, none⟩ v) B v v1 :=
  ⟨World.cell?_setCell_same w _ v h.1, (World.cell?_setCell_other w _ _ v (by simp)).trans h.2.1, by simpa using h.2.2.1, by simpa using h.2.2.2⟩
theorem Cell2.set1 {B : Nat} {w : World} {v0 v1 : Value} (h : Cell2 w B v0 v1) (v : Value) : Cell2 (w.setCell ⟨B, 1, none⟩ v) B v0 v :=
  ⟨(World.cell?_setCell_other w _ _ v (by simp)).trans h.1, World.cell?_setCell_same w _ v h.2.1, by simpa using h.2.2.1, by simpa using h.2.2.2⟩
theorem Cell2.lt {B : Nat} {w : World} {v0 v1 : Value} (h : Cell2 w B v0 v1) : B < w.heap.size := block_lt_of_cell h.1
theorem Cell2.block {B : Nat} {w w' : World} {v0 v1 : Value} (h : Cell2 w B v0 v1) (hb : w'.heap[B]? = w.heap[B]?) : Cell2 w' B v0 v1 :=
  ⟨(World.cell?_of_block (a := ⟨B, 0, none⟩) hb).trans h.1, (World.cell?_of_block (a := ⟨B, 1, none⟩) hb).trans h.2.1, (World.frozen?_of_block (a := ⟨B, 0, none⟩) hb).trans h.2.2.1, (World.frozen?_of_block (a := ⟨B, 1, none⟩) hb).trans h.2.2.2⟩
theorem Cell2.alloc {B : Nat} {w : World} {v0 v1 : Value} (h : Cell2 w B v0 v1) (o : Obj) : Cell2 (w.alloc o) B v0 v1 := h.block (Below.heap_alloc _ _ _ h.lt)
theorem Cell2.drew {B : Nat} {w : World} {v0 v1 : Value} (h : Cell2 w B v0 v1) : Cell2 w.drew B v0 v1 := h
theorem Cell2.grown {B : Nat} {w w' : World} {row : Option Nat} {v0 v1 : Value} (h : Cell2 w B v0 v1) (hg : w.grownBy w' row) (hr : ∀ k, row = some k → k ≠ B) : Cell2 w' B v0 v1 :=
  h.block (hg.block B h.lt (fun e => hr B e.symm rfl))

/-- WHAT A List HOLDS (of at most 1024 elements): fewer than 1024: they lie in 'last', 'full' is nil; 1024: they lie in the one block of 'full', 'last' is nil. -/
def LV (w : World) (base : Nat) (vf vl : Value) (xs : List Int) : Prop :=
  (xs.length < 1024 ∧ vf = .slice none 0 0 ∧ w.ownsRow base 3 1 vl xs.length (ints xs)) ∨
  (xs.length = 1024 ∧ vl = .slice none 0 0 ∧ ∃ gf cf gl cl, vf = .slice (some ⟨gf, 0, none⟩) 1 cf ∧ w.ownsRow base 22 1 (.slice (some ⟨gf, 0, none⟩) 1 cf) 1 [.slice (some ⟨gl, 0, none⟩) 1024 cl] ∧
    w.ownsRow base 3 1 (.slice (some ⟨gl, 0, none⟩) 1024 cl) 1024 (ints xs))

theorem ownsRow_blocks {w w' : World} {base e size : Nat} {v : Value} {n : Nat} {xs : List Value} (h : w.ownsRow base e size v n xs) (hb : ∀ k, base ≤ k → k < w.heap.size → w'.heap[k]? = w.heap[k]?) : w'.ownsRow base e size v n xs := by
  refine ⟨h.1, ?_⟩
  rcases h.2 with h0 | ⟨g, cap, cur, hv, hg, hh, hr⟩
  · exact .inl h0
  · exact .inr ⟨g, cap, cur, hv, hg, (hb g hg (Array.getElem?_eq_some_iff.1 hh).1).trans hh, hr⟩

theorem LV.blocks {w w' : World} {base : Nat} {vf vl : Value} {xs : List Int} (h : LV w base vf vl xs) (hb : ∀ k, base ≤ k → k < w.heap.size → w'.heap[k]? = w.heap[k]?) : LV w' base vf vl xs := by
  rcases h with ⟨h1, h2, h3⟩ | ⟨h1, h2, gf, cf, gl, cl, h3, h4, h5⟩
  · exact .inl ⟨h1, h2, ownsRow_blocks h3 hb⟩
  · exact .inr ⟨h1, h2, gf, cf, gl, cl, h3, ownsRow_blocks h4 hb, ownsRow_blocks h5 hb⟩
theorem LV.set {w : World} {base : Nat} {vf vl : Value} {xs : List Int} (h : LV w base vf vl xs) {a : Addr} (ha : a.block < base) (u : Value) : LV (w.setCell a u) base vf vl xs :=
  h.blocks fun _ hk _ => Below.heap_setCell _ _ _ _ (by omega)
theorem LV.alloc {w : World} {base : Nat} {vf vl : Value} {xs : List Int} (h : LV w base vf vl xs) (o : Obj) : LV (w.alloc o) base vf vl xs :=
  h.blocks fun _ _ hk => Below.heap_alloc _ _ _ hk
theorem LV.below {w w' : World} {base : Nat} {vf vl : Value} {xs : List Int} (h : LV w base vf vl xs) (hb : Below w.heap.size w w') : LV w' base vf vl xs :=
  h.blocks fun k _ hk => hb.block k hk
theorem LV.form {w : World} {base : Nat} {vf vl : Value} {xs : List Int} (h : LV w base vf vl xs) : ∃ af nf cf al nl cl, vf = .slice af nf cf ∧ vl = .slice al nl cl := by
  rcases h with ⟨_, h, h'⟩ | ⟨_, h', gf, cf, _, _, h, _⟩
  · rcases h'.2 with ⟨h', _⟩ | ⟨_, _, _, h', _⟩ <;> exact ⟨_, _, _, _, _, _, h, h'⟩
  · exact ⟨_, _, _, _, _, _, h, h'⟩

/-- BELOW BLOCK B, but for the blocks of S, w' IS AS w WAS. -/
structure Frm (B : Nat) (S : List Nat) (w w' : World) : Prop where
  os : w'.os = w.os
  tape : w'.tape = w.tape
  output : w'.output = w.output
  size : w.heap.size ≤ w'.heap.size
  block : ∀ k, k < B → k ∉ S → w'.heap[k]? = w.heap[k]?

theorem Frm.refl (B : Nat) (S : List Nat) (w : World) : Frm B S w w := ⟨rfl, rfl, rfl, Nat.le_refl _, fun _ _ _ => rfl⟩
theorem Frm.trans {B : Nat} {S : List Nat} {a b c : World} (h : Frm B S a b) (k : Frm B S b c) : Frm B S a c :=
  ⟨k.os.trans h.os, k.tape.trans h.tape, k.output.trans h.output, Nat.le_trans h.size k.size, fun j hj hn => (k.block j hj hn).trans (h.block j hj hn)⟩
theorem Frm.mono {B B' : Nat} {S S' : List Nat} {w w' : World} (h : Frm B S w w') (hB : B' ≤ B) (hS : ∀ k, k ∈ S → k ∈ S' ∨ B' ≤ k) : Frm B' S' w w' :=
  ⟨h.os, h.tape, h.output, h.size, fun k hk hn => h.block k (by omega) (fun hm => by rcases hS k hm with h | h <;> first | exact hn h | omega)⟩
theorem Frm.of_below {B : Nat} {S : List Nat} {w w' : World} (h : Below B w w') : Frm B S w w' := ⟨h.os, h.tape, h.output, h.size, fun k hk _ => h.block k hk⟩
theorem Frm.below {B : Nat} {S : List Nat} {w w' : World} (h : Frm B S w w') {B' : Nat} (hB : B' ≤ B) (hS : ∀ k, k ∈ S → B' ≤ k) : Below B' w w' :=
  ⟨h.os, h.tape, h.output, h.size, fun k hk => h.block k (by omega) (fun hm => by have := hS k hm; omega)⟩
theorem Frm.alloc {B : Nat} {S : List Nat} {a w : World} (h : Frm B S a w) (hB : B ≤ w.heap.size) (o : Obj) : Frm B S a (w.alloc o) := h.trans (.of_below ((Below.refl _ _).alloc hB o))
theorem Frm.drew {B : Nat} {S : List Nat} {a w : World} (h : Frm B S a w) : Frm B S a w.drew := ⟨h.os, h.tape, h.output, h.size, h.block⟩
theorem Frm.setCell {B : Nat} {S : List Nat} {a w : World} (h : Frm B S a w) {p : Addr} (hp : p.block ∈ S ∨ B ≤ p.block) (u : Value) : Frm B S a (w.setCell p u) :=
  ⟨h.os, h.tape, h.output, by simpa using h.size, fun k hk hn => (Below.heap_setCell _ _ _ _ (fun e => by subst e; rcases hp with h | h <;> first | exact hn h | omega)).trans (h.block k hk hn)⟩
theorem Frm.grown {B : Nat} {S : List Nat} {a w w' : World} {row : Option Nat} (h : Frm B S a w) (hg : w.grownBy w' row) (hB : B ≤ w.heap.size) (hr : ∀ k, row = some k → B ≤ k) : Frm B S a w' :=
  h.trans (.of_below ((Below.refl _ _).grown hg hB hr))
theorem Frm.cell {B : Nat} {S : List Nat} {w w' : World} (h : Frm B S w w') {p : Addr} (hp : p.block < B) (hn : p.block ∉ S) : w'.cell? p = w.cell? p := World.cell?_of_block (h.block _ hp hn)
theorem Frm.frozen {B : Nat} {S : List Nat} {w w' : World} (h : Frm B S w w') {p : Addr} (hp : p.block < B) (hn : p.block ∉ S) : w'.frozen? p = w.frozen? p := World.frozen?_of_block (h.block _ hp hn)

end Go.Proofs.Ybulkadwy

/-
  The three closures that are handed to the iterator, over toys/ybulkadwy: each appends what it is given to the captured log.
-/
import Derived.Test.YbulkadwySmall
namespace Go.Proofs.Ybulkadwy
open Go.RowKit
attribute [local go_sem ↓] Go.wp_at_zero Go.wp_at_succ

theorem one_set {w : World} {b : Nat} {v u : Value} (h : w.cell? ⟨b, 0, none⟩ = some v) : (w.setCell ⟨b, 0, none⟩ u).cell? ⟨b, 0, none⟩ = some u := World.cell?_setCell_same w _ u h
set_option maxHeartbeats 400000 in
theorem clos8 (bg base : Nat) (v : Value) (ys : List Int) (x : Int) (w : World) (hy : ys.length < 1024) (hbg : bg < base) (hbase : base ≤ w.heap.size) (c0 : w.cell? ⟨bg, 0, none⟩ = some v) (f0 : w.frozen? ⟨bg, 0, none⟩ = false) (hown : w.ownsRow base 3 1 v ys.length (ints ys)) :
    Calls Yba.prog 8 #[.int .i64 x, .pointer (some ⟨bg, 0, none⟩)] w fun e w' => ∃ v', e = .returned (.bool true) ∧ w'.cell? ⟨bg, 0, none⟩ = some v' ∧ w'.frozen? ⟨bg, 0, none⟩ = false ∧ w'.ownsRow base 3 1 v' (ys ++ [x]).length (ints (ys ++ [x])) ∧ Frm base [bg] w w' := by
  obtain ⟨i1, hi1, hz0, hz1, hz2⟩ := info_parts Yba.info3
  have hlt := block_lt_of_cell c0
  simp only at hlt
  have HL : Hid (∀ k, v.ownBlock = some k → base ≤ k ∧ k < w.heap.size) := hown.lt
  go_enter Yba.func8, Yba.ntmps8
  go_wp2_with (at_builtin; refine wpList_append_lies _ rfl _ _ 22 rfl base 3 i1 (.int .i64 0) 1 8 Yba.underlying22 hi1 hz0 hz1 hz2 rfl (by omega) v ys.length (ints ys) rfl (hown.alloc _) ⟨w.heap.size, 0, none⟩ 1 1 [.int .i64 x] rfl rfl (World.news_of_block (cs := #[.int .i64 x]) (t := 3) (fr := (0, 0)) (heap_alloc_new w _)) (by simp [Value.oneCell']) (by omega) (by unfold maxLen; omega) (by omega) (by simp; omega) (w.heap.size + 1) (by simp) ?_; intro g1 cap1 w1 hown1 hgrow hat hlt1; have x01 := (hgrow.cell_far ⟨bg, 0, none⟩ (by simp; omega) (fun e => by have := HL.out _ e.symm; simp only at this; omega)).trans ((World.cell?_alloc_past _ _ _ hlt).trans c0); have y01 := (hgrow.frozen_far ⟨bg, 0, none⟩ (by simp; omega) (fun e => by have := HL.out _ e.symm; simp only at this; omega)).trans ((World.frozen?_alloc_old w _ ⟨bg, 0, none⟩ (by simp; omega)).trans f0))
  · go_ret
    exact ⟨_, by go_num, one_set x01, by simpa using y01, by simpa [ints] using ownsRow_setCell_below hown1 (by simp; omega) _, (((Frm.refl base [bg] w).alloc hbase _).grown hgrow (by simp; omega) (fun k hk => (HL.out k hk).1)).setCell (.inl (by simp)) _⟩

set_option maxHeartbeats 400000 in
theorem clos13 (bg base : Nat) (v : Value) (ys : List Int) (x : Int) (w : World) (hy : ys.length < 1024) (hbg : bg < base) (hbase : base ≤ w.heap.size) (c0 : w.cell? ⟨bg, 0, none⟩ = some v) (f0 : w.frozen? ⟨bg, 0, none⟩ = false) (hown : w.ownsRow base 3 1 v ys.length (ints ys)) :
    Calls Yba.prog 13 #[.int .i64 x, .pointer (some ⟨bg, 0, none⟩)] w fun e w' => ∃ v', e = .returned (.bool true) ∧ w'.cell? ⟨bg, 0, none⟩ = some v' ∧ w'.frozen? ⟨bg, 0, none⟩ = false ∧ w'.ownsRow base 3 1 v' (ys ++ [x]).length (ints (ys ++ [x])) ∧ Frm base [bg] w w' := by
  obtain ⟨i1, hi1, hz0, hz1, hz2⟩ := info_parts Yba.info3
  have hlt := block_lt_of_cell c0
  simp only at hlt
  have HL : Hid (∀ k, v.ownBlock = some k → base ≤ k ∧ k < w.heap.size) := hown.lt
  go_enter Yba.func13, Yba.ntmps13
  go_wp2_with (at_builtin; refine wpList_append_lies _ rfl _ _ 22 rfl base 3 i1 (.int .i64 0) 1 8 Yba.underlying22 hi1 hz0 hz1 hz2 rfl (by omega) v ys.length (ints ys) rfl (hown.alloc _) ⟨w.heap.size, 0, none⟩ 1 1 [.int .i64 x] rfl rfl (World.news_of_block (cs := #[.int .i64 x]) (t := 3) (fr := (0, 0)) (heap_alloc_new w _)) (by simp [Value.oneCell']) (by omega) (by unfold maxLen; omega) (by omega) (by simp; omega) (w.heap.size + 1) (by simp) ?_; intro g1 cap1 w1 hown1 hgrow hat hlt1; have x01 := (hgrow.cell_far ⟨bg, 0, none⟩ (by simp; omega) (fun e => by have := HL.out _ e.symm; simp only at this; omega)).trans ((World.cell?_alloc_past _ _ _ hlt).trans c0); have y01 := (hgrow.frozen_far ⟨bg, 0, none⟩ (by simp; omega) (fun e => by have := HL.out _ e.symm; simp only at this; omega)).trans ((World.frozen?_alloc_old w _ ⟨bg, 0, none⟩ (by simp; omega)).trans f0))
  · go_ret
    exact ⟨_, by go_num, one_set x01, by simpa using y01, by simpa [ints] using ownsRow_setCell_below hown1 (by simp; omega) _, (((Frm.refl base [bg] w).alloc hbase _).grown hgrow (by simp; omega) (fun k hk => (HL.out k hk).1)).setCell (.inl (by simp)) _⟩

set_option maxHeartbeats 400000 in
theorem clos11 (bg base : Nat) (v : Value) (ys : List Int) (x : Int) (bs : Nat) (stop : Int) (w : World) (hy : ys.length < 1024) (hbg : bg < base) (hbase : base ≤ w.heap.size) (c0 : w.cell? ⟨bg, 0, none⟩ = some v) (f0 : w.frozen? ⟨bg, 0, none⟩ = false) (hst : w.cell? ⟨bs, 0, none⟩ = some (.int .i64 stop)) (hbs : bs ≠ bg) (hbs2 : bs < base) (hown : w.ownsRow base 3 1 v ys.length (ints ys)) :
    Calls Yba.prog 11 #[.int .i64 x, .pointer (some ⟨bg, 0, none⟩), .pointer (some ⟨bs, 0, none⟩)] w fun e w' => ∃ v', e = .returned (.bool (decide (((ys.length + 1 : Nat) : Int) < stop))) ∧ w'.cell? ⟨bg, 0, none⟩ = some v' ∧ w'.frozen? ⟨bg, 0, none⟩ = false ∧ w'.ownsRow base 3 1 v' (ys ++ [x]).length (ints (ys ++ [x])) ∧ Frm base [bg] w w' := by
  obtain ⟨i1, hi1, hz0, hz1, hz2⟩ := info_parts Yba.info3
  have hlt := block_lt_of_cell c0
  simp only at hlt
  have hbsw := block_lt_of_cell hst
  have HL : Hid (∀ k, v.ownBlock = some k → base ≤ k ∧ k < w.heap.size) := hown.lt
  go_enter Yba.func11, Yba.ntmps11
  go_wp2_with (at_builtin; refine wpList_append_lies _ rfl _ _ 22 rfl base 3 i1 (.int .i64 0) 1 8 Yba.underlying22 hi1 hz0 hz1 hz2 rfl (by omega) v ys.length (ints ys) rfl (hown.alloc _) ⟨w.heap.size, 0, none⟩ 1 1 [.int .i64 x] rfl rfl (World.news_of_block (cs := #[.int .i64 x]) (t := 3) (fr := (0, 0)) (heap_alloc_new w _)) (by simp [Value.oneCell']) (by omega) (by unfold maxLen; omega) (by omega) (by simp; omega) (w.heap.size + 1) (by simp) ?_; intro g1 cap1 w1 hown1 hgrow hat hlt1; have x01 := (hgrow.cell_far ⟨bg, 0, none⟩ (by simp; omega) (fun e => by have := HL.out _ e.symm; simp only at this; omega)).trans ((World.cell?_alloc_past _ _ _ hlt).trans c0); have y01 := (hgrow.frozen_far ⟨bg, 0, none⟩ (by simp; omega) (fun e => by have := HL.out _ e.symm; simp only at this; omega)).trans ((World.frozen?_alloc_old w _ ⟨bg, 0, none⟩ (by simp; omega)).trans f0); have st1 := (hgrow.cell_far ⟨bs, 0, none⟩ (by simp; omega) (fun e => by have := HL.out _ e.symm; simp only at this; omega)).trans ((World.cell?_alloc_past _ _ _ hbsw).trans hst))
  · go_ret
    exact ⟨rfl, .slice (some ⟨g1, 0, none⟩) (ys.length + 1) cap1, one_set x01, by simpa using y01, by simpa [ints] using ownsRow_setCell_below hown1 (by simp; omega) _, (((Frm.refl base [bg] w).alloc hbase _).grown hgrow (by simp; omega) (fun k hk => (HL.out k hk).1)).setCell (.inl (by simp)) _⟩

end Go.Proofs.Ybulkadwy

/-
  slices.Clone[[][]int,[]int] over toys/ybulkadwy: at nil, and at a slice of one element.
-/
import Derived.Test.YbulkadwyClos
namespace Go.Proofs.Ybulkadwy
open Go.RowKit

theorem news_one {w : World} {B : Nat} {u0 : Value} (h : w.cell? ⟨B, 0, none⟩ = some u0) : ∀ j u, [u0][j]? = some u → w.cell? ((⟨B, 0, none⟩ : Addr).add j) = some u := by
  intro j u hj
  match j, hj with
  | 0, hj => simp at hj; subst hj; simpa [Addr.add] using h

theorem clone_nil (w : World) : Calls Yba.prog 17 #[.slice none 0 0] w fun e w' => e = .returned (.slice none 0 0) ∧ w' = w := by
  have heq := fun (wx : World) (a : Option Addr) (n c : Nat) => Lib.run_eql_slice_nil (P := Yba.prog) wx 23 22 a n c 0 0 Yba.underlying23
  go_enter Yba.func17, Yba.ntmps17
  go_wp2
  go_ret
  exact ⟨rfl, rfl⟩

set_option maxHeartbeats 400000 in
theorem clone_one (gf cf base : Nat) (ao : Option Addr) (n c : Nat) (w : World) (hbase : base ≤ w.heap.size) (hc : w.cell? ⟨gf, 0, none⟩ = some (.slice ao n c)) :
    Calls Yba.prog 17 #[.slice (some ⟨gf, 0, none⟩) 1 cf] w fun e w' => ∃ g cap, e = .returned (.slice (some ⟨g, 0, none⟩) 1 cap) ∧ w'.ownsRow base 22 1 (.slice (some ⟨g, 0, none⟩) 1 cap) 1 [.slice ao n c] ∧ Below w.heap.size w w' := by
  have heq := fun (wx : World) (a : Option Addr) (n c : Nat) => Lib.run_eql_slice_nil (P := Yba.prog) wx 23 22 a n c 0 0 Yba.underlying23
  have hgf : gf < w.heap.size := block_lt_of_cell hc
  obtain ⟨i1, hi1, hz0, hz1, hz2⟩ := info_parts Yba.info22
  go_enter Yba.func17, Yba.ntmps17
  go_wp2_with (at_builtin; refine wpList_append_lies _ rfl _ _ 23 rfl base 22 i1 (.slice none 0 0) 1 24 Yba.underlying23 hi1 hz0 hz1 hz2 rfl (by omega) (.slice (some ⟨w.heap.size, 0, none⟩) 0 0) 0 [] rfl (World.ownsRow_made w #[] 0 hbase (by unfold maxLen; omega) rfl) ⟨gf, 0, none⟩ 1 cf [.slice ao n c] rfl rfl (news_one ((World.cell?_alloc_past _ _ _ hgf).trans hc)) (by simp [Value.oneCell']) (by omega) (by unfold maxLen; omega) (by omega) (by simp; omega) (w.heap.size + 1) (by simp) ?_; intro g1 cap1 w1 hown1 hgrow hat hlt1)
  go_ret
  exact ⟨g1, cap1, rfl, hown1, ((Below.refl _ _).alloc (Nat.le_refl _) _).grown hgrow (by simp) (fun k hk => by simp [Value.ownBlock] at hk; omega)⟩

theorem ints_of_own {w : World} {base : Nat} {v : Value} {xs : List Int} (h : w.ownsRow base 3 1 v xs.length (ints xs)) : ∃ ao cap, v = .slice ao xs.length cap ∧ IsInts w ao xs := by
  have h0 := h
  rcases h.2 with ⟨hv, hn⟩ | ⟨g, cap, cur, hv, hrest⟩
  · exact ⟨none, 0, by rw [hv, hn], .inl (List.length_eq_zero_iff.1 hn)⟩
  · subst hv
    refine ⟨_, cap, rfl, .inr ⟨g, 0, rfl, fun i hi => ?_⟩⟩
    rw [Nat.zero_add, h0.cellAt i (by omega)]
    simp [ints, hi]

/-- Where a list's elements lie. -/
theorem LV.ints {w : World} {base : Nat} {vf vl : Value} {xs : List Int} (h : LV w base vf vl xs) : ∃ ao cap, IsInts w ao xs ∧
    ((xs.length < 1024 ∧ vf = .slice none 0 0 ∧ vl = .slice ao xs.length cap) ∨ (xs.length = 1024 ∧ vl = .slice none 0 0 ∧ ∃ gf cf, vf = .slice (some ⟨gf, 0, none⟩) 1 cf ∧ w.cell? ⟨gf, 0, none⟩ = some (.slice ao xs.length cap))) := by
  rcases h with ⟨h1, h2, h3⟩ | ⟨h1, h2, gf, cf, gl, cl, h3, h4, h5⟩
  · obtain ⟨ao, cap, hv, hi⟩ := ints_of_own h3
    exact ⟨ao, cap, hi, .inl ⟨h1, h2, hv⟩⟩
  · rw [← h1] at h5
    obtain ⟨ao, cap, hv, hi⟩ := ints_of_own h5
    refine ⟨ao, cap, hi, .inr ⟨h1, h2, gf, cf, h3, ?_⟩⟩
    rw [h4.cellAt 0 (by omega), ← hv]
    simp [h1]

theorem below_after {B : Nat} {w a b : World} (h : Below B w a) (k : Below a.heap.size a b) (hB : B ≤ a.heap.size) : Below B w b := h.trans (k.mono hB)
theorem below_alloc {w a : World} (h : Below w.heap.size w a) (o : Obj) : Below w.heap.size w (a.alloc o) := h.alloc h.size o
theorem below_grown {w a b : World} {row : Option Nat} (h : Below w.heap.size w a) (hg : a.grownBy b row) (hr : ∀ k, row = some k → w.heap.size ≤ k) : Below w.heap.size w b := h.grown hg h.size hr

theorem cell_after {w a b : World} {row : Option Nat} (h : Below w.heap.size w a) (hg : a.grownBy b row) (hr : ∀ k, row = some k → w.heap.size ≤ k) {p : Addr} (hp : p.block < w.heap.size) : b.cell? p = a.cell? p :=
  hg.cell_far p (Nat.lt_of_lt_of_le hp h.size) (fun e => by have := hr _ e.symm; omega)

theorem ownsRow_mono {w : World} {base base' e size : Nat} {v : Value} {n : Nat} {xs : List Value} (h : w.ownsRow base e size v n xs) (hb : base' ≤ base) : w.ownsRow base' e size v n xs := by
  refine ⟨h.1, ?_⟩
  rcases h.2 with h0 | ⟨g, cap, cur, hv, hg, hr⟩
  · exact .inl h0
  · exact .inr ⟨g, cap, cur, hv, by omega, hr⟩

end Go.Proofs.Ybulkadwy

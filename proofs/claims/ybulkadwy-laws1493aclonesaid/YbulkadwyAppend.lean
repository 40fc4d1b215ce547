/-
  (*List[int]).Append over toys/ybulkadwy, at a list of fewer than 1024 elements.
-/
import Derived.Test.YbulkadwyParts
namespace Go.Proofs.Ybulkadwy
open Go.RowKit
attribute [local go_sem ↓] Go.wp_at_zero Go.wp_at_succ

set_option maxRecDepth 100000 in
set_option maxHeartbeats 1000000 in
theorem append_any (bl base : Nat) (v : Value) (xs : List Int) (x : Int) (w : World) (hx : xs.length < 1024) (hbl : bl < base) (hbase : base ≤ w.heap.size) (hc : Cell2 w bl (.slice none 0 0) v) (hown : w.ownsRow base 3 1 v xs.length (ints xs)) :
    Calls Yba.prog 15 #[.pointer (some ⟨bl, 0, none⟩), .int .i64 x] w fun e w' => e = .returned (.tuple #[]) ∧ ∃ vf vl, Cell2 w' bl vf vl ∧ LV w' base vf vl (xs ++ [x]) ∧ Below bl w w' := by
  obtain ⟨i1, hi1, hz0, hz1, hz2⟩ := info_parts Yba.info3
  have hlt := hc.lt
  have c0 := hc.1
  have c1 := hc.2.1
  have HC : Hid (Cell2 w bl (.slice none 0 0) v) := hc
  clear hc
  have HL : Hid (∀ k, v.ownBlock = some k → base ≤ k ∧ k < w.heap.size) := hown.lt
  have heq := fun (wx : World) (a : Option Addr) (n c : Nat) => Lib.run_eql_slice_nil (P := Yba.prog) wx 22 3 a n c 0 0 Yba.underlying22
  rcases hown.2 with ⟨rfl, h0⟩ | ⟨g, cap, _, rfl, hg, _⟩
  · have hn0 : xs = [] := List.length_eq_zero_iff.1 h0
    subst hn0
    go_enter Yba.func15, Yba.ntmps15
    go_wp2_with (at_builtin; refine wpList_append_lies _ rfl (.tmp 25) (.tmp 27) 22 rfl base 3 i1 (.int .i64 0) 1 8 Yba.underlying22 hi1 hz0 hz1 hz2 rfl (by omega) (.slice none 0 0) 0 (ints []) rfl (hown.alloc _) ⟨w.heap.size, 0, none⟩ 1 1 [.int .i64 x] rfl rfl (World.news_of_block (cs := #[.int .i64 x]) (t := 3) (fr := (0, 0)) (heap_alloc_new w _)) (by simp [Value.oneCell']) (by omega) (by unfold maxLen; omega) (by omega) (by simp; omega) (w.heap.size + 1) (by simp) ?_; intro g1 cap1 w1 hown1 hgrow hat hlt1; have hs1 := (HC.out.alloc _).grown hgrow (fun k hk => by have := HL.out k hk; omega); have x01 := hs1.1; have x11 := hs1.2.1; have y11 := hs1.2.2.2)
    go_end0
    exact ⟨rfl, _, _, hs1.set1 _, .inl ⟨by simp, rfl, ownsRow_setCell_below hown1 (by simp; omega) _⟩, (((Below.refl bl w).alloc (by omega) _).grown hgrow (by simp; omega) (fun k hk => by have := HL.out k hk; omega)).setCell (by simp) _⟩
  · by_cases hk : xs.length + 1 = 1024
    · have hk1 : ((xs.length : Int) + 1 == 1024) = true := by rw [beq_iff_eq]; omega
      have HK : Hid (xs.length + 1 = 1024) := hk
      clear hk
      go_enter Yba.func15, Yba.ntmps15
      go_wp2_with (at_builtin; refine wpList_append_lies _ rfl (.tmp 25) (.tmp 27) 22 rfl base 3 i1 (.int .i64 0) 1 8 Yba.underlying22 hi1 hz0 hz1 hz2 rfl (by omega) (.slice (some ⟨g, 0, none⟩) xs.length cap) xs.length (ints xs) rfl (hown.alloc _) ⟨w.heap.size, 0, none⟩ 1 1 [.int .i64 x] rfl rfl (World.news_of_block (cs := #[.int .i64 x]) (t := 3) (fr := (0, 0)) (heap_alloc_new w _)) (by simp [Value.oneCell']) (by omega) (by unfold maxLen; omega) (by omega) (by simp; omega) (w.heap.size + 1) (by simp) ?_; intro g1 cap1 w1 hown1 hgrow hat hlt1; have hs1 := (HC.out.alloc _).grown hgrow (fun k hk => by have := HL.out k hk; omega); have x01 := hs1.1; have x11 := hs1.2.1; have y11 := hs1.2.2.2)
      have hb1 : Below bl w (w1.setCell ⟨bl, 1, none⟩ (.slice (some ⟨g1, 0, none⟩) (xs.length + 1) cap1)) := (((Below.refl bl w).alloc (by omega) _).grown hgrow (by simp; omega) (fun k hk => by have := HL.out k hk; omega)).setCell (by simp) _
      have hs2 := hs1.set1 (.slice (some ⟨g1, 0, none⟩) (xs.length + 1) cap1)
      have ho2 := ownsRow_setCell_below hown1 (a := ⟨bl, 1, none⟩) (by simp; omega) (.slice (some ⟨g1, 0, none⟩) (xs.length + 1) cap1)
      have hz : base ≤ (w1.setCell ⟨bl, 1, none⟩ (.slice (some ⟨g1, 0, none⟩) (xs.length + 1) cap1)).heap.size := by have := hb1.size; omega
      generalize w1.setCell ⟨bl, 1, none⟩ (.slice (some ⟨g1, 0, none⟩) (xs.length + 1) cap1) = W at *
      clear hs1 hown1 hgrow x01 x11 y11 hat hlt1 hown c0 c1 HC HL
      have c0 := hs2.1
      have c1 := hs2.2.1
      have y0 := hs2.2.2.1
      have HS : Hid (Cell2 W bl (.slice none 0 0) (.slice (some ⟨g1, 0, none⟩) (xs.length + 1) cap1)) := hs2
      have HO : Hid (W.ownsRow base 3 1 (.slice (some ⟨g1, 0, none⟩) (xs.length + 1) cap1) (xs.length + 1) (ints xs ++ [.int .i64 x])) := ho2
      clear hs2 ho2 hi1 hz0 hz1 hz2 i1
      obtain ⟨i1, hi1, hz0, hz1, hz2⟩ := info_parts Yba.info22
      have hlt2 : bl < W.heap.size := by omega
      go_region_law (refine step_append_lies _ (by rfl) _ _ _ (by rfl) base 22 i1 (.slice none 0 0) 1 24 Yba.underlying23 hi1 hz0 hz1 hz2 rfl (by omega) (.slice none 0 0) 0 [] (by simp [Act.eval]) (World.ownsRow_nil _ _ _ _) ⟨W.heap.size, 0, none⟩ 1 1 [.slice (some ⟨g1, 0, none⟩) (xs.length + 1) cap1] (by simp [Act.eval]) (by rfl) (World.news_of_block (cs := #[.slice (some ⟨g1, 0, none⟩) (xs.length + 1) cap1]) (t := 22) (fr := (0, 0)) (heap_alloc_new W _)) (by simp [Value.oneCell']) (by omega) (by unfold maxLen; omega) (by omega) (by simp; omega) (W.heap.size + 1) (by simp) ?_; intro gf cf w2 hown2 hgrow hat hlt1; have hs2 := (HS.out.alloc (.cells #[.slice (some ⟨g1, 0, none⟩) (xs.length + 1) cap1] 22)).drew.grown hgrow (by simp [Value.ownBlock]); have x02 := hs2.1; have y02 := hs2.2.2.1; have x12 := hs2.2.1; have y12 := hs2.2.2.2)
      all_goals
        go_wp2
        go_end0
        have o3 := ((HO.out.alloc (.cells #[.slice (some ⟨g1, 0, none⟩) (xs.length + 1) cap1] 22)).drew).kept hgrow (.inr (by simp [Value.ownBlock]))
        have hb2 : Below bl w w2 := ((hb1.alloc (by omega) (.cells #[.slice (some ⟨g1, 0, none⟩) (xs.length + 1) cap1] 22)).drew).grown hgrow (by simp; omega) (by simp [Value.ownBlock])
        rw [HK.out] at hown2 o3
        exact ⟨rfl, _, _, (hs2.set0 _).set1 _, .inr ⟨by have := HK.out; simp; omega, rfl, gf, cf, g1, cap1, rfl, ownsRow_setCell_below (ownsRow_setCell_below hown2 (by simp; omega) _) (by simp; omega) _, by simpa [ints] using ownsRow_setCell_below (ownsRow_setCell_below o3 (a := ⟨bl, 0, none⟩) (by simp; omega) _) (a := ⟨bl, 1, none⟩) (by simp; omega) _⟩, (hb2.setCell (by simp) _).setCell (by simp) _⟩
    · have hk1 : ((xs.length : Int) + 1 == 1024) = false := by rw [beq_eq_false_iff_ne]; omega
      go_enter Yba.func15, Yba.ntmps15
      go_wp2_with (at_builtin; refine wpList_append_lies _ rfl (.tmp 25) (.tmp 27) 22 rfl base 3 i1 (.int .i64 0) 1 8 Yba.underlying22 hi1 hz0 hz1 hz2 rfl (by omega) (.slice (some ⟨g, 0, none⟩) xs.length cap) xs.length (ints xs) rfl (hown.alloc _) ⟨w.heap.size, 0, none⟩ 1 1 [.int .i64 x] rfl rfl (World.news_of_block (cs := #[.int .i64 x]) (t := 3) (fr := (0, 0)) (heap_alloc_new w _)) (by simp [Value.oneCell']) (by omega) (by unfold maxLen; omega) (by omega) (by simp; omega) (w.heap.size + 1) (by simp) ?_; intro g1 cap1 w1 hown1 hgrow hat hlt1; have hs1 := (HC.out.alloc _).grown hgrow (fun k hk => by have := HL.out k hk; omega); have x01 := hs1.1; have x11 := hs1.2.1; have y11 := hs1.2.2.2)
      go_end0
      exact ⟨rfl, _, _, hs1.set1 _, .inl ⟨by simp; omega, rfl, by simpa [ints] using ownsRow_setCell_below hown1 (by simp; omega) _⟩, (((Below.refl bl w).alloc (by omega) _).grown hgrow (by simp; omega) (fun k hk => by have := HL.out k hk; omega)).setCell (by simp) _⟩

end Go.Proofs.Ybulkadwy

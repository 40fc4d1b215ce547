/-
  LawS1488CPlan over toys/ybulkadug: the law's own walk.
-/
import Derived.Test.YbulkadugLawA
namespace Go.Proofs.Ybulkadug
open Go.RowKit
attribute [local go_sem ↓] Go.wp_at_zero Go.wp_at_succ

set_option maxRecDepth 100000 in
set_option maxHeartbeats 8000000 in
theorem law_walk (aS aG aR : Option Addr) (nS cS nG cG n cR : Nat) (S G : Nat → ByteArray) (R : Nat → Raw) (w : World) (hS0 : nS ≤ 1024) (hG0 : nG ≤ 1024) (hn0 : n ≤ 1024)
    (hS : IsStrs w aS nS S) (hG : IsStrs w aG nG G) (hR : IsRaw w aR n R) (hRb : ∀ i, i < n → (R i).g ≤ 2147483647 ∧ (R i).f ≤ 2147483647 ∧ (R i).t ≤ 2147483647 ∧ 0 ≤ (R i).r ∧ (R i).r ≤ 255) :
    Calls Yba.prog 3 #[.slice aS nS cS, .slice aG nG cG, .slice aR n cR] w fun e w' => e = .returned (.bool true) ∧ Below w.heap.size w w' := by
  have HS : Hid (IsStrs w aS nS S ∧ IsStrs w aG nG G ∧ IsRaw w aR n R) := ⟨hS, hG, hR⟩
  have HB : Hid (∀ i, i < n → (R i).g ≤ 2147483647 ∧ (R i).f ≤ 2147483647 ∧ (R i).t ≤ 2147483647 ∧ 0 ≤ (R i).r ∧ (R i).r ≤ 255) := hRb
  clear hS hG hR hRb
  have d1 : decide ((1024 : Int) < (nS : Int)) = false := by simp; omega
  have d2 : decide ((1024 : Int) < (nG : Int)) = false := by simp; omega
  have d3 : decide ((1024 : Int) < (n : Int)) = false := by simp; omega
  go_enter Yba.func3, Yba.ntmps3
  go_wp2
  generalize hW0 : World.alloc w _ = W0
  have s0 : W0.heap.size = w.heap.size + 1 := by rw [← hW0]; simp
  have H0 : Hid (∃ o, w.alloc o = W0) := ⟨_, hW0⟩
  have x0 : Snap w.heap.size W0 (.slice none 0 0) (.slice none 0 0) := by rw [← hW0]; exact ⟨by simp, by simp, by simp, by simp⟩
  have z0 : Below w.heap.size w W0 := by rw [← hW0]; exact (Below.refl _ _).alloc (Nat.le_refl _) _
  clear hW0
  have HW : Hid (W0.heap.size = w.heap.size + 1) := s0
  clear s0
  go_loopw [41] (fun i wr => ∃ (k : Nat) (v : Value), k ≤ nS ∧ i = .int .i64 k ∧ Snap w.heap.size wr v (.slice none 0 0) ∧ wr.ownsRow (w.heap.size + 1) 37 5 v k (srvs S k) ∧ W0.grownBy wr (some w.heap.size)) (fun i _ => nS - (intOf i).toNat)
  case atStart => exact ⟨0, _, Nat.zero_le _, rfl, x0, World.ownsRow_nil _ _ _ _, grown_refl _ _⟩
  case round =>
    clear x0
    obtain ⟨k, v, hk, rfl, hsn, hown, hgr⟩ := hrel
    have hsz := hgr.size
    rw [HW.out] at hsz
    have hbw : w.heap.size < wr.heap.size := by omega
    by_cases hlt : k < nS
    · obtain ⟨b, off, rfl, hc⟩ := HS.out.1.resolve_left (by omega)
      have hck := hc k hlt
      have hbl := block_lt_of_cell hck
      have q : wr.cell? ⟨b, off + k, none⟩ = some (.string (S k)) := (hgr.cell_far _ (by rw [HW.out]; show b < _; simp at hbl; omega) (by simp at hbl ⊢; omega)).trans ((z0.cell hbl).trans hck)
      clear hc hck
      simp at hbl
      obtain ⟨i1, hi1, hz0, hz1, hz2⟩ := info_parts Yba.info37
      have HL : Hid (∀ k, v.ownBlock = some k → w.heap.size + 1 ≤ k ∧ k < wr.heap.size) := hown.lt
      have x0 := hsn.1
      have HN : Hid (Snap w.heap.size wr v (.slice none 0 0)) := hsn
      clear hsn
      go_wp2_with (at_builtin; refine wpList_append_lies _ rfl _ _ 25 rfl (w.heap.size + 1) 37 i1 srvZ 5 56 Yba.underlying25 hi1 hz0 hz1 hz2 rfl (by omega) v k (srvs S k) rfl (hown.alloc _) ⟨wr.heap.size, 0, none⟩ 1 1 (srv (S k)) rfl rfl (World.news_of_block (cs := (srv (S k)).toArray) (t := 37) (fr := (0, 0)) (heap_alloc_new wr _)) (by simp [Value.oneCell', srv]) (by omega) (by unfold maxLen; omega) (by omega) (by simp; omega) (wr.heap.size + 1) (by simp) ?_; intro gg cap w1 hown1 hgrow hat hlt1; have hs1 := HN.out.far hgrow (fun k hk => (HL.out k hk).1); have x01 := hs1.1; have y01 := hs1.2.2.1)
      have R := grown_set (grown_row (grown_alloc hgr _) hgrow (fun k hk => by rw [HW.out]; exact (HL.out k hk).1)) 0 (.slice (some ⟨gg, 0, none⟩) (k + 1) cap)
      go_roundw
      case rel => exact ⟨k + 1, _, by omega, by go_num, hs1.set0 _, ownsRow_setCell_below hown1 (by simp) _, R⟩
      case measure => simp [intOf]; omega
    · obtain rfl : k = nS := by omega
      obtain ⟨aV, cV, rfl, hids, hal⟩ := ids_of_own (f := srv) (fun s => ⟨rfl, rfl⟩) hown
      have HI : Hid (Ids wr aV k S ∧ ∀ a, aV = some a → w.heap.size + 1 ≤ a.block ∧ a.block < wr.heap.size) := ⟨hids, hal⟩
      have hb0 : Below w.heap.size w wr := by obtain ⟨o, rfl⟩ := H0.out; exact below_of_grown hgr
      clear hids hal hown hlt hk
      go_wp2
      generalize hW2 : wr = W2 at *
      clear hW2 hgr z0
      go_loopw [59] (fun i wr => ∃ (j : Nat) (v : Value), j ≤ nG ∧ i = .int .i64 j ∧ Snap w.heap.size wr (.slice aV k cV) v ∧ wr.ownsRow W2.heap.size 40 5 v j (grps G j) ∧ W2.grownBy wr (some w.heap.size)) (fun i _ => nG - (intOf i).toNat)
      case atStart => exact ⟨0, _, Nat.zero_le _, rfl, hsn, World.ownsRow_nil _ _ _ _, grown_refl _ _⟩
      case round =>
        clear hsn
        obtain ⟨j, v, hj, rfl, hsn, hown, hgr⟩ := hrel
        have hsz2 := hgr.size
        by_cases hlt : j < nG
        · obtain ⟨b, off, rfl, hc⟩ := HS.out.2.1.resolve_left (by omega)
          have hck := hc j hlt
          have hbl := block_lt_of_cell hck
          have q : wr.cell? ⟨b, off + j, none⟩ = some (.string (G j)) := (hgr.cell_far _ (by show b < _; simp at hbl; omega) (by simp at hbl ⊢; omega)).trans ((hb0.cell hbl).trans hck)
          clear hc hck
          simp at hbl
          obtain ⟨i1, hi1, hz0, hz1, hz2⟩ := info_parts Yba.info40
          have HL : Hid (∀ k, v.ownBlock = some k → W2.heap.size ≤ k ∧ k < wr.heap.size) := hown.lt
          have x1 := hsn.2.1
          have HN : Hid (Snap w.heap.size wr (.slice aV k cV) v) := hsn
          clear hsn
          go_wp2_with (at_builtin; refine wpList_append_lies _ rfl _ _ 26 rfl W2.heap.size 40 i1 grpZ 5 72 Yba.underlying26 hi1 hz0 hz1 hz2 rfl (by omega) v j (grps G j) rfl (hown.alloc _) ⟨wr.heap.size, 0, none⟩ 1 1 (grp (G j)) rfl rfl (World.news_of_block (cs := (grp (G j)).toArray) (t := 40) (fr := (0, 0)) (heap_alloc_new wr _)) (by simp [Value.oneCell', grp]) (by omega) (by unfold maxLen; omega) (by omega) (by simp; omega) (wr.heap.size + 1) (by simp) ?_; intro gg cap w1 hown1 hgrow hat hlt1; have hs1 := HN.out.far hgrow (fun k hk => by have := HL.out k hk; omega); have x11 := hs1.2.1; have y11 := hs1.2.2.2)
          have R := grown_set (grown_row (grown_alloc hgr _) hgrow (fun k hk => (HL.out k hk).1)) 1 (.slice (some ⟨gg, 0, none⟩) (j + 1) cap)
          go_roundw
          case rel => exact ⟨j + 1, _, by omega, by go_num, hs1.set1 _, ownsRow_setCell_below hown1 (by simp; omega) _, R⟩
          case measure => simp [intOf]; omega
        · obtain rfl : j = nG := by omega
          obtain ⟨aU, cU, rfl, hids, hal⟩ := ids_of_own (f := grp) (fun s => ⟨rfl, rfl⟩) hown
          have HI3 : Hid (Ids wr aV k S ∧ Ids wr aU j G ∧ (∀ a, aV = some a → a.block < wr.heap.size) ∧ (∀ a, aU = some a → a.block < wr.heap.size)) :=
            ⟨HI.out.1.grown hgr (fun a ha e => by have := HI.out.2 a ha; have := Option.some.inj e; omega), hids, fun a ha => Nat.lt_of_lt_of_le (HI.out.2 a ha).2 hsz2, fun a ha => (hal a ha).2⟩
          have hb3 : Below w.heap.size w wr := hb0.trans ⟨hgr.os, hgr.tape, hgr.output, hgr.size, fun k hk => hgr.block k (by omega) (fun e => by have := Option.some.inj e; omega)⟩
          clear hids hal hown hlt hj HI hb0 hgr
          obtain ⟨i1, hi1, hz0, hz1, hz2⟩ := info_parts Yba.info46
          generalize hW3 : wr = W3 at *
          clear hW3
          go_wp2_with (at_make; refine wpList_make_own _ rfl _ _ 41 rfl W3.heap.size 46 i1 pmZ 6 Yba.underlying41 hi1 hz0 hz1 .i64 .i64 _ n rfl rfl rfl (by rw [hz2]; omega) (by unfold maxLen; omega) (Nat.le_refl _) ?_; intro w4 hown4 hgrow4)
          have hb4 : Below W3.heap.size W3 w4 := (Below.refl _ _).grown hgrow4 (Nat.le_refl _) (by simp)
          clear hgrow4
          go_loopw [12, 80] (fun v c wr => ∃ (i g cap : Nat), i ≤ n ∧ c = .int .i64 i ∧ v = .slice (some ⟨g, 0, none⟩) i cap ∧ wr.ownsRow W3.heap.size 46 6 (.slice (some ⟨g, 0, none⟩) i cap) i (pms (fun i => pm k j (R i)) i) ∧ Below W3.heap.size W3 wr) (fun _ c _ => n - (intOf c).toNat)
          case atStart => exact ⟨0, _, _, Nat.zero_le _, rfl, rfl, hown4, hb4⟩
          case round =>
            clear hown4 hb4
            obtain ⟨i, g, cap, hi, rfl, rfl, hown, hbel⟩ := hrel
            have hsz4 := hbel.size
            by_cases hlt : i < n
            · obtain ⟨b, off, rfl, hc⟩ := HS.out.2.2.resolve_left (by omega)
              obtain ⟨r0, r1, r2, r3, r4, r5⟩ := hc i hlt
              obtain ⟨bg, bf, bt, br0, br1⟩ := HB.out i hlt
              have hbl := block_lt_of_cell r0
              simp at hbl
              have T : ∀ {o : Nat} {u : Value}, w.cell? ⟨b, o, none⟩ = some u → wr.cell? ⟨b, o, none⟩ = some u := fun h => (hbel.cell (by show b < _; omega)).trans ((hb3.cell hbl).trans h)
              replace r0 := T r0
              replace r1 := T r1
              replace r2 := T r2
              replace r3 := T r3
              replace r4 := T r4
              replace r5 := T r5
              clear hc T
              have HL : Hid (∀ k, (Value.slice (some ⟨g, 0, none⟩) i cap).ownBlock = some k → W3.heap.size ≤ k ∧ k < wr.heap.size) := hown.lt
              by_cases hg : (R i).g < 0
              · go_wp2_with (go_at_call 4; refine (idx_any _ _ ?_ ?_ _).mono ?_; (assumption); (assumption); rintro e w' ⟨rfl, rfl⟩)
                generalize hWe : World.alloc wr _ = W
                have f1 : W.cell? ⟨wr.heap.size, 1, none⟩ = some (.int .i32 (R i).f) := by rw [← hWe]; simp
                have f2 : W.cell? ⟨wr.heap.size, 2, none⟩ = some (.int .i32 (R i).t) := by rw [← hWe]; simp
                have f3 : W.cell? ⟨wr.heap.size, 3, none⟩ = some (.int .i64 (R i).c) := by rw [← hWe]; simp
                have f4 : W.cell? ⟨wr.heap.size, 4, none⟩ = some (.int .u8 (R i).r) := by rw [← hWe]; simp
                have f5 : W.cell? ⟨wr.heap.size, 5, none⟩ = some (.bool (R i).j) := by rw [← hWe]; simp
                have HO : Hid (W.ownsRow W3.heap.size 46 6 (.slice (some ⟨g, 0, none⟩) i cap) i (pms (fun i => pm k j (R i)) i)) := by rw [← hWe]; exact hown.alloc _
                have HWb : Hid (Below W3.heap.size W3 W) := by rw [← hWe]; exact hbel.alloc hsz4 _
                have hWs : wr.heap.size + 1 ≤ W.heap.size := by rw [← hWe]; simp
                clear hWe hown hbel r0 r1 r2 r3 r4 r5
                go_region_held3 (fun w' => w'.cell? ⟨wr.heap.size, 1, none⟩ = some (.int .i32 (R i).f) ∧ w'.cell? ⟨wr.heap.size, 2, none⟩ = some (.int .i32 (R i).t) ∧ w'.cell? ⟨wr.heap.size, 3, none⟩ = some (.int .i64 (R i).c) ∧ w'.cell? ⟨wr.heap.size, 4, none⟩ = some (.int .u8 (R i).r) ∧ w'.cell? ⟨wr.heap.size, 5, none⟩ = some (.bool (R i).j))
                  (first
                    | (go_split_ands; refine ⟨?_, ?_, ?_, ?_, ?_⟩ <;> first | go_keep | (rw [hgrow.cell_far _ (by simp; omega) (fun e => by have := HL.out _ e.symm; simp at this)]; assumption)))
                  (first
                    | (go_at_call 4; refine (idx_any _ _ ?_ ?_ _).mono ?_; (assumption); (assumption); rintro e w' ⟨rfl, rfl⟩)
                    | ((refine step_append_lies _ (by rfl) _ _ _ (by rfl) W3.heap.size 46 i1 pmZ 6 24 Yba.underlying41 hi1 hz0 hz1 hz2 rfl (by omega) (.slice (some ⟨g, 0, none⟩) i cap) i (pms (fun i => pm k j (R i)) i) (by rfl) ((HO.out.alloc _).drew) ⟨W.heap.size, 0, none⟩ 1 1 [.int .i64 (R i).c, .int .i32 (R i).g, .int .i32 (idx (R i).f k), .int .i32 (idx (R i).t k), .int .u8 (R i).r, .bool (R i).j] (by rfl) (by rfl) (World.news_of_block (cs := #[.int .i64 (R i).c, .int .i32 (R i).g, .int .i32 (idx (R i).f k), .int .i32 (idx (R i).t k), .int .u8 (R i).r, .bool (R i).j]) (t := 46) (fr := (0, 0)) (heap_alloc_new W _)) (by simp [Value.oneCell']) (by omega) (by unfold maxLen; omega) (by omega) (by simp; omega) (W.heap.size + 1) (by simp) ?_; intro gg cap1 w1 hown1 hgrow hat hlt1)))
                have hb1 : Below W3.heap.size W3 w1 := ((HWb.out.alloc (by omega) _).drew).grown hgrow (by simp; omega) (fun k hk => (HL.out k hk).1)
                go_wp2
                go_roundw
                case rel => exact ⟨i + 1, gg, cap1, by omega, by go_num, rfl, by rw [pms_succ, pm_cells_neg (by omega)]; exact hown1, hb1⟩
                case measure => simp [intOf]; omega
              · go_wp2_with (go_at_call 4; refine (idx_any _ _ ?_ ?_ _).mono ?_; (assumption); (assumption); rintro e w' ⟨rfl, rfl⟩)
                generalize hWe : World.alloc wr _ = W
                have f1 : W.cell? ⟨wr.heap.size, 1, none⟩ = some (.int .i32 (R i).f) := by rw [← hWe]; simp
                have f2 : W.cell? ⟨wr.heap.size, 2, none⟩ = some (.int .i32 (R i).t) := by rw [← hWe]; simp
                have f3 : W.cell? ⟨wr.heap.size, 3, none⟩ = some (.int .i64 (R i).c) := by rw [← hWe]; simp
                have f4 : W.cell? ⟨wr.heap.size, 4, none⟩ = some (.int .u8 (R i).r) := by rw [← hWe]; simp
                have f5 : W.cell? ⟨wr.heap.size, 5, none⟩ = some (.bool (R i).j) := by rw [← hWe]; simp
                have HO : Hid (W.ownsRow W3.heap.size 46 6 (.slice (some ⟨g, 0, none⟩) i cap) i (pms (fun i => pm k j (R i)) i)) := by rw [← hWe]; exact hown.alloc _
                have HWb : Hid (Below W3.heap.size W3 W) := by rw [← hWe]; exact hbel.alloc hsz4 _
                have hWs : wr.heap.size + 1 ≤ W.heap.size := by rw [← hWe]; simp
                clear hWe hown hbel r0 r1 r2 r3 r4 r5
                go_region_held3 (fun w' => w'.cell? ⟨wr.heap.size, 1, none⟩ = some (.int .i32 (R i).f) ∧ w'.cell? ⟨wr.heap.size, 2, none⟩ = some (.int .i32 (R i).t) ∧ w'.cell? ⟨wr.heap.size, 3, none⟩ = some (.int .i64 (R i).c) ∧ w'.cell? ⟨wr.heap.size, 4, none⟩ = some (.int .u8 (R i).r) ∧ w'.cell? ⟨wr.heap.size, 5, none⟩ = some (.bool (R i).j))
                  (first
                    | (go_split_ands; refine ⟨?_, ?_, ?_, ?_, ?_⟩ <;> first | go_keep | (rw [hgrow.cell_far _ (by simp; omega) (fun e => by have := HL.out _ e.symm; simp at this)]; assumption)))
                  (first
                    | (go_at_call 4; refine (idx_any _ _ ?_ ?_ _).mono ?_; (assumption); (assumption); rintro e w' ⟨rfl, rfl⟩)
                    | ((refine step_append_lies _ (by rfl) _ _ _ (by rfl) W3.heap.size 46 i1 pmZ 6 24 Yba.underlying41 hi1 hz0 hz1 hz2 rfl (by omega) (.slice (some ⟨g, 0, none⟩) i cap) i (pms (fun i => pm k j (R i)) i) (by rfl) ((HO.out.alloc _).drew) ⟨W.heap.size, 0, none⟩ 1 1 [.int .i64 (R i).c, .int .i32 (idx (R i).g j), .int .i32 (idx (R i).f k), .int .i32 (idx (R i).t k), .int .u8 (R i).r, .bool (R i).j] (by rfl) (by rfl) (World.news_of_block (cs := #[.int .i64 (R i).c, .int .i32 (idx (R i).g j), .int .i32 (idx (R i).f k), .int .i32 (idx (R i).t k), .int .u8 (R i).r, .bool (R i).j]) (t := 46) (fr := (0, 0)) (heap_alloc_new W _)) (by simp [Value.oneCell']) (by omega) (by unfold maxLen; omega) (by omega) (by simp; omega) (W.heap.size + 1) (by simp) ?_; intro gg cap1 w1 hown1 hgrow hat hlt1)))
                have hb1 : Below W3.heap.size W3 w1 := ((HWb.out.alloc (by omega) _).drew).grown hgrow (by simp; omega) (fun k hk => (HL.out k hk).1)
                go_wp2
                go_roundw
                case rel => exact ⟨i + 1, gg, cap1, by omega, by go_num, rfl, by rw [pms_succ, pm_cells_pos (by omega)]; exact hown1, hb1⟩
                case measure => simp [intOf]; omega
            · obtain rfl : i = n := by omega
              have hM := PMs_of_own hown
              have hgl : g < wr.heap.size := (hown.lt g rfl).2
              go_wp2_with fail
              generalize hWe : World.alloc wr _ = W5
              have hb5 : Below W3.heap.size W3 W5 := by rw [← hWe]; exact hbel.alloc hsz4 _
              have hM5 : PMs W5 g i (fun i => pm k j (R i)) := by rw [← hWe]; exact hM.below ((Below.refl wr.heap.size wr).alloc (Nat.le_refl _) _) hgl
              have hc0 : W5.cell? ⟨wr.heap.size, 0, none⟩ = some (.slice none 0 0) := by rw [← hWe]; simp
              have hc1 : W5.cell? ⟨wr.heap.size, 1, none⟩ = some (.slice (some ⟨g, 0, none⟩) i cap) := by rw [← hWe]; simp
              have hg5 : g < W5.heap.size := by rw [← hWe]; simp; omega
              have hi5 := HI3.out
              clear hWe hown hbel hM
              refine (planOf_any w.heap.size wr.heap.size g i cap k j cV cU aV aU S G (fun i => pm k j (R i)) _ hn0 ((hb5.cell (by show w.heap.size < W3.heap.size; omega)).trans hsn.1) ((hb5.cell (by show w.heap.size < W3.heap.size; omega)).trans hsn.2.1)
                (hi5.1.below hb5 hi5.2.2.1) (hi5.2.1.below hb5 hi5.2.2.2) hc0 hc1 hg5 hM5 (fun i _ => pm_g_lt _ _ _) (fun i _ => idx_le _ _) (fun i _ => idx_le _ _) (fun i hi => (HB.out i hi).2.2.2)).mono ?_
              rintro e w6 ⟨bp, vp, rfl, hvp, hv, hb6⟩
              have hM6 : PMs w6 g i (fun i => pm k j (R i)) := hM5.below hb6 hg5
              have hz5 := hb5.size
              have hz6 := hb6.size
              have hb6w : Below w.heap.size w w6 := hb3.trans ((hb5.mono (by omega)).trans (hb6.mono (by omega)))
              have hg6 : g < w6.heap.size := by omega
              have HM6 : Hid (PMs w6 g i (fun i => pm k j (R i))) := hM6
              have HP : Hid (w6.cell? ⟨bp, 0, none⟩ = some vp ∧ ((kept (fun i => pm k j (R i)) i = [] ∧ vp = .slice none 0 0) ∨ (kept (fun i => pm k j (R i)) i ≠ [] ∧ w6.ownsRow W5.heap.size 56 5 vp (kept (fun i => pm k j (R i)) i).length (mvs S G (kept (fun i => pm k j (R i)) i))))) := ⟨hvp, hv⟩
              clear hvp hv hM5 hM6 hb5 hc0 hc1 hi5 hgl hsz4 hlt hi hsn
              obtain ⟨M, hMe⟩ : ∃ M : Nat → PM, M = fun i => pm k j (R i) := ⟨_, rfl⟩
              have HMe : Hid (M = fun i => pm k j (R i)) := hMe
              rw [← hMe] at HM6 HP
              clear hMe hz0 hz1 hz2 hi1 i1
              obtain ⟨i1, hi1, hz0, hz1, hz2⟩ := info_parts Yba.info56
              go_wp2_with fail
              go_loopw [18, 124] (fun v c wr => ∃ q : Nat, q ≤ i ∧ c = .int .i64 q ∧ wr.ownsRow w6.heap.size 56 5 v (kept M q).length (mvs S G (kept M q)) ∧ Below w6.heap.size w6 wr) (fun _ c _ => i - (intOf c).toNat)
              case atStart => exact ⟨0, Nat.zero_le _, rfl, World.ownsRow_nil _ _ _ _, Below.refl _ _⟩
              case round =>
                obtain ⟨q, hq, rfl, hown, hbel⟩ := hrel
                have hszr := hbel.size
                have hkl := kept_le M q
                have hb7w : Below w.heap.size w wr := hb6w.trans (hbel.mono (by omega))
                by_cases hlt : q < i
                · obtain ⟨m0, m1, m2, m3, m4, m5⟩ := HM6.out.below hbel hg6 q hlt
                  obtain ⟨m, hm⟩ : ∃ m : PM, m = M q := ⟨_, rfl⟩
                  rw [← hm] at m0 m1 m2 m3 m4 m5
                  have Hm : Hid (m = M q) := hm
                  have hmg : m.g < j := by rw [hm, HMe.out]; exact pm_g_lt _ _ _
                  have hmf : m.f < k := by rw [hm, HMe.out]; exact idx_le _ _
                  have hmt : m.t < k := by rw [hm, HMe.out]; exact idx_le _ _
                  obtain ⟨br0, br1⟩ : 0 ≤ m.r ∧ m.r ≤ 255 := by rw [hm, HMe.out]; exact (HB.out q hlt).2.2.2
                  have hrw := wrap_u8 br0 br1
                  clear hm
                  have hgr6 : g < wr.heap.size := by omega
                  have HL : Hid (∀ k, u18.ownBlock = some k → w6.heap.size ≤ k ∧ k < wr.heap.size) := hown.lt
                  by_cases hg : m.g < 0
                  · go_wp2_with fail
                    go_roundw
                    case rel => exact ⟨q + 1, by omega, by go_num, by simp only [kept]; rw [← Hm.out, if_pos hg]; exact hown.alloc _, hbel.alloc hszr _⟩
                    case measure => simp [intOf]; omega
                  · obtain ⟨bG, oG, rfl, hcG0⟩ := HS.out.2.1.resolve_left (by omega)
                    have hcG1 := hcG0 m.g.toNat (by omega)
                    have hbG := block_lt_of_cell hcG1
                    simp at hbG
                    have hcG : wr.cell? ⟨bG, oG + m.g.toNat, none⟩ = some (.string (G m.g.toNat)) := (hb7w.cell hbG).trans hcG1
                    have hbGr : bG < wr.heap.size := by omega
                    have hgn : (0 : Int) ≤ m.g := by omega
                    clear hcG0 hcG1
                    by_cases hf : m.f < 0
                    · have qF := True.intro
                      by_cases ht : m.t < 0
                      · have qT := True.intro
                        have HMV : Hid (mv S G m = [.string (G m.g.toNat), .int .i64 m.c, .string ⟨#[]⟩, .string ⟨#[]⟩, .int .i64 m.r]) := by simp [Hid, mv, idOf, hf, ht]
                        go_wp2_with fail
                        generalize hWe : World.alloc wr _ = W
                        have f0 : W.cell? ⟨wr.heap.size, 0, none⟩ = some (.int .i64 m.c) := by rw [← hWe]; simp
                        have f1 : W.cell? ⟨wr.heap.size, 1, none⟩ = some (.int .i32 m.g) := by rw [← hWe]; simp
                        have f4 : W.cell? ⟨wr.heap.size, 4, none⟩ = some (.int .u8 m.r) := by rw [← hWe]; simp
                        have f6 : W.cell? ⟨bG, oG + m.g.toNat, none⟩ = some (.string (G m.g.toNat)) := by rw [← hWe, World.cell?_alloc_past _ _ _ hbGr]; exact hcG
                        have HO : Hid (W.ownsRow w6.heap.size 56 5 u18 (kept M q).length (mvs S G (kept M q))) := by rw [← hWe]; exact hown.alloc _
                        have HWb : Hid (Below w6.heap.size w6 W) := by rw [← hWe]; exact hbel.alloc hszr _
                        have hWs : wr.heap.size + 1 ≤ W.heap.size := by rw [← hWe]; simp
                        clear hWe hown hbel hcG qF qT m0 m1 m2 m3 m4 m5
                        go_region_held3 (fun w' => w'.cell? ⟨wr.heap.size, 0, none⟩ = some (.int .i64 m.c) ∧ w'.cell? ⟨wr.heap.size, 1, none⟩ = some (.int .i32 m.g) ∧ w'.cell? ⟨wr.heap.size, 4, none⟩ = some (.int .u8 m.r) ∧ w'.cell? ⟨bG, oG + m.g.toNat, none⟩ = some (.string (G m.g.toNat)))
                          (first
                            | (go_split_ands; refine ⟨?_, ?_, ?_, ?_⟩ <;> first | go_keep | (rw [hgrow.cell_far _ (by simp; omega) (fun e => by have := HL.out _ e.symm; simp only at this; omega)]; assumption)))
                          (first
                            | ((refine step_append_lies _ (by rfl) _ _ _ (by rfl) w6.heap.size 56 i1 mvZero 5 64 Yba.underlying53 hi1 hz0 hz1 hz2 rfl (by omega) u18 (kept M q).length (mvs S G (kept M q)) (by rfl) ((HO.out.alloc _).drew) ⟨W.heap.size, 0, none⟩ 1 1 [.string (G m.g.toNat), .int .i64 m.c, .string ⟨#[]⟩, .string ⟨#[]⟩, .int .i64 m.r] (by rfl) (by rfl) (World.news_of_block (cs := #[.string (G m.g.toNat), .int .i64 m.c, .string ⟨#[]⟩, .string ⟨#[]⟩, .int .i64 m.r]) (t := 56) (fr := (0, 0)) (heap_alloc_new W _)) (by simp [Value.oneCell']) (by omega) (by unfold maxLen; omega) (by omega) (by simp; omega) (W.heap.size + 1) (by simp) ?_; intro gg cap1 w1 hown1 hgrow hat hlt1)))
                        have hb1 : Below w6.heap.size w6 w1 := ((HWb.out.alloc (by omega) _).drew).grown hgrow (by simp; omega) (fun k hk => (HL.out k hk).1)
                        clear hgrow f0 f1 f4 f6 HWb HO
                        go_wp2
                        go_roundw
                        case rel => exact ⟨q + 1, by omega, by go_num, by simp only [kept]; rw [← Hm.out, if_neg (by omega), mvs_snoc, List.length_append]; exact HMV.out ▸ hown1, hb1⟩
                        case measure => simp [intOf]; omega
                      · obtain ⟨bF, oF, rfl, hcF0⟩ := HS.out.1.resolve_left (by omega)
                        have hcT1 := hcF0 m.t.toNat (by omega)
                        have hbT := block_lt_of_cell hcT1
                        simp at hbT
                        have qT : wr.cell? ⟨bF, oF + m.t.toNat, none⟩ = some (.string (S m.t.toNat)) := (hb7w.cell hbT).trans hcT1
                        have hbTr : bF < wr.heap.size := by omega
                        have htn : (0 : Int) ≤ m.t := by omega
                        clear hcT1
                        clear hcF0
                        have HMV : Hid (mv S G m = [.string (G m.g.toNat), .int .i64 m.c, .string ⟨#[]⟩, .string (S m.t.toNat), .int .i64 m.r]) := by simp [Hid, mv, idOf, hf, ht]
                        go_wp2_with fail
                        generalize hWe : World.alloc wr _ = W
                        have f0 : W.cell? ⟨wr.heap.size, 0, none⟩ = some (.int .i64 m.c) := by rw [← hWe]; simp
                        have f1 : W.cell? ⟨wr.heap.size, 1, none⟩ = some (.int .i32 m.g) := by rw [← hWe]; simp
                        have f4 : W.cell? ⟨wr.heap.size, 4, none⟩ = some (.int .u8 m.r) := by rw [← hWe]; simp
                        have f6 : W.cell? ⟨bG, oG + m.g.toNat, none⟩ = some (.string (G m.g.toNat)) := by rw [← hWe, World.cell?_alloc_past _ _ _ hbGr]; exact hcG
                        have HO : Hid (W.ownsRow w6.heap.size 56 5 u18 (kept M q).length (mvs S G (kept M q))) := by rw [← hWe]; exact hown.alloc _
                        have HWb : Hid (Below w6.heap.size w6 W) := by rw [← hWe]; exact hbel.alloc hszr _
                        have hWs : wr.heap.size + 1 ≤ W.heap.size := by rw [← hWe]; simp
                        clear hWe hown hbel hcG qF qT m0 m1 m2 m3 m4 m5
                        go_region_held3 (fun w' => w'.cell? ⟨wr.heap.size, 0, none⟩ = some (.int .i64 m.c) ∧ w'.cell? ⟨wr.heap.size, 1, none⟩ = some (.int .i32 m.g) ∧ w'.cell? ⟨wr.heap.size, 4, none⟩ = some (.int .u8 m.r) ∧ w'.cell? ⟨bG, oG + m.g.toNat, none⟩ = some (.string (G m.g.toNat)))
                          (first
                            | (go_split_ands; refine ⟨?_, ?_, ?_, ?_⟩ <;> first | go_keep | (rw [hgrow.cell_far _ (by simp; omega) (fun e => by have := HL.out _ e.symm; simp only at this; omega)]; assumption)))
                          (first
                            | ((refine step_append_lies _ (by rfl) _ _ _ (by rfl) w6.heap.size 56 i1 mvZero 5 64 Yba.underlying53 hi1 hz0 hz1 hz2 rfl (by omega) u18 (kept M q).length (mvs S G (kept M q)) (by rfl) ((HO.out.alloc _).drew) ⟨W.heap.size, 0, none⟩ 1 1 [.string (G m.g.toNat), .int .i64 m.c, .string ⟨#[]⟩, .string (S m.t.toNat), .int .i64 m.r] (by rfl) (by rfl) (World.news_of_block (cs := #[.string (G m.g.toNat), .int .i64 m.c, .string ⟨#[]⟩, .string (S m.t.toNat), .int .i64 m.r]) (t := 56) (fr := (0, 0)) (heap_alloc_new W _)) (by simp [Value.oneCell']) (by omega) (by unfold maxLen; omega) (by omega) (by simp; omega) (W.heap.size + 1) (by simp) ?_; intro gg cap1 w1 hown1 hgrow hat hlt1)))
                        have hb1 : Below w6.heap.size w6 w1 := ((HWb.out.alloc (by omega) _).drew).grown hgrow (by simp; omega) (fun k hk => (HL.out k hk).1)
                        clear hgrow f0 f1 f4 f6 HWb HO
                        go_wp2
                        go_roundw
                        case rel => exact ⟨q + 1, by omega, by go_num, by simp only [kept]; rw [← Hm.out, if_neg (by omega), mvs_snoc, List.length_append]; exact HMV.out ▸ hown1, hb1⟩
                        case measure => simp [intOf]; omega
                    · obtain ⟨bF, oF, rfl, hcF0⟩ := HS.out.1.resolve_left (by omega)
                      have hcF1 := hcF0 m.f.toNat (by omega)
                      have hbF := block_lt_of_cell hcF1
                      simp at hbF
                      have qF : wr.cell? ⟨bF, oF + m.f.toNat, none⟩ = some (.string (S m.f.toNat)) := (hb7w.cell hbF).trans hcF1
                      have hbFr : bF < wr.heap.size := by omega
                      have hfn : (0 : Int) ≤ m.f := by omega
                      clear hcF1
                      by_cases ht : m.t < 0
                      · have qT := True.intro
                        clear hcF0
                        have HMV : Hid (mv S G m = [.string (G m.g.toNat), .int .i64 m.c, .string (S m.f.toNat), .string ⟨#[]⟩, .int .i64 m.r]) := by simp [Hid, mv, idOf, hf, ht]
                        go_wp2_with fail
                        generalize hWe : World.alloc wr _ = W
                        have f0 : W.cell? ⟨wr.heap.size, 0, none⟩ = some (.int .i64 m.c) := by rw [← hWe]; simp
                        have f1 : W.cell? ⟨wr.heap.size, 1, none⟩ = some (.int .i32 m.g) := by rw [← hWe]; simp
                        have f4 : W.cell? ⟨wr.heap.size, 4, none⟩ = some (.int .u8 m.r) := by rw [← hWe]; simp
                        have f6 : W.cell? ⟨bG, oG + m.g.toNat, none⟩ = some (.string (G m.g.toNat)) := by rw [← hWe, World.cell?_alloc_past _ _ _ hbGr]; exact hcG
                        have HO : Hid (W.ownsRow w6.heap.size 56 5 u18 (kept M q).length (mvs S G (kept M q))) := by rw [← hWe]; exact hown.alloc _
                        have HWb : Hid (Below w6.heap.size w6 W) := by rw [← hWe]; exact hbel.alloc hszr _
                        have hWs : wr.heap.size + 1 ≤ W.heap.size := by rw [← hWe]; simp
                        clear hWe hown hbel hcG qF qT m0 m1 m2 m3 m4 m5
                        go_region_held3 (fun w' => w'.cell? ⟨wr.heap.size, 0, none⟩ = some (.int .i64 m.c) ∧ w'.cell? ⟨wr.heap.size, 1, none⟩ = some (.int .i32 m.g) ∧ w'.cell? ⟨wr.heap.size, 4, none⟩ = some (.int .u8 m.r) ∧ w'.cell? ⟨bG, oG + m.g.toNat, none⟩ = some (.string (G m.g.toNat)))
                          (first
                            | (go_split_ands; refine ⟨?_, ?_, ?_, ?_⟩ <;> first | go_keep | (rw [hgrow.cell_far _ (by simp; omega) (fun e => by have := HL.out _ e.symm; simp only at this; omega)]; assumption)))
                          (first
                            | ((refine step_append_lies _ (by rfl) _ _ _ (by rfl) w6.heap.size 56 i1 mvZero 5 64 Yba.underlying53 hi1 hz0 hz1 hz2 rfl (by omega) u18 (kept M q).length (mvs S G (kept M q)) (by rfl) ((HO.out.alloc _).drew) ⟨W.heap.size, 0, none⟩ 1 1 [.string (G m.g.toNat), .int .i64 m.c, .string (S m.f.toNat), .string ⟨#[]⟩, .int .i64 m.r] (by rfl) (by rfl) (World.news_of_block (cs := #[.string (G m.g.toNat), .int .i64 m.c, .string (S m.f.toNat), .string ⟨#[]⟩, .int .i64 m.r]) (t := 56) (fr := (0, 0)) (heap_alloc_new W _)) (by simp [Value.oneCell']) (by omega) (by unfold maxLen; omega) (by omega) (by simp; omega) (W.heap.size + 1) (by simp) ?_; intro gg cap1 w1 hown1 hgrow hat hlt1)))
                        have hb1 : Below w6.heap.size w6 w1 := ((HWb.out.alloc (by omega) _).drew).grown hgrow (by simp; omega) (fun k hk => (HL.out k hk).1)
                        clear hgrow f0 f1 f4 f6 HWb HO
                        go_wp2
                        go_roundw
                        case rel => exact ⟨q + 1, by omega, by go_num, by simp only [kept]; rw [← Hm.out, if_neg (by omega), mvs_snoc, List.length_append]; exact HMV.out ▸ hown1, hb1⟩
                        case measure => simp [intOf]; omega
                      · have hcT1 := hcF0 m.t.toNat (by omega)
                        have hbT := block_lt_of_cell hcT1
                        simp at hbT
                        have qT : wr.cell? ⟨bF, oF + m.t.toNat, none⟩ = some (.string (S m.t.toNat)) := (hb7w.cell hbT).trans hcT1
                        have hbTr : bF < wr.heap.size := by omega
                        have htn : (0 : Int) ≤ m.t := by omega
                        clear hcT1
                        clear hcF0
                        have HMV : Hid (mv S G m = [.string (G m.g.toNat), .int .i64 m.c, .string (S m.f.toNat), .string (S m.t.toNat), .int .i64 m.r]) := by simp [Hid, mv, idOf, hf, ht]
                        go_wp2_with fail
                        generalize hWe : World.alloc wr _ = W
                        have f0 : W.cell? ⟨wr.heap.size, 0, none⟩ = some (.int .i64 m.c) := by rw [← hWe]; simp
                        have f1 : W.cell? ⟨wr.heap.size, 1, none⟩ = some (.int .i32 m.g) := by rw [← hWe]; simp
                        have f4 : W.cell? ⟨wr.heap.size, 4, none⟩ = some (.int .u8 m.r) := by rw [← hWe]; simp
                        have f6 : W.cell? ⟨bG, oG + m.g.toNat, none⟩ = some (.string (G m.g.toNat)) := by rw [← hWe, World.cell?_alloc_past _ _ _ hbGr]; exact hcG
                        have HO : Hid (W.ownsRow w6.heap.size 56 5 u18 (kept M q).length (mvs S G (kept M q))) := by rw [← hWe]; exact hown.alloc _
                        have HWb : Hid (Below w6.heap.size w6 W) := by rw [← hWe]; exact hbel.alloc hszr _
                        have hWs : wr.heap.size + 1 ≤ W.heap.size := by rw [← hWe]; simp
                        clear hWe hown hbel hcG qF qT m0 m1 m2 m3 m4 m5
                        go_region_held3 (fun w' => w'.cell? ⟨wr.heap.size, 0, none⟩ = some (.int .i64 m.c) ∧ w'.cell? ⟨wr.heap.size, 1, none⟩ = some (.int .i32 m.g) ∧ w'.cell? ⟨wr.heap.size, 4, none⟩ = some (.int .u8 m.r) ∧ w'.cell? ⟨bG, oG + m.g.toNat, none⟩ = some (.string (G m.g.toNat)))
                          (first
                            | (go_split_ands; refine ⟨?_, ?_, ?_, ?_⟩ <;> first | go_keep | (rw [hgrow.cell_far _ (by simp; omega) (fun e => by have := HL.out _ e.symm; simp only at this; omega)]; assumption)))
                          (first
                            | ((refine step_append_lies _ (by rfl) _ _ _ (by rfl) w6.heap.size 56 i1 mvZero 5 64 Yba.underlying53 hi1 hz0 hz1 hz2 rfl (by omega) u18 (kept M q).length (mvs S G (kept M q)) (by rfl) ((HO.out.alloc _).drew) ⟨W.heap.size, 0, none⟩ 1 1 [.string (G m.g.toNat), .int .i64 m.c, .string (S m.f.toNat), .string (S m.t.toNat), .int .i64 m.r] (by rfl) (by rfl) (World.news_of_block (cs := #[.string (G m.g.toNat), .int .i64 m.c, .string (S m.f.toNat), .string (S m.t.toNat), .int .i64 m.r]) (t := 56) (fr := (0, 0)) (heap_alloc_new W _)) (by simp [Value.oneCell']) (by omega) (by unfold maxLen; omega) (by omega) (by simp; omega) (W.heap.size + 1) (by simp) ?_; intro gg cap1 w1 hown1 hgrow hat hlt1)))
                        have hb1 : Below w6.heap.size w6 w1 := ((HWb.out.alloc (by omega) _).drew).grown hgrow (by simp; omega) (fun k hk => (HL.out k hk).1)
                        clear hgrow f0 f1 f4 f6 HWb HO
                        go_wp2
                        go_roundw
                        case rel => exact ⟨q + 1, by omega, by go_num, by simp only [kept]; rw [← Hm.out, if_neg (by omega), mvs_snoc, List.length_append]; exact HMV.out ▸ hown1, hb1⟩
                        case measure => simp [intOf]; omega
                · obtain rfl : q = i := by omega
                  by_cases hk0 : kept M q = []
                  · have hvp : vp = .slice none 0 0 := by
                      rcases HP.out.2 with h | h
                      · exact h.2
                      · exact absurd hk0 h.1
                    subst hvp
                    have hp0 := HP.out.1
                    have hp1 : wr.cell? ⟨bp, 0, none⟩ = some (.slice none 0 0) := (hbel.cell (block_lt_of_cell hp0)).trans hp0
                    obtain ⟨ao, cp0, rfl⟩ : ∃ ao cp0, u18 = .slice ao 0 cp0 := by
                      rcases hown.2 with ⟨h, _⟩ | ⟨gw, cw, _, h, _⟩
                      · exact ⟨none, 0, h⟩
                      · exact ⟨_, cw, by rw [h, hk0]; rfl⟩
                    have Hb : Hid (Below w.heap.size w wr) := hb7w
                    have heq := fun (wx : World) => Lib.run_eql_slice_nil (P := Yba.prog) wx 53 56 none 0 0 0 0 Yba.underlying53
                    clear hk0 hown hb7w hbel hp0
                    go_wp2_with fail
                    go_ret
                    exact ⟨rfl, Hb.out⟩
                  · obtain ⟨gw, cw, rfl, hgw1, hgw2⟩ := hown.form (List.length_pos_iff.2 hk0)
                    have hpo : w6.ownsRow W5.heap.size 56 5 vp (kept M q).length (mvs S G (kept M q)) := by
                      rcases HP.out.2 with h | h
                      · exact absurd h.1 hk0
                      · exact h.2
                    obtain ⟨gq, cq, rfl, hgq1, hgq2⟩ := hpo.form (List.length_pos_iff.2 hk0)
                    have hp0 := HP.out.1
                    have hbp := block_lt_of_cell hp0
                    have hp1 : wr.cell? ⟨bp, 0, none⟩ = some (.slice (some ⟨gq, 0, none⟩) (kept M q).length cq) := (hbel.cell hbp).trans hp0
                    have HA : Hid (∀ t x, (mvs S G (kept M q))[t]? = some x → wr.cell? ⟨gq, t, none⟩ = some x) := fun t x h =>
                      (hbel.cell (p := ⟨gq, t, none⟩) hgq2).trans ((hpo.cellAt t (by have := (List.getElem?_eq_some_iff.1 h).1; rw [mvs_length] at this; exact this)).trans h)
                    have HC : Hid (∀ t x, (mvs S G (kept M q))[t]? = some x → wr.cell? ⟨gw, t, none⟩ = some x) := fun t x h =>
                      (hown.cellAt t (by have := (List.getElem?_eq_some_iff.1 h).1; rw [mvs_length] at this; exact this)).trans h
                    have Hb : Hid (Below w.heap.size w wr) := hb7w
                    have hk1 : (((kept M q).length : Int) == 0) = false := by simp [hk0]
                    have hL : (kept M q).length ≤ 1024 := by omega
                    generalize hW7 : wr = W7 at *
                    clear hW7 hk0 hown hb7w hbel hp0 hpo hkl
                    go_wp2_with fail
                    go_loopw [182] (fun c wr => ∃ t : Nat, t ≤ (kept M q).length ∧ c = .int .i64 t ∧ ∃ d, wr = W7.drewN d) (fun c _ => (kept M q).length - (intOf c).toNat)
                    case atStart => exact ⟨0, Nat.zero_le _, rfl, 0, rfl⟩
                    case round =>
                      obtain ⟨t, ht, rfl, d, rfl⟩ := hrel
                      by_cases htl : t < (kept M q).length
                      · have e0 := fun j x h => HA.out (t * 5 + j) x (mvs_at htl h)
                        have e1 := fun j x h => HC.out (t * 5 + j) x (mvs_at htl h)
                        obtain ⟨x, hx⟩ : ∃ x : PM, x = (kept M q)[t] := ⟨_, rfl⟩
                        rw [← hx] at e0 e1
                        have a0 := e0 0 _ rfl
                        have a1 := e0 1 _ rfl
                        have a2 := e0 2 _ rfl
                        have a3 := e0 3 _ rfl
                        have a4 := e0 4 _ rfl
                        have b0 := e1 0 _ rfl
                        have b1 := e1 1 _ rfl
                        have b2 := e1 2 _ rfl
                        have b3 := e1 3 _ rfl
                        have b4 := e1 4 _ rfl
                        rw [Nat.add_zero] at a0 b0
                        have z1 : (0 : Int) ≤ (t : Int) := by omega
                        have z2 : (t : Int) < ((kept M q).length : Int) := by omega
                        have hne := mv_neq
                        clear e0 e1 hx
                        go_wp2_with fail
                        go_quiet (fail)
                        go_wp2
                        go_roundw
                        case rel => exact ⟨t + 1, by omega, by go_num, _, rfl⟩
                        case measure => simp [intOf]; omega
                      · obtain rfl : t = (kept M q).length := by omega
                        go_wp2_with fail
                        go_ret
                        exact ⟨rfl, below_drewN Hb.out _⟩

end Go.Proofs.Ybulkadug

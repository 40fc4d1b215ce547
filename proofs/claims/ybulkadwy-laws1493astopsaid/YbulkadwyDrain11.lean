/-
  The iterator's own function (Drain's closure) over toys/ybulkadwy, at each of the closures that it is handed.
-/
import Derived.Test.YbulkadwyClone
import Derived.Deep.DeepCutAuto
namespace Go.Proofs.Ybulkadwy
open Go.RowKit
attribute [local go_sem ↓] Go.wp_at_zero Go.wp_at_succ


set_option maxRecDepth 100000 in
set_option maxHeartbeats 4000000 in
theorem drain11 (bx bl bg base0 : Nat) (vf vl : Value) (xs : List Int) (bs : Nat) (stop : Nat) (w0 w : World) (hx : xs.length ≤ 1024) (hL : LV w0 base0 vf vl xs) (hb0 : Below w0.heap.size w0 w) (hbl : w0.heap.size ≤ bl) (hbg : w0.heap.size ≤ bg) (hlg : bl ≠ bg)
    (cx : w.cell? ⟨bx, 0, none⟩ = some (.pointer (some ⟨bl, 0, none⟩))) (hc : Cell2 w bl vf vl) (cg : w.cell? ⟨bg, 0, none⟩ = some (.slice none 0 0)) (fg : w.frozen? ⟨bg, 0, none⟩ = false) (hst : w.cell? ⟨bs, 0, none⟩ = some (.int .i64 stop)) (hs1 : 1 ≤ stop) (hsg : bs ≠ bg) (hsl : bs ≠ bl) :
    Calls Yba.prog 16 #[.func (.func 11) #[] #[.pointer (some ⟨bg, 0, none⟩), .pointer (some ⟨bs, 0, none⟩)], .pointer (some ⟨bx, 0, none⟩)] w fun e w' => e = .returned (.tuple #[]) ∧ Cell2 w' bl (.slice none 0 0) (.slice none 0 0) ∧
      (∃ vg, w'.cell? ⟨bg, 0, none⟩ = some vg ∧ w'.ownsRow w.heap.size 3 1 vg (xs.take stop).length (ints (xs.take stop))) ∧ Frm w.heap.size [bl, bg] w w' := by
  obtain ⟨ao, cap, hI, hAB⟩ := hL.ints
  have hbx := block_lt_of_cell cx
  have hbsw := block_lt_of_cell hst
  simp only at hbsw
  have hblw := hc.lt
  have hbgw := block_lt_of_cell cg
  simp only at hbx hbgw
  obtain ⟨i1, hi1, hz0, hz1, hz2⟩ := info_parts Yba.info22
  have c0 := hc.1
  have c1 := hc.2.1
  have HC : Hid (Cell2 w bl vf vl) := hc
  have HI : Hid (IsInts w0 ao xs) := hI
  have h00 := hb0.size
  clear hc hI hL
  rcases hAB with ⟨hn, rfl, rfl⟩ | ⟨hn, rfl, gf, cf, rfl, hgf0⟩
  · go_enter Yba.func16, Yba.ntmps16
    go_upto_region 0 with fail
    go_cut [3] (fun v wc => ∃ gb cb, v = .slice (some ⟨gb, 0, none⟩) 1 cb ∧ wc.ownsRow w.heap.size 22 1 (.slice (some ⟨gb, 0, none⟩) 1 cb) 1 [.slice ao xs.length cap] ∧ Below w.heap.size w wc)
    case first =>
      go_region_held3 (fun w' => w'.cell? ⟨bx, 0, none⟩ = some (.pointer (some ⟨bl, 0, none⟩)) ∧ w'.cell? ⟨bl, 0, none⟩ = some (.slice none 0 0) ∧ w'.cell? ⟨bl, 1, none⟩ = some (.slice ao xs.length cap) ∧ Below w.heap.size w w')
        (first
          | (go_split_ands; refine ⟨?_, ?_, ?_, ?_⟩ <;> first | go_keep | exact Below.drew (by assumption) | exact Below.drew (Below.refl _ _) | exact below_alloc (by assumption) _ | exact Below.drew (below_alloc (Below.refl _ _) _) | exact below_grown (by assumption) hgrow (by simp [Value.ownBlock]) | exact (cell_after (by assumption) hgrow (by simp [Value.ownBlock]) (by show _ < _; omega)).trans (by assumption)))
        (first
          | (go_at_call 17; refine (clone_nil _).mono ?_; rintro e w' ⟨rfl, rfl⟩)
          | ((refine step_append_lies _ (by rfl) _ _ _ (by rfl) w.heap.size 22 i1 (.slice none 0 0) 1 24 Yba.underlying23 hi1 hz0 hz1 hz2 rfl (by omega) (.slice none 0 0) 0 [] (by rfl) (World.ownsRow_nil _ _ _ _) _ 1 1 [.slice ao xs.length cap] (by rfl) (by rfl) (news_one (by simp)) (by simp [Value.oneCell']) (by omega) (by unfold maxLen; omega) (by omega) (by simp) _ rfl ?_; intro gb cb w1 hown1 hgrow hat hlt1)))
      all_goals
        have hb1 : Below w.heap.size w w1 := by exact below_grown (Below.drew (below_alloc (Below.refl _ _) _)) hgrow (by simp [Value.ownBlock])
        go_wp2_with fail
        go_meet
        exact ⟨gb, cb, rfl, hown1, hb1⟩
    case rest =>
      obtain ⟨gb, cb, rfl, hbk, hbw⟩ := hcut
      obtain ⟨hgb1, hgb2⟩ := hbk.lt gb rfl
      have k0 : wc.cell? ⟨gb, 0, none⟩ = some (.slice ao xs.length cap) := hbk.cellAt 0 (by omega)
      have kf0 := hbk.frozenAt 0
      have cx1 := (hbw.cell (p := ⟨bx, 0, none⟩) hbx).trans cx
      have hc1 : Cell2 wc bl (.slice none 0 0) (.slice ao xs.length cap) := HC.out.block (hbw.block bl hblw)
      have g0 := hc1.1
      have g1 := hc1.2.1
      have gf0 := hc1.2.2.1
      have gf1 := hc1.2.2.2
      have HC1 : Hid (Cell2 wc bl (.slice none 0 0) (.slice ao xs.length cap)) := hc1
      clear hc1 hbk cx c0 c1 HC
      go_wp2_with fail
      generalize hW2 : World.setCell (World.setCell wc _ _) _ _ = W2
      have hc2 : Cell2 W2 bl (.slice none 0 0) (.slice none 0 0) := by rw [← hW2]; exact (HC1.out.set0 _).set1 _
      have k2 : W2.cell? ⟨gb, 0, none⟩ = some (.slice ao xs.length cap) := by rw [← hW2]; rw [World.cell?_setCell_other _ _ _ _ (by first | (simp; done) | (simp; omega)), World.cell?_setCell_other _ _ _ _ (by first | (simp; done) | (simp; omega))]; exact k0
      have kf2 : W2.frozen? ⟨gb, 0, none⟩ = false := by rw [← hW2]; simpa using kf0
      have hfr2 : Frm w.heap.size [bl, bg] w W2 := by rw [← hW2]; exact ((Frm.of_below hbw).setCell (.inl (by simp)) _).setCell (.inl (by simp)) _
      have cg2 : W2.cell? ⟨bg, 0, none⟩ = some (.slice none 0 0) := by rw [← hW2]; rw [World.cell?_setCell_other _ _ _ _ (by first | (simp; done) | (simp; omega)), World.cell?_setCell_other _ _ _ _ (by first | (simp; done) | (simp; omega))]; exact (hbw.cell hbgw).trans cg
      have fg2 : W2.frozen? ⟨bg, 0, none⟩ = false := by rw [← hW2]; simpa using (hbw.frozen (p := ⟨bg, 0, none⟩) hbgw).trans fg
      have hz2 : gb < W2.heap.size := by rw [← hW2]; simpa using hgb2
      clear hW2 k0 kf0 cx1 g0 g1 gf0 gf1 HC1 hbw cg fg hgb2
      refine wp_loop_rounds 2 ?_
      rw [rounds_succ]
      go_wp2_with fail
      generalize hW3 : World.setCell W2 _ _ = W3
      have hc3 : Cell2 W3 bl (.slice none 0 0) (.slice none 0 0) := by rw [← hW3]; exact hc2.block (Below.heap_setCell _ _ _ _ (by show bl ≠ gb; omega))
      have cg3 : W3.cell? ⟨bg, 0, none⟩ = some (.slice none 0 0) := by rw [← hW3]; rw [World.cell?_setCell_other _ _ _ _ (by first | (simp; done) | (simp; omega))]; exact cg2
      have fg3 : W3.frozen? ⟨bg, 0, none⟩ = false := by rw [← hW3]; simpa using fg2
      have hfr3 : Frm w.heap.size [bl, bg] w W3 := by rw [← hW3]; exact hfr2.setCell (.inr hgb1) _
      have hgb3 : gb < W3.heap.size := by rw [← hW3]; simpa using hz2
      have hbg3 : bg < W3.heap.size := by omega
      have hb3 : Below w0.heap.size w0 W3 := hb0.trans (hfr3.below h00 (by simp; omega))
      clear hW3 hc2 k2 kf2 hfr2 cg2 fg2 hz2
      go_loopw [34] (fun c wr => ∃ (k : Nat) (vg : Value), k ≤ xs.length ∧ c = .int .i64 k ∧ wr.cell? ⟨bg, 0, none⟩ = some vg ∧ wr.frozen? ⟨bg, 0, none⟩ = false ∧ wr.ownsRow W3.heap.size 3 1 vg (xs.take k).length (ints (xs.take k)) ∧ Frm W3.heap.size [bg] W3 wr ∧ k < stop) (fun c _ => xs.length - (intOf c).toNat)
      case atStart => exact ⟨0, _, Nat.zero_le _, rfl, cg3, fg3, World.ownsRow_nil _ _ _ _, Frm.refl _ _ _, hs1⟩
      case round =>
        clear cg3 fg3
        obtain ⟨k, vg, hk, rfl, cgr, fgr, hown, hfr, hks⟩ := hrel
        have hszr := hfr.size
        by_cases hlt : k < xs.length
        · obtain ⟨b, off, rfl, hcx⟩ := HI.out.resolve_left (fun e => by simp [e] at hlt)
          have q0 := hcx k hlt
          have hbl0 := block_lt_of_cell q0
          simp only at hbl0
          have q : wr.cell? ⟨b, off + k, none⟩ = some (.int .i64 xs[k]) := (hfr.cell (by show b < _; omega) (by simp; omega)).trans ((hb3.cell hbl0).trans q0)
          have HT : Hid (xs.take (k + 1) = xs.take k ++ [xs[k]]) := List.take_succ_eq_append_getElem hlt
          clear hcx q0
          obtain ⟨xk, hxk⟩ : ∃ y, y = xs[k] := ⟨_, rfl⟩
          rw [← hxk] at q HT
          clear hxk
          have st : wr.cell? ⟨bs, 0, none⟩ = some (.int .i64 stop) := (hfr.cell (by show bs < _; omega) (by simp; omega)).trans ((hfr3.cell hbsw (by simp; omega)).trans hst)
          by_cases hs : k + 1 < stop
          · have hd : decide ((((xs.take k).length + 1 : Nat) : Int) < (stop : Int)) = true := by simp; omega
            go_wp2_with (go_at_call 11; refine (clos11 bg W3.heap.size vg (xs.take k) xk bs stop _ (by simp; omega) hbg3 hszr cgr fgr st hsg (by omega) hown).mono ?_; rintro e w1 ⟨v', he, c', f', own', fr'⟩; rw [hd] at he; subst he)
            go_roundw
            case rel => exact ⟨k + 1, v', by omega, by go_num, c', f', by rw [HT.out]; exact own', hfr.trans fr', hs⟩
            case measure => simp [intOf]; omega
          · have hd : decide ((((xs.take k).length + 1 : Nat) : Int) < (stop : Int)) = false := by simp; omega
            have HS : Hid (k + 1 = stop) := by show k + 1 = stop; omega
            go_wp2_with (go_at_call 11; refine (clos11 bg W3.heap.size vg (xs.take k) xk bs stop _ (by simp; omega) hbg3 hszr cgr fgr st hsg (by omega) hown).mono ?_; rintro e w1 ⟨v', he, c', f', own', fr'⟩; rw [hd] at he; subst he)
            refine bodyPost_ret (results_none rfl _ _ _) rfl ?_
            rw [← HT.out, HS.out] at own'
            exact ⟨rfl, hc3.block ((hfr.trans fr').block bl (by omega) (by simp; omega)), ⟨v', c', ownsRow_mono own' (by omega)⟩, hfr3.trans ((hfr.trans fr').mono (by omega) (by simp))⟩
        · obtain rfl : k = xs.length := by omega
          go_wp2_with fail
          rw [rounds_succ]
          go_wp2_with fail
          go_end0
          have et : xs.take stop = xs.take xs.length := by rw [List.take_length, List.take_of_length_le (by omega)]
          exact ⟨rfl, hc3.block (hfr.block bl (by omega) (by simp; omega)), ⟨vg, cgr, by rw [et]; exact ownsRow_mono hown (by omega)⟩, hfr3.trans (hfr.mono (by omega) (by simp))⟩
  · have Hn : Hid (xs.length = 1024) := hn
    clear hn
    have hgf : w.cell? ⟨gf, 0, none⟩ = some (.slice ao xs.length cap) := (hb0.cell (block_lt_of_cell hgf0)).trans hgf0
    have hgfl := block_lt_of_cell hgf
    simp only at hgfl
    clear hgf0
    go_enter Yba.func16, Yba.ntmps16
    go_upto_region 0 with fail
    go_cut [3] (fun v wc => ∃ gb cb, v = .slice (some ⟨gb, 0, none⟩) 2 cb ∧ wc.ownsRow w.heap.size 22 1 (.slice (some ⟨gb, 0, none⟩) 2 cb) 2 [.slice ao xs.length cap, .slice none 0 0] ∧ Below w.heap.size w wc)
    case first =>
      go_region_held3 (fun w' => w'.cell? ⟨bx, 0, none⟩ = some (.pointer (some ⟨bl, 0, none⟩)) ∧ w'.cell? ⟨bl, 0, none⟩ = some (.slice (some ⟨gf, 0, none⟩) 1 cf) ∧ w'.cell? ⟨bl, 1, none⟩ = some (.slice none 0 0) ∧ Below w.heap.size w w')
        (first
          | (go_split_ands; refine ⟨?_, ?_, ?_, ?_⟩ <;> first | go_keep | exact Below.drew (by assumption) | exact Below.drew (Below.refl _ _) | exact below_alloc (by assumption) _ | exact Below.drew (below_alloc (Below.refl _ _) _) | exact below_after (by assumption) hb2 (by simp) | exact (hb2.cell (by simp; omega)).trans (by assumption) | exact below_grown (by assumption) hgrow (fun k hk => by have := hown2.lt k hk; omega) | exact (cell_after (by assumption) hgrow (fun k hk => by have := hown2.lt k hk; omega) (by show _ < _; omega)).trans (by assumption)))
        (first
          | (go_at_call 17; refine (clone_one gf cf w.heap.size ao xs.length cap _ ?_ ?_).mono ?_; (simp); (first | exact hgf | exact (Below.cell (p := ⟨gf, 0, none⟩) (Below.drew (below_alloc (Below.refl _ _) _)) hgfl).trans hgf); rintro e w' ⟨g2, cap2, rfl, hown2, hb2⟩)
          | ((refine step_append_lies _ (by rfl) _ _ _ (by rfl) w.heap.size 22 i1 (.slice none 0 0) 1 24 Yba.underlying23 hi1 hz0 hz1 hz2 rfl (by omega) (.slice (some ⟨g2, 0, none⟩) 1 cap2) 1 [.slice ao xs.length cap] (by rfl) (by first | exact hown2 | exact hown2.alloc _ | exact (hown2.alloc _).drew) _ 1 1 [.slice none 0 0] (by rfl) (by rfl) (news_one (by first | (simp; done) | exact (hb2.cell (by simp)).trans (by simp))) (by simp [Value.oneCell']) (by omega) (by unfold maxLen; omega) (by omega) (by have := hb2.size; simp at this ⊢; omega) _ rfl ?_; intro gb cb w1 hown1 hgrow hat hlt1)))
      all_goals
        have hb1 : Below w.heap.size w w1 := by first | exact below_grown (below_alloc (below_after (Below.drew (Below.refl _ _)) hb2 (by simp)) _) hgrow (fun k hk => by have := hown2.lt k hk; omega) | exact below_grown (below_after (Below.drew (below_alloc (Below.refl _ _) _)) hb2 (by simp)) hgrow (fun k hk => by have := hown2.lt k hk; omega)
        go_wp2_with fail
        go_meet
        exact ⟨gb, cb, rfl, hown1, hb1⟩
    case rest =>
      obtain ⟨gb, cb, rfl, hbk, hbw⟩ := hcut
      obtain ⟨hgb1, hgb2⟩ := hbk.lt gb rfl
      have k0 : wc.cell? ⟨gb, 0, none⟩ = some (.slice ao xs.length cap) := hbk.cellAt 0 (by omega)
      have kf0 := hbk.frozenAt 0
      have k1 : wc.cell? ⟨gb, 1, none⟩ = some (.slice none 0 0) := hbk.cellAt 1 (by omega)
      have kf1 := hbk.frozenAt 1
      have cx1 := (hbw.cell (p := ⟨bx, 0, none⟩) hbx).trans cx
      have hc1 : Cell2 wc bl (.slice (some ⟨gf, 0, none⟩) 1 cf) (.slice none 0 0) := HC.out.block (hbw.block bl hblw)
      have g0 := hc1.1
      have g1 := hc1.2.1
      have gf0 := hc1.2.2.1
      have gf1 := hc1.2.2.2
      have HC1 : Hid (Cell2 wc bl (.slice (some ⟨gf, 0, none⟩) 1 cf) (.slice none 0 0)) := hc1
      clear hc1 hbk cx c0 c1 HC
      go_wp2_with fail
      generalize hW2 : World.setCell (World.setCell wc _ _) _ _ = W2
      have hc2 : Cell2 W2 bl (.slice none 0 0) (.slice none 0 0) := by rw [← hW2]; exact (HC1.out.set0 _).set1 _
      have k2 : W2.cell? ⟨gb, 0, none⟩ = some (.slice ao xs.length cap) := by rw [← hW2]; rw [World.cell?_setCell_other _ _ _ _ (by first | (simp; done) | (simp; omega)), World.cell?_setCell_other _ _ _ _ (by first | (simp; done) | (simp; omega))]; exact k0
      have kf2 : W2.frozen? ⟨gb, 0, none⟩ = false := by rw [← hW2]; simpa using kf0
      have k3 : W2.cell? ⟨gb, 1, none⟩ = some (.slice none 0 0) := by rw [← hW2]; rw [World.cell?_setCell_other _ _ _ _ (by first | (simp; done) | (simp; omega)), World.cell?_setCell_other _ _ _ _ (by first | (simp; done) | (simp; omega))]; exact k1
      have kf3 : W2.frozen? ⟨gb, 1, none⟩ = false := by rw [← hW2]; simpa using kf1
      have hfr2 : Frm w.heap.size [bl, bg] w W2 := by rw [← hW2]; exact ((Frm.of_below hbw).setCell (.inl (by simp)) _).setCell (.inl (by simp)) _
      have cg2 : W2.cell? ⟨bg, 0, none⟩ = some (.slice none 0 0) := by rw [← hW2]; rw [World.cell?_setCell_other _ _ _ _ (by first | (simp; done) | (simp; omega)), World.cell?_setCell_other _ _ _ _ (by first | (simp; done) | (simp; omega))]; exact (hbw.cell hbgw).trans cg
      have fg2 : W2.frozen? ⟨bg, 0, none⟩ = false := by rw [← hW2]; simpa using (hbw.frozen (p := ⟨bg, 0, none⟩) hbgw).trans fg
      have hz2 : gb < W2.heap.size := by rw [← hW2]; simpa using hgb2
      clear hW2 k0 kf0 cx1 g0 g1 gf0 gf1 HC1 hbw cg fg hgb2 k1 kf1
      refine wp_loop_rounds 3 ?_
      rw [rounds_succ]
      go_wp2_with fail
      generalize hW3 : World.setCell W2 _ _ = W3
      have hc3 : Cell2 W3 bl (.slice none 0 0) (.slice none 0 0) := by rw [← hW3]; exact hc2.block (Below.heap_setCell _ _ _ _ (by show bl ≠ gb; omega))
      have cg3 : W3.cell? ⟨bg, 0, none⟩ = some (.slice none 0 0) := by rw [← hW3]; rw [World.cell?_setCell_other _ _ _ _ (by first | (simp; done) | (simp; omega))]; exact cg2
      have fg3 : W3.frozen? ⟨bg, 0, none⟩ = false := by rw [← hW3]; simpa using fg2
      have k4 : W3.cell? ⟨gb, 1, none⟩ = some (.slice none 0 0) := by rw [← hW3]; rw [World.cell?_setCell_other _ _ _ _ (by simp)]; exact k3
      have kf4 : W3.frozen? ⟨gb, 1, none⟩ = false := by rw [← hW3]; simpa using kf3
      have hfr3 : Frm w.heap.size [bl, bg] w W3 := by rw [← hW3]; exact hfr2.setCell (.inr hgb1) _
      have hgb3 : gb < W3.heap.size := by rw [← hW3]; simpa using hz2
      have hbg3 : bg < W3.heap.size := by omega
      have hb3 : Below w0.heap.size w0 W3 := hb0.trans (hfr3.below h00 (by simp; omega))
      clear hW3 hc2 k2 kf2 hfr2 cg2 fg2 hz2 k3 kf3
      go_loopw [34] (fun c wr => ∃ (k : Nat) (vg : Value), k ≤ xs.length ∧ c = .int .i64 k ∧ wr.cell? ⟨bg, 0, none⟩ = some vg ∧ wr.frozen? ⟨bg, 0, none⟩ = false ∧ wr.ownsRow W3.heap.size 3 1 vg (xs.take k).length (ints (xs.take k)) ∧ Frm W3.heap.size [bg] W3 wr ∧ k < stop) (fun c _ => xs.length - (intOf c).toNat)
      case atStart => exact ⟨0, _, Nat.zero_le _, rfl, cg3, fg3, World.ownsRow_nil _ _ _ _, Frm.refl _ _ _, hs1⟩
      case round =>
        clear cg3 fg3
        obtain ⟨k, vg, hk, rfl, cgr, fgr, hown, hfr, hks⟩ := hrel
        have hszr := hfr.size
        by_cases hlt : k < xs.length
        · obtain ⟨b, off, rfl, hcx⟩ := HI.out.resolve_left (fun e => by simp [e] at hlt)
          have q0 := hcx k hlt
          have hbl0 := block_lt_of_cell q0
          simp only at hbl0
          have q : wr.cell? ⟨b, off + k, none⟩ = some (.int .i64 xs[k]) := (hfr.cell (by show b < _; omega) (by simp; omega)).trans ((hb3.cell hbl0).trans q0)
          have HT : Hid (xs.take (k + 1) = xs.take k ++ [xs[k]]) := List.take_succ_eq_append_getElem hlt
          clear hcx q0
          obtain ⟨xk, hxk⟩ : ∃ y, y = xs[k] := ⟨_, rfl⟩
          rw [← hxk] at q HT
          clear hxk
          have st : wr.cell? ⟨bs, 0, none⟩ = some (.int .i64 stop) := (hfr.cell (by show bs < _; omega) (by simp; omega)).trans ((hfr3.cell hbsw (by simp; omega)).trans hst)
          by_cases hs : k + 1 < stop
          · have hd : decide ((((xs.take k).length + 1 : Nat) : Int) < (stop : Int)) = true := by simp; omega
            go_wp2_with (go_at_call 11; refine (clos11 bg W3.heap.size vg (xs.take k) xk bs stop _ (by simp; omega) hbg3 hszr cgr fgr st hsg (by omega) hown).mono ?_; rintro e w1 ⟨v', he, c', f', own', fr'⟩; rw [hd] at he; subst he)
            go_roundw
            case rel => exact ⟨k + 1, v', by omega, by go_num, c', f', by rw [HT.out]; exact own', hfr.trans fr', hs⟩
            case measure => simp [intOf]; omega
          · have hd : decide ((((xs.take k).length + 1 : Nat) : Int) < (stop : Int)) = false := by simp; omega
            have HS : Hid (k + 1 = stop) := by show k + 1 = stop; omega
            go_wp2_with (go_at_call 11; refine (clos11 bg W3.heap.size vg (xs.take k) xk bs stop _ (by simp; omega) hbg3 hszr cgr fgr st hsg (by omega) hown).mono ?_; rintro e w1 ⟨v', he, c', f', own', fr'⟩; rw [hd] at he; subst he)
            refine bodyPost_ret (results_none rfl _ _ _) rfl ?_
            rw [← HT.out, HS.out] at own'
            exact ⟨rfl, hc3.block ((hfr.trans fr').block bl (by omega) (by simp; omega)), ⟨v', c', ownsRow_mono own' (by omega)⟩, hfr3.trans ((hfr.trans fr').mono (by omega) (by simp))⟩
        · obtain rfl : k = xs.length := by omega
          have k5 : wr.cell? ⟨gb, 1, none⟩ = some (.slice none 0 0) := (hfr.cell hgb3 (by simp; omega)).trans k4
          have kf5 : wr.frozen? ⟨gb, 1, none⟩ = false := (hfr.frozen (p := ⟨gb, 1, none⟩) hgb3 (by simp; omega)).trans kf4
          go_wp2_with fail
          rw [rounds_succ]
          go_wp2_with fail
          refine wp_loop_rounds 1 ?_
          rw [rounds_succ]
          go_wp2_with fail
          rw [rounds_succ]
          go_wp2_with fail
          go_end0
          have et : xs.take stop = xs.take xs.length := by rw [List.take_length, List.take_of_length_le (by omega)]
          exact ⟨rfl, (hc3.block (hfr.block bl (by omega) (by simp; omega))).block (Below.heap_setCell _ _ _ _ (by show bl ≠ gb; omega)), ⟨vg, (World.cell?_setCell_other _ _ _ _ (by first | (simp; done) | (simp; omega))).trans cgr, by rw [et]; exact ownsRow_mono (ownsRow_setCell_below hown hgb3 _) (by omega)⟩, hfr3.trans ((hfr.mono (by omega) (by simp)).setCell (.inr hgb1) _)⟩

end Go.Proofs.Ybulkadwy

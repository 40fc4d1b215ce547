/-
  LawS1493AOrder over toys/ybulkadwy: the law's own walk.
-/
import Derived.Test.YbulkadwyStart
import Derived.Test.YbulkadwyDrain8
namespace Go.Proofs.Ybulkadwy
open Go.RowKit

set_option maxHeartbeats 400000 in
theorem order_long (a0 : Option Addr) (n c : Nat) (w : World) (h : 1024 < n) :
    Calls Yba.prog 3 #[.slice a0 n c] w fun e w' => e = .returned (.bool true) ∧ Below w.heap.size w w' := by
  go_enter Yba.func3, Yba.ntmps3
  go_wp2
  go_ret
  exact ⟨rfl, Below.refl _ _⟩

set_option maxRecDepth 100000 in
set_option maxHeartbeats 1000000 in
theorem order_walk (a0 : Option Addr) (c : Nat) (xs : List Int) (w : World) (hx : xs.length ≤ 1024) (hi : IsInts w a0 xs) :
    Calls Yba.prog 3 #[.slice a0 xs.length c] w fun e w' => e = .returned (.bool true) ∧ Below w.heap.size w w' := by
  have HI : Hid (IsInts w a0 xs) := hi
  clear hi
  go_enter Yba.func3, Yba.ntmps3
  go_wp2_with fail
  refine (build_any a0 c xs w hx HI.out).mono ?_
  rintro e w1 ⟨vf, vl, rfl, hL, hb1⟩
  obtain ⟨af, nf, cf, al, nl, cl, rfl, rfl⟩ := hL.form
  go_wp2_with fail
  refine (drain_any w1.heap.size _).mono ?_
  rintro e w2 ⟨rfl, rfl⟩
  go_wp2_with fail
  generalize hWe : World.alloc (World.alloc (World.alloc w1 _) _) _ = W
  obtain ⟨hbW, hc, cg, fg, cx, hWs⟩ := start3 w1 (.slice af nf cf) (.slice al nl cl)
  rw [hWe] at hbW hc cg fg cx hWs
  clear hWe
  have h1s := hb1.size
  refine (drain8 (w1.heap.size + 1 + 1) w1.heap.size (w1.heap.size + 1) (w.heap.size + 2) _ _ xs w1 W hx hL hbW (Nat.le_refl _) (by omega) (by omega) cx hc cg fg).mono ?_
  rintro e w2 ⟨rfl, hc2, ⟨vg, cg2, hown⟩, hfr⟩
  obtain ⟨ao, cp, rfl, hint⟩ := ints_of_own hown
  have hb2 : Below w.heap.size w w2 := hb1.trans ((hbW.mono (by omega)).trans (hfr.below (by omega) (by simp; omega)))
  have HJ : Hid (IsInts w2 ao xs ∧ IsInts w2 a0 xs ∧ Cell2 w2 w1.heap.size (.slice none 0 0) (.slice none 0 0)) := ⟨hint, HI.out.below hb2 (Nat.le_refl _), hc2⟩
  clear hc2 hown hint hL hc cg fg cx
  go_wp2_with fail
  refine (len_zero _ _ HJ.out.2.2).mono ?_
  rintro e w3 ⟨rfl, d, rfl⟩
  go_wp2_with fail
  refine (eq_any ao a0 cp c xs (w2.drewN d) hx (show IsInts (w2.drewN d) ao xs from HJ.out.1) (show IsInts (w2.drewN d) a0 xs from HJ.out.2.1)).mono ?_
  rintro e w3 ⟨rfl, d', rfl⟩
  go_wp2_with fail
  go_ret
  exact ⟨rfl, below_drewN hb2 _⟩

end Go.Proofs.Ybulkadwy

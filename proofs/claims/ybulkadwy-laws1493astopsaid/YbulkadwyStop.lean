/-
  LawS1493AStop over toys/ybulkadwy: the law's own walk.
-/
import Derived.Test.YbulkadwyStart
import Derived.Test.YbulkadwyDrain11
namespace Go.Proofs.Ybulkadwy
open Go.RowKit

set_option maxHeartbeats 400000 in
theorem stop_long (a0 : Option Addr) (n c : Nat) (s : Int) (w : World) (h : 1024 < n) :
    Calls Yba.prog 4 #[.slice a0 n c, .int .u8 s] w fun e w' => e = .returned (.bool true) ∧ Below w.heap.size w w' := by
  go_enter Yba.func4, Yba.ntmps4
  go_wp2
  go_ret
  exact ⟨rfl, Below.refl _ _⟩

set_option maxRecDepth 100000 in
set_option maxHeartbeats 1000000 in
theorem stop_walk (x : Addr) (c : Nat) (xs : List Int) (s : Nat) (w : World) (hx : xs.length ≤ 1024) (hc : xs.length ≤ c) (hs : s ≤ 255) (hi : IsInts w (some x) xs) :
    Calls Yba.prog 4 #[.slice (some x) xs.length c, .int .u8 s] w fun e w' => e = .returned (.bool true) ∧ Below w.heap.size w w' := by
  have HI : Hid (IsInts w (some x) xs) := hi
  clear hi
  have h5 : (0 : Int) ≤ (s : Int) % ((xs.length : Int) + 1) := Int.emod_nonneg _ (by omega)
  have h6 : (s : Int) % ((xs.length : Int) + 1) < (xs.length : Int) + 1 := Int.emod_lt_of_pos _ (by omega)
  go_enter Yba.func4, Yba.ntmps4
  go_wp2_with fail
  obtain ⟨T, hT⟩ : ∃ T : Nat, (s : Int) % ((xs.length : Int) + 1) + 1 = (T : Int) := ⟨((s : Int) % ((xs.length : Int) + 1) + 1).toNat, by omega⟩
  have hT1 : 1 ≤ T := by omega
  have hT2 : T ≤ xs.length + 1 := by omega
  rw [hT]
  generalize (s : Int) % ((xs.length : Int) + 1) = sm at *
  clear hT
  generalize hWA : World.alloc w _ = WA
  have hbA : Below w.heap.size w WA := by rw [← hWA]; exact (Below.refl _ _).alloc (Nat.le_refl _) _
  have cA : WA.cell? ⟨w.heap.size, 0, none⟩ = some (.int .i64 T) := by rw [← hWA]; simp
  have sA : WA.heap.size = w.heap.size + 1 := by rw [← hWA]; simp
  have SA : Hid (WA.heap.size = w.heap.size + 1) := sA
  clear hWA sA
  refine (build_any (some x) c xs WA hx (HI.out.below hbA (Nat.le_refl _))).mono ?_
  rintro e w1 ⟨vf, vl, rfl, hL, hb1⟩
  obtain ⟨af, nf, cf, al, nl, cl, rfl, rfl⟩ := hL.form
  go_wp2_with fail
  refine (drain_any w1.heap.size _).mono ?_
  rintro e w2 ⟨rfl, rfl⟩
  go_wp2_with fail
  generalize hWe : World.alloc (World.alloc (World.alloc w1 _) _) _ = W
  obtain ⟨hbW, hc, cg, fg, cx, hWs⟩ := start3 w1 (.slice af nf cf) (.slice al nl cl)
  rw [hWe] at hbW hc cg fg cx hWs
  clear hWe
  have h1s := hb1.size
  rw [SA.out] at h1s
  have c1 : W.cell? ⟨w.heap.size, 0, none⟩ = some (.int .i64 T) := (hbW.cell (by show w.heap.size < _; omega)).trans ((hb1.cell (by show w.heap.size < _; rw [SA.out]; omega)).trans cA)
  refine (drain11 (w1.heap.size + 1 + 1) w1.heap.size (w1.heap.size + 1) (WA.heap.size + 2) _ _ xs w.heap.size T w1 W hx hL hbW (Nat.le_refl _) (by omega) (by omega) cx hc cg fg c1 hT1 (by omega) (by omega)).mono ?_
  rintro e w2 ⟨rfl, hc2', ⟨vg, cg2, hown⟩, hfr⟩
  have c2 : w2.cell? ⟨w.heap.size, 0, none⟩ = some (.int .i64 T) := (hfr.cell (by show w.heap.size < _; omega) (by simp; omega)).trans c1
  obtain ⟨ao, cp, rfl, hint⟩ := ints_of_own hown
  have hb2 : Below w.heap.size w w2 := hbA.trans ((hb1.mono (by rw [SA.out]; omega)).trans ((hbW.mono (by omega)).trans (hfr.below (by omega) (by simp; omega))))
  have hxt : IsInts w2 (some x) (xs.take T) := (HI.out.below hb2 (Nat.le_refl _)).take T
  have HJ : Hid (IsInts w2 ao (xs.take T) ∧ IsInts w2 (some x) (xs.take T) ∧ Cell2 w2 w1.heap.size (.slice none 0 0) (.slice none 0 0)) := ⟨hint, hxt, hc2'⟩
  clear hc2' hown hint hL hc cg fg cx c1 cA hxt
  go_wp2_with fail
  refine (len_zero _ _ HJ.out.2.2).mono ?_
  rintro e w3 ⟨rfl, d, rfl⟩
  have cg3 : (w2.drewN d).cell? ⟨w1.heap.size + 1, 0, none⟩ = some (.slice ao (xs.take T).length cp) := cg2
  have c3 : (w2.drewN d).cell? ⟨w.heap.size, 0, none⟩ = some (.int .i64 T) := c2
  have HJ3 : Hid (IsInts (w2.drewN d) ao (xs.take T) ∧ IsInts (w2.drewN d) (some x) (xs.take T)) := ⟨HJ.out.1, HJ.out.2.1⟩
  have hb3 : Below w.heap.size w (w2.drewN d) := below_drewN hb2 _
  generalize w2.drewN d = w3 at *
  clear HJ cg2 c2 hb2 hfr
  by_cases hcmp : xs.length < T
  · have et : xs.take T = xs := List.take_of_length_le (by omega)
    rw [et] at cg3 HJ3
    clear et
    have HE : Hid (∀ m, Calls Yba.prog 10 #[.slice ao xs.length cp, .slice (some x) xs.length c] (w3.drewN m) fun e w' => e = .returned (.bool true) ∧ ∃ k, w' = (w3.drewN m).drewN k) := fun m => eq_any ao (some x) cp c xs (w3.drewN m) (by omega) (show IsInts (w3.drewN m) ao xs from HJ3.out.1) (show IsInts (w3.drewN m) (some x) xs from HJ3.out.2)
    go_wp2_with fail
    go_quiet ((go_at_call 10; exact Calls.quiet_of (HE.out _)))
    go_wp2
    go_ret
    exact ⟨rfl, below_drewN hb3 _⟩
  · have hl : (xs.take T).length = T := by simp; omega
    generalize xs.take T = ys at *
    subst hl
    have HE : Hid (∀ m, Calls Yba.prog 10 #[.slice ao ys.length cp, .slice (some x) ys.length c] (w3.drewN m) fun e w' => e = .returned (.bool true) ∧ ∃ k, w' = (w3.drewN m).drewN k) := fun m => eq_any ao (some x) cp c ys (w3.drewN m) (by omega) (show IsInts (w3.drewN m) ao ys from HJ3.out.1) (show IsInts (w3.drewN m) (some x) ys from HJ3.out.2)
    go_wp2_with fail
    go_quiet ((go_at_call 10; exact Calls.quiet_of (HE.out _)))
    go_wp2
    go_ret
    exact ⟨rfl, below_drewN hb3 _⟩

theorem slice_nil0 (w : World) : (Instr.slice 22 (.slice none 0 0) none (some (.int .i64 0)) none).run Yba.prog w = .ok (.slice none 0 0) w := by kernel_rfl

set_option maxRecDepth 100000 in
set_option maxHeartbeats 1000000 in
theorem stop_nil (s : Nat) (w : World) (hs : s ≤ 255) :
    Calls Yba.prog 4 #[.slice none 0 0, .int .u8 s] w fun e w' => e = .returned (.bool true) ∧ Below w.heap.size w w' := by
  have HI : Hid (IsInts w none []) := .inl rfl
  go_enter Yba.func4, Yba.ntmps4
  go_wp2_with fail
  generalize hWA : World.alloc w _ = WA
  have hbA : Below w.heap.size w WA := by rw [← hWA]; exact (Below.refl _ _).alloc (Nat.le_refl _) _
  have cA : WA.cell? ⟨w.heap.size, 0, none⟩ = some (.int .i64 ((1 : Nat) : Int)) := by rw [← hWA]; simp
  have sA : WA.heap.size = w.heap.size + 1 := by rw [← hWA]; simp
  have SA : Hid (WA.heap.size = w.heap.size + 1) := sA
  clear hWA sA
  refine (build_any none 0 [] WA (by simp) (HI.out.below hbA (Nat.le_refl _))).mono ?_
  rintro e w1 ⟨vf, vl, rfl, hL, hb1⟩
  obtain ⟨af, nf, cf, al, nl, cl, rfl, rfl⟩ := hL.form
  go_wp2_with fail
  refine (drain_any w1.heap.size _).mono ?_
  rintro e w2 ⟨rfl, rfl⟩
  go_wp2_with fail
  generalize hWe : World.alloc (World.alloc (World.alloc w1 _) _) _ = W
  obtain ⟨hbW, hc, cg, fg, cx, hWs⟩ := start3 w1 (.slice af nf cf) (.slice al nl cl)
  rw [hWe] at hbW hc cg fg cx hWs
  clear hWe
  have h1s := hb1.size
  rw [SA.out] at h1s
  have c1 : W.cell? ⟨w.heap.size, 0, none⟩ = some (.int .i64 ((1 : Nat) : Int)) := (hbW.cell (by show w.heap.size < _; omega)).trans ((hb1.cell (by show w.heap.size < _; rw [SA.out]; omega)).trans cA)
  refine (drain11 (w1.heap.size + 1 + 1) w1.heap.size (w1.heap.size + 1) (WA.heap.size + 2) _ _ [] w.heap.size 1 w1 W (by simp) hL hbW (Nat.le_refl _) (by omega) (by omega) cx hc cg fg c1 (by omega) (by omega) (by omega)).mono ?_
  rintro e w2 ⟨rfl, hc2', ⟨vg, cg2, hown⟩, hfr⟩
  have c2 : w2.cell? ⟨w.heap.size, 0, none⟩ = some (.int .i64 ((1 : Nat) : Int)) := (hfr.cell (by show w.heap.size < _; omega) (by simp; omega)).trans c1
  obtain ⟨ao, cp, rfl, hint⟩ := ints_of_own hown
  have hb2 : Below w.heap.size w w2 := hbA.trans ((hb1.mono (by rw [SA.out]; omega)).trans ((hbW.mono (by omega)).trans (hfr.below (by omega) (by simp; omega))))
  have hxt : IsInts w2 none (([] : List Int)) := (HI.out.below hb2 (Nat.le_refl _))
  have HJ : Hid (IsInts w2 ao (([] : List Int)) ∧ IsInts w2 none (([] : List Int)) ∧ Cell2 w2 w1.heap.size (.slice none 0 0) (.slice none 0 0)) := ⟨hint, hxt, hc2'⟩
  clear hc2' hown hint hL hc cg fg cx c1 cA hxt
  go_wp2_with fail
  refine (len_zero _ _ HJ.out.2.2).mono ?_
  rintro e w3 ⟨rfl, d, rfl⟩
  have cg3 : (w2.drewN d).cell? ⟨w1.heap.size + 1, 0, none⟩ = some (.slice ao (([] : List Int)).length cp) := cg2
  have c3 : (w2.drewN d).cell? ⟨w.heap.size, 0, none⟩ = some (.int .i64 ((1 : Nat) : Int)) := c2
  have HJ3 : Hid (IsInts (w2.drewN d) ao (([] : List Int)) ∧ IsInts (w2.drewN d) none (([] : List Int))) := ⟨HJ.out.1, HJ.out.2.1⟩
  have hb3 : Below w.heap.size w (w2.drewN d) := below_drewN hb2 _
  generalize w2.drewN d = w3 at *
  clear HJ cg2 c2 hb2 hfr
  have HE : Hid (∀ m, Calls Yba.prog 10 #[.slice ao 0 cp, .slice none 0 0] (w3.drewN m) fun e w' => e = .returned (.bool true) ∧ ∃ k, w' = (w3.drewN m).drewN k) := fun m => eq_any ao none cp 0 [] (w3.drewN m) (by simp) (.inl rfl) (.inl rfl)
  have hsl := slice_nil0
  go_wp2_with fail
  go_quiet ((go_at_call 10; exact Calls.quiet_of (HE.out _)))
  go_wp2
  go_ret
  exact ⟨rfl, below_drewN hb3 _⟩

end Go.Proofs.Ybulkadwy

/-
  LawS1493AClone over toys/ybulkadwy: the law's own walk.
-/
import Derived.Test.YbulkadwyCloneFns
namespace Go.Proofs.Ybulkadwy
open Go.RowKit

theorem start3' (w1 : World) (N : Nat) (hN : w1.heap.size = N) (vf vl : Value) :
    Below N w1 (((w1.alloc (.cells #[vf, vl] 25)).alloc (.cells #[.slice none 0 0] 22)).alloc (.cells #[.pointer (some ⟨N, 0, none⟩)] 38)) ∧
    Cell2 (((w1.alloc (.cells #[vf, vl] 25)).alloc (.cells #[.slice none 0 0] 22)).alloc (.cells #[.pointer (some ⟨N, 0, none⟩)] 38)) N vf vl ∧
    (((w1.alloc (.cells #[vf, vl] 25)).alloc (.cells #[.slice none 0 0] 22)).alloc (.cells #[.pointer (some ⟨N, 0, none⟩)] 38)).cell? ⟨N + 1, 0, none⟩ = some (.slice none 0 0) ∧
    (((w1.alloc (.cells #[vf, vl] 25)).alloc (.cells #[.slice none 0 0] 22)).alloc (.cells #[.pointer (some ⟨N, 0, none⟩)] 38)).frozen? ⟨N + 1, 0, none⟩ = false ∧
    (((w1.alloc (.cells #[vf, vl] 25)).alloc (.cells #[.slice none 0 0] 22)).alloc (.cells #[.pointer (some ⟨N, 0, none⟩)] 38)).cell? ⟨N + 1 + 1, 0, none⟩ = some (.pointer (some ⟨N, 0, none⟩)) ∧
    N + 3 ≤ (((w1.alloc (.cells #[vf, vl] 25)).alloc (.cells #[.slice none 0 0] 22)).alloc (.cells #[.pointer (some ⟨N, 0, none⟩)] 38)).heap.size := by
  subst hN
  exact start3 w1 vf vl

theorem start4 (WA : World) (vf vl : Value) :
    Below WA.heap.size WA ((((WA.alloc (.cells #[vf, vl] 25)).alloc (.cells #[vf, vl] 25)).alloc (.cells #[.slice none 0 0] 22)).alloc (.cells #[.pointer (some ⟨WA.heap.size + 1, 0, none⟩)] 38)).drew ∧ Cell2 ((((WA.alloc (.cells #[vf, vl] 25)).alloc (.cells #[vf, vl] 25)).alloc (.cells #[.slice none 0 0] 22)).alloc (.cells #[.pointer (some ⟨WA.heap.size + 1, 0, none⟩)] 38)).drew (WA.heap.size + 1) vf vl ∧
    (((((WA.alloc (.cells #[vf, vl] 25)).alloc (.cells #[vf, vl] 25)).alloc (.cells #[.slice none 0 0] 22)).alloc (.cells #[.pointer (some ⟨WA.heap.size + 1, 0, none⟩)] 38)).drew).cell? ⟨WA.heap.size + 1 + 1, 0, none⟩ = some (.slice none 0 0) ∧ (((((WA.alloc (.cells #[vf, vl] 25)).alloc (.cells #[vf, vl] 25)).alloc (.cells #[.slice none 0 0] 22)).alloc (.cells #[.pointer (some ⟨WA.heap.size + 1, 0, none⟩)] 38)).drew).frozen? ⟨WA.heap.size + 1 + 1, 0, none⟩ = false ∧
    (((((WA.alloc (.cells #[vf, vl] 25)).alloc (.cells #[vf, vl] 25)).alloc (.cells #[.slice none 0 0] 22)).alloc (.cells #[.pointer (some ⟨WA.heap.size + 1, 0, none⟩)] 38)).drew).cell? ⟨WA.heap.size + 1 + 1 + 1, 0, none⟩ = some (.pointer (some ⟨WA.heap.size + 1, 0, none⟩)) ∧ WA.heap.size + 4 ≤ (((((WA.alloc (.cells #[vf, vl] 25)).alloc (.cells #[vf, vl] 25)).alloc (.cells #[.slice none 0 0] 22)).alloc (.cells #[.pointer (some ⟨WA.heap.size + 1, 0, none⟩)] 38)).drew).heap.size := by
  obtain ⟨hbW, hc, cg, fg, cx, _⟩ := start3' (WA.alloc (.cells #[vf, vl] 25)) (WA.heap.size + 1) (by simp) vf vl
  exact ⟨(((Below.refl WA.heap.size WA).alloc (Nat.le_refl _) _).trans (hbW.mono (by omega))).drew, hc, cg, fg, cx, by simp⟩

set_option maxHeartbeats 400000 in
theorem clone_long (a0 : Option Addr) (n c : Nat) (w : World) (h : 1024 < n) :
    Calls Yba.prog 5 #[.slice a0 n c] w fun e w' => e = .returned (.bool true) ∧ Below w.heap.size w w' := by
  go_enter Yba.func5, Yba.ntmps5
  go_wp2
  go_ret
  exact ⟨rfl, Below.refl _ _⟩

set_option maxRecDepth 100000 in
set_option maxHeartbeats 1000000 in
theorem clone_walk (a0 : Option Addr) (c : Nat) (xs : List Int) (w : World) (hx : xs.length ≤ 1024) (hi : IsInts w a0 xs) :
    Calls Yba.prog 5 #[.slice a0 xs.length c] w fun e w' => e = .returned (.bool true) ∧ Below w.heap.size w w' := by
  have HI : Hid (IsInts w a0 xs) := hi
  clear hi
  go_enter Yba.func5, Yba.ntmps5
  go_wp2_with fail
  refine (build_any a0 c xs w hx HI.out).mono ?_
  rintro e w1 ⟨vf, vl, rfl, hL, hb1⟩
  obtain ⟨af, nf, cf, al, nl, cl, rfl, rfl⟩ := hL.form
  go_wp2_with fail
  generalize hWA : World.alloc w1 _ = WA
  have hbA : Below w1.heap.size w1 WA := by rw [← hWA]; exact (Below.refl _ _).alloc (Nat.le_refl _) _
  have hcA : Cell2 WA w1.heap.size (.slice af nf cf) (.slice al nl cl) := by rw [← hWA]; exact ⟨by simp, by simp, by simp, by simp⟩
  have hLA := hL.below hbA
  have hsA : w1.heap.size + 1 ≤ WA.heap.size := by rw [← hWA]; simp
  clear hWA hL
  refine (clone_any w1.heap.size (w.heap.size + 2) _ _ xs WA hLA hcA).mono ?_
  rintro e w2 ⟨vf', vl', rfl, hLI, rfl⟩
  obtain ⟨af', nf', cf', al', nl', cl', rfl, rfl⟩ := hLI.form
  go_wp2_with fail
  refine (drain_any (WA.heap.size + 1) _).mono ?_
  rintro e w2 ⟨rfl, rfl⟩
  go_wp2_with fail
  obtain ⟨hbW', hc, cg, fg, cx, hWs⟩ := start4 WA (.slice af' nf' cf') (.slice al' nl' cl')
  generalize hWe : World.drew (World.alloc _ _) = W at hbW' hc cg fg cx hWs ⊢
  clear hWe
  refine (drain13 (WA.heap.size + 1 + 1 + 1) (WA.heap.size + 1) (WA.heap.size + 1 + 1) _ _ xs WA W hx hLI hbW' (by omega) (by omega) (by omega) cx hc cg fg).mono ?_
  rintro e w2 ⟨rfl, hc2, ⟨vg, cg2, hown⟩, hfr⟩
  obtain ⟨ao, cp, rfl, hint⟩ := ints_of_own hown
  have hbA2 : Below WA.heap.size WA w2 := hbW'.trans (hfr.below (by omega) (by simp; omega))
  have h1s := hb1.size
  have hb2 : Below w.heap.size w w2 := hb1.trans ((hbA.mono (by omega)).trans (hbA2.mono (by omega)))
  have hLl : LI w2 (.slice af nf cf) (.slice al nl cl) xs := (show LI WA _ _ _ from hLA.ints).below hbA2
  have hcl : Cell2 w2 w1.heap.size (.slice af nf cf) (.slice al nl cl) := hcA.block (hbA2.block _ (by omega))
  have HJ : Hid (IsInts w2 ao xs ∧ IsInts w2 a0 xs ∧ Cell2 w2 (WA.heap.size + 1) (.slice none 0 0) (.slice none 0 0) ∧ LI w2 (.slice af nf cf) (.slice al nl cl) xs ∧ Cell2 w2 w1.heap.size (.slice af nf cf) (.slice al nl cl)) := ⟨hint, HI.out.below hb2 (Nat.le_refl _), hc2, hLl, hcl⟩
  clear hc2 hown hint hLA hc cg fg cx hLl hcl hcA hLI hfr hbA2 hbW'
  go_wp2_with fail
  refine (len_zero _ _ HJ.out.2.2.1).mono ?_
  rintro e w3 ⟨rfl, d, rfl⟩
  go_wp2_with fail
  refine (eq_any ao a0 cp c xs (w2.drewN d) hx (show IsInts (w2.drewN d) ao xs from HJ.out.1) (show IsInts (w2.drewN d) a0 xs from HJ.out.2.1)).mono ?_
  rintro e w3 ⟨rfl, d', rfl⟩
  go_wp2_with fail
  refine (listLen w1.heap.size _ _ xs (w2.drewN (d + d')) (show LI (w2.drewN (d + d')) _ _ xs from HJ.out.2.2.2.1) (show Cell2 (w2.drewN (d + d')) _ _ _ from HJ.out.2.2.2.2)).mono ?_
  rintro e w3 ⟨rfl, d2, rfl⟩
  clear cg2
  go_wp2_with fail
  go_loopw [6] (fun i wr => ∃ k : Nat, k ≤ xs.length ∧ i = .int .i64 k ∧ ∃ d, wr = w2.drewN d) (fun i _ => xs.length - (intOf i).toNat)
  case atStart => exact ⟨0, Nat.zero_le _, rfl, _, rfl⟩
  case round =>
    obtain ⟨k, hk, rfl, d3, hd⟩ := hrel
    have HD : Hid (wr = w2.drewN d3) := hd
    clear hd
    by_cases hlt : k < xs.length
    · have hxr : IsInts wr a0 xs := by rw [HD.out]; exact HJ.out.2.1
      have hLr : LI wr (.slice af nf cf) (.slice al nl cl) xs := by rw [HD.out]; exact HJ.out.2.2.2.1
      have hcr : Cell2 wr w1.heap.size (.slice af nf cf) (.slice al nl cl) := by rw [HD.out]; exact HJ.out.2.2.2.2
      obtain ⟨b, off, rfl, hcell⟩ := hxr.resolve_left (fun e => by simp [e] at hlt)
      have q := hcell k hlt
      have HA : Hid (∀ m, Calls Yba.prog 14 #[.pointer (some ⟨w1.heap.size, 0, none⟩), .int .i64 k] (wr.drewN m) fun e w' => e = .returned (.int .i64 xs[k]) ∧ w' = wr.drewN m) := fun m => at_any w1.heap.size _ _ xs k hlt (wr.drewN m) (show LI (wr.drewN m) _ _ xs from hLr) (show Cell2 (wr.drewN m) _ _ _ from hcr)
      obtain ⟨xk, hxk⟩ : ∃ y, y = xs[k] := ⟨_, rfl⟩
      rw [← hxk] at q HA
      clear hxk hcell hxr hLr hcr
      have e1 : (0 : Int) ≤ (k : Int) := by omega
      have e2 : (k : Int) < (xs.length : Int) := by omega
      go_wp2_with fail
      go_quiet ((go_at_call 14; exact Calls.quiet_of_same (HA.out _)))
      go_wp2
      go_roundw
      case rel => exact ⟨k + 1, by omega, by go_num, _, by rw [HD.out, World.drewN_drewN]⟩
      case measure => simp [intOf]; omega
    · obtain rfl : k = xs.length := by omega
      go_wp2_with fail
      go_ret
      exact ⟨rfl, by rw [HD.out]; exact below_drewN hb2 _⟩

end Go.Proofs.Ybulkadwy

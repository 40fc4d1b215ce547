/-
  The small functions of package blocks over toys/ybulkadwy: the build, Drain (the maker), Len, eq, slices.Clone at its two shapes, the three closures.
-/
import Derived.Test.YbulkadwyAppend
namespace Go.Proofs.Ybulkadwy
open Go.RowKit
attribute [local go_sem ↓] Go.wp_at_zero Go.wp_at_succ

/-- A slice of ints that came in: its first n elements. -/
def IsInts (w : World) (ao : Option Addr) (xs : List Int) : Prop :=
  xs = [] ∨ ∃ b off, ao = some ⟨b, off, none⟩ ∧ ∀ i (h : i < xs.length), w.cell? ⟨b, off + i, none⟩ = some (.int .i64 xs[i])

theorem IsInts.below {B : Nat} {w w' : World} {ao : Option Addr} {xs : List Int} (h : IsInts w ao xs) (hb : Below B w w') (hw : w.heap.size ≤ B) : IsInts w' ao xs := by
  rcases h with h | ⟨b, off, e, hc⟩
  · exact .inl h
  · exact .inr ⟨b, off, e, fun i hi => (hb.cell (Nat.lt_of_lt_of_le (block_lt_of_cell (hc i hi)) hw)).trans (hc i hi)⟩

set_option maxRecDepth 100000 in
set_option maxHeartbeats 1000000 in
theorem build_any (ao : Option Addr) (cap : Nat) (xs : List Int) (w : World) (hx : xs.length ≤ 1024) (hi : IsInts w ao xs) :
    Calls Yba.prog 6 #[.slice ao xs.length cap] w fun e w' => ∃ vf vl, e = .returned (.agg #[vf, vl]) ∧ LV w' (w.heap.size + 2) vf vl xs ∧ Below w.heap.size w w' := by
  have HI : Hid (IsInts w ao xs) := hi
  clear hi
  go_enter Yba.func6, Yba.ntmps6
  go_wp2_with fail
  generalize hWe : World.alloc (World.alloc w _) _ = W
  have hc : Cell2 W (w.heap.size + 1) (.slice none 0 0) (.slice none 0 0) := by rw [← hWe]; exact ⟨by simp, by simp, by simp, by simp⟩
  have hc2 : Cell2 W w.heap.size (.slice none 0 0) (.slice none 0 0) := by rw [← hWe]; exact ⟨by simp, by simp, by simp, by simp⟩
  have hz : w.heap.size + 2 ≤ W.heap.size := by rw [← hWe]; simp
  have hb : Below w.heap.size w W := by rw [← hWe]; exact ((Below.refl _ _).alloc (Nat.le_refl _) _).alloc (by simp) _
  clear hWe
  go_loopw [8] (fun i wr => ∃ (k : Nat) (vf vl : Value), k ≤ xs.length ∧ i = .int .i64 k ∧ Cell2 wr (w.heap.size + 1) vf vl ∧ LV wr (w.heap.size + 2) vf vl (xs.take k) ∧ Below (w.heap.size + 1) W wr) (fun i _ => xs.length - (intOf i).toNat)
  case atStart => exact ⟨0, _, _, Nat.zero_le _, rfl, hc, .inl ⟨by simp, rfl, World.ownsRow_nil _ _ _ _⟩, Below.refl _ _⟩
  case round =>
    clear hc
    obtain ⟨k, vf, vl, hk, rfl, hc, hL, hbel⟩ := hrel
    have hsz := hbel.size
    by_cases hlt : k < xs.length
    · rcases hL with ⟨h1, rfl, hown⟩ | ⟨h1, _⟩
      · obtain ⟨b, off, rfl, hcx⟩ := HI.out.resolve_left (fun e => by simp [e] at hlt)
        have q0 := hcx k hlt
        have hbl := block_lt_of_cell q0
        simp at hbl
        have q : wr.cell? ⟨b, off + k, none⟩ = some (.int .i64 xs[k]) := (hbel.cell (p := ⟨b, off + k, none⟩) (by show b < _; omega)).trans ((hb.cell hbl).trans q0)
        have HT : Hid (xs.take (k + 1) = xs.take k ++ [xs[k]]) := List.take_succ_eq_append_getElem hlt
        clear hcx q0
        obtain ⟨xk, hxk⟩ : ∃ y, y = xs[k] := ⟨_, rfl⟩
        rw [← hxk] at q HT
        clear hxk
        go_wp2_with (go_at_call 15; refine (append_any (w.heap.size + 1) (w.heap.size + 2) vl (xs.take k) xk _ h1 (by omega) (by omega) hc hown).mono ?_; rintro e w1 ⟨rfl, vf', vl', hc', hL', hb'⟩)
        go_roundw
        case rel => exact ⟨k + 1, vf', vl', by omega, by go_num, hc', by rw [HT.out]; exact hL', hbel.trans hb'⟩
        case measure => simp [intOf]; omega
      · simp at h1; omega
    · obtain rfl : k = xs.length := by omega
      have q0 := hc.1
      have q1 := hc.2.1
      have hc3 : Cell2 wr w.heap.size (.slice none 0 0) (.slice none 0 0) := hc2.block (hbel.block _ (by omega))
      have r0 := hc3.1
      have r1 := hc3.2.1
      have r2 := hc3.2.2.1
      have r3 := hc3.2.2.2
      obtain ⟨af, nf, cf, al, nl, cl, rfl, rfl⟩ := hL.form
      rw [List.take_length] at hL
      have HL : Hid (LV wr (w.heap.size + 2) (.slice af nf cf) (.slice al nl cl) xs) := hL
      clear hL hc hc2 hc3
      go_wp2
      exact bodyPost_ret (v := .agg #[.slice af nf cf, .slice al nl cl]) (by simp [results, Yba.results6, go_sem, r0, r1]) rfl ⟨_, _, rfl, (HL.out.set (by simp) _).set (by simp) _, ((hb.trans (hbel.mono (by omega))).setCell (by simp) _).setCell (by simp) _⟩

/-- Drain makes the iterator: the receiver's pointer moves into a box. -/
theorem drain_any (bl : Nat) (w : World) :
    Calls Yba.prog 7 #[.pointer (some ⟨bl, 0, none⟩)] w fun e w' => e = .returned (.func (.func 16) #[] #[.pointer (some ⟨w.heap.size, 0, none⟩)]) ∧ w' = w.alloc (.cells #[.pointer (some ⟨bl, 0, none⟩)] 38) := by
  go_enter Yba.func7, Yba.ntmps7
  go_wp2
  go_ret
  exact ⟨rfl, rfl⟩

theorem len_any (bl : Nat) (af al : Option Addr) (nf cf nl cl : Nat) (h1 : nf ≤ 1) (h2 : nl ≤ 1024) (w : World) (c0 : w.cell? ⟨bl, 0, none⟩ = some (.slice af nf cf)) (c1 : w.cell? ⟨bl, 1, none⟩ = some (.slice al nl cl)) :
    Calls Yba.prog 9 #[.pointer (some ⟨bl, 0, none⟩)] w fun e w' => e = .returned (.int .i64 (nf * 1024 + nl)) ∧ ∃ d, w' = w.drewN d := by
  go_enter Yba.func9, Yba.ntmps9
  go_wp2
  go_quiet (fail)
  go_wp2
  go_ret
  exact ⟨rfl, _, rfl⟩

set_option maxHeartbeats 400000 in
theorem eq_any (ao bo : Option Addr) (ca cb : Nat) (xs : List Int) (w : World) (hx : xs.length ≤ 1024) (ha : IsInts w ao xs) (hb : IsInts w bo xs) :
    Calls Yba.prog 10 #[.slice ao xs.length ca, .slice bo xs.length cb] w fun e w' => e = .returned (.bool true) ∧ ∃ d, w' = w.drewN d := by
  have HA : Hid (IsInts w ao xs ∧ IsInts w bo xs) := ⟨ha, hb⟩
  clear ha hb
  go_enter Yba.func10, Yba.ntmps10
  go_wp2
  go_loopw [13] (fun i wr => ∃ k : Nat, k ≤ xs.length ∧ i = .int .i64 k ∧ ∃ d, wr = w.drewN d) (fun i _ => xs.length - (intOf i).toNat)
  case atStart => exact ⟨0, Nat.zero_le _, rfl, 0, rfl⟩
  case round =>
    obtain ⟨k, hk, rfl, d, rfl⟩ := hrel
    by_cases hlt : k < xs.length
    · obtain ⟨b, off, rfl, hc⟩ := HA.out.1.resolve_left (fun e => by simp [e] at hlt)
      obtain ⟨b', off', rfl, hc'⟩ := HA.out.2.resolve_left (fun e => by simp [e] at hlt)
      have q := hc k hlt
      have q' := hc' k hlt
      obtain ⟨xk, hxk⟩ : ∃ y, y = xs[k] := ⟨_, rfl⟩
      rw [← hxk] at q q'
      clear hxk hc hc'
      have e1 : (0 : Int) ≤ (k : Int) := by omega
      have e2 : (k : Int) < (xs.length : Int) := by omega
      go_wp2_with fail
      go_quiet (fail)
      go_wp2
      go_roundw
      case rel => exact ⟨k + 1, by omega, by go_num, _, rfl⟩
      case measure => simp [intOf]; omega
    · obtain rfl : k = xs.length := by omega
      go_wp2
      go_ret
      exact ⟨rfl, _, rfl⟩

end Go.Proofs.Ybulkadwy

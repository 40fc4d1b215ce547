/-
  The callees of LawS1487AExact and LawS1487AStep over toys/ybulkadts: chunkLen at the empty chunk, exactly, atLeast, sourceDescriptionLengths.
-/
import Derived.Test.YbulkadtsRows
import Derived.WalkKit
import Derived.WalkSpells
import Derived.WalkLawsBesides
namespace Go.Proofs.Ybulkadts
open Go.RowKit

set_option maxHeartbeats 400000 in
theorem chunk_zero (w : World) :
    Calls Yba.prog 8 #[.agg #[.int .u32 0, .slice none 0 0]] w fun e w' => e = .returned (.int .i64 8) ∧ w' = w.alloc (.cells #[.int .u32 0, .slice none 0 0] 33) := by
  go_enter Yba.func8, Yba.ntmps8
  go_wp2
  refine wp_loop_rounds 1 ?_
  rw [rounds_succ]
  go_wp2
  go_ret
  exact ⟨rfl, rfl⟩

set_option maxHeartbeats 400000 in
theorem exactly_any (n : Int) (w : World) :
    Calls Yba.prog 6 #[.int .i64 n] w fun e w' => e = .returned (.agg #[.int .i64 n, .int .i64 4, .int .i64 n]) ∧ w' = w.alloc (.cells #[.int .i64 n, .int .i64 4, .int .i64 n] 23) := by
  go_enter Yba.func6, Yba.ntmps6
  go_wp2
  exact bodyPost_ret (v := .agg #[.int .i64 n, .int .i64 4, .int .i64 n]) (by simp [results, Yba.results6, go_sem]) rfl ⟨rfl, rfl⟩

set_option maxHeartbeats 400000 in
theorem atLeast_any (n : Int) (w : World) :
    Calls Yba.prog 7 #[.int .i64 n] w fun e w' => e = .returned (.agg #[.int .i64 n, .int .i64 4, .int .i64 262140]) ∧ w' = w.alloc (.cells #[.int .i64 n, .int .i64 4, .int .i64 262140] 23) := by
  go_enter Yba.func7, Yba.ntmps7
  go_wp2
  exact bodyPost_ret (v := .agg #[.int .i64 n, .int .i64 4, .int .i64 262140]) (by simp [results, Yba.results7, go_sem]) rfl ⟨rfl, rfl⟩

set_option maxHeartbeats 400000 in
theorem sdl_zero (t : Int) (w : World) :
    Calls Yba.prog 5 #[.int .u8 t, .int .i64 0] w fun e w' => e = .returned (.agg #[.int .i64 0, .int .i64 4, .int .i64 0]) ∧ w' = (w.alloc (.cells #[.int .i64 0, .int .i64 4, .int .i64 0] 23)).alloc (.cells #[.int .i64 0, .int .i64 4, .int .i64 0] 23) := by
  go_enter Yba.func5, Yba.ntmps5
  go_wp2_with (go_at_call 6; refine (exactly_any _ _).mono ?_; rintro e w' ⟨rfl, rfl⟩)
  exact bodyPost_ret (v := .agg #[.int .i64 0, .int .i64 4, .int .i64 0]) (by simp [results, Yba.results5, go_sem]) rfl ⟨rfl, rfl⟩

/-- What sourceDescriptionLengths has laid at a count that is not 0: its own result, chunkLen's parameter, atLeast's result. -/
def laid3 (m : Int) (w : World) : World :=
  ((w.alloc (.cells #[.int .i64 m, .int .i64 4, .int .i64 262140] 23)).alloc (.cells #[.int .u32 0, .slice none 0 0] 33)).alloc (.cells #[.int .i64 m, .int .i64 4, .int .i64 262140] 23)

set_option maxHeartbeats 400000 in
theorem sdl_pos0 (t n : Int) (hn : (n == 0) = false) (w : World) :
    Calls Yba.prog 5 #[.int .u8 t, .int .i64 n] w fun e w' => e = .returned (.agg #[.int .i64 (wrap64 (n * 8)), .int .i64 4, .int .i64 262140]) ∧ w' = laid3 (wrap64 (n * 8)) w := by
  go_enter Yba.func5, Yba.ntmps5
  go_wp2_with (first | (go_at_call 8; refine (chunk_zero _).mono ?_; rintro e w' ⟨rfl, rfl⟩) | (go_at_call 7; refine (atLeast_any _ _).mono ?_; rintro e w' ⟨rfl, rfl⟩))
  exact bodyPost_ret (v := .agg #[.int .i64 (wrap64 (n * 8)), .int .i64 4, .int .i64 262140]) (by simp [results, Yba.results5, go_sem]) rfl ⟨rfl, rfl⟩

theorem grown_laid3 (m : Int) {W w : World} (h : Grown W w) : Grown W (laid3 m w) := ((h.alloc _ _).alloc _ _).alloc _ _

theorem sdl_pos (t n : Int) (hn : (n == 0) = false) (w : World) :
    Calls Yba.prog 5 #[.int .u8 t, .int .i64 n] w fun e w' => e = .returned (.agg #[.int .i64 (wrap64 (8 * n)), .int .i64 4, .int .i64 262140]) ∧ Grown w w' := by
  rw [Int.mul_comm 8 n]
  exact (sdl_pos0 t n hn w).mono fun e w' ⟨he, hw⟩ => ⟨he, hw ▸ grown_laid3 _ (Grown.refl _)⟩

theorem sdl_small (t n : Int) (h1 : 1 ≤ n) (h2 : n ≤ 1048577) (w : World) :
    Calls Yba.prog 5 #[.int .u8 t, .int .i64 n] w fun e w' => e = .returned (.agg #[.int .i64 (8 * n), .int .i64 4, .int .i64 262140]) ∧
      w' = ((w.alloc (.cells #[.int .i64 (8 * n), .int .i64 4, .int .i64 262140] 23)).alloc (.cells #[.int .u32 0, .slice none 0 0] 33)).alloc (.cells #[.int .i64 (8 * n), .int .i64 4, .int .i64 262140] 23) := by
  have hw : wrap64 (n * 8) = 8 * n := by rw [IntWalk.wrap64_in (n * 8) ⟨by omega, by omega⟩]; omega
  refine (sdl_pos0 t n (by simp; omega) w).mono fun e w' ⟨he, hw'⟩ => ?_
  rw [hw] at he hw'
  exact ⟨he, hw'⟩

end Go.Proofs.Ybulkadts

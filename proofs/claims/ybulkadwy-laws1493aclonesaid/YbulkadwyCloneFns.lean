/-
  LawS1493AClone over toys/ybulkadwy: Clip, Clone, Len and At.
-/
import Derived.Test.YbulkadwyStart
import Derived.Test.YbulkadwyDrain13
namespace Go.Proofs.Ybulkadwy
open Go.RowKit
attribute [local go_sem ↓] Go.wp_at_zero Go.wp_at_succ

theorem slice_nil_18 (w : World) : (Instr.slice 23 (.slice none 0 0) none (some (.int .i64 0)) (some (.int .i64 0))).run Yba.prog w = .ok (.slice none 0 0) w := by kernel_rfl
theorem slice_nil_19 (w : World) : (Instr.slice 22 (.slice none 0 0) none (some (.int .i64 0)) (some (.int .i64 0))).run Yba.prog w = .ok (.slice none 0 0) w := by kernel_rfl

theorem clip18_nil (w : World) : Calls Yba.prog 18 #[.slice none 0 0] w fun e w' => e = .returned (.slice none 0 0) ∧ w' = w := by
  have hs := slice_nil_18
  go_enter Yba.func18, Yba.ntmps18
  go_wp2
  go_ret
  exact ⟨rfl, rfl⟩
theorem clip18_some (g n c : Nat) (hn : n ≤ c) (w : World) : Calls Yba.prog 18 #[.slice (some ⟨g, 0, none⟩) n c] w fun e w' => e = .returned (.slice (some ⟨g, 0, none⟩) n n) ∧ w' = w := by
  go_enter Yba.func18, Yba.ntmps18
  go_wp2
  go_ret
  exact ⟨rfl, rfl⟩
theorem clip19_nil (w : World) : Calls Yba.prog 19 #[.slice none 0 0] w fun e w' => e = .returned (.slice none 0 0) ∧ w' = w := by
  have hs := slice_nil_19
  go_enter Yba.func19, Yba.ntmps19
  go_wp2
  go_ret
  exact ⟨rfl, rfl⟩
theorem clip19_some (g n c : Nat) (hn : n ≤ c) (w : World) : Calls Yba.prog 19 #[.slice (some ⟨g, 0, none⟩) n c] w fun e w' => e = .returned (.slice (some ⟨g, 0, none⟩) n n) ∧ w' = w := by
  go_enter Yba.func19, Yba.ntmps19
  go_wp2
  go_ret
  exact ⟨rfl, rfl⟩

/-- WHAT Clone HANDS BACK: the same blocks, clipped. -/
theorem clone_any (bl base : Nat) (vf vl : Value) (xs : List Int) (w : World) (hL : LV w base vf vl xs) (hc : Cell2 w bl vf vl) :
    Calls Yba.prog 12 #[.pointer (some ⟨bl, 0, none⟩)] w fun e w' => ∃ vf' vl', e = .returned (.agg #[vf', vl']) ∧ LI w vf' vl' xs ∧ w' = (w.alloc (.cells #[vf', vl'] 25)).drew := by
  have hbl := hc.lt
  have c0 := hc.1
  have c1 := hc.2.1
  have H0 := hL
  rcases hL with ⟨h1, rfl, hown⟩ | ⟨h1, rfl, gf, cf, gl, cl, rfl, h4, h5⟩
  · rcases hown.2 with ⟨rfl, hn⟩ | ⟨g, cap, _, rfl, _, _, hnc, _⟩
    · have hL' : LI w (.slice none 0 0) (.slice none 0 0) xs := ⟨none, 0, .inl (List.length_eq_zero_iff.1 hn), .inl ⟨h1, rfl, by rw [hn]⟩⟩
      have HL : Hid (LI w (.slice none 0 0) (.slice none 0 0) xs) := hL'
      clear hL' hown H0 hc hn
      go_enter Yba.func12, Yba.ntmps12
      go_wp2_with fail
      go_region_with (first | (go_at_call 18; refine (clip18_nil _).mono ?_; rintro e w' ⟨rfl, rfl⟩) | (go_at_call 19; refine (clip19_nil _).mono ?_; rintro e w' ⟨rfl, rfl⟩))
      all_goals go_wp2_with fail
      all_goals exact bodyPost_ret (v := .agg #[.slice none 0 0, .slice none 0 0]) (by simp [results, Yba.results12, go_sem]) rfl ⟨_, _, rfl, HL.out, rfl⟩
    · obtain ⟨ao, cp, e1, hi⟩ := ints_of_own hown
      simp only [Value.slice.injEq] at e1
      obtain ⟨rfl, _, rfl⟩ := e1
      have HL : Hid (LI w (.slice none 0 0) (.slice (some ⟨g, 0, none⟩) xs.length xs.length) xs) := ⟨_, _, hi, .inl ⟨h1, rfl, rfl⟩⟩
      clear hown H0 hc hi
      go_enter Yba.func12, Yba.ntmps12
      go_wp2_with fail
      go_region_with (first | (go_at_call 18; refine (clip18_nil _).mono ?_; rintro e w' ⟨rfl, rfl⟩) | (go_at_call 19; refine (clip19_some g xs.length cap hnc _).mono ?_; rintro e w' ⟨rfl, rfl⟩))
      all_goals go_wp2_with fail
      all_goals exact bodyPost_ret (v := .agg #[.slice none 0 0, .slice (some ⟨g, 0, none⟩) xs.length xs.length]) (by simp [results, Yba.results12, go_sem]) rfl ⟨_, _, rfl, HL.out, rfl⟩
  · obtain ⟨ao, cp, hi, hAB⟩ := H0.ints
    have hg0 : w.cell? ⟨gf, 0, none⟩ = some (.slice (some ⟨gl, 0, none⟩) 1024 cl) := h4.cellAt 0 (by omega)
    have hf1 : 1 ≤ cf := by
      rcases h4.2 with ⟨h, _⟩ | ⟨_, _, _, h, _, _, hle, _⟩
      · simp at h
      · simp only [Value.slice.injEq] at h; omega
    have HL : Hid (LI w (.slice (some ⟨gf, 0, none⟩) 1 1) (.slice none 0 0) xs) := by
      rcases hAB with ⟨h, _⟩ | ⟨_, _, gf', cf', e2, e3⟩
      · omega
      · simp only [Value.slice.injEq, Option.some.injEq, Addr.mk.injEq, and_true] at e2
        obtain ⟨rfl, _⟩ := e2
        exact ⟨ao, cp, hi, .inr ⟨h1, rfl, gf, 1, rfl, e3⟩⟩
    clear h4 h5 H0 hc hi hAB hg0 h1
    go_enter Yba.func12, Yba.ntmps12
    go_wp2_with fail
    go_region_with (first | (go_at_call 18; refine (clip18_some gf 1 cf hf1 _).mono ?_; rintro e w' ⟨rfl, rfl⟩) | (go_at_call 19; refine (clip19_nil _).mono ?_; rintro e w' ⟨rfl, rfl⟩))
    all_goals go_wp2_with fail
    all_goals exact bodyPost_ret (v := .agg #[.slice (some ⟨gf, 0, none⟩) 1 1, .slice none 0 0]) (by simp [results, Yba.results12, go_sem]) rfl ⟨_, _, rfl, HL.out, rfl⟩

theorem listLen (bl : Nat) (vf vl : Value) (xs : List Int) (w : World) (hL : LI w vf vl xs) (hc : Cell2 w bl vf vl) :
    Calls Yba.prog 9 #[.pointer (some ⟨bl, 0, none⟩)] w fun e w' => e = .returned (.int .i64 xs.length) ∧ ∃ d, w' = w.drewN d := by
  obtain ⟨ao, cp, _, ⟨h1, rfl, rfl⟩ | ⟨h1, rfl, gf, cf, rfl, _⟩⟩ := hL
  · refine (len_any bl none ao 0 0 xs.length cp (by omega) (by omega) w hc.1 hc.2.1).mono ?_
    rintro e w' ⟨rfl, h⟩
    exact ⟨by simp, h⟩
  · refine (len_any bl (some ⟨gf, 0, none⟩) none 1 cf 0 0 (by omega) (by omega) w hc.1 hc.2.1).mono ?_
    rintro e w' ⟨rfl, h⟩
    exact ⟨by rw [h1]; rfl, h⟩

theorem LI.form {w : World} {vf vl : Value} {xs : List Int} (h : LI w vf vl xs) : ∃ af nf cf al nl cl, vf = .slice af nf cf ∧ vl = .slice al nl cl := by
  obtain ⟨ao, cp, _, ⟨_, h1, h2⟩ | ⟨_, h2, gf, cf, h1, _⟩⟩ := h <;> exact ⟨_, _, _, _, _, _, h1, h2⟩
theorem LI.below {w w' : World} {vf vl : Value} {xs : List Int} (h : LI w vf vl xs) (hb : Below w.heap.size w w') : LI w' vf vl xs := by
  obtain ⟨ao, cp, hi, hAB⟩ := h
  refine ⟨ao, cp, hi.below hb (Nat.le_refl _), ?_⟩
  rcases hAB with hA | ⟨h1, h2, gf, cf, h3, h4⟩
  · exact .inl hA
  · exact .inr ⟨h1, h2, gf, cf, h3, (hb.cell (block_lt_of_cell h4)).trans h4⟩

set_option maxHeartbeats 400000 in
theorem at_any (bl : Nat) (vf vl : Value) (xs : List Int) (i : Nat) (hi : i < xs.length) (w : World) (hL : LI w vf vl xs) (hc : Cell2 w bl vf vl) :
    Calls Yba.prog 14 #[.pointer (some ⟨bl, 0, none⟩), .int .i64 i] w fun e w' => e = .returned (.int .i64 xs[i]) ∧ w' = w := by
  obtain ⟨ao, cp, hI, hAB⟩ := hL
  obtain ⟨b, off, rfl, hcell⟩ := hI.resolve_left (fun e => by simp [e] at hi)
  have q := hcell i hi
  have c0 := hc.1
  have c1 := hc.2.1
  obtain ⟨x, hx⟩ : ∃ y, y = xs[i] := ⟨_, rfl⟩
  rw [← hx] at q ⊢
  clear hx hcell hI hc
  rcases hAB with ⟨h1, rfl, rfl⟩ | ⟨h1, rfl, gf, cf, rfl, hg⟩
  · have hi2 : i < 1024 := by omega
    have q' : w.cell? ⟨b, off + i % 1024, none⟩ = some (.int .i64 x) := by rw [Nat.mod_eq_of_lt hi2]; exact q
    clear h1
    go_enter Yba.func14, Yba.ntmps14
    go_wp2
    go_ret
    exact ⟨rfl, rfl⟩
  · have hi2 : i < 1024 := by omega
    have q' : w.cell? ⟨b, off + i % 1024, none⟩ = some (.int .i64 x) := by rw [Nat.mod_eq_of_lt hi2]; exact q
    have hl : (i : Int) % 1024 < (xs.length : Int) := by omega
    have hg' : w.cell? ⟨gf, i / 1024, none⟩ = some (.slice (some ⟨b, off, none⟩) xs.length cp) := by rw [Nat.div_eq_of_lt hi2]; exact hg
    clear hg
    have HH : Hid (xs.length = 1024) := h1
    clear h1
    go_enter Yba.func14, Yba.ntmps14
    go_wp2
    go_ret
    exact ⟨rfl, rfl⟩

end Go.Proofs.Ybulkadwy

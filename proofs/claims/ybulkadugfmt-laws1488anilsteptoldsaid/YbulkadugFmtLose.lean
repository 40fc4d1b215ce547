/-
  LawS1488ANilStep over toys/ybulkadugfmt: Majority, (*applier).losesMajority.
-/
import Derived.Test.YbulkadugFmtVote
namespace Go.Proofs.YbulkadugFmt
open Go.RowKit
attribute [local go_sem ↓] Go.wp_at_zero Go.wp_at_succ

theorem maj_any (rf : Nat) (w : World) (h1 : 1 ≤ rf) (h5 : rf ≤ 5) : Calls Ybaf.prog 28 #[.int .i64 (rf : Nat)] w fun e w' => e = .returned (.int .i64 ((rf / 2 + 1 : Nat) : Int)) ∧ w' = w := by
  rcases (by omega : rf = 1 ∨ rf = 2 ∨ rf = 3 ∨ rf = 4 ∨ rf = 5) with rfl | rfl | rfl | rfl | rfl
  all_goals
    go_enter Ybaf.func28, Ybaf.ntmps28
    go_wp2_with fail
    go_ret
    exact ⟨rfl, rfl⟩

theorem up0 (b off s : Nat) (w : World) (h : w.cell? ⟨b, off + 3, none⟩ = some (.int .i64 (s : Nat))) :
    Calls Ybaf.prog 29 #[.pointer (some ⟨b, off, none⟩)] w fun e w' => e = .returned (.bool (decide (s ≠ 2))) ∧ w' = w := by
  have HE : Hid ((!decide ((s : Int) = 2)) = decide (s ≠ 2)) := by
    show (!decide ((s : Int) = 2)) = decide (s ≠ 2)
    by_cases e : s = 2
    · subst e; rfl
    · have : ¬ (s : Int) = 2 := by omega
      simp [e, this]
  go_enter Ybaf.func29, Ybaf.ntmps29
  go_wp2_with fail
  go_ret
  exact ⟨by rw [← HE.out]; rfl, rfl⟩

/-- Does the move cost the group its majority? -/
def lm (st : Nat → Nat) (L : List Int) (rf : Nat) (f t : Int) : Bool :=
  if vot st L L.length < rf / 2 + 1 then false
  else decide ((vot st L L.length : Int) + (if 0 ≤ t then 1 else 0) - (if 0 ≤ f ∧ st f.toNat ≠ 2 ∧ L.count f = 1 then 1 else 0) < ((rf / 2 + 1 : Nat) : Int))

set_option maxRecDepth 100000 in
set_option maxHeartbeats 2000000 in
theorem lose_any (ab sb svb gp rb cap base n rf : Nat) (oq : Option Nat) (st : Nat → Nat) (L : List Int) (f t : Int) (p1 p2 p3 p4 p5 p6 p7 x0 x1 x4 y1 y2 y3 y4 y5 y6 : Value) (w : World) (hS : Seen w ab oq (.pointer (some ⟨sb, 0, none⟩)) p1 p2 p3 p4 p5 p6 p7 n)
    (hsn : Blk w sb 50 [.slice (some ⟨svb, 0, none⟩) 4 4, y1, y2, y3, y4, y5, y6]) (hsv : Blk w svb 58 (srvL st)) (hg : Blk w gp 41 [x0, x1, .int .i64 (rf : Nat), .slice (some ⟨rb, 0, none⟩) L.length cap, x4]) (hr : w.ownsRow base 21 1 (.slice (some ⟨rb, 0, none⟩) L.length cap) L.length (L.map (.int .i32 ·))) (hLr : ∀ x, x ∈ L → 0 ≤ x ∧ x < 4) (hl : L.length ≤ 2000) (hn : n ≤ 100) (h1 : 1 ≤ rf) (h5 : rf ≤ 5)
    (hf0 : -2 ≤ f) (hf1 : f ≤ 3) (ht0 : -2 ≤ t) (ht1 : t ≤ 3) :
    Calls Ybaf.prog 22 #[.pointer (some ⟨ab, 0, none⟩), .pointer (some ⟨gp, 0, none⟩), .int .i32 f, .int .i32 t] w fun e w' => e = .returned (.bool (lm st L rf f t)) ∧ ∃ qb, Seen w' ab (some qb) (.pointer (some ⟨sb, 0, none⟩)) p1 p2 p3 p4 p5 p6 p7 (n + 1) ∧ (oq = some qb ∨ w.heap.size ≤ qb) ∧ Kp (fun k => k = ab ∨ oq = some k) w w' := by
  have g2 := hg.at_ 2 rfl
  obtain ⟨sv, hA⟩ := hS.blk
  have n1 := hsn.ne hA (by decide)
  have n2 := hg.ne hA (by decide)
  have n3 := hsv.ne hA (by decide)
  have n4 := own_ne hr hA (by decide)
  have hnq : ∀ q, oq = some q → q ≠ sb ∧ q ≠ gp ∧ q ≠ svb ∧ q ≠ rb := by
    rintro q rfl
    obtain ⟨_, f, h2, _⟩ := hS
    obtain ⟨l, hl⟩ := rowIs_blk h2
    obtain ⟨lr, hlr⟩ := own_blk hr
    exact ⟨hl.ne hsn (by decide), hl.ne hg (by decide), hl.ne hsv (by decide), hl.ne hlr (by decide)⟩
  go_enter Ybaf.func22, Ybaf.ntmps22
  go_wp2_with fail
  refine (maj_any rf w h1 h5).mono ?_
  rintro e w1 ⟨rfl, rfl⟩
  obtain ⟨mj, hmj⟩ : ∃ m, m = rf / 2 + 1 := ⟨_, rfl⟩
  rw [← hmj]
  have hmj3 : mj ≤ 3 := by omega
  have HMJ : Hid (mj = rf / 2 + 1) := hmj
  clear hmj
  go_wp2_with fail
  refine (vote_any ab sb svb gp rb cap base n oq st L p1 p2 p3 p4 p5 p6 p7 x0 x1 _ x4 y1 y2 y3 y4 y5 y6 w1 hS hsn hsv hg hr hLr hl hn).mono ?_
  rintro e w2 ⟨rfl, qb, hS2, hqo, hk⟩
  have hX : ∀ b, b ≠ ab → (∀ q, oq = some q → q ≠ b) → ¬ (b = ab ∨ oq = some b) := fun b h1 h2 h => by
    rcases h with h | h
    · exact h1 h
    · exact h2 b h rfl
  have hsn2 := hk.blk hsn (hX _ n1 (fun q hq => (hnq q hq).1))
  have hsv2 := hk.blk hsv (hX _ n3 (fun q hq => (hnq q hq).2.2.1))
  have hg2 := hk.blk hg (hX _ n2 (fun q hq => (hnq q hq).2.1))
  have hr2 := own_kp hr hk (fun i hi => by cases hi; exact hX _ n4 (fun q hq => (hnq q hq).2.2.2))
  have a0 := hS2.1.at_ 0 rfl
  have s0 := hsn2.at_ 0 rfl
  have g3 := hg2.at_ 3 rfl
  have hLs := own_ls hr2
  have HP : Hid (∃ qb, Seen w2 ab (some qb) (.pointer (some ⟨sb, 0, none⟩)) p1 p2 p3 p4 p5 p6 p7 (n + 1) ∧ (oq = some qb ∨ w1.heap.size ≤ qb) ∧ Kp (fun k => k = ab ∨ oq = some k) w1 w2) := ⟨qb, hS2, hqo, hk⟩
  have HP2 : Hid (∀ d, ∃ qb, Seen (w2.drewN d) ab (some qb) (.pointer (some ⟨sb, 0, none⟩)) p1 p2 p3 p4 p5 p6 p7 (n + 1) ∧ (oq = some qb ∨ w1.heap.size ≤ qb) ∧ Kp (fun k => k = ab ∨ oq = some k) w1 (w2.drewN d)) := fun d => ⟨qb, hS2, hqo, hk.drewN d⟩
  obtain ⟨v, hv⟩ : ∃ v, v = vot st L L.length := ⟨_, rfl⟩
  have hvl : v ≤ 2000 := by rw [hv]; exact Nat.le_trans (vot_le st L _) hl
  have HLM : Hid (lm st L rf f t = if v < mj then false else decide ((v : Int) + (if 0 ≤ t then 1 else 0) - (if 0 ≤ f ∧ st f.toNat ≠ 2 ∧ L.count f = 1 then 1 else 0) < (mj : Int))) := by
    show lm st L rf f t = _
    rw [lm, ← hv, ← HMJ.out]
  rw [← hv]
  clear hk hS2 hS hsn hsv hg hr hA hnq hX hqo hg2 hr2 hsn2 hv g2
  by_cases hvm : v < mj
  · have hvm' : (v : Int) < (mj : Int) := by omega
    have HL2 : Hid (lm st L rf f t = false) := by show lm st L rf f t = false; rw [HLM.out, if_pos hvm]
    go_wp2_with fail
    go_ret
    exact ⟨by rw [HL2.out]; rfl, HP.out⟩
  · have hvm' : ¬ (v : Int) < (mj : Int) := by omega
    have HL2 : Hid (lm st L rf f t = decide ((v : Int) + (if 0 ≤ t then 1 else 0) - (if 0 ≤ f ∧ st f.toNat ≠ 2 ∧ L.count f = 1 then 1 else 0) < (mj : Int))) := by show lm st L rf f t = _; rw [HLM.out, if_neg hvm]
    clear HLM
    by_cases hfp : 0 ≤ f
    · obtain ⟨r, rfl⟩ : ∃ r : Nat, f = (r : Int) := ⟨f.toNat, by omega⟩
      obtain ⟨_, u3, _⟩ := srv_at hsv2 (show r < 4 by omega)
      have z0 : (0 : Int) ≤ (r : Int) := by omega
      have z1 : (r : Int) < 4 := by omega
      rw [show (r : Int).toNat = r from rfl] at HL2
      clear hsv2 hfp
      by_cases hup : st r = 2
      · have HL3 : Hid (lm st L rf r t = decide ((v : Int) + (if 0 ≤ t then 1 else 0) < (mj : Int))) := by
          have e2 : (if 0 ≤ (r : Int) ∧ st r ≠ 2 ∧ L.count (r : Int) = 1 then (1 : Int) else 0) = 0 := if_neg (fun h => h.2.1 hup)
          show lm st L rf r t = _
          rw [HL2.out, e2, Int.sub_zero]
        rw [hup] at u3
        clear hup HL2
        by_cases htp : 0 ≤ t
        · have HL4 : Hid (lm st L rf r t = decide ((v : Int) + 1 < (mj : Int))) := by show lm st L rf r t = _; rw [HL3.out, if_pos htp]
          go_wp2_with fail
          refine (up0 svb (r * 5) (2) w2 u3).mono ?_
          rintro e w3 ⟨rfl, rfl⟩
          go_wp2_with fail
          go_ret
          exact ⟨by rw [HL4.out]; first | rfl | (rw [show decide ((v : Int) < (mj : Int)) = false from decide_eq_false (by omega)]; rfl), by first | exact HP.out | exact HP2.out _⟩
        · have HL4 : Hid (lm st L rf r t = decide ((v : Int) < (mj : Int))) := by show lm st L rf r t = _; rw [HL3.out, if_neg htp, Int.add_zero]
          go_wp2_with fail
          refine (up0 svb (r * 5) (2) w2 u3).mono ?_
          rintro e w3 ⟨rfl, rfl⟩
          go_wp2_with fail
          go_ret
          exact ⟨by rw [HL4.out]; first | rfl | (rw [show decide ((v : Int) < (mj : Int)) = false from decide_eq_false (by omega)]; rfl), by first | exact HP.out | exact HP2.out _⟩
      · have hup' : ¬ ((st r : Nat) : Int) = 2 := by omega
        obtain ⟨cn, hcn⟩ : ∃ c, c = L.count (r : Int) := ⟨_, rfl⟩
        have hcl : cn ≤ 2000 := by rw [hcn]; exact Nat.le_trans List.count_le_length hl
        have HLI := listings_any (some ⟨rb, 0, none⟩) cap L (r : Int) w2 hLs hl
        rw [← hcn] at HLI
        by_cases hc1 : cn = 1
        · have HL3 : Hid (lm st L rf r t = decide ((v : Int) + (if 0 ≤ t then 1 else 0) - 1 < (mj : Int))) := by
            have e2 : (if 0 ≤ (r : Int) ∧ st r ≠ 2 ∧ L.count (r : Int) = 1 then (1 : Int) else 0) = 1 := if_pos ⟨by omega, hup, by omega⟩
            show lm st L rf r t = _
            rw [HL2.out, e2]
          have HLH : Hid (Calls Ybaf.prog 30 #[.slice (some ⟨rb, 0, none⟩) L.length cap, .int .i32 (r : Int)] w2 fun e w' => e = .returned (.int .i64 1) ∧ w' = w2) := by rw [hc1] at HLI; exact HLI
          clear hup HL2 hcn hcl hc1 HLI
          by_cases htp : 0 ≤ t
          · have HL4 : Hid (lm st L rf r t = decide ((v : Int) < (mj : Int))) := by show lm st L rf r t = _; rw [HL3.out, if_pos htp, Int.add_sub_cancel]
            go_wp2_with fail
            refine (up0 svb (r * 5) (st r) w2 u3).mono ?_
            rintro e w3 ⟨rfl, rfl⟩
            rw [show decide (st r ≠ 2) = true from decide_eq_true (fun h => hup' (by omega))]
            go_wp2_with fail
            refine (Calls.mono HLH.out ?_)
            rintro e w4 ⟨rfl, rfl⟩
            go_wp2_with fail
            go_ret
            exact ⟨by rw [HL4.out]; first | rfl | (rw [show decide ((v : Int) < (mj : Int)) = false from decide_eq_false (by omega)]; rfl), by first | exact HP.out | exact HP2.out _⟩
          · have HL4 : Hid (lm st L rf r t = decide ((v : Int) - 1 < (mj : Int))) := by show lm st L rf r t = _; rw [HL3.out, if_neg htp, Int.add_zero]
            go_wp2_with fail
            refine (up0 svb (r * 5) (st r) w2 u3).mono ?_
            rintro e w3 ⟨rfl, rfl⟩
            rw [show decide (st r ≠ 2) = true from decide_eq_true (fun h => hup' (by omega))]
            go_wp2_with fail
            refine (Calls.mono HLH.out ?_)
            rintro e w4 ⟨rfl, rfl⟩
            go_wp2_with fail
            go_ret
            exact ⟨by rw [HL4.out]; first | rfl | (rw [show decide ((v : Int) < (mj : Int)) = false from decide_eq_false (by omega)]; rfl), by first | exact HP.out | exact HP2.out _⟩
        · have HL3 : Hid (lm st L rf r t = decide ((v : Int) + (if 0 ≤ t then 1 else 0) < (mj : Int))) := by
            have e2 : (if 0 ≤ (r : Int) ∧ st r ≠ 2 ∧ L.count (r : Int) = 1 then (1 : Int) else 0) = 0 := if_neg (fun h => hc1 (by omega))
            show lm st L rf r t = _
            rw [HL2.out, e2, Int.sub_zero]
          have hc1' : ¬ ((cn : Nat) : Int) = 1 := by omega
          have HLH : Hid (Calls Ybaf.prog 30 #[.slice (some ⟨rb, 0, none⟩) L.length cap, .int .i32 (r : Int)] w2 fun e w' => e = .returned (.int .i64 (cn : Nat)) ∧ w' = w2) := HLI
          clear hup HL2 hcn hc1 HLI
          by_cases htp : 0 ≤ t
          · have HL4 : Hid (lm st L rf r t = decide ((v : Int) + 1 < (mj : Int))) := by show lm st L rf r t = _; rw [HL3.out, if_pos htp]
            go_wp2_with fail
            refine (up0 svb (r * 5) (st r) w2 u3).mono ?_
            rintro e w3 ⟨rfl, rfl⟩
            rw [show decide (st r ≠ 2) = true from decide_eq_true (fun h => hup' (by omega))]
            go_wp2_with fail
            refine (Calls.mono HLH.out ?_)
            rintro e w4 ⟨rfl, rfl⟩
            go_wp2_with fail
            go_ret
            exact ⟨by rw [HL4.out]; first | rfl | (rw [show decide ((v : Int) < (mj : Int)) = false from decide_eq_false (by omega)]; rfl), by first | exact HP.out | exact HP2.out _⟩
          · have HL4 : Hid (lm st L rf r t = decide ((v : Int) < (mj : Int))) := by show lm st L rf r t = _; rw [HL3.out, if_neg htp, Int.add_zero]
            go_wp2_with fail
            refine (up0 svb (r * 5) (st r) w2 u3).mono ?_
            rintro e w3 ⟨rfl, rfl⟩
            rw [show decide (st r ≠ 2) = true from decide_eq_true (fun h => hup' (by omega))]
            go_wp2_with fail
            refine (Calls.mono HLH.out ?_)
            rintro e w4 ⟨rfl, rfl⟩
            go_wp2_with fail
            go_ret
            exact ⟨by rw [HL4.out]; first | rfl | (rw [show decide ((v : Int) < (mj : Int)) = false from decide_eq_false (by omega)]; rfl), by first | exact HP.out | exact HP2.out _⟩
    · have HL3 : Hid (lm st L rf f t = decide ((v : Int) + (if 0 ≤ t then 1 else 0) < (mj : Int))) := by
        have e2 : (if 0 ≤ f ∧ st f.toNat ≠ 2 ∧ L.count f = 1 then (1 : Int) else 0) = 0 := if_neg (fun h => hfp h.1)
        show lm st L rf f t = _
        rw [HL2.out, e2, Int.sub_zero]
      clear HL2
      by_cases htp : 0 ≤ t
      · have HL4 : Hid (lm st L rf f t = decide ((v : Int) + 1 < (mj : Int))) := by show lm st L rf f t = _; rw [HL3.out, if_pos htp]
        go_wp2_with fail
        go_ret
        exact ⟨by rw [HL4.out]; first | rfl | (rw [show decide ((v : Int) < (mj : Int)) = false from decide_eq_false (by omega)]; rfl), by first | exact HP.out | exact HP2.out _⟩
      · have HL4 : Hid (lm st L rf f t = decide ((v : Int) < (mj : Int))) := by show lm st L rf f t = _; rw [HL3.out, if_neg htp, Int.add_zero]
        go_wp2_with fail
        go_ret
        exact ⟨by rw [HL4.out]; first | rfl | (rw [show decide ((v : Int) < (mj : Int)) = false from decide_eq_false (by omega)]; rfl), by first | exact HP.out | exact HP2.out _⟩

end Go.Proofs.YbulkadugFmt

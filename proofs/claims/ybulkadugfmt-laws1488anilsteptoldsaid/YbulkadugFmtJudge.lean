/-
  LawS1488ANilStep over toys/ybulkadugfmt: (*applier).judge.
-/
import Derived.Test.YbulkadugFmtLose
namespace Go.Proofs.YbulkadugFmt
open Go.RowKit
attribute [local go_sem ↓] Go.wp_at_zero Go.wp_at_succ

/-- The verdict. -/
def jd (c mc : Int) (fe te hF hT cb : Bool) (t : Int) (s : Nat) (lv : Bool) : Int :=
  if c = mc then (if fe = false ∧ hF = false then 6 else if t = -2 then 8 else if hT = true then 7 else if 0 ≤ t ∧ s = 2 then 10 else if 0 ≤ t ∧ s = 1 then 11 else if lv = true then 12 else 0)
  else if mc < c then (if (te = true ∨ hT = true) ∧ (hF = false ∨ cb = true) then 1 else 5)
  else 4

/-- What judge leaves behind. -/
def JP (w w' : World) (ab : Nat) (p0 p1 p2 p3 p4 p5 p6 p7 : Value) : Prop := ∃ oq' n', Seen w' ab oq' p0 p1 p2 p3 p4 p5 p6 p7 n' ∧ n' ≤ 1 ∧ (∀ q, oq' = some q → w.heap.size ≤ q) ∧ Kp (· = ab) w w'

set_option maxRecDepth 100000 in
set_option maxHeartbeats 2000000 in
theorem judge_any (ab sb svb gp rb cap base rf mvb : Nat) (st : Nat → Nat) (L : List Int) (f t c mc : Int) (fe te cb : Bool) (sF sT : ByteArray) (p1 p2 p3 p4 p5 p6 p7 x0 x1 y1 y2 y3 y4 y5 y6 z0 z4 : Value) (w : World) (hS : Seen w ab none (.pointer (some ⟨sb, 0, none⟩)) p1 p2 p3 p4 p5 p6 p7 0)
    (hsn : Blk w sb 50 [.slice (some ⟨svb, 0, none⟩) 4 4, y1, y2, y3, y4, y5, y6]) (hsv : Blk w svb 58 (srvL st)) (hg : Blk w gp 41 [x0, x1, .int .i64 (rf : Nat), .slice (some ⟨rb, 0, none⟩) L.length cap, .int .i64 c]) (hmv : Blk w mvb 65 [z0, .int .i64 mc, .string sF, .string sT, z4]) (hr : w.ownsRow base 21 1 (.slice (some ⟨rb, 0, none⟩) L.length cap) L.length (L.map (.int .i32 ·))) (hLr : ∀ x, x ∈ L → 0 ≤ x ∧ x < 4) (hl : L.length ≤ 1024) (h1 : 1 ≤ rf) (h5 : rf ≤ 5)
    (hf0 : -2 ≤ f) (hf1 : f ≤ 3) (ht0 : -2 ≤ t) (ht1 : t ≤ 3) (hc0 : -10 ≤ c) (hc1 : c ≤ 100) (hm0 : -10 ≤ mc) (hm1 : mc ≤ 100) (hfe : fe = decide (sF = ⟨#[]⟩)) (hte : te = decide (sT = ⟨#[]⟩)) (hfL : ¬ sF = ⟨#[]⟩ → ¬ sF.toList = []) (htL : ¬ sT = ⟨#[]⟩ → ¬ sT.toList = []) :
    Calls Ybaf.prog 14 #[.pointer (some ⟨ab, 0, none⟩), .pointer (some ⟨gp, 0, none⟩), .pointer (some ⟨mvb, 0, none⟩), .int .i32 f, .int .i32 t, .bool cb] w fun e w' => e = .returned (.int .i64 (jd c mc fe te (decide (0 ≤ f ∧ f ∈ L)) (decide (0 ≤ t ∧ t ∈ L)) cb t (st t.toNat) (lm st L rf f t))) ∧ JP w w' ab (.pointer (some ⟨sb, 0, none⟩)) p1 p2 p3 p4 p5 p6 p7 := by
  have g3 := hg.at_ 3 rfl
  have g4 := hg.at_ 4 rfl
  have v1 := hmv.at_ 1 rfl
  have v2 := hmv.at_ 2 rfl
  have v3 := hmv.at_ 3 rfl
  have s0 := hsn.at_ 0 rfl
  have a0 := Blk.at_ hS 0 rfl
  have hLs := own_ls hr
  have HSV : Hid (Blk w svb 58 (srvL st)) := hsv
  have HL : Hid (∀ d, Calls Ybaf.prog 22 #[.pointer (some ⟨ab, 0, none⟩), .pointer (some ⟨gp, 0, none⟩), .int .i32 f, .int .i32 t] (w.drewN d) fun e w' => e = .returned (.bool (lm st L rf f t)) ∧ JP w w' ab (.pointer (some ⟨sb, 0, none⟩)) p1 p2 p3 p4 p5 p6 p7) := fun d =>
    (lose_any ab sb svb gp rb cap base 0 rf none st L f t p1 p2 p3 p4 p5 p6 p7 x0 x1 _ y1 y2 y3 y4 y5 y6 (w.drewN d) hS hsn hsv hg hr hLr (by omega) (by omega) h1 h5 hf0 hf1 ht0 ht1).mono fun e w' ⟨he, qb, hs, hq, hk⟩ =>
      ⟨he, some qb, 1, hs, Nat.le_refl _, fun q hq2 => by cases hq2; exact hq.resolve_left (fun e => by cases e), ⟨hk.os, hk.tape, hk.output, hk.size, fun i hi hn => hk.block i hi (fun h => by rcases h with h | h; exact hn h; cases h)⟩⟩
  have HJ : Hid (∀ d, JP w (w.drewN d) ab (.pointer (some ⟨sb, 0, none⟩)) p1 p2 p3 p4 p5 p6 p7) := fun d => ⟨none, 0, hS, by omega, fun q hq => (by cases hq), (Kp.refl _ w).drewN d⟩
  have HJ2 : Hid (∀ d d', JP w ((w.drewN d).drewN d') ab (.pointer (some ⟨sb, 0, none⟩)) p1 p2 p3 p4 p5 p6 p7) := fun d d' => ⟨none, 0, hS, by omega, fun q hq => (by cases hq), ((Kp.refl _ w).drewN d).drewN d'⟩
  have HFL : Hid ((¬ sF = ⟨#[]⟩ → ¬ sF.toList = []) ∧ (¬ sT = ⟨#[]⟩ → ¬ sT.toList = [])) := ⟨hfL, htL⟩
  clear hfL htL
  obtain ⟨hF, ehF⟩ : ∃ b, b = decide (0 ≤ f ∧ f ∈ L) := ⟨_, rfl⟩
  obtain ⟨hT, ehT⟩ : ∃ b, b = decide (0 ≤ t ∧ t ∈ L) := ⟨_, rfl⟩
  have HHF : Hid (hF = decide (0 ≤ f ∧ f ∈ L)) := ehF
  have HHT : Hid (hT = decide (0 ≤ t ∧ t ∈ L)) := ehT
  rw [← ehF, ← ehT]
  obtain ⟨J, hJ⟩ : ∃ J, J = jd c mc fe te hF hT cb t (st t.toNat) (lm st L rf f t) := ⟨_, rfl⟩
  rw [← hJ]
  have HJD : Hid (J = jd c mc fe te hF hT cb t (st t.toNat) (lm st L rf f t)) := hJ
  clear hJ
  have HFE : Hid (fe = decide (sF = ⟨#[]⟩)) := hfe
  have HTE : Hid (te = decide (sT = ⟨#[]⟩)) := hte
  clear hS hsn hsv hg hmv hr hLr ehF ehT hfe hte
  go_enter Ybaf.func14, Ybaf.ntmps14
  go_upto_region 1 with fail
  go_cut [13] (fun v wc => v = .bool hF ∧ wc = w)
  case first =>
    by_cases hfp : 0 ≤ f
    · go_wp2_with fail
      refine (contains_any (some ⟨rb, 0, none⟩) cap L f w hLs (by omega)).mono ?_
      rintro e w1 ⟨rfl, rfl⟩
      have HE : Hid (hF = decide (f ∈ L)) := by
        show hF = decide (f ∈ L)
        rw [HHF.out]
        simp [hfp]
      generalize decide (f ∈ L) = b at HE ⊢
      go_wp2_with fail
      go_meet
      case rel => exact ⟨by rw [HE.out], rfl⟩
    · have HE : Hid (hF = false) := by
        show hF = false
        rw [HHF.out]
        simp [hfp]
      go_wp2_with fail
      go_meet
      case rel => exact ⟨by rw [HE.out], rfl⟩
  case rest =>
    obtain ⟨rfl, rfl⟩ := hcut
    go_upto_region 2 with fail
    go_cut [14] (fun v wc2 => v = .bool hT ∧ wc2 = wc)
    case first =>
      by_cases htp : 0 ≤ t
      · go_wp2_with fail
        refine (contains_any (some ⟨rb, 0, none⟩) cap L t wc hLs (by omega)).mono ?_
        rintro e w1 ⟨rfl, rfl⟩
        have HE : Hid (hT = decide (t ∈ L)) := by
          show hT = decide (t ∈ L)
          rw [HHT.out]
          simp [htp]
        generalize decide (t ∈ L) = b at HE ⊢
        go_wp2_with fail
        go_meet
        case rel => exact ⟨by rw [HE.out], rfl⟩
      · have HE : Hid (hT = false) := by
          show hT = false
          rw [HHT.out]
          simp [htp]
        go_wp2_with fail
        go_meet
        case rel => exact ⟨by rw [HE.out], rfl⟩
    case rest =>
      obtain ⟨rfl, rfl⟩ := hcut
      generalize lm st L rf f t = lv at *
      by_cases hcm : c = mc
      · subst hcm
        have hroom : c ≤ 9223372036854775806 := by omega
        cases fe with
        | true =>
          have hfE : sF = ⟨#[]⟩ := of_decide_eq_true HFE.out.symm
          subst hfE
          by_cases ht2 : t = -2
          · subst ht2
            have HR : Hid (J = 8) := by
              show J = 8
              rw [HJD.out]
              simp [jd]
            clear HJD
            go_wp2_with go_in
            go_quiet (fail)
            go_wp2_with go_in
            go_ret
            exact ⟨by rw [HR.out]; rfl, by first | exact HJ.out _ | exact HJ2.out _ _⟩
          · cases hT with
            | true =>
              have HR : Hid (J = 7) := by
                show J = 7
                rw [HJD.out]
                simp [jd, ht2]
              clear HJD
              go_wp2_with go_in
              go_quiet (fail)
              go_wp2_with go_in
              go_ret
              exact ⟨by rw [HR.out]; rfl, by first | exact HJ.out _ | exact HJ2.out _ _⟩
            | false =>
              by_cases htp : 0 ≤ t
              · obtain ⟨r, rfl⟩ : ∃ r : Nat, t = (r : Int) := ⟨t.toNat, by omega⟩
                obtain ⟨_, u3, u4⟩ := srv_at HSV.out (show r < 4 by omega)
                have z0 : (0 : Int) ≤ (r : Int) := by omega
                have z1 : (r : Int) < 4 := by omega
                rw [show (r : Int).toNat = r from rfl] at HJD
                by_cases hs2 : st r = 2
                · rw [hs2] at u3
                  have HR : Hid (J = 10) := by
                    show J = 10
                    rw [HJD.out]
                    simp [jd, ht2, hs2]
                  clear HJD
                  go_wp2_with go_in
                  go_quiet (fail)
                  go_wp2_with go_in
                  go_ret
                  exact ⟨by rw [HR.out]; rfl, by first | exact HJ.out _ | exact HJ2.out _ _⟩
                · have hs2' : ¬ ((st r : Nat) : Int) = 2 := by omega
                  by_cases hs1 : st r = 1
                  · rw [hs1] at u3
                    have HR : Hid (J = 11) := by
                      show J = 11
                      rw [HJD.out]
                      simp [jd, ht2, hs1]
                    clear HJD
                    go_wp2_with go_in
                    go_quiet (fail)
                    go_wp2_with go_in
                    go_ret
                    exact ⟨by rw [HR.out]; rfl, by first | exact HJ.out _ | exact HJ2.out _ _⟩
                  · have hs1' : ¬ ((st r : Nat) : Int) = 1 := by omega
                    cases lv with
                    | true =>
                        have HR : Hid (J = 12) := by
                          show J = 12
                          rw [HJD.out]
                          simp [jd, ht2, hs1, hs2]
                        clear HJD
                        go_wp2_with go_in
                        go_quiet (fail)
                        go_wp2_with (first | (go_at_call 22; refine (Calls.mono (HL.out _) ?_); rintro e w1 ⟨rfl, hj⟩) | go_in)
                        go_ret
                        exact ⟨by rw [HR.out]; rfl, hj⟩
                    | false =>
                        have HR : Hid (J = 0) := by
                          show J = 0
                          rw [HJD.out]
                          simp [jd, ht2, hs1, hs2]
                        clear HJD
                        go_wp2_with go_in
                        go_quiet (fail)
                        go_wp2_with (first | (go_at_call 22; refine (Calls.mono (HL.out _) ?_); rintro e w1 ⟨rfl, hj⟩) | go_in)
                        go_ret
                        exact ⟨by rw [HR.out]; rfl, hj⟩
              · cases lv with
                | true =>
                    have HR : Hid (J = 12) := by
                      show J = 12
                      rw [HJD.out]
                      simp [jd, ht2, htp]
                    clear HJD
                    go_wp2_with go_in
                    go_quiet (fail)
                    go_wp2_with (first | (go_at_call 22; refine (Calls.mono (HL.out _) ?_); rintro e w1 ⟨rfl, hj⟩) | go_in)
                    go_ret
                    exact ⟨by rw [HR.out]; rfl, hj⟩
                | false =>
                    have HR : Hid (J = 0) := by
                      show J = 0
                      rw [HJD.out]
                      simp [jd, ht2, htp]
                    clear HJD
                    go_wp2_with go_in
                    go_quiet (fail)
                    go_wp2_with (first | (go_at_call 22; refine (Calls.mono (HL.out _) ?_); rintro e w1 ⟨rfl, hj⟩) | go_in)
                    go_ret
                    exact ⟨by rw [HR.out]; rfl, hj⟩
        | false =>
          have hfN : ¬ sF.toList = [] := HFL.out.1 (of_decide_eq_false HFE.out.symm)
          have hfI : sF.toList.isEmpty = false := by simpa using hfN
          cases hF with
          | false =>
              have HR : Hid (J = 6) := by
                show J = 6
                rw [HJD.out]
                simp [jd]
              clear HJD
              go_wp2_with go_in
              go_quiet (fail)
              go_wp2_with go_in
              go_ret
              exact ⟨by rw [HR.out]; rfl, by first | exact HJ.out _ | exact HJ2.out _ _⟩
          | true =>
              by_cases ht2 : t = -2
              · subst ht2
                have HR : Hid (J = 8) := by
                  show J = 8
                  rw [HJD.out]
                  simp [jd]
                clear HJD
                go_wp2_with go_in
                go_quiet (fail)
                go_wp2_with go_in
                go_ret
                exact ⟨by rw [HR.out]; rfl, by first | exact HJ.out _ | exact HJ2.out _ _⟩
              · cases hT with
                | true =>
                  have HR : Hid (J = 7) := by
                    show J = 7
                    rw [HJD.out]
                    simp [jd, ht2]
                  clear HJD
                  go_wp2_with go_in
                  go_quiet (fail)
                  go_wp2_with go_in
                  go_ret
                  exact ⟨by rw [HR.out]; rfl, by first | exact HJ.out _ | exact HJ2.out _ _⟩
                | false =>
                  by_cases htp : 0 ≤ t
                  · obtain ⟨r, rfl⟩ : ∃ r : Nat, t = (r : Int) := ⟨t.toNat, by omega⟩
                    obtain ⟨_, u3, u4⟩ := srv_at HSV.out (show r < 4 by omega)
                    have z0 : (0 : Int) ≤ (r : Int) := by omega
                    have z1 : (r : Int) < 4 := by omega
                    rw [show (r : Int).toNat = r from rfl] at HJD
                    by_cases hs2 : st r = 2
                    · rw [hs2] at u3
                      have HR : Hid (J = 10) := by
                        show J = 10
                        rw [HJD.out]
                        simp [jd, ht2, hs2]
                      clear HJD
                      go_wp2_with go_in
                      go_quiet (fail)
                      go_wp2_with go_in
                      go_ret
                      exact ⟨by rw [HR.out]; rfl, by first | exact HJ.out _ | exact HJ2.out _ _⟩
                    · have hs2' : ¬ ((st r : Nat) : Int) = 2 := by omega
                      by_cases hs1 : st r = 1
                      · rw [hs1] at u3
                        have HR : Hid (J = 11) := by
                          show J = 11
                          rw [HJD.out]
                          simp [jd, ht2, hs1]
                        clear HJD
                        go_wp2_with go_in
                        go_quiet (fail)
                        go_wp2_with go_in
                        go_ret
                        exact ⟨by rw [HR.out]; rfl, by first | exact HJ.out _ | exact HJ2.out _ _⟩
                      · have hs1' : ¬ ((st r : Nat) : Int) = 1 := by omega
                        cases lv with
                        | true =>
                            have HR : Hid (J = 12) := by
                              show J = 12
                              rw [HJD.out]
                              simp [jd, ht2, hs1, hs2]
                            clear HJD
                            go_wp2_with go_in
                            go_quiet (fail)
                            go_wp2_with (first | (go_at_call 22; refine (Calls.mono (HL.out _) ?_); rintro e w1 ⟨rfl, hj⟩) | go_in)
                            go_ret
                            exact ⟨by rw [HR.out]; rfl, hj⟩
                        | false =>
                            have HR : Hid (J = 0) := by
                              show J = 0
                              rw [HJD.out]
                              simp [jd, ht2, hs1, hs2]
                            clear HJD
                            go_wp2_with go_in
                            go_quiet (fail)
                            go_wp2_with (first | (go_at_call 22; refine (Calls.mono (HL.out _) ?_); rintro e w1 ⟨rfl, hj⟩) | go_in)
                            go_ret
                            exact ⟨by rw [HR.out]; rfl, hj⟩
                  · cases lv with
                    | true =>
                        have HR : Hid (J = 12) := by
                          show J = 12
                          rw [HJD.out]
                          simp [jd, ht2, htp]
                        clear HJD
                        go_wp2_with go_in
                        go_quiet (fail)
                        go_wp2_with (first | (go_at_call 22; refine (Calls.mono (HL.out _) ?_); rintro e w1 ⟨rfl, hj⟩) | go_in)
                        go_ret
                        exact ⟨by rw [HR.out]; rfl, hj⟩
                    | false =>
                        have HR : Hid (J = 0) := by
                          show J = 0
                          rw [HJD.out]
                          simp [jd, ht2, htp]
                        clear HJD
                        go_wp2_with go_in
                        go_quiet (fail)
                        go_wp2_with (first | (go_at_call 22; refine (Calls.mono (HL.out _) ?_); rintro e w1 ⟨rfl, hj⟩) | go_in)
                        go_ret
                        exact ⟨by rw [HR.out]; rfl, hj⟩
      · by_cases hlt : mc < c
        · cases te with
          | true =>
            have htE : sT = ⟨#[]⟩ := of_decide_eq_true HTE.out.symm
            subst htE
            cases hF with
            | false =>
                have HR : Hid (J = 1) := by
                  show J = 1
                  rw [HJD.out]
                  simp [jd, hcm, hlt]
                have hcm2 : (c == mc) = false := by rw [beq_eq_false_iff_ne]; exact hcm
                clear HJD
                go_wp2_with go_in
                go_quiet (fail)
                go_wp2_with go_in
                go_quiet (fail)
                go_wp2_with go_in
                go_ret
                exact ⟨by rw [HR.out]; rfl, by first | exact HJ.out _ | exact HJ2.out _ _⟩
            | true =>
              cases cb with
              | true =>
                  have HR : Hid (J = 1) := by
                    show J = 1
                    rw [HJD.out]
                    simp [jd, hcm, hlt]
                  have hcm2 : (c == mc) = false := by rw [beq_eq_false_iff_ne]; exact hcm
                  clear HJD
                  go_wp2_with go_in
                  go_quiet (fail)
                  go_wp2_with go_in
                  go_quiet (fail)
                  go_wp2_with go_in
                  go_ret
                  exact ⟨by rw [HR.out]; rfl, by first | exact HJ.out _ | exact HJ2.out _ _⟩
              | false =>
                  have HR : Hid (J = 5) := by
                    show J = 5
                    rw [HJD.out]
                    simp [jd, hcm, hlt]
                  have hcm2 : (c == mc) = false := by rw [beq_eq_false_iff_ne]; exact hcm
                  clear HJD
                  go_wp2_with go_in
                  go_quiet (fail)
                  go_wp2_with go_in
                  go_quiet (fail)
                  go_wp2_with go_in
                  go_ret
                  exact ⟨by rw [HR.out]; rfl, by first | exact HJ.out _ | exact HJ2.out _ _⟩
          | false =>
            have htN : ¬ sT.toList = [] := HFL.out.2 (of_decide_eq_false HTE.out.symm)
            cases hT with
            | false =>
                have HR : Hid (J = 5) := by
                  show J = 5
                  rw [HJD.out]
                  simp [jd, hcm, hlt]
                have hcm2 : (c == mc) = false := by rw [beq_eq_false_iff_ne]; exact hcm
                clear HJD
                go_wp2_with go_in
                go_quiet (fail)
                go_wp2_with go_in
                go_quiet (fail)
                go_wp2_with go_in
                go_ret
                exact ⟨by rw [HR.out]; rfl, by first | exact HJ.out _ | exact HJ2.out _ _⟩
            | true =>
              cases hF with
              | false =>
                  have HR : Hid (J = 1) := by
                    show J = 1
                    rw [HJD.out]
                    simp [jd, hcm, hlt]
                  have hcm2 : (c == mc) = false := by rw [beq_eq_false_iff_ne]; exact hcm
                  clear HJD
                  go_wp2_with go_in
                  go_quiet (fail)
                  go_wp2_with go_in
                  go_quiet (fail)
                  go_wp2_with go_in
                  go_ret
                  exact ⟨by rw [HR.out]; rfl, by first | exact HJ.out _ | exact HJ2.out _ _⟩
              | true =>
                cases cb with
                | true =>
                    have HR : Hid (J = 1) := by
                      show J = 1
                      rw [HJD.out]
                      simp [jd, hcm, hlt]
                    have hcm2 : (c == mc) = false := by rw [beq_eq_false_iff_ne]; exact hcm
                    clear HJD
                    go_wp2_with go_in
                    go_quiet (fail)
                    go_wp2_with go_in
                    go_quiet (fail)
                    go_wp2_with go_in
                    go_ret
                    exact ⟨by rw [HR.out]; rfl, by first | exact HJ.out _ | exact HJ2.out _ _⟩
                | false =>
                    have HR : Hid (J = 5) := by
                      show J = 5
                      rw [HJD.out]
                      simp [jd, hcm, hlt]
                    have hcm2 : (c == mc) = false := by rw [beq_eq_false_iff_ne]; exact hcm
                    clear HJD
                    go_wp2_with go_in
                    go_quiet (fail)
                    go_wp2_with go_in
                    go_quiet (fail)
                    go_wp2_with go_in
                    go_ret
                    exact ⟨by rw [HR.out]; rfl, by first | exact HJ.out _ | exact HJ2.out _ _⟩
        · have HR : Hid (J = 4) := by
            show J = 4
            rw [HJD.out]
            simp [jd, hcm, hlt]
          have hcm2 : (c == mc) = false := by rw [beq_eq_false_iff_ne]; exact hcm
          clear HJD
          go_wp2_with go_in
          go_quiet (fail)
          go_wp2_with go_in
          go_quiet (fail)
          go_wp2_with go_in
          go_ret
          exact ⟨by rw [HR.out]; rfl, by first | exact HJ.out _ | exact HJ2.out _ _⟩

end Go.Proofs.YbulkadugFmt

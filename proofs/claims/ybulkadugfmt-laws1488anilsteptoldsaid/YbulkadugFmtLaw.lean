/-
  LawS1488ANilStep over toys/ybulkadugfmt: the law itself (function 3).
-/
import Derived.Test.YbulkadugFmtRun
namespace Go.Proofs.YbulkadugFmt
open Go.RowKit Go.Maps
attribute [local go_sem ↓] Go.wp_at_zero Go.wp_at_succ

/-- What the law hands back. -/
def LP (H : Nat) (w : World) (e : Ending) (w' : World) : Prop := e = .returned (.bool true) ∧ Below H w w'

/-- Too many replicas: true at once. -/
theorem law_long (x0 x1 a0 a1 a2 a3 x4 x5 x6 x7 : Value) (ad : Option Addr) (n cap : Nat) (w : World) (hn : 1024 < n) :
    Calls Ybaf.prog 3 #[x0, x1, .agg #[a0, a1, a2, a3], .slice ad n cap, x4, x5, x6, x7] w (LP w.heap.size w) := by
  go_enter Ybaf.func3, Ybaf.ntmps3
  go_wp2_with fail
  go_ret
  exact ⟨rfl, (Below.refl _ _).alloc (Nat.le_refl _) _⟩

theorem aL_len (D : Cd) (h : D.Ok) : D.aL.length ≤ 1025 := by
  have h1 := h.len
  unfold Cd.aL
  split
  · unfold aft
    rw [List.length_append]
    have h2 : (if 0 ≤ selI D.fs then D.L.erase (selI D.fs) else D.L).length ≤ D.L.length := by
      split
      · exact List.length_erase_le
      · exact Nat.le_refl _
    have h3 : (if 0 ≤ selI D.ts then [selI D.ts] else []).length ≤ 1 := by split <;> simp
    omega
  · omega

set_option maxRecDepth 100000 in
set_option maxHeartbeats 4000000 in
theorem law_core (x0 x1 x4 x5 x6 x7 : Value) (a0 a1 a2 a3 : Int) (ad : Option Addr) (n cap : Nat) (w : World) (hn : n ≤ 1024) (X : Nat → Nat) (hX : Rs w ad n X) (D : Cd) (hD : D.Ok)
    (hb : ∀ w', Rs w' ad n X → Calls Ybaf.prog 4 #[x0, x1, .agg #[.int .u8 a0, .int .u8 a1, .int .u8 a2, .int .u8 a3], .slice ad n cap, x4, x5, x6, x7] w' fun e w'' => BLP w' D e w'') :
    Calls Ybaf.prog 3 #[x0, x1, .agg #[.int .u8 a0, .int .u8 a1, .int .u8 a2, .int .u8 a3], .slice ad n cap, x4, x5, x6, x7] w (LP w.heap.size w) := by
  have HX : Hid (Rs w ad n X) := hX
  have HD : Hid D.Ok := hD
  have HB : Hid (∀ w', Rs w' ad n X → Calls Ybaf.prog 4 #[x0, x1, .agg #[.int .u8 a0, .int .u8 a1, .int .u8 a2, .int .u8 a3], .slice ad n cap, x4, x5, x6, x7] w' fun e w'' => BLP w' D e w'') := hb
  clear hX hD hb
  go_enter Ybaf.func3, Ybaf.ntmps3
  go_wp2_with fail
  have hA0 : Blk (w.alloc (.cells #[.int .u8 a0, .int .u8 a1, .int .u8 a2, .int .u8 a3] 22)) w.heap.size 22 [.int .u8 a0, .int .u8 a1, .int .u8 a2, .int .u8 a3] := Blk.new w 22 _
  have hB0 : Below w.heap.size w (w.alloc (.cells #[.int .u8 a0, .int .u8 a1, .int .u8 a2, .int .u8 a3] 22)) := (Below.refl _ _).alloc (Nat.le_refl _) _
  have hz0 : (w.alloc (.cells #[.int .u8 a0, .int .u8 a1, .int .u8 a2, .int .u8 a3] 22)).heap.size = w.heap.size + 1 := by simp
  have hR0 : Rs (w.alloc (.cells #[.int .u8 a0, .int .u8 a1, .int .u8 a2, .int .u8 a3] 22)) ad n X := HX.out.below hB0
  generalize w.alloc (.cells #[.int .u8 a0, .int .u8 a1, .int .u8 a2, .int .u8 a3] 22) = w0 at hA0 hB0 hz0 hR0 ⊢
  have HZ0 : Hid (w0.heap.size = w.heap.size + 1) := hz0
  have HR0 : Hid (Rs w0 ad n X ∧ Below w.heap.size w w0) := ⟨hR0, hB0⟩
  clear HX hz0 hR0 hB0
  refine (HB.out w0 HR0.out.1).mono ?_
  rintro e w1 ⟨B1, zb1, oa1, oc1, rfl, m1, z1, _, _, ⟨c1, c2, c3, c4, _, _, _⟩, hb1⟩
  have hA1 := hA0.below hb1 hA0.lt
  have hR1 := HR0.out.1.below hb1
  have hB1 : Below w.heap.size w w1 := HR0.out.2.trans (hb1.mono (by have := HZ0.out; omega))
  have hs1 := hb1.size
  have q0 := hA1.at_ 0 rfl
  have q1 := hA1.at_ 1 rfl
  have q2 := hA1.at_ 2 rfl
  have q3 := hA1.at_ 3 rfl
  have hm1 := own_cap m1.own
  have hm2 := m1.ap.lt
  have hm3 := m1.g.lt
  have hm4 := m1.rd.lt
  have HM1 : Hid (AM w1 B1 D w0.heap.size D.L.length) := m1
  have HZ1 : Hid (∃ l, Blk w1 zb1 33 (.pointer (some ⟨B1.sb, 0, none⟩) :: .pointer (some ⟨B1.ab, 0, none⟩) :: l)) := ⟨_, z1⟩
  have HR1 : Hid (Rs w1 ad n X ∧ Below w.heap.size w w1) := ⟨hR1, hB1⟩
  clear m1 z1 hA0 hA1 hR1 hB1 HR0 hb1
  go_wp2_with fail
  refine (HB.out w1 HR1.out.1).mono ?_
  rintro e w2 ⟨B2, zb2, oa, oc, rfl, m2, z2, lo, ho, ⟨d1, d2, d3, d4, d5, d6, d7⟩, hb2⟩
  have hs2 := hb2.size
  obtain ⟨lz1, hz1⟩ := HZ1.out
  have hz1' := (hz1.below hb2 hz1.lt).alloc (.cells #[.int .i64 0] 3)
  have hm1' := own_cap m2.own
  have HW : Hid (AM (w2.alloc (.cells #[.int .i64 0] 3)) B1 D w0.heap.size D.L.length ∧ AM (w2.alloc (.cells #[.int .i64 0] 3)) B2 D w1.heap.size D.L.length ∧ Blk (w2.alloc (.cells #[.int .i64 0] 3)) zb1 33 (.pointer (some ⟨B1.sb, 0, none⟩) :: .pointer (some ⟨B1.ab, 0, none⟩) :: lz1) ∧ Blk (w2.alloc (.cells #[.int .i64 0] 3)) w2.heap.size 3 [.int .i64 0] ∧ Ls (w2.alloc (.cells #[.int .i64 0] 3)) oa D.L ∧ (∀ q, oa = some q → w1.heap.size ≤ q.block ∧ q.block ≠ B2.rb ∧ ∃ l, Blk (w2.alloc (.cells #[.int .i64 0] 3)) q.block 21 l) ∧ Below w.heap.size w (w2.alloc (.cells #[.int .i64 0] 3))) :=
    ⟨(HM1.out.below hb2).below ((Below.refl _ _).alloc (Nat.le_refl _) _), m2.below ((Below.refl _ _).alloc (Nat.le_refl _) _), hz1', Blk.new w2 3 _, lo.kp (X := fun _ => False) (Kp.of_self ((Below.refl _ _).alloc (Nat.le_refl _) _)) (fun _ _ h => h), fun q hq => by obtain ⟨g1, g2, l, g3⟩ := ho q hq; exact ⟨g1, g2, l, g3.alloc _⟩, (HR1.out.2.trans (hb2.mono (by have := HZ0.out; omega))).alloc (by have := HZ0.out; omega) _⟩
  have HZ2 : Hid (Blk (w2.alloc (.cells #[.int .i64 0] 3)) zb2 33 [.pointer (some ⟨B2.sb, 0, none⟩), .pointer (some ⟨B2.ab, 0, none⟩), .int .i64 (D.st 0 : Nat), .int .i64 (D.st 1 : Nat), .int .i64 (D.st 2 : Nat), .int .i64 (D.st 3 : Nat), .slice oa D.L.length oc, .int .i64 D.c, .int .i64 D.mc, .int .i64 (D.rf : Nat), .string D.gid, .string (selS D.fs), .int .i32 (selI D.fs), .int .i32 (selI D.ts)]) := z2.alloc _
  have y1 := hz1'.at_ 1 rfl
  clear m2 z2 lo ho hb2 HZ1 hz1 hz1' HM1 HB HR1 q0 q1 q2 q3
  go_wp2_with fail
  have HS3 := apply_step B1 D w0.heap.size D.L.length w2.heap.size (w2.alloc (.cells #[.int .i64 0] 3)) HW.out.1 HD.out HW.out.2.2.2.1
  have hs3 : w2.heap.size < (w2.alloc (.cells #[.int .i64 0] 3)).heap.size := by simp
  generalize w2.alloc (.cells #[.int .i64 0] 3) = w3 at HS3 HW HZ2 y1 hs3 ⊢
  generalize w2.heap.size = nb at HS3 HW hs2 hs3 ⊢
  refine HS3.mono ?_
  rintro e w4 ⟨rfl, ⟨rb1, cap1, hg4, ho4, hr4⟩, hk4, hk4'⟩
  have m24 : AM w4 B2 D w1.heap.size D.L.length := AM.other HW.out.2.1 HW.out.1 HW.out.2.2.2.1 hk4 hm2 hm3 hm1.2 hm4 d1 d2 hm1'.1 d3 d5 d6 d7
  have HM24 : Hid (AM w4 B2 D w1.heap.size D.L.length) := m24
  obtain ⟨lr1, hlr1⟩ := own_blk HW.out.1.own
  have hz24 := hk4.blk HZ2.out (by rintro (e | e | e | e | e); exact HZ2.out.ne HW.out.1.ap (by decide) e; exact HZ2.out.ne HW.out.1.g (by decide) e; exact HZ2.out.ne hlr1 (by decide) e; exact HZ2.out.ne HW.out.1.rd (by decide) e; exact HZ2.out.ne HW.out.2.2.2.1 (by decide) e)
  have y2 := hz24.at_ 1 rfl
  have HK4 : Hid (Kp (fun k => k = B1.ab ∨ k = B1.gp ∨ k = B1.rb ∨ k = B1.rfb ∨ k = nb) w3 w4 ∧ (D.out ≠ 0 → Kp (fun k => k = B1.ab ∨ k = B1.rfb) w3 w4)) := ⟨hk4, hk4'⟩
  have HG4 : Hid (Blk w4 B1.gp 41 [.string gS, .string tS, .int .i64 (D.rf : Nat), .slice (some ⟨rb1, 0, none⟩) D.aL.length cap1, .int .i64 D.aC] ∧ w4.ownsRow w0.heap.size 21 1 (.slice (some ⟨rb1, 0, none⟩) D.aL.length cap1) D.aL.length (D.aL.map (.int .i32 ·)) ∧ (rb1 = B1.rb ∨ w3.heap.size ≤ rb1)) := ⟨hg4, ho4, hr4⟩
  clear HS3 hk4 hk4' m24 hlr1 hz24 hg4 ho4 hr4 y1
  go_wp2_with fail
  refine (apply_nil B2 D w1.heap.size D.L.length nb w4 HM24.out HD.out).mono ?_
  rintro e w5 ⟨rfl, ⟨rb2, cap2, hg5, ho5, hr5⟩, hk5, hk5'⟩
  have F := fin4_of HW.out.1 HW.out.2.1 HM24.out HW.out.2.2.2.1 HW.out.2.2.1 HZ2.out HW.out.2.2.2.2.1 HW.out.2.2.2.2.2.1 HK4.out.1 HK4.out.2 hk5 hk5' HG4.out.1 HG4.out.2.1 HG4.out.2.2 hg5 ho5 hm3 hm1.2 d2 hm1'.1
  have HB5 : Hid (Below w.heap.size w w5) := by
    have h1 := HW.out.2.2.2.2.2.2
    have h2 := HZ0.out
    have h3 := h1.size
    have h4 := HK4.out.1.size
    exact (h1.trans (HK4.out.1.below (by omega) (by rintro i hi (e | e | e | e | e) <;> omega))).trans (hk5.below (by omega) (by rintro i hi (e | e | e | e | e) <;> omega))
  have hlen : D.aL.length ≤ 1025 := aL_len D HD.out
  have HZE : Hid (D.out = 0 → D.aL = aft D.L (selI D.fs) (selI D.ts) ∧ D.aC = D.c + 1) := fun h => ⟨if_pos h, if_pos h⟩
  have HZN : Hid (D.out ≠ 0 → D.aL = D.L ∧ D.aC = D.c) := fun h => ⟨if_neg h, if_neg h⟩
  have HC : Hid (-10 ≤ D.c ∧ D.c ≤ 90 ∧ D.L.length ≤ 1024 ∧ (-2 ≤ selI D.fs ∧ selI D.fs ≤ 3) ∧ (-2 ≤ selI D.ts ∧ selI D.ts ≤ 3)) := ⟨HD.out.c0, HD.out.c1, HD.out.len, selI_bd _ HD.out.f5, selI_bd _ HD.out.t5⟩
  obtain ⟨z1l, z1b⟩ := F.z1
  obtain ⟨p1, p2, p3, p4, p5, p8, p9, p10, p11, z2b⟩ := F.z2
  obtain ⟨s1x, s1l, s1b⟩ := F.s1
  obtain ⟨s2x, s2l, s2b⟩ := F.s2
  have g1b := F.g1
  have g2b := F.g2
  have l1b := F.l1
  have l2b := F.l2
  have lob := F.lo
  have nnb := F.nn
  have z10 := z1b.at_ 0 rfl
  have z20 := z2b.at_ 0 rfl
  have z27 := z2b.at_ 7 rfl
  have s11 := s1b.at_ 1 rfl
  have s21 := s2b.at_ 1 rfl
  have u13 := g1b.at_ 3 rfl
  have u14 := g1b.at_ 4 rfl
  have u23 := g2b.at_ 3 rfl
  have u24 := g2b.at_ 4 rfl
  clear F z1b s1b s2b g1b g2b HK4 HG4 HM24 HW HZ2 hk5 hk5' hg5 ho5 hr5 y2 HD
  generalize D.aL = aL at hlen HZE HZN l1b l2b u13 u23
  generalize D.aC = aC at HZE HZN u14 u24
  generalize D.out = J at HZE HZN nnb ⊢
  have HEQ : Hid (∀ d, Calls Ybaf.prog 7 #[.slice (some ⟨rb1, 0, none⟩) aL.length cap1, .slice (some ⟨rb2, 0, none⟩) aL.length cap2] (w5.drewN d) fun e w' => e = .returned (.bool true) ∧ ∃ d', w' = (w5.drewN d).drewN d') := fun d => equal_any _ _ _ _ _ _ l1b l2b (by omega)
  generalize D.c = c at HZE HZN z27 HC z2b
  generalize D.L = L at HZE HZN lob HC z2b
  generalize selI D.fs = f at HZE HC z2b
  generalize selI D.ts = t at HZE HC z2b
  generalize B1.sb = sb1 at z10 s11
  generalize B2.sb = sb2 at z20 s21 z2b
  generalize B1.gp = gp1 at s11 u13 u14
  generalize B2.gp = gp2 at s21 u23 u24
  have HL : Hid (Ls w5 (some ⟨rb2, 0, none⟩) aL ∧ Ls w5 oa L ∧ (J ≠ 0 → Blk w5 nb 3 [.int .i64 0]) ∧ Blk w5 zb2 33 [.pointer (some ⟨sb2, 0, none⟩), p1, p2, p3, p4, p5, .slice oa L.length oc, .int .i64 c, p8, p9, p10, p11, .int .i32 f, .int .i32 t]) := ⟨l2b, lob, nnb, z2b⟩
  clear l1b l2b lob nnb z2b
  go_wp2_with fail
  go_quiet ((go_at_call 7; with_reducible exact Calls.quiet_of (HEQ.out _)))
  have HL6 : Hid (Ls (w5.drewN nq) (some ⟨rb2, 0, none⟩) aL ∧ Ls (w5.drewN nq) oa L ∧ (J ≠ 0 → Blk (w5.drewN nq) nb 3 [.int .i64 0]) ∧ Blk (w5.drewN nq) zb2 33 [.pointer (some ⟨sb2, 0, none⟩), p1, p2, p3, p4, p5, .slice oa L.length oc, .int .i64 c, p8, p9, p10, p11, .int .i32 f, .int .i32 t] ∧ Below w.heap.size w (w5.drewN nq)) := ⟨HL.out.1, HL.out.2.1, HL.out.2.2.1, HL.out.2.2.2, ⟨HB5.out.os, HB5.out.tape, HB5.out.output, HB5.out.size, HB5.out.block⟩⟩
  have v23 : (w5.drewN nq).cell? ⟨gp2, 3, none⟩ = some (.slice (some ⟨rb2, 0, none⟩) aL.length cap2) := u23
  have v24 : (w5.drewN nq).cell? ⟨gp2, 4, none⟩ = some (.int .i64 aC) := u24
  have v26 : (w5.drewN nq).cell? ⟨zb2, 6, none⟩ = some (.slice oa L.length oc) := HL.out.2.2.2.at_ 6 rfl
  have v27 : (w5.drewN nq).cell? ⟨zb2, 7, none⟩ = some (.int .i64 c) := z27
  have hgp := block_lt_of_cell v23
  have hgp' : gp2 < (w5.drewN nq).heap.size := hgp
  generalize w5.drewN nq = w6 at HL6 v23 v24 v26 v27 hgp' ⊢
  clear HL HEQ z10 z20 z27 s11 s21 u13 u14 u23 u24 HB5 hgp
  by_cases hJ0 : J = 0
  · obtain ⟨hE1, hE2⟩ := HZE.out hJ0
    subst hE1 hE2 hJ0
    clear HZE HZN v26
    have hc1 : -10 ≤ c := HC.out.1
    have hc2 : c ≤ 90 := HC.out.2.1
    have hwc : IntKind.i64.wrap (c + 1) = c + 1 := by rw [IntKind.wrap_i64]; omega
    have hbb : ((c + 1 : Int) == c + 1) = true := beq_self_eq_true _
    have HAF : Hid (∀ d, Calls Ybaf.prog 8 #[.pointer (some ⟨zb2, 0, none⟩)] (w6.drewN d) fun e w' => ∃ a' c', e = .returned (.slice a' (aft L f t).length c') ∧ (w'.cell? ⟨gp2, 3, none⟩ = some (.slice (some ⟨rb2, 0, none⟩) (aft L f t).length cap2) ∧ w'.cell? ⟨gp2, 4, none⟩ = some (.int .i64 (c + 1)) ∧ w'.cell? ⟨zb2, 7, none⟩ = some (.int .i64 c)) ∧ Hid (Ls w' a' (aft L f t) ∧ Ls w' (some ⟨rb2, 0, none⟩) (aft L f t) ∧ Below w.heap.size w w')) := by
      intro d
      refine (after_any zb2 L f t oa oc _ _ _ _ _ _ _ _ _ _ _ (w6.drewN d) HL6.out.2.2.2.1 HL6.out.2.1 HC.out.2.2.1 HC.out.2.2.2.1.1 HC.out.2.2.2.1.2 HC.out.2.2.2.2.1 HC.out.2.2.2.2.2).mono ?_
      rintro e w7 ⟨a7, c7, rfl, h7, hb7⟩
      have kp : Kp (fun _ => False) w6 w7 := (Kp.refl (fun _ => False) w6).drewN d |>.trans (Kp.of_self hb7) (fun _ _ h => h)
      refine ⟨a7, c7, rfl, ⟨kp.cell v23 (fun h => h), kp.cell v24 (fun h => h), kp.cell v27 (fun h => h)⟩, h7, HL6.out.1.kp kp (fun _ _ h => h), HL6.out.2.2.2.2.trans (kp.below HL6.out.2.2.2.2.size (fun _ _ h => h))⟩
    go_wp2_with fail
    go_region_held3 (fun w' => w'.cell? ⟨gp2, 3, none⟩ = some (.slice (some ⟨rb2, 0, none⟩) (aft L f t).length cap2) ∧ w'.cell? ⟨gp2, 4, none⟩ = some (.int .i64 (c + 1)) ∧ w'.cell? ⟨zb2, 7, none⟩ = some (.int .i64 c))
      (first
        | (go_split_ands; refine ⟨?_, ?_, ?_⟩ <;> first | assumption | go_keep))
      (first
        | (go_at_call 8; refine (HAF.out _).mono ?_; rintro e w7 ⟨a7, c7, rfl, ⟨x23, x24, x27⟩, hl7⟩)
        | (go_at_call 7; refine (equal_any _ _ _ _ _ _ hl7.out.2.1 hl7.out.1 (by omega)).mono ?_; rintro e w8 ⟨rfl, d8, rfl⟩))
    all_goals
      go_wp2_with fail
      go_ret
      exact ⟨rfl, ⟨hl7.out.2.2.os, hl7.out.2.2.tape, hl7.out.2.2.output, hl7.out.2.2.size, hl7.out.2.2.block⟩⟩
  · obtain ⟨hE1, hE2⟩ := HZN.out hJ0
    subst hE1 hE2
    have n0 := (HL6.out.2.2.1 hJ0).at_ 0 rfl
    clear HZE HZN
    have hJb : (J == 0) = false := by simpa using hJ0
    have hbb : (aC == aC) = true := beq_self_eq_true _
    have HEQ2 : Hid (∀ d, Calls Ybaf.prog 7 #[.slice (some ⟨rb2, 0, none⟩) aL.length cap2, .slice oa aL.length oc] (w6.drewN d) fun e w' => e = .returned (.bool true) ∧ ∃ d', w' = (w6.drewN d).drewN d') := fun d => equal_any _ _ _ _ _ _ HL6.out.1 HL6.out.2.1 (by omega)
    go_wp2_with fail
    go_quiet ((go_at_call 7; with_reducible exact Calls.quiet_of (HEQ2.out _)))
    go_wp2_with fail
    go_ret
    exact ⟨rfl, ⟨HL6.out.2.2.2.2.os, HL6.out.2.2.2.2.tape, HL6.out.2.2.2.2.output, HL6.out.2.2.2.2.size, HL6.out.2.2.2.2.block⟩⟩

/-- The law, at every input. -/
theorem law_any (rf cfg gs fs ts cs a0 a1 a2 a3 : Nat) (ad : Option Addr) (n cap : Nat) (w : World) (hrf : rf < 256) (hcfg : cfg < 256) (hfs : fs < 256) (hts : ts < 256) (hcs : cs < 256) (h0 : a0 < 256) (h1 : a1 < 256) (h2 : a2 < 256) (h3 : a3 < 256) (X : Nat → Nat) (hX : Rs w ad n X) :
    Calls Ybaf.prog 3 #[.int .u8 rf, .int .u8 cfg, .agg #[.int .u8 a0, .int .u8 a1, .int .u8 a2, .int .u8 a3], .slice ad n cap, .int .u8 gs, .int .u8 fs, .int .u8 ts, .int .u8 cs] w (LP w.heap.size w) := by
  rcases Nat.lt_or_ge 1024 n with hn | hn
  · exact law_long _ _ _ _ _ _ _ _ _ _ ad n cap w hn
  · have hok : Cd.Ok ⟨fun i => (if i = 0 then a0 else if i = 1 then a1 else if i = 2 then a2 else a3) % 3, rL X n, 1 + rf % 5, (cfg % 8 : Nat), mcF (cfg % 8) (cs % 4), (if decide (gs % 8 ≠ 7) then (⟨#[103]⟩ : ByteArray) else ⟨#[104]⟩), decide (gs % 8 ≠ 7), fs % 6, ts % 6, cbF (decide (gs % 8 ≠ 7)) (cfg % 8 : Nat) (mcF (cfg % 8) (cs % 4)) (fs % 6) (ts % 6)⟩ := by
      have hm : -10 ≤ mcF (cfg % 8) (cs % 4) ∧ mcF (cfg % 8) (cs % 4) ≤ 90 := by
        unfold mcF
        repeat' split
        all_goals omega
      refine ⟨?_, ?_, ?_, ?_, ?_, ?_, hm.1, hm.2, ?_, ?_⟩
      · show (rL X n).length ≤ 1024
        rw [rL_len]; exact hn
      · intro x hx
        have hx' : x ∈ rL X n := hx
        unfold rL at hx'
        obtain ⟨i, _, rfl⟩ := List.mem_map.1 hx'
        omega
      · show 1 ≤ 1 + rf % 5; omega
      · show 1 + rf % 5 ≤ 5; omega
      · show (-10 : Int) ≤ ((cfg % 8 : Nat) : Int); omega
      · show ((cfg % 8 : Nat) : Int) ≤ 90; omega
      · show fs % 6 ≤ 5; omega
      · show ts % 6 ≤ 5; omega
    exact law_core _ _ _ _ _ _ _ _ _ _ ad n cap w hn X hX _ hok fun w' hX' =>
      build_any rf cfg gs fs ts cs (fun i => if i = 0 then a0 else if i = 1 then a1 else if i = 2 then a2 else a3) _ ad n cap w' (fun i _ => by show (if i = 0 then a0 else if i = 1 then a1 else if i = 2 then a2 else a3) < 256; (repeat' split) <;> assumption) (fun _ => rfl) hn (cfg % 8) (rf % 5) rfl rfl hcfg hrf _ rfl _ rfl (fs % 6) (ts % 6) (cs % 4) rfl rfl rfl hfs hts hcs X hX'

end Go.Proofs.YbulkadugFmt

/-
  LawS1488ANilStep over toys/ybulkadugfmt: the two runs of apply, and what stands behind them.
-/
import Derived.Test.YbulkadugFmtBuild
import Derived.Test.YbulkadugFmtAfter
namespace Go.Proofs.YbulkadugFmt
open Go.RowKit Go.Maps
attribute [local go_sem ↓] Go.wp_at_zero Go.wp_at_succ

theorem Rs.below {w w' : World} {ad : Option Addr} {n : Nat} {X : Nat → Nat} (h : Rs w ad n X) (hb : Below w.heap.size w w') : Rs w' ad n X := by
  refine ⟨?_, h.2⟩
  rcases h.1 with h0 | ⟨g, off, e, hc⟩
  · exact .inl h0
  · exact .inr ⟨g, off, e, fun i hi => (Kp.of_self (X := fun _ => False) hb).cell (hc i hi) (fun h => h)⟩

theorem AM.kp {X : Nat → Prop} {w w' : World} {B : Bs} {D : Cd} {base cap : Nat} (h : AM w B D base cap) (k : Kp X w w') (n1 : ¬ X B.ab) (n2 : ¬ X B.pb) (n3 : ¬ X B.mvb) (n4 : ¬ X B.sb) (n5 : ¬ X B.svb) (n6 : ¬ X B.gp) (n7 : ¬ X B.rb) (n8 : ¬ X B.slb) (n9 : ¬ X B.grb) (n10 : ¬ X B.rfb) (n11 : ¬ X B.cbb) (n12 : ¬ X B.mb) : AM w' B D base cap :=
  ⟨k.blk h.ap n1, k.blk h.pl n2, k.blk h.mv n3, k.blk h.sn n4, k.blk h.sv n5, k.blk h.g n6, own_kp h.own k (fun i hi => by cases hi; exact n7), k.blk h.sl n8, k.blk h.gr n9, k.blk h.rd n10, k.blk h.cd n11, map_kp h.mp k n12⟩
theorem AM.below {w w' : World} {B : Bs} {D : Cd} {base cap : Nat} (h : AM w B D base cap) (hb : Below w.heap.size w w') : AM w' B D base cap :=
  h.kp (Kp.of_self (X := fun _ => False) hb) (fun h => h) (fun h => h) (fun h => h) (fun h => h) (fun h => h) (fun h => h) (fun h => h) (fun h => h) (fun h => h) (fun h => h) (fun h => h) (fun h => h)

theorem map_ne {w : World} {k b b' n : Nat} {R : Value → Option (DataW Unit × List MemPlace)} {D : DataW Unit} {t : TypeId} {l : List Value} (h : w.ownsMap Ybaf.prog k R b n D) (hb : Blk w b' t l) : b ≠ b' := by
  obtain ⟨es, clock, h1, _⟩ := h
  rintro rfl
  unfold Blk at hb
  rw [hb] at h1
  cases h1

/-- One case's blocks, changed by apply, are none of the other's. -/
theorem AM.other {w w' : World} {B B' : Bs} {D D' : Cd} {base cap base' cap' H nb : Nat} {l : List Value} (h : AM w B D base cap) (h' : AM w B' D' base' cap') (hn : Blk w nb 3 l) (k : Kp (fun k => k = B'.ab ∨ k = B'.gp ∨ k = B'.rb ∨ k = B'.rfb ∨ k = nb) w w')
    (a1 : B'.ab < H) (a2 : B'.gp < H) (a3 : B'.rb < H) (a4 : B'.rfb < H) (b1 : H ≤ B.ab) (b2 : H ≤ B.gp) (b3 : H ≤ B.rb) (b4 : H ≤ B.rfb) (b5 : H ≤ B.slb) (b6 : H ≤ B.grb) (b7 : H ≤ B.cbb) : AM w' B D base cap := by
  obtain ⟨lr, hlr⟩ := own_blk h.own
  obtain ⟨lr', hlr'⟩ := own_blk h'.own
  refine h.kp k ?_ ?_ ?_ ?_ ?_ ?_ ?_ ?_ ?_ ?_ ?_ ?_
  · rintro (e | e | e | e | e)
    · omega
    · omega
    · omega
    · omega
    · exact h.ap.ne hn (by decide) e
  · rintro (e | e | e | e | e)
    · exact h.pl.ne h'.ap (by decide) e
    · exact h.pl.ne h'.g (by decide) e
    · exact h.pl.ne hlr' (by decide) e
    · exact h.pl.ne h'.rd (by decide) e
    · exact h.pl.ne hn (by decide) e
  · rintro (e | e | e | e | e)
    · exact h.mv.ne h'.ap (by decide) e
    · exact h.mv.ne h'.g (by decide) e
    · exact h.mv.ne hlr' (by decide) e
    · exact h.mv.ne h'.rd (by decide) e
    · exact h.mv.ne hn (by decide) e
  · rintro (e | e | e | e | e)
    · exact h.sn.ne h'.ap (by decide) e
    · exact h.sn.ne h'.g (by decide) e
    · exact h.sn.ne hlr' (by decide) e
    · exact h.sn.ne h'.rd (by decide) e
    · exact h.sn.ne hn (by decide) e
  · rintro (e | e | e | e | e)
    · exact h.sv.ne h'.ap (by decide) e
    · exact h.sv.ne h'.g (by decide) e
    · exact h.sv.ne hlr' (by decide) e
    · exact h.sv.ne h'.rd (by decide) e
    · exact h.sv.ne hn (by decide) e
  · rintro (e | e | e | e | e)
    · omega
    · omega
    · omega
    · omega
    · exact h.g.ne hn (by decide) e
  · rintro (e | e | e | e | e)
    · omega
    · omega
    · omega
    · omega
    · exact hlr.ne hn (by decide) e
  · rintro (e | e | e | e | e)
    · omega
    · omega
    · omega
    · omega
    · exact h.sl.ne hn (by decide) e
  · rintro (e | e | e | e | e)
    · omega
    · omega
    · omega
    · omega
    · exact h.gr.ne hn (by decide) e
  · rintro (e | e | e | e | e)
    · omega
    · omega
    · omega
    · omega
    · exact h.rd.ne hn (by decide) e
  · rintro (e | e | e | e | e)
    · omega
    · omega
    · omega
    · omega
    · exact h.cd.ne hn (by decide) e
  · rintro (e | e | e | e | e)
    · exact map_ne h.mp h'.ap e
    · exact map_ne h.mp h'.g e
    · exact map_ne h.mp hlr' e
    · exact map_ne h.mp h'.rd e
    · exact map_ne h.mp hn e

/-- apply with the step that counts. -/
theorem apply_step (B : Bs) (D : Cd) (base cap nb : Nat) (w : World) (h : AM w B D base cap) (hD : D.Ok) (hn : Blk w nb 3 [.int .i64 0]) :
    Calls Ybaf.prog 5 #[.pointer (some ⟨B.ab, 0, none⟩), .int .i64 0, .func (.func 6) #[] #[.pointer (some ⟨nb, 0, none⟩)]] w fun e w' => AP w B D base nb e w' := by
  refine apply_any B D base cap nb _ w h hD ?_
  intro w2 oq n' hs hn' hk hf hq
  have b1 := selI_bd D.fs hD.f5
  have b2 := selI_bd D.ts hD.t5
  obtain ⟨lr, hlr⟩ := own_blk h.own
  have hc := own_cap h.own
  exact carry_step B.ab B.sb B.svb B.gp B.rb cap base nb D.rf n' 0 oq D.st D.L (selI D.fs) (selI D.ts) D.c gS _ _ _ _ _ _ (.string tS) _ _ _ _ _ _ (.int .i64 0) w2
    ⟨hs, hk.blk h.sn (h.sn.ne h.ap (by decide)), hk.blk h.sv (h.sv.ne h.ap (by decide)), hk.blk h.g (h.g.ne h.ap (by decide)), own_kp h.own hk (fun i hi => by cases hi; exact hlr.ne h.ap (by decide)), hk.blk hn (hn.ne h.ap (by decide))⟩
    hD.mem hf hD.len (by have := hk.size; omega) hD.c0 (by have := hD.c1; omega) b1.1 b1.2 b2.1 b2.2 (by omega) (by decide)

/-- apply with no step. -/
theorem apply_nil (B : Bs) (D : Cd) (base cap nb : Nat) (w : World) (h : AM w B D base cap) (hD : D.Ok) :
    Calls Ybaf.prog 5 #[.pointer (some ⟨B.ab, 0, none⟩), .int .i64 0, .nilFunc] w fun e w' => AP w B D base nb e w' := by
  refine apply_any B D base cap nb _ w h hD ?_
  intro w2 oq n' hs hn' hk hf hq
  have b1 := selI_bd D.fs hD.f5
  have b2 := selI_bd D.ts hD.t5
  obtain ⟨lr, hlr⟩ := own_blk h.own
  have hc := own_cap h.own
  have a3 := (hs.blk.choose_spec).at_ 3 rfl
  refine (carry_nil B.ab B.gp B.rb cap base D.L (selI D.fs) (selI D.ts) D.c _ _ _ (.int .i64 0) w2 a3 (hk.blk h.g (h.g.ne h.ap (by decide))) (own_kp h.own hk (fun i hi => by cases hi; exact hlr.ne h.ap (by decide))) hf hD.len (by have := hk.size; omega) hD.c0 (by have := hD.c1; omega) b1.1 b1.2 b2.1 b2.2).mono ?_
  rintro e w' ⟨rfl, rb', cap', h1, h2, h3, h4⟩
  exact ⟨rfl, rb', cap', h1, h2, h3.mono (fun i _ e => e.elim (fun e => .inr (.inl e)) (fun e => .inr (.inr (.inl e)))), h4⟩

/-- What stands behind the two runs. -/
structure Fin4 (w : World) (D : Cd) (zb1 zb2 sb1 sb2 gp1 gp2 rb1 rb2 cap1 cap2 nb : Nat) (oa : Option Addr) (oc : Nat) : Prop where
  z1 : ∃ l, Blk w zb1 33 (.pointer (some ⟨sb1, 0, none⟩) :: l)
  z2 : ∃ q1 q2 q3 q4 q5 q8 q9 q10 q11, Blk w zb2 33 [.pointer (some ⟨sb2, 0, none⟩), q1, q2, q3, q4, q5, .slice oa D.L.length oc, .int .i64 D.c, q8, q9, q10, q11, .int .i32 (selI D.fs), .int .i32 (selI D.ts)]
  s1 : ∃ x l, Blk w sb1 50 (x :: .slice (some ⟨gp1, 0, none⟩) 1 1 :: l)
  s2 : ∃ x l, Blk w sb2 50 (x :: .slice (some ⟨gp2, 0, none⟩) 1 1 :: l)
  g1 : Blk w gp1 41 [.string gS, .string tS, .int .i64 (D.rf : Nat), .slice (some ⟨rb1, 0, none⟩) D.aL.length cap1, .int .i64 D.aC]
  g2 : Blk w gp2 41 [.string gS, .string tS, .int .i64 (D.rf : Nat), .slice (some ⟨rb2, 0, none⟩) D.aL.length cap2, .int .i64 D.aC]
  l1 : Ls w (some ⟨rb1, 0, none⟩) D.aL
  l2 : Ls w (some ⟨rb2, 0, none⟩) D.aL
  lo : Ls w oa D.L
  nn : D.out ≠ 0 → Blk w nb 3 [.int .i64 0]

/-- They do stand. -/
theorem fin4_of {w3 w4 w5 : World} {B1 B2 : Bs} {D : Cd} {base1 base2 capA capB H zb1 zb2 nb rb1 rb2 cap1 cap2 : Nat} {oa : Option Addr} {oc : Nat} {l1 : List Value} {q1 q2 q3 q4 q5 q8 q9 q10 q11 : Value}
    (m1 : AM w3 B1 D base1 capA) (m2 : AM w3 B2 D base2 capB) (m2' : AM w4 B2 D base2 capB) (hn : Blk w3 nb 3 [.int .i64 0])
    (z1 : Blk w3 zb1 33 (.pointer (some ⟨B1.sb, 0, none⟩) :: l1)) (z2 : Blk w3 zb2 33 [.pointer (some ⟨B2.sb, 0, none⟩), q1, q2, q3, q4, q5, .slice oa D.L.length oc, .int .i64 D.c, q8, q9, q10, q11, .int .i32 (selI D.fs), .int .i32 (selI D.ts)])
    (lo : Ls w3 oa D.L) (ho : ∀ q, oa = some q → H ≤ q.block ∧ q.block ≠ B2.rb ∧ ∃ l, Blk w3 q.block 21 l)
    (k4 : Kp (fun k => k = B1.ab ∨ k = B1.gp ∨ k = B1.rb ∨ k = B1.rfb ∨ k = nb) w3 w4) (k4' : D.out ≠ 0 → Kp (fun k => k = B1.ab ∨ k = B1.rfb) w3 w4)
    (k5 : Kp (fun k => k = B2.ab ∨ k = B2.gp ∨ k = B2.rb ∨ k = B2.rfb ∨ k = nb) w4 w5) (k5' : D.out ≠ 0 → Kp (fun k => k = B2.ab ∨ k = B2.rfb) w4 w5)
    (g1 : Blk w4 B1.gp 41 [.string gS, .string tS, .int .i64 (D.rf : Nat), .slice (some ⟨rb1, 0, none⟩) D.aL.length cap1, .int .i64 D.aC]) (o1 : w4.ownsRow base1 21 1 (.slice (some ⟨rb1, 0, none⟩) D.aL.length cap1) D.aL.length (D.aL.map (.int .i32 ·))) (r1 : rb1 = B1.rb ∨ w3.heap.size ≤ rb1)
    (g2 : Blk w5 B2.gp 41 [.string gS, .string tS, .int .i64 (D.rf : Nat), .slice (some ⟨rb2, 0, none⟩) D.aL.length cap2, .int .i64 D.aC]) (o2 : w5.ownsRow base2 21 1 (.slice (some ⟨rb2, 0, none⟩) D.aL.length cap2) D.aL.length (D.aL.map (.int .i32 ·)))
    (a2 : B1.gp < H) (a3 : B1.rb < H) (b2 : H ≤ B2.gp) (b3 : H ≤ B2.rb) : Fin4 w5 D zb1 zb2 B1.sb B2.sb B1.gp B2.gp rb1 rb2 cap1 cap2 nb oa oc := by
  obtain ⟨lr1, hlr1⟩ := own_blk m1.own
  obtain ⟨lr2, hlr2⟩ := own_blk m2.own
  obtain ⟨lr2', hlr2'⟩ := own_blk m2'.own
  obtain ⟨lo1, hlo1⟩ := own_blk o1
  have hlt2 := hlr2.lt
  have K : ∀ {b t : Nat} {l : List Value}, Blk w3 b t l → t ≠ 77 → t ≠ 41 → t ≠ 21 → t ≠ 4 → t ≠ 3 → Blk w5 b t l := fun hb n1 n2 n3 n4 n5 => by
    have hb4 := k4.blk hb (by rintro (e | e | e | e | e); exact hb.ne m1.ap n1 e; exact hb.ne m1.g n2 e; exact hb.ne hlr1 n3 e; exact hb.ne m1.rd n4 e; exact hb.ne hn n5 e)
    have hb3 := hb
    exact k5.blk hb4 (by rintro (e | e | e | e | e); exact hb4.ne m2'.ap n1 e; exact hb4.ne m2'.g n2 e; exact hb4.ne hlr2' n3 e; exact hb4.ne m2'.rd n4 e; exact hb3.ne hn n5 e)
  refine ⟨⟨_, K z1 (by decide) (by decide) (by decide) (by decide) (by decide)⟩, ⟨_, _, _, _, _, _, _, _, _, K z2 (by decide) (by decide) (by decide) (by decide) (by decide)⟩, ⟨_, _, K m1.sn (by decide) (by decide) (by decide) (by decide) (by decide)⟩, ⟨_, _, K m2.sn (by decide) (by decide) (by decide) (by decide) (by decide)⟩, ?_, g2, ?_, own_ls o2, ?_, ?_⟩
  · exact k5.blk g1 (by rintro (e | e | e | e | e); exact g1.ne m2'.ap (by decide) e; omega; exact g1.ne hlr2' (by decide) e; exact g1.ne m2'.rd (by decide) e; exact m1.g.ne hn (by decide) e)
  · refine own_ls (own_kp o1 k5 (fun i hi => ?_))
    cases hi
    rintro (e | e | e | e | e)
    · exact hlo1.ne m2'.ap (by decide) e
    · exact hlo1.ne m2'.g (by decide) e
    · have e' : rb1 = B2.rb := e
      rcases r1 with r | r <;> omega
    · exact hlo1.ne m2'.rd (by decide) e
    · have e' : rb1 = nb := e
      rcases r1 with r | r
      · exact hlr1.ne hn (by decide) (r ▸ e')
      · have := hn.lt; omega
  · refine (lo.kp k4 (fun q hq => ?_)).kp k5 (fun q hq => ?_)
    · obtain ⟨h1, h2, l, hl⟩ := ho q hq
      rintro (e | e | e | e | e)
      · exact hl.ne m1.ap (by decide) e
      · omega
      · omega
      · exact hl.ne m1.rd (by decide) e
      · exact hl.ne hn (by decide) e
    · obtain ⟨h1, h2, l, hl⟩ := ho q hq
      rintro (e | e | e | e | e)
      · exact hl.ne m2.ap (by decide) e
      · exact hl.ne m2.g (by decide) e
      · exact h2 e
      · exact hl.ne m2.rd (by decide) e
      · exact hl.ne hn (by decide) e
  · intro ho
    have h4 := (k4' ho).blk hn (by rintro (e | e); exact hn.ne m1.ap (by decide) e; exact hn.ne m1.rd (by decide) e)
    exact (k5' ho).blk h4 (by rintro (e | e); exact h4.ne m2'.ap (by decide) e; exact h4.ne m2'.rd (by decide) e)

end Go.Proofs.YbulkadugFmt

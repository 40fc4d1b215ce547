/-
  LawS1488ANilStep over toys/ybulkadugfmt: the law's closure; (*applier).carryOut.
-/
import Derived.Test.YbulkadugFmtLose
namespace Go.Proofs.YbulkadugFmt
open Go.RowKit
attribute [local go_sem ↓] Go.wp_at_zero Go.wp_at_succ

theorem eqF0 (w : World) : Sem.run Ybaf.prog (binOp .eql 38 .nilFunc .nilFunc) w = .ok (.bool true) w := by kernel_rfl
theorem eqF1 (w : World) (p : Value) : Sem.run Ybaf.prog (binOp .eql 38 (.func (.func 6) #[] #[p]) .nilFunc) w = .ok (.bool false) w := by kernel_rfl

set_option maxHeartbeats 1000000 in
theorem clos_any (nb k : Nat) (x0 x1 x2 x3 : Value) (w : World) (h : Blk w nb 3 [.int .i64 (k : Nat)]) (hk : k ≤ 100) :
    Calls Ybaf.prog 6 #[.agg #[x0, x1, x2, x3], .pointer (some ⟨nb, 0, none⟩)] w fun e w' => e = .returned (.tuple #[]) ∧ Blk w' nb 3 [.int .i64 ((k + 1 : Nat) : Int)] ∧ Kp (· = nb) w w' := by
  have c0 := h.at_ 0 rfl
  have f0 := h.frozen 0
  have hl := h.lt
  have HB : Hid (Blk w nb 3 [.int .i64 (k : Nat)]) := h
  clear h
  go_enter Ybaf.func6, Ybaf.ntmps6
  go_wp2_with fail
  go_end0
  exact ⟨rfl, (HB.out.set 0 _).alloc _, ((Kp.refl (· = nb) w).setCell (.inl rfl) _).alloc _⟩

/-- What carryOut finds. -/
structure CS (w : World) (ab sb svb gp rb cap base nb rf n k : Nat) (oq : Option Nat) (st : Nat → Nat) (L : List Int) (c : Int) (gn : ByteArray) (p1 p2 p4 p5 p6 p7 x1 y1 y2 y3 y4 y5 y6 : Value) : Prop where
  seen : Seen w ab oq (.pointer (some ⟨sb, 0, none⟩)) p1 p2 (.pointer none) p4 p5 p6 p7 n
  sn : Blk w sb 50 [.slice (some ⟨svb, 0, none⟩) 4 4, y1, y2, y3, y4, y5, y6]
  sv : Blk w svb 58 (srvL st)
  g : Blk w gp 41 [.string gn, x1, .int .i64 (rf : Nat), .slice (some ⟨rb, 0, none⟩) L.length cap, .int .i64 c]
  own : w.ownsRow base 21 1 (.slice (some ⟨rb, 0, none⟩) L.length cap) L.length (L.map (.int .i32 ·))
  nn : Blk w nb 3 [.int .i64 (k : Nat)]

section
variable {w w' : World} {ab sb svb gp rb cap base nb rf n k : Nat} {oq : Option Nat} {st : Nat → Nat} {L : List Int} {c : Int} {gn : ByteArray} {p1 p2 p4 p5 p6 p7 x1 y1 y2 y3 y4 y5 y6 : Value}
theorem CS.ne (h : CS w ab sb svb gp rb cap base nb rf n k oq st L c gn p1 p2 p4 p5 p6 p7 x1 y1 y2 y3 y4 y5 y6) : (sb ≠ ab ∧ svb ≠ ab ∧ gp ≠ ab ∧ rb ≠ ab ∧ nb ≠ ab) ∧ (sb ≠ nb ∧ svb ≠ nb ∧ gp ≠ nb ∧ rb ≠ nb) ∧ (∀ q, oq = some q → q ≠ sb ∧ q ≠ svb ∧ q ≠ gp ∧ q ≠ rb ∧ q ≠ nb ∧ q ≠ ab) ∧ (sb ≠ gp ∧ svb ≠ gp ∧ rb ≠ gp ∧ sb ≠ rb ∧ svb ≠ rb) := by
  obtain ⟨sv, hA⟩ := h.seen.blk
  obtain ⟨lr, hlr⟩ := own_blk h.own
  refine ⟨⟨h.sn.ne hA (by decide), h.sv.ne hA (by decide), h.g.ne hA (by decide), hlr.ne hA (by decide), h.nn.ne hA (by decide)⟩, ⟨h.sn.ne h.nn (by decide), h.sv.ne h.nn (by decide), h.g.ne h.nn (by decide), hlr.ne h.nn (by decide)⟩, ?_, ⟨h.sn.ne h.g (by decide), h.sv.ne h.g (by decide), hlr.ne h.g (by decide), h.sn.ne hlr (by decide), h.sv.ne hlr (by decide)⟩⟩
  rintro q rfl
  obtain ⟨hA, f, h2, _⟩ := h.seen
  obtain ⟨l, hl⟩ := rowIs_blk h2
  exact ⟨hl.ne h.sn (by decide), hl.ne h.sv (by decide), hl.ne h.g (by decide), hl.ne hlr (by decide), hl.ne h.nn (by decide), hl.ne hA (by decide)⟩
theorem CS.vote {qb : Nat} (h : CS w ab sb svb gp rb cap base nb rf n k oq st L c gn p1 p2 p4 p5 p6 p7 x1 y1 y2 y3 y4 y5 y6) (hs : Seen w' ab (some qb) (.pointer (some ⟨sb, 0, none⟩)) p1 p2 (.pointer none) p4 p5 p6 p7 (n + 1)) (hk : Kp (fun k => k = ab ∨ oq = some k) w w') : CS w' ab sb svb gp rb cap base nb rf (n + 1) k (some qb) st L c gn p1 p2 p4 p5 p6 p7 x1 y1 y2 y3 y4 y5 y6 := by
  obtain ⟨⟨a1, a2, a3, a4, a5⟩, _, h3, _⟩ := h.ne
  exact ⟨hs, hk.blk h.sn (fun e => e.elim a1 (fun e => (h3 _ e).1 rfl)), hk.blk h.sv (fun e => e.elim a2 (fun e => (h3 _ e).2.1 rfl)), hk.blk h.g (fun e => e.elim a3 (fun e => (h3 _ e).2.2.1 rfl)),
    own_kp h.own hk (fun i hi => by cases hi; exact fun e => e.elim a4 (fun e => (h3 _ e).2.2.2.1 rfl)), hk.blk h.nn (fun e => e.elim a5 (fun e => (h3 _ e).2.2.2.2.1 rfl))⟩
theorem CS.clos (h : CS w ab sb svb gp rb cap base nb rf n k oq st L c gn p1 p2 p4 p5 p6 p7 x1 y1 y2 y3 y4 y5 y6) (hn : Blk w' nb 3 [.int .i64 ((k + 1 : Nat) : Int)]) (hk : Kp (· = nb) w w') : CS w' ab sb svb gp rb cap base nb rf n (k + 1) oq st L c gn p1 p2 p4 p5 p6 p7 x1 y1 y2 y3 y4 y5 y6 := by
  obtain ⟨⟨_, _, _, _, a5⟩, ⟨b1, b2, b3, b4⟩, h3, _⟩ := h.ne
  exact ⟨h.seen.kp hk (fun e => a5 e.symm) (fun q hq => (h3 q hq).2.2.2.2.1), hk.blk h.sn b1, hk.blk h.sv b2, hk.blk h.g b3, own_kp h.own hk (fun i hi => by cases hi; exact b4), hn⟩
theorem CS.move {rb' cap' : Nat} {L' : List Int} {c' : Int} (h : CS w ab sb svb gp rb cap base nb rf n k oq st L c gn p1 p2 p4 p5 p6 p7 x1 y1 y2 y3 y4 y5 y6) (hg : Blk w' gp 41 [.string gn, x1, .int .i64 (rf : Nat), .slice (some ⟨rb', 0, none⟩) L'.length cap', .int .i64 c']) (ho : w'.ownsRow base 21 1 (.slice (some ⟨rb', 0, none⟩) L'.length cap') L'.length (L'.map (.int .i32 ·))) (hk : Kp (fun k => k = gp ∨ k = rb) w w') : CS w' ab sb svb gp rb' cap' base nb rf n k oq st L' c' gn p1 p2 p4 p5 p6 p7 x1 y1 y2 y3 y4 y5 y6 := by
  obtain ⟨⟨_, _, a3, a4, _⟩, ⟨_, _, b3, b4⟩, h3, ⟨e1, e2, _, e4, e5⟩⟩ := h.ne
  exact ⟨h.seen.kp hk (fun e => e.elim (fun e => a3 e.symm) (fun e => a4 e.symm)) (fun q hq e => e.elim (h3 q hq).2.2.1 (h3 q hq).2.2.2.1), hk.blk h.sn (fun e => e.elim e1 e4), hk.blk h.sv (fun e => e.elim e2 e5), hg, ho, hk.blk h.nn (fun e => e.elim (fun e => b3 e.symm) (fun e => b4 e.symm))⟩
end

set_option maxRecDepth 100000 in
set_option maxHeartbeats 1000000 in
theorem carry_nil (ab gp rb cap base : Nat) (L : List Int) (f t c : Int) (x0 x1 x2 rs : Value) (w : World) (a3 : w.cell? ⟨ab, 3, none⟩ = some (.pointer none)) (hg : Blk w gp 41 [x0, x1, x2, .slice (some ⟨rb, 0, none⟩) L.length cap, .int .i64 c]) (hr : w.ownsRow base 21 1 (.slice (some ⟨rb, 0, none⟩) L.length cap) L.length (L.map (.int .i32 ·)))
    (hf : 0 ≤ f → f ∈ L) (hl : L.length ≤ 1024) (hb : base ≤ w.heap.size) (hc0 : -10 ≤ c) (hc1 : c ≤ 100) (hf0 : -2 ≤ f) (hf1 : f ≤ 3) (ht0 : -2 ≤ t) (ht1 : t ≤ 3) :
    Calls Ybaf.prog 16 #[.pointer (some ⟨ab, 0, none⟩), .pointer (some ⟨gp, 0, none⟩), .int .i32 f, .int .i32 t, rs, .nilFunc] w fun e w' => MP w gp base x0 x1 x2 c rb (aft L f t) e w' := by
  have HM := move_any gp rb cap base L f t c x0 x1 x2 w hg hr hf hl hb hc0 hc1 hf0 hf1 ht0 ht1
  have HMH : Hid (Calls Ybaf.prog 24 #[.pointer (some ⟨gp, 0, none⟩), .int .i32 f, .int .i32 t] w fun e w' => MP w gp base x0 x1 x2 c rb (aft L f t) e w') := HM
  clear HM hg hr hf
  have hq := eqF0
  go_enter Ybaf.func16, Ybaf.ntmps16
  go_wp2_with fail
  refine (Calls.mono HMH.out ?_)
  rintro e w1 ⟨rfl, hmp⟩
  go_wp2_with fail
  go_end0
  exact ⟨rfl, hmp⟩

/-- What carryOut leaves. -/
def CP (w : World) (ab gp rb base nb : Nat) (oq : Option Nat) (x0 x1 x2 : Value) (c : Int) (L : List Int) (e : Ending) (w' : World) : Prop :=
  e = .returned (.tuple #[]) ∧ ∃ rb' cap', Blk w' gp 41 [x0, x1, x2, .slice (some ⟨rb', 0, none⟩) L.length cap', .int .i64 (c + 1)] ∧ w'.ownsRow base 21 1 (.slice (some ⟨rb', 0, none⟩) L.length cap') L.length (L.map (.int .i32 ·)) ∧ Kp (fun k => k = ab ∨ k = gp ∨ k = rb ∨ k = nb ∨ oq = some k) w w' ∧ (rb' = rb ∨ w.heap.size ≤ rb')

set_option maxRecDepth 100000 in
set_option maxHeartbeats 4000000 in
theorem carry_step (ab sb svb gp rb cap base nb rf n k : Nat) (oq : Option Nat) (st : Nat → Nat) (L : List Int) (f t c : Int) (gn : ByteArray) (p1 p2 p4 p5 p6 p7 x1 y1 y2 y3 y4 y5 y6 rs : Value) (w : World) (h : CS w ab sb svb gp rb cap base nb rf n k oq st L c gn p1 p2 p4 p5 p6 p7 x1 y1 y2 y3 y4 y5 y6)
    (hLr : ∀ x, x ∈ L → 0 ≤ x ∧ x < 4) (hf : 0 ≤ f → f ∈ L) (hl : L.length ≤ 1024) (hb : base ≤ w.heap.size) (hc0 : -10 ≤ c) (hc1 : c ≤ 100) (hf0 : -2 ≤ f) (hf1 : f ≤ 3) (ht0 : -2 ≤ t) (ht1 : t ≤ 3) (hn : n ≤ 10) (hk : k ≤ 10) :
    Calls Ybaf.prog 16 #[.pointer (some ⟨ab, 0, none⟩), .pointer (some ⟨gp, 0, none⟩), .int .i32 f, .int .i32 t, rs, .func (.func 6) #[] #[.pointer (some ⟨nb, 0, none⟩)]] w fun e w' => CP w ab gp rb base nb oq (.string gn) x1 (.int .i64 (rf : Nat)) c (aft L f t) e w' := by
  have a3 := (h.seen.blk.choose_spec).at_ 3 rfl
  have hq := eqF1
  have hLr' : ∀ x, x ∈ aft L f t → 0 ≤ x ∧ x < 4 := by
    intro x hx
    unfold aft at hx
    rcases List.mem_append.1 hx with hx | hx
    · split at hx
      · exact hLr x (List.mem_of_mem_erase hx)
      · exact hLr x hx
    · split at hx
      · simp at hx; omega
      · simp at hx
  have hlA : (aft L f t).length ≤ 1025 := by
    unfold aft
    rw [List.length_append]
    have e1 : (if 0 ≤ f then L.erase f else L).length ≤ 1024 := by
      split
      · exact Nat.le_trans List.length_erase_le hl
      · exact hl
    have e2 : (if 0 ≤ t then [t] else []).length ≤ 1 := by split <;> simp
    omega
  by_cases htp : 0 ≤ t
  · obtain ⟨r, rfl⟩ : ∃ r : Nat, t = (r : Int) := ⟨t.toNat, by omega⟩
    have z0 : (0 : Int) ≤ (r : Int) := by omega
    have z1 : (r : Int) < 4 := by omega
    go_enter Ybaf.func16, Ybaf.ntmps16
    go_wp2_with fail
    refine (vote_any ab sb svb gp rb cap base n oq st L p1 p2 (.pointer none) p4 p5 p6 p7 (.string gn) x1 _ _ y1 y2 y3 y4 y5 y6 w h.seen h.sn h.sv h.g h.own hLr (by omega) (by omega)).mono ?_
    rintro e w1 ⟨rfl, qb, hs1, hq1, hk1⟩
    have h1 := h.vote hs1 hk1
    have hvl : vot st L L.length ≤ 2000 := Nat.le_trans (vot_le st L _) (by omega)
    generalize vot st L L.length = vv at *
    obtain ⟨u0, _, _⟩ := srv_at h1.sv (show r < 4 by omega)
    have a0 := h1.seen.1.at_ 0 rfl
    have s0 := h1.sn.at_ 0 rfl
    have g0 := h1.g.at_ 0 rfl
    go_wp2_with fail
    refine (clos_any nb k _ _ _ _ w1 h1.nn (by omega)).mono ?_
    rintro e w2 ⟨rfl, hn2, hk2⟩
    have h2 := h1.clos hn2 hk2
    clear u0 a0 s0 g0
    have g0 := h2.g.at_ 0 rfl
    go_wp2_with fail
    refine (clos_any nb (k + 1) _ _ _ _ w2 h2.nn (by omega)).mono ?_
    rintro e w3 ⟨rfl, hn3, hk3⟩
    have h3 := h2.clos hn3 hk3
    have hK3 : Kp (fun k => k = ab ∨ k = gp ∨ k = rb ∨ k = nb ∨ oq = some k) w w3 := (((hk1.mono (Y := (fun k => k = ab ∨ k = gp ∨ k = rb ∨ k = nb ∨ oq = some k)) (fun i _ e => e.elim .inl (fun e => .inr (.inr (.inr (.inr e)))))).trans hk2 (fun i _ e => .inr (.inr (.inr (.inl e))))).trans hk3 (fun i _ e => .inr (.inr (.inr (.inl e)))))
    clear g0
    go_wp2_with fail
    refine (move_any gp rb cap base L f (r : Int) c (.string gn) x1 (.int .i64 (rf : Nat)) w3 h3.g h3.own hf hl (Nat.le_trans hb hK3.size) hc0 hc1 hf0 hf1 (by omega) (by omega)).mono ?_
    rintro e w4 ⟨rfl, rb', cap', hg4, ho4, hk4, hr4⟩
    have h4 := h3.move hg4 ho4 hk4
    have HG4 : Hid (_ ∧ _) := ⟨hg4, ho4⟩
    have HR4 : Hid (rb' = rb ∨ w.heap.size ≤ rb') := hr4.imp id (Nat.le_trans hK3.size)
    have HK4 : Hid (Kp (fun k => k = ab ∨ k = gp ∨ k = rb ∨ k = nb ∨ oq = some k) w w4) := hK3.trans hk4 (fun i _ e => e.elim (fun e => .inr (.inl e)) (fun e => .inr (.inr (.inl e))))
    clear h h1 h2 h3 hs1 hk1 hn2 hk2 hn3 hk3 hK3 hg4 ho4 hk4 hr4 hLr hf
    by_cases hfp : 0 ≤ f
    · obtain ⟨r2, rfl⟩ : ∃ r : Nat, f = (r : Int) := ⟨f.toNat, by omega⟩
      obtain ⟨u0', _, _⟩ := srv_at h4.sv (show r2 < 4 by omega)
      have a0' := (h4.seen.blk.choose_spec).at_ 0 rfl
      have s0' := h4.sn.at_ 0 rfl
      have g0' := h4.g.at_ 0 rfl
      have z2 : (0 : Int) ≤ (r2 : Int) := by omega
      have z3 : (r2 : Int) < 4 := by omega
      have HREG : Hid (∀ d, Calls Ybaf.prog 25 #[.pointer (some ⟨ab, 0, none⟩), .pointer (some ⟨gp, 0, none⟩)] (w4.drewN d) fun e w' => (∃ v : Nat, e = .returned (.int .i64 (v : Nat))) ∧ Blk w' nb 3 [.int .i64 ((k + 1 + 1 : Nat) : Int)] ∧ Blk w' gp 41 [.string gn, x1, .int .i64 (rf : Nat), .slice (some ⟨rb', 0, none⟩) (aft L r2 r).length cap', .int .i64 (c + 1)] ∧ w'.ownsRow base 21 1 (.slice (some ⟨rb', 0, none⟩) (aft L r2 r).length cap') (aft L r2 r).length ((aft L r2 r).map (.int .i32 ·)) ∧ (w'.cell? ⟨gp, 0, none⟩ = some (.string gn) ∧ w'.cell? ⟨ab, 0, none⟩ = some (.pointer (some ⟨sb, 0, none⟩)) ∧ w'.cell? ⟨sb, 0, none⟩ = some (.slice (some ⟨svb, 0, none⟩) 4 4) ∧ w'.cell? ⟨svb, r2 * 5, none⟩ = some (.string (idS r2))) ∧ nb ≠ gp ∧ Kp (fun k => k = ab ∨ k = gp ∨ k = rb ∨ k = nb ∨ oq = some k) w w') := fun d =>
        (vote_any ab sb svb gp rb' cap' base (n + 1) (some qb) st (aft L r2 r) p1 p2 (.pointer none) p4 p5 p6 p7 (.string gn) x1 _ _ y1 y2 y3 y4 y5 y6 (w4.drewN d) h4.seen h4.sn h4.sv h4.g h4.own hLr' (by omega) (by omega)).mono fun e w5 ⟨he, qb5, hs5, hq5, hk5⟩ => by
          have hk5' : Kp (fun k => k = ab ∨ (some qb) = some k) w4 w5 := ⟨hk5.os, hk5.tape, hk5.output, hk5.size, hk5.block⟩
          have h5 := h4.vote hs5 hk5'
          exact ⟨⟨_, he⟩, h5.nn, h5.g, h5.own, ⟨h5.g.at_ 0 rfl, h5.seen.1.at_ 0 rfl, h5.sn.at_ 0 rfl, (srv_at h5.sv (show r2 < 4 by omega)).1⟩, (fun e => h5.ne.2.1.2.2.1 e.symm), HK4.out.trans hk5' (fun i hi e => by
            rcases e with e | e
            · exact .inl e
            · (cases e; rcases hq1 with e | e; exact .inr (.inr (.inr (.inr e))); omega))⟩
      clear h4
      go_wp2_with fail
      go_region_with (first
        | (go_at_call 25; refine (Calls.mono (HREG.out _) ?_); rintro e w5 ⟨⟨v5, rfl⟩, hn5, hg5, ho5, ⟨b0, b1, b2, b3⟩, hne5, hk5⟩)
        | (refine (clos_any nb (k + 1 + 1) _ _ _ _ _ hn5 (by omega)).mono ?_; rintro e w6 ⟨rfl, hn6, hk6⟩))
      all_goals
        go_wp2_with fail
        go_end0
        exact ⟨rfl, rb', cap', (hk6.blk hg5 (fun e => hne5 e.symm)), own_kp ho5 hk6 (fun i hi => by cases hi; exact (own_ne ho5 hn5 (by decide))), (hk5.trans hk6 (fun i hi e => .inr (.inr (.inr (.inl e))))), HR4.out⟩
    · clear h4
      go_wp2_with fail
      go_end0
      exact ⟨rfl, rb', cap', HG4.out.1, HG4.out.2, HK4.out, HR4.out⟩
  · go_enter Ybaf.func16, Ybaf.ntmps16
    go_wp2_with fail
    refine (move_any gp rb cap base L f t c (.string gn) x1 (.int .i64 (rf : Nat)) w h.g h.own hf hl hb hc0 hc1 hf0 hf1 (by omega) (by omega)).mono ?_
    rintro e w4 ⟨rfl, rb', cap', hg4, ho4, hk4, hr4⟩
    have h4 := h.move hg4 ho4 hk4
    have HG4 : Hid (_ ∧ _) := ⟨hg4, ho4⟩
    have HR4 : Hid (rb' = rb ∨ w.heap.size ≤ rb') := hr4
    have HK4 : Hid (Kp (fun k => k = ab ∨ k = gp ∨ k = rb ∨ k = nb ∨ oq = some k) w w4) := hk4.mono (fun i _ e => e.elim (fun e => .inr (.inl e)) (fun e => .inr (.inr (.inl e))))
    clear h hg4 ho4 hk4 hr4 hLr hf
    by_cases hfp : 0 ≤ f
    · obtain ⟨r2, rfl⟩ : ∃ r : Nat, f = (r : Int) := ⟨f.toNat, by omega⟩
      obtain ⟨u0', _, _⟩ := srv_at h4.sv (show r2 < 4 by omega)
      have a0' := (h4.seen.blk.choose_spec).at_ 0 rfl
      have s0' := h4.sn.at_ 0 rfl
      have g0' := h4.g.at_ 0 rfl
      have z2 : (0 : Int) ≤ (r2 : Int) := by omega
      have z3 : (r2 : Int) < 4 := by omega
      have HREG : Hid (∀ d, Calls Ybaf.prog 25 #[.pointer (some ⟨ab, 0, none⟩), .pointer (some ⟨gp, 0, none⟩)] (w4.drewN d) fun e w' => (∃ v : Nat, e = .returned (.int .i64 (v : Nat))) ∧ Blk w' nb 3 [.int .i64 ((k : Nat) : Int)] ∧ Blk w' gp 41 [.string gn, x1, .int .i64 (rf : Nat), .slice (some ⟨rb', 0, none⟩) (aft L r2 t).length cap', .int .i64 (c + 1)] ∧ w'.ownsRow base 21 1 (.slice (some ⟨rb', 0, none⟩) (aft L r2 t).length cap') (aft L r2 t).length ((aft L r2 t).map (.int .i32 ·)) ∧ (w'.cell? ⟨gp, 0, none⟩ = some (.string gn) ∧ w'.cell? ⟨ab, 0, none⟩ = some (.pointer (some ⟨sb, 0, none⟩)) ∧ w'.cell? ⟨sb, 0, none⟩ = some (.slice (some ⟨svb, 0, none⟩) 4 4) ∧ w'.cell? ⟨svb, r2 * 5, none⟩ = some (.string (idS r2))) ∧ nb ≠ gp ∧ Kp (fun k => k = ab ∨ k = gp ∨ k = rb ∨ k = nb ∨ oq = some k) w w') := fun d =>
        (vote_any ab sb svb gp rb' cap' base n oq st (aft L r2 t) p1 p2 (.pointer none) p4 p5 p6 p7 (.string gn) x1 _ _ y1 y2 y3 y4 y5 y6 (w4.drewN d) h4.seen h4.sn h4.sv h4.g h4.own hLr' (by omega) (by omega)).mono fun e w5 ⟨he, qb5, hs5, hq5, hk5⟩ => by
          have hk5' : Kp (fun k => k = ab ∨ oq = some k) w4 w5 := ⟨hk5.os, hk5.tape, hk5.output, hk5.size, hk5.block⟩
          have h5 := h4.vote hs5 hk5'
          exact ⟨⟨_, he⟩, h5.nn, h5.g, h5.own, ⟨h5.g.at_ 0 rfl, h5.seen.1.at_ 0 rfl, h5.sn.at_ 0 rfl, (srv_at h5.sv (show r2 < 4 by omega)).1⟩, (fun e => h5.ne.2.1.2.2.1 e.symm), HK4.out.trans hk5' (fun i hi e => by
            rcases e with e | e
            · exact .inl e
            · exact .inr (.inr (.inr (.inr e))))⟩
      clear h4
      go_wp2_with fail
      go_region_with (first
        | (go_at_call 25; refine (Calls.mono (HREG.out _) ?_); rintro e w5 ⟨⟨v5, rfl⟩, hn5, hg5, ho5, ⟨b0, b1, b2, b3⟩, hne5, hk5⟩)
        | (refine (clos_any nb (k) _ _ _ _ _ hn5 (by omega)).mono ?_; rintro e w6 ⟨rfl, hn6, hk6⟩))
      all_goals
        go_wp2_with fail
        go_end0
        exact ⟨rfl, rb', cap', (hk6.blk hg5 (fun e => hne5 e.symm)), own_kp ho5 hk6 (fun i hi => by cases hi; exact (own_ne ho5 hn5 (by decide))), (hk5.trans hk6 (fun i hi e => .inr (.inr (.inr (.inl e))))), HR4.out⟩
    · clear h4
      go_wp2_with fail
      go_end0
      exact ⟨rfl, rb', cap', HG4.out.1, HG4.out.2, HK4.out, HR4.out⟩

end Go.Proofs.YbulkadugFmt

/-
  LawS1488ANilStep over toys/ybulkadugfmt: (*applier).voters.
-/
import Derived.Test.YbulkadugFmtMove
namespace Go.Proofs.YbulkadugFmt
open Go.RowKit
attribute [local go_sem ↓] Go.wp_at_zero Go.wp_at_succ

theorem Ybaf.info75 : (Ybaf.prog.info? 75).map (fun i => (i.zero, i.size, i.bytes)) = some (some (.int .u32 0), 1, 4) := by kernel_rfl

/-- A server's cells. -/
def srv (st : Nat → Nat) (k : Nat) : List Value := [.string (idS k), .string ⟨#[47, 97]⟩, .map none, .int .i64 (st k : Nat), .pointer none]
def srvL (st : Nat → Nat) : List Value := srv st 0 ++ srv st 1 ++ srv st 2 ++ srv st 3

theorem srv_at {w : World} {b : Nat} {st : Nat → Nat} (h : Blk w b 58 (srvL st)) {k : Nat} (hk : k < 4) : w.cell? ⟨b, k * 5, none⟩ = some (.string (idS k)) ∧ w.cell? ⟨b, k * 5 + 3, none⟩ = some (.int .i64 (st k : Nat)) ∧ w.cell? ⟨b, k * 5 + 4, none⟩ = some (.pointer none) := by
  rcases (by omega : k = 0 ∨ k = 1 ∨ k = 2 ∨ k = 3) with rfl | rfl | rfl | rfl
  all_goals exact ⟨h.at_ _ rfl, h.at_ _ rfl, h.at_ _ rfl⟩

/-- The applier's notes on whom it has seen. -/
def Seen (w : World) (ab : Nat) (oq : Option Nat) (p0 p1 p2 p3 p4 p5 p6 p7 : Value) (n : Nat) : Prop :=
  match oq with
  | none => Blk w ab 77 [p0, p1, p2, p3, p4, p5, p6, p7, .slice none 0 0, .int .u32 (n : Nat)]
  | some qb => Blk w ab 77 [p0, p1, p2, p3, p4, p5, p6, p7, .slice (some ⟨qb, 0, none⟩) 4 4, .int .u32 (n : Nat)] ∧ ∃ f : Nat → Int, w.rowIs qb 75 4 (fun i => .int .u32 (f i)) ∧ ∀ i, i < 4 → 0 ≤ f i ∧ f i ≤ n
theorem Seen.blk {w : World} {ab : Nat} {oq : Option Nat} {p0 p1 p2 p3 p4 p5 p6 p7 : Value} {n : Nat} (h : Seen w ab oq p0 p1 p2 p3 p4 p5 p6 p7 n) : ∃ sv, Blk w ab 77 [p0, p1, p2, p3, p4, p5, p6, p7, sv, .int .u32 (n : Nat)] := by
  cases oq with
  | none => exact ⟨_, h⟩
  | some q => exact ⟨_, h.1⟩
theorem Seen.kp {X : Nat → Prop} {w w' : World} {ab : Nat} {oq : Option Nat} {p0 p1 p2 p3 p4 p5 p6 p7 : Value} {n : Nat} (h : Seen w ab oq p0 p1 p2 p3 p4 p5 p6 p7 n) (k : Kp X w w') (h1 : ¬ X ab) (h2 : ∀ q, oq = some q → ¬ X q) : Seen w' ab oq p0 p1 p2 p3 p4 p5 p6 p7 n := by
  cases oq with
  | none => exact k.blk h h1
  | some q =>
    obtain ⟨hb, f, hr, hf⟩ := h
    exact ⟨k.blk hb h1, f, hr.of_block (k.block q hr.lt (h2 q rfl)), hf⟩
theorem rowIs_blk {w : World} {b t n : Nat} {f : Nat → Value} (h : w.rowIs b t n f) : ∃ l, Blk w b t l := by
  obtain ⟨c, hh, _⟩ := h
  exact ⟨c.toList, by unfold Blk; rw [hh]⟩
theorem own_blk {w : World} {base rb cap n : Nat} {xs : List Value} (h : w.ownsRow base 21 1 (.slice (some ⟨rb, 0, none⟩) n cap) n xs) : ∃ l, Blk w rb 21 l := by
  rcases h.2 with ⟨e, _⟩ | ⟨g, _, cur, e, _, hh, _⟩
  · cases e
  · cases e
    exact ⟨cur.toList, by unfold Blk; rw [hh]⟩

/-- The voters among the first k listings. -/
def vot (st : Nat → Nat) (L : List Int) : Nat → Nat
  | 0 => 0
  | k + 1 => vot st L k + if ¬ (L.getD k 0 ∈ L.take k) ∧ st (L.getD k 0).toNat ≠ 2 then 1 else 0
theorem vot_le (st : Nat → Nat) (L : List Int) : ∀ k, vot st L k ≤ k
  | 0 => Nat.le_refl _
  | k + 1 => by have := vot_le st L k; simp only [vot]; split <;> omega

theorem up_any (b off s : Nat) (w : World) (h : w.cell? ⟨b, off + 3, none⟩ = some (.int .i64 (s : Nat))) :
    Calls Ybaf.prog 29 #[.pointer (some ⟨b, off, none⟩)] w fun e w' => e = .returned (.bool (decide (s ≠ 2))) ∧ ∃ d, w' = w.drewN d := by
  have HE : Hid ((!decide ((s : Int) = 2)) = decide (s ≠ 2)) := by
    show (!decide ((s : Int) = 2)) = decide (s ≠ 2)
    by_cases e : s = 2
    · subst e; rfl
    · have : ¬ (s : Int) = 2 := by omega
      simp [e, this]
  go_enter Ybaf.func29, Ybaf.ntmps29
  go_wp2_with fail
  go_ret
  exact ⟨by rw [← HE.out]; rfl, 0, rfl⟩

theorem vot_step {st : Nat → Nat} {L : List Int} {k : Nat} (hk : k < L.length) : vot st L (k + 1) = vot st L k + if ¬ (L[k] ∈ L.take k) ∧ st L[k].toNat ≠ 2 then 1 else 0 := by
  simp only [vot]
  rw [show L.getD k 0 = L[k] by simp [hk]]

set_option maxRecDepth 100000 in
set_option maxHeartbeats 2000000 in
theorem vote_any (ab sb svb gp rb cap base n : Nat) (oq : Option Nat) (st : Nat → Nat) (L : List Int) (p1 p2 p3 p4 p5 p6 p7 x0 x1 x2 x4 y1 y2 y3 y4 y5 y6 : Value) (w : World) (hS : Seen w ab oq (.pointer (some ⟨sb, 0, none⟩)) p1 p2 p3 p4 p5 p6 p7 n)
    (hsn : Blk w sb 50 [.slice (some ⟨svb, 0, none⟩) 4 4, y1, y2, y3, y4, y5, y6]) (hsv : Blk w svb 58 (srvL st)) (hg : Blk w gp 41 [x0, x1, x2, .slice (some ⟨rb, 0, none⟩) L.length cap, x4]) (hr : w.ownsRow base 21 1 (.slice (some ⟨rb, 0, none⟩) L.length cap) L.length (L.map (.int .i32 ·))) (hLr : ∀ x, x ∈ L → 0 ≤ x ∧ x < 4) (hl : L.length ≤ 2000) (hn : n ≤ 100) :
    Calls Ybaf.prog 25 #[.pointer (some ⟨ab, 0, none⟩), .pointer (some ⟨gp, 0, none⟩)] w fun e w' => e = .returned (.int .i64 (vot st L L.length : Nat)) ∧ ∃ qb, Seen w' ab (some qb) (.pointer (some ⟨sb, 0, none⟩)) p1 p2 p3 p4 p5 p6 p7 (n + 1) ∧ (oq = some qb ∨ w.heap.size ≤ qb) ∧ Kp (fun k => k = ab ∨ oq = some k) w w' := by
  obtain ⟨oa, m, hA, hq⟩ : ∃ (oa : Option Addr) (m : Nat), Blk w ab 77 [.pointer (some ⟨sb, 0, none⟩), p1, p2, p3, p4, p5, p6, p7, .slice oa m m, .int .u32 (n : Nat)] ∧ ((oa = none ∧ m = 0 ∧ oq = none) ∨ ∃ (qb : Nat) (f : Nat → Int), oa = some ⟨qb, 0, none⟩ ∧ m = 4 ∧ oq = some qb ∧ w.rowIs qb 75 4 (fun i => .int .u32 (f i)) ∧ ∀ i, i < 4 → 0 ≤ f i ∧ f i ≤ n) := by
    cases oq with
    | none => exact ⟨none, 0, hS, .inl ⟨rfl, rfl, rfl⟩⟩
    | some q =>
      obtain ⟨h1, f, h2, h3⟩ := hS
      exact ⟨_, 4, h1, .inr ⟨q, f, rfl, rfl, rfl, h2, h3⟩⟩
  clear hS
  have hab := hA.lt
  have a0 := hA.at_ 0 rfl
  have a8 := hA.at_ 8 rfl
  have a9 := hA.at_ 9 rfl
  have f8 := hA.frozen 8
  have f9 := hA.frozen 9
  have s0 := hsn.at_ 0 rfl
  have g3 := hg.at_ 3 rfl
  have l1 := hsn.lt
  have l2 := hg.lt
  have n1 := hsn.ne hA (by decide)
  have n2 := hg.ne hA (by decide)
  have n3 := hsv.ne hA (by decide)
  have n4 := own_ne hr hA (by decide)
  have HQ : Hid ((oa = none ∧ m = 0 ∧ oq = none) ∨ ∃ (qb : Nat) (f : Nat → Int), oa = some ⟨qb, 0, none⟩ ∧ m = 4 ∧ oq = some qb ∧ w.rowIs qb 75 4 (fun i => .int .u32 (f i)) ∧ ∀ i, i < 4 → 0 ≤ f i ∧ f i ≤ n) := hq
  have HA : Hid (Blk w ab 77 [.pointer (some ⟨sb, 0, none⟩), p1, p2, p3, p4, p5, p6, p7, .slice oa m m, .int .u32 (n : Nat)] ∧ Blk w sb 50 [.slice (some ⟨svb, 0, none⟩) 4 4, y1, y2, y3, y4, y5, y6] ∧ Blk w svb 58 (srvL st) ∧ Blk w gp 41 [x0, x1, x2, .slice (some ⟨rb, 0, none⟩) L.length cap, x4] ∧ w.ownsRow base 21 1 (.slice (some ⟨rb, 0, none⟩) L.length cap) L.length (L.map (.int .i32 ·)) ∧ ∀ x, x ∈ L → 0 ≤ x ∧ x < 4) := ⟨hA, hsn, hsv, hg, hr, hLr⟩
  have heq := fun (wx : World) (a : Option Addr) (n c : Nat) => Lib.run_eql_slice_nil (P := Ybaf.prog) wx 74 75 a n c 0 0 Ybaf.underlying74
  have hmk := run_make_row' (P := Ybaf.prog) 74 75 (.int .u32 0) 4 Ybaf.underlying74 Ybaf.info75 rfl .i64 .i64 4 (by omega) (by omega)
  rw [show ((4 : Nat) : Int) = 4 from rfl] at hmk
  clear hA hsn hsv hg hr hLr hq
  go_enter Ybaf.func25, Ybaf.ntmps25
  go_upto_if 12 with fail
  go_cut [12] (fun v wc => ∃ (bv : Bool) (qb : Nat) (f : Nat → Int), v = .bool bv ∧ Blk wc ab 77 [.pointer (some ⟨sb, 0, none⟩), p1, p2, p3, p4, p5, p6, p7, .slice (some ⟨qb, 0, none⟩) 4 4, .int .u32 (n : Nat)] ∧ (oq = some qb ∨ w.heap.size ≤ qb) ∧ wc.rowIs qb 75 4 (fun i => .int .u32 (f i)) ∧ (∀ i, i < 4 → 0 ≤ f i ∧ f i ≤ n) ∧ Kp (fun k => k = ab ∨ oq = some k) w wc)
  case first =>
    rcases HQ.out with ⟨rfl, rfl, rfl⟩ | ⟨qb, f, rfl, rfl, rfl, hrow, hf⟩
    · go_wp2_with fail
      go_meet
      case rel =>
        have hrow := World.rowIs_made (w.setCell ⟨ab, 8, none⟩ (.slice (some ⟨w.heap.size, 0, none⟩) 4 4)) (.int .u32 0) 4 75
        rw [show (w.setCell ⟨ab, 8, none⟩ (.slice (some ⟨w.heap.size, 0, none⟩) 4 4)).heap.size = w.heap.size by simp] at hrow
        exact ⟨true, w.heap.size, fun _ => 0, rfl, (HA.out.1.set 8 _).alloc _, .inr (Nat.le_refl _), hrow, fun i _ => ⟨Int.le_refl 0, by show (0 : Int) ≤ (n : Int); omega⟩, ((Kp.refl (fun k => k = ab ∨ none = some k) w).setCell (.inl (.inl rfl)) _).alloc _⟩
    · go_wp2_with fail
      go_meet
      case rel => exact ⟨false, qb, f, rfl, HA.out.1, .inl rfl, hrow, hf, Kp.refl _ w⟩
  case rest =>
    obtain ⟨bv, qb, f, rfl, hB, hqo, hrow, hf, hk⟩ := hcut
    have HA2 : Hid (Blk w sb 50 [.slice (some ⟨svb, 0, none⟩) 4 4, y1, y2, y3, y4, y5, y6] ∧ Blk w svb 58 (srvL st) ∧ Blk w gp 41 [x0, x1, x2, .slice (some ⟨rb, 0, none⟩) L.length cap, x4] ∧ w.ownsRow base 21 1 (.slice (some ⟨rb, 0, none⟩) L.length cap) L.length (L.map (.int .i32 ·)) ∧ ∀ x, x ∈ L → 0 ≤ x ∧ x < 4) := HA.out.2
    obtain ⟨lq, hlq⟩ := rowIs_blk hrow
    have hnq : qb ≠ ab := hlq.ne hB (by decide)
    have hX : ∀ b t l, Blk w b t l → t ≠ 77 → t ≠ 75 → Blk wc b t l := fun b t l hb ht ht2 => hk.blk hb (by
      rintro (rfl | e)
      · obtain ⟨sv, h77⟩ : ∃ l, Blk w b 77 l := ⟨_, HA.out.1⟩
        exact hb.ne h77 ht rfl
      · rcases HQ.out with ⟨_, _, e2⟩ | ⟨q2, f2, _, _, e2, h2, _⟩
        · rw [e2] at e; cases e
        · rw [e2] at e
          cases e
          obtain ⟨l2, hl2⟩ := rowIs_blk h2
          exact hb.ne hl2 ht2 rfl)
    have hsn := hX _ _ _ HA2.out.1 (by decide) (by decide)
    have hsv := hX _ _ _ HA2.out.2.1 (by decide) (by decide)
    have hg := hX _ _ _ HA2.out.2.2.1 (by decide) (by decide)
    have hLs : Ls wc (some ⟨rb, 0, none⟩) L := by
      obtain ⟨l, hl⟩ := own_blk HA2.out.2.2.2.1
      have h2 := hX _ _ _ hl (by decide) (by decide)
      rcases own_ls HA2.out.2.2.2.1 with h | ⟨b, off, e, hc⟩
      · exact .inl h
      · cases e
        exact .inr ⟨rb, 0, rfl, fun i hi => (World.cell?_of_block (a := ⟨rb, 0 + i, none⟩) (h2.trans hl.symm)).trans (hc i hi)⟩
    obtain ⟨lr, hlr⟩ : ∃ l, Blk wc rb 21 l := by
      obtain ⟨l, hl⟩ := own_blk HA2.out.2.2.2.1
      exact ⟨l, hX _ _ _ hl (by decide) (by decide)⟩
    have m1 := hlq.ne hsn (by decide)
    have m2 := hlq.ne hsv (by decide)
    have m3 := hlq.ne hg (by decide)
    have m4 := hlq.ne hlr (by decide)
    have k1 := hsn.lt
    have k2 := hsv.lt
    have k3 := hg.lt
    have k5 := hrow.lt
    have k6 := hB.lt
    have HW : Hid (Blk (wc.setCell ⟨ab, 9, none⟩ (.int .u32 ((n : Int) + 1))) ab 77 [.pointer (some ⟨sb, 0, none⟩), p1, p2, p3, p4, p5, p6, p7, .slice (some ⟨qb, 0, none⟩) 4 4, .int .u32 ((n : Int) + 1)] ∧ Blk (wc.setCell ⟨ab, 9, none⟩ (.int .u32 ((n : Int) + 1))) sb 50 [.slice (some ⟨svb, 0, none⟩) 4 4, y1, y2, y3, y4, y5, y6] ∧ Blk (wc.setCell ⟨ab, 9, none⟩ (.int .u32 ((n : Int) + 1))) svb 58 (srvL st) ∧ Ls (wc.setCell ⟨ab, 9, none⟩ (.int .u32 ((n : Int) + 1))) (some ⟨rb, 0, none⟩) L ∧ (wc.setCell ⟨ab, 9, none⟩ (.int .u32 ((n : Int) + 1))).rowIs qb 75 4 (fun i => .int .u32 (f i)) ∧ Kp (fun k => k = ab ∨ oq = some k) w (wc.setCell ⟨ab, 9, none⟩ (.int .u32 ((n : Int) + 1)))) :=
      ⟨hB.set 9 _, hsn.other n1 _, hsv.other n3 _, hLs.kp ((Kp.refl (· = ab) wc).setCell (.inl rfl) _) (fun q hq => by cases hq; exact n4), hrow.setOther hnq _, hk.setCell (.inl (.inl rfl)) _⟩
    have g3 := hg.at_ 3 rfl
    have a9 := hB.at_ 9 rfl
    have f9 := hB.frozen 9
    have HLR : Hid (∀ x, x ∈ L → 0 ≤ x ∧ x < 4) := HA2.out.2.2.2.2
    have HF : Hid ((∀ i, i < 4 → 0 ≤ f i ∧ f i ≤ n) ∧ (oq = some qb ∨ w.heap.size ≤ qb)) := ⟨hf, hqo⟩
    clear HQ HA HA2 hX hLs hlr hlq hsn hsv hg hB hrow hf hk hqo heq hmk lq lr a0 a8 f8 s0
    have z1 : IntKind.u32.wrap ((n : Int) + 1) = (n : Int) + 1 := by rw [IntKind.wrap_u32]; omega
    go_wp2_with fail
    generalize wc.setCell _ _ = W0 at HW ⊢
    rw [show ((n : Int) + 1 == 0) = false by rw [beq_eq_false_iff_ne]; omega]
    clear g3 a9 f9 z1
    go_loopw [5, 49] (fun nv c wr => ∃ (k : Nat) (f : Nat → Int), k ≤ L.length ∧ c = .int .i64 k ∧ nv = .int .i64 (vot st L k : Nat) ∧ wr.rowIs qb 75 4 (fun i => .int .u32 (f i)) ∧ (∀ i, i < 4 → 0 ≤ f i ∧ f i ≤ (n : Int) + 1 ∧ (f i = (n : Int) + 1 ↔ (i : Int) ∈ L.take k)) ∧ Kp (· = qb) W0 wr) (fun _ c _ => L.length - (intOf c).toNat)
    case atStart => exact ⟨0, f, Nat.zero_le _, rfl, rfl, HW.out.2.2.2.2.1, fun i hi => by have := HF.out.1 i hi; simp; omega, Kp.refl _ _⟩
    case round =>
      obtain ⟨k, f2, hk, rfl, rfl, hrow, hf, hkp⟩ := hrel
      by_cases hlt : k < L.length
      · have q0 : wr.cell? ⟨rb, k, none⟩ = some (.int .i32 L[k]) := by
          rcases HW.out.2.2.2.1 with e | ⟨b, off, e, hc⟩
          · simp [e] at hlt
          · cases e
            have := hkp.cell (hc k hlt) (fun e => m4 (Eq.symm e))
            rw [Nat.zero_add] at this
            exact this
        have hr4 := HLR.out L[k] (List.getElem_mem hlt)
        have htk : L.take (k + 1) = L.take k ++ [L[k]] := List.take_succ_eq_append_getElem hlt
        have hstep := vot_step (st := st) hlt
        have hvl := vot_le st L k
        generalize L[k] = rv at *
        obtain ⟨r, rfl⟩ : ∃ r : Nat, rv = (r : Int) := ⟨rv.toNat, by omega⟩
        have r4 : r < 4 := by omega
        rw [show (r : Int).toNat = r from rfl] at hstep
        have q1 := hrow.cell r4
        have y1' := hrow.frozen r
        obtain ⟨fr0, fr1, fr2⟩ := hf r r4
        have hBa := hkp.blk HW.out.1 (fun e => hnq (Eq.symm e))
        have a0 := hBa.at_ 0 rfl
        have a8 := hBa.at_ 8 rfl
        have a9 := hBa.at_ 9 rfl
        have s0 := (hkp.blk HW.out.2.1 (fun e => m1 (Eq.symm e))).at_ 0 rfl
        obtain ⟨_, u3, _⟩ := srv_at (hkp.blk HW.out.2.2.1 (fun e => m2 (Eq.symm e))) r4
        have HC : Hid (∀ d, Calls Ybaf.prog 29 #[.pointer (some ⟨svb, r * 5, none⟩)] (wr.drewN d) fun e w' => e = .returned (.bool (decide (st r ≠ 2))) ∧ ∃ d', w' = (wr.drewN d).drewN d') := fun d => up_any svb (r * 5) (st r) (wr.drewN d) u3
        have HNEW : Hid ((wr.setCell ⟨qb, r, none⟩ (.int .u32 ((n : Int) + 1))).rowIs qb 75 4 (fun i => .int .u32 ((fun i => if i = r then (n : Int) + 1 else f2 i) i)) ∧ (∀ i, i < 4 → 0 ≤ (fun i => if i = r then (n : Int) + 1 else f2 i) i ∧ (fun i => if i = r then (n : Int) + 1 else f2 i) i ≤ (n : Int) + 1 ∧ ((fun i => if i = r then (n : Int) + 1 else f2 i) i = (n : Int) + 1 ↔ (i : Int) ∈ L.take (k + 1))) ∧ Kp (· = qb) W0 (wr.setCell ⟨qb, r, none⟩ (.int .u32 ((n : Int) + 1)))) := by
          refine ⟨(hrow.set r _).congr fun i _ => by dsimp only; split <;> rfl, fun i hi => ?_, hkp.setCell (.inl rfl) _⟩
          have h4 := hf i hi
          dsimp only
          rw [htk]
          by_cases e : i = r
          · subst e; simp; omega
          · have e' : ¬ (i : Int) = (r : Int) := by omega
            simp only [e, if_false, List.mem_append, List.mem_singleton, e', or_false]
            exact h4
        have z0 : (0 : Int) ≤ (r : Int) := by omega
        have z4 : (r : Int) < 4 := by omega
        have z5 : (0 : Int) ≤ (k : Int) := by omega
        have z6 : (k : Int) < (L.length : Int) := by omega
        clear hkp hrow hf hBa htk
        by_cases hm : (r : Int) ∈ L.take k
        · have HST : Hid (vot st L (k + 1) = vot st L k) := by
            show vot st L (k + 1) = vot st L k
            rw [hstep, if_neg (fun h => h.1 hm)]; rfl
          rw [fr2.2 hm] at q1
          clear hm hstep fr0 fr1 fr2
          generalize vot st L k = vk at *
          generalize decide (st r ≠ 2) = ub at *
          go_wp2_with fail
          go_quiet ((go_at_call 29; exact Calls.quiet_of (HC.out _)))
          go_wp2_with fail
          go_region
          all_goals
            go_wp2_with fail
            go_roundw
            case rel => exact ⟨k + 1, _, by omega, by go_num, by rw [HST.out], HNEW.out.1, HNEW.out.2.1, (HNEW.out.2.2.drewN _).drew⟩
            case measure => simp [intOf]; omega
        · have hne : ¬ f2 r = (n : Int) + 1 := fun e => hm (fr2.1 e)
          by_cases hup : st r = 2
          · have HST : Hid (vot st L (k + 1) = vot st L k) := by
              show vot st L (k + 1) = vot st L k
              rw [hstep, if_neg (fun h => h.2 hup)]; rfl
            have hub : decide (st r ≠ 2) = false := by simp [hup]
            rw [hub] at HC
            clear hm hstep fr2 hup hub
            generalize vot st L k = vk at *
            generalize f2 r = fv at q1 hne fr0 fr1
            go_wp2_with fail
            go_quiet ((go_at_call 29; exact Calls.quiet_of (HC.out _)))
            go_wp2_with fail
            go_region
            all_goals
              go_wp2_with fail
              go_roundw
              case rel => exact ⟨k + 1, _, by omega, by go_num, by rw [HST.out], HNEW.out.1, HNEW.out.2.1, (HNEW.out.2.2.drewN _).drew⟩
              case measure => simp [intOf]; omega
          · have HST : Hid (vot st L (k + 1) = vot st L k + 1) := by
              show vot st L (k + 1) = vot st L k + 1
              rw [hstep, if_pos ⟨hm, hup⟩]
            have hub : decide (st r ≠ 2) = true := by simp [hup]
            rw [hub] at HC
            clear hm hstep fr2 hup hub
            generalize vot st L k = vk at *
            generalize f2 r = fv at q1 hne fr0 fr1
            go_wp2_with fail
            go_quiet ((go_at_call 29; exact Calls.quiet_of (HC.out _)))
            go_wp2_with fail
            go_region
            all_goals
              go_wp2_with fail
              go_roundw
              case rel => exact ⟨k + 1, _, by omega, by go_num, by rw [HST.out]; go_num, HNEW.out.1, HNEW.out.2.1, (HNEW.out.2.2.drewN _).drew⟩
              case measure => simp [intOf]; omega
      · obtain rfl : k = L.length := by omega
        have HP : Hid (Seen wr ab (some qb) (.pointer (some ⟨sb, 0, none⟩)) p1 p2 p3 p4 p5 p6 p7 (n + 1) ∧ Kp (fun k => k = ab ∨ oq = some k) w wr) := by
          refine ⟨⟨hkp.blk HW.out.1 (fun e => hnq (Eq.symm e)), f2, hrow, fun i hi => ?_⟩, HW.out.2.2.2.2.2.trans hkp (fun i hi e => ?_)⟩
          · have := hf i hi
            refine ⟨this.1, ?_⟩
            rw [Int.natCast_add]
            exact this.2.1
          · subst e
            rcases HF.out.2 with h | h
            · exact .inr h
            · omega
        clear hkp hrow hf HW
        go_wp2_with fail
        go_ret
        exact ⟨rfl, qb, HP.out.1, HF.out.2, HP.out.2⟩

end Go.Proofs.YbulkadugFmt

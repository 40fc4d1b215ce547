/-
  LawS1488ANilStep over toys/ybulkadugfmt: (*applier).apply.
-/
import Derived.Test.YbulkadugFmtJudge
import Derived.Test.YbulkadugFmtServer
import Derived.Test.YbulkadugFmtCarry
namespace Go.Proofs.YbulkadugFmt
open Go.RowKit Go.Maps
attribute [local go_sem ↓] Go.wp_at_zero Go.wp_at_succ

def gS : ByteArray := ⟨#[103]⟩
def tS : ByteArray := ⟨#[116]⟩

/-- The blocks of a case. -/
structure Bs where
  ab : Nat
  pb : Nat
  mvb : Nat
  sb : Nat
  svb : Nat
  gp : Nat
  rb : Nat
  slb : Nat
  grb : Nat
  rfb : Nat
  cbb : Nat
  mb : Nat
/-- A case: what it is made of. -/
structure Cd where
  st : Nat → Nat
  L : List Int
  rf : Nat
  c : Int
  mc : Int
  gid : ByteArray
  gok : Bool
  fs : Nat
  ts : Nat
  cb : Bool

structure Cd.Ok (D : Cd) : Prop where
  len : D.L.length ≤ 1024
  mem : ∀ x, x ∈ D.L → 0 ≤ x ∧ x < 4
  rf1 : 1 ≤ D.rf
  rf5 : D.rf ≤ 5
  c0 : -10 ≤ D.c
  c1 : D.c ≤ 90
  m0 : -10 ≤ D.mc
  m1 : D.mc ≤ 90
  f5 : D.fs ≤ 5
  t5 : D.ts ≤ 5

/-- The applier in memory. -/
structure AM (w : World) (B : Bs) (D : Cd) (base cap : Nat) : Prop where
  ap : Blk w B.ab 77 [.pointer (some ⟨B.sb, 0, none⟩), .pointer (some ⟨B.pb, 0, none⟩), .map (some B.mb), .pointer none, .slice (some ⟨B.slb, 0, none⟩) 1 1, .slice (some ⟨B.grb, 0, none⟩) 1 1, .slice (some ⟨B.rfb, 0, none⟩) 1 1, .slice (some ⟨B.cbb, 0, none⟩) 1 1, .slice none 0 0, .int .u32 0]
  pl : Blk w B.pb 68 [.slice (some ⟨B.mvb, 0, none⟩) 1 1]
  mv : Blk w B.mvb 65 [.string D.gid, .int .i64 D.mc, .string (selS D.fs), .string (selS D.ts), .int .i64 0]
  sn : Blk w B.sb 50 [.slice (some ⟨B.svb, 0, none⟩) 4 4, .slice (some ⟨B.gp, 0, none⟩) 1 1, .slice none 0 0, .slice none 0 0, .int .i64 0, .map none, .map none]
  sv : Blk w B.svb 58 (srvL D.st)
  g : Blk w B.gp 41 [.string gS, .string tS, .int .i64 (D.rf : Nat), .slice (some ⟨B.rb, 0, none⟩) D.L.length cap, .int .i64 D.c]
  own : w.ownsRow base 21 1 (.slice (some ⟨B.rb, 0, none⟩) D.L.length cap) D.L.length (D.L.map (.int .i32 ·))
  sl : Blk w B.slb 21 [.int .i32 0]
  gr : Blk w B.grb 21 [.int .i32 (if D.gok then 0 else -1)]
  rd : Blk w B.rfb 4 [.bool false]
  cd : Blk w B.cbb 4 [.bool D.cb]
  mp : w.ownsMap Ybaf.prog 9 (plainElem Ybaf.prog 21) B.mb 4 (Dk 4)

/-- The outcome. -/
def Cd.out (D : Cd) : Int :=
  if D.gok then jd D.c D.mc (decide (selS D.fs = ⟨#[]⟩)) (decide (selS D.ts = ⟨#[]⟩)) (decide (0 ≤ selI D.fs ∧ selI D.fs ∈ D.L)) (decide (0 ≤ selI D.ts ∧ selI D.ts ∈ D.L)) D.cb (selI D.ts) (D.st (selI D.ts).toNat) (lm D.st D.L D.rf (selI D.fs) (selI D.ts)) else 2
def Cd.aL (D : Cd) : List Int := if D.out = 0 then aft D.L (selI D.fs) (selI D.ts) else D.L
def Cd.aC (D : Cd) : Int := if D.out = 0 then D.c + 1 else D.c

/-- What apply leaves. -/
def AP (w : World) (B : Bs) (D : Cd) (base nb : Nat) (e : Ending) (w' : World) : Prop :=
  e = .returned (.int .i64 D.out) ∧ (∃ rb' cap', Blk w' B.gp 41 [.string gS, .string tS, .int .i64 (D.rf : Nat), .slice (some ⟨rb', 0, none⟩) D.aL.length cap', .int .i64 D.aC] ∧ w'.ownsRow base 21 1 (.slice (some ⟨rb', 0, none⟩) D.aL.length cap') D.aL.length (D.aL.map (.int .i32 ·)) ∧ (rb' = B.rb ∨ w.heap.size ≤ rb')) ∧
    Kp (fun k => k = B.ab ∨ k = B.gp ∨ k = B.rb ∨ k = B.rfb ∨ k = nb) w w' ∧ (D.out ≠ 0 → Kp (fun k => k = B.ab ∨ k = B.rfb) w w')

theorem jd_range (c mc : Int) (fe te hF hT cb : Bool) (t : Int) (s : Nat) (lv : Bool) : 0 ≤ jd c mc fe te hF hT cb t s lv ∧ jd c mc fe te hF hT cb t s lv ≤ 12 := by
  unfold jd
  repeat' split
  all_goals decide
theorem jd_zero {c mc : Int} {fe te hF hT cb : Bool} {t : Int} {s : Nat} {lv : Bool} (h : jd c mc fe te hF hT cb t s lv = 0) : fe = false → hF = true := by
  intro hfe
  cases hF with
  | true => rfl
  | false =>
    unfold jd at h
    rw [if_pos (show fe = false ∧ false = false from ⟨hfe, rfl⟩)] at h
    split at h
    · cases h
    · split at h
      · split at h <;> cases h
      · cases h
theorem selI_bd (s : Nat) (h : s ≤ 5) : -2 ≤ selI s ∧ selI s ≤ 3 := by
  unfold selI
  split
  · omega
  · split <;> omega
theorem selS_ne (s : Nat) (h : 0 ≤ selI s) : ¬ selS s = ⟨#[]⟩ := by
  unfold selI at h
  unfold selS idS
  repeat' split
  all_goals (first | omega | (intro e; cases e) | skip)
  all_goals simp_all
theorem selS_list (s : Nat) : ¬ selS s = ⟨#[]⟩ → ¬ (selS s).toList = [] := by
  intro h e
  rw [Lib.toList_data] at e
  apply h
  have : (selS s).data = #[] := by simpa using e
  cases hs : selS s with
  | mk d => rw [hs] at this; simp at this; rw [this]

set_option maxRecDepth 100000 in
set_option maxHeartbeats 4000000 in
theorem apply_any (B : Bs) (D : Cd) (base cap nb : Nat) (fv : Value) (w : World) (h : AM w B D base cap) (hD : D.Ok)
    (hcar : ∀ w2 oq n', Seen w2 B.ab oq (.pointer (some ⟨B.sb, 0, none⟩)) (.pointer (some ⟨B.pb, 0, none⟩)) (.map (some B.mb)) (.pointer none) (.slice (some ⟨B.slb, 0, none⟩) 1 1) (.slice (some ⟨B.grb, 0, none⟩) 1 1) (.slice (some ⟨B.rfb, 0, none⟩) 1 1) (.slice (some ⟨B.cbb, 0, none⟩) 1 1) n' → n' ≤ 1 → Kp (· = B.ab) w w2 → (0 ≤ selI D.fs → selI D.fs ∈ D.L) → (∀ q, oq = some q → w.heap.size ≤ q) →
      Calls Ybaf.prog 16 #[.pointer (some ⟨B.ab, 0, none⟩), .pointer (some ⟨B.gp, 0, none⟩), .int .i32 (selI D.fs), .int .i32 (selI D.ts), .int .i64 0, fv] w2 fun e w' => CP w2 B.ab B.gp B.rb base nb oq (.string gS) (.string tS) (.int .i64 (D.rf : Nat)) D.c (aft D.L (selI D.fs) (selI D.ts)) e w') :
    Calls Ybaf.prog 5 #[.pointer (some ⟨B.ab, 0, none⟩), .int .i64 0, fv] w fun e w' => AP w B D base nb e w' := by
  have a0 := h.ap.at_ 0 rfl
  have a1 := h.ap.at_ 1 rfl
  have a2 := h.ap.at_ 2 rfl
  have a4 := h.ap.at_ 4 rfl
  have a5 := h.ap.at_ 5 rfl
  have a6 := h.ap.at_ 6 rfl
  have a7 := h.ap.at_ 7 rfl
  have pl0 := h.pl.at_ 0 rfl
  have mv2 := h.mv.at_ 2 rfl
  have mv3 := h.mv.at_ 3 rfl
  have mv4 := h.mv.at_ 4 rfl
  have sl0 := h.sl.at_ 0 rfl
  have gr0 := h.gr.at_ 0 rfl
  have rd0 := h.rd.at_ 0 rfl
  have cd0 := h.cd.at_ 0 rfl
  have sn1 := h.sn.at_ 1 rfl
  have HM : Hid (AM w B D base cap) := h
  have HD : Hid D.Ok := hD
  have HCAR : Hid (∀ w2 oq n', Seen w2 B.ab oq (.pointer (some ⟨B.sb, 0, none⟩)) (.pointer (some ⟨B.pb, 0, none⟩)) (.map (some B.mb)) (.pointer none) (.slice (some ⟨B.slb, 0, none⟩) 1 1) (.slice (some ⟨B.grb, 0, none⟩) 1 1) (.slice (some ⟨B.rfb, 0, none⟩) 1 1) (.slice (some ⟨B.cbb, 0, none⟩) 1 1) n' → n' ≤ 1 → Kp (· = B.ab) w w2 → (0 ≤ selI D.fs → selI D.fs ∈ D.L) → (∀ q, oq = some q → w.heap.size ≤ q) →
      Calls Ybaf.prog 16 #[.pointer (some ⟨B.ab, 0, none⟩), .pointer (some ⟨B.gp, 0, none⟩), .int .i32 (selI D.fs), .int .i32 (selI D.ts), .int .i64 0, fv] w2 fun e w' => CP w2 B.ab B.gp B.rb base nb oq (.string gS) (.string tS) (.int .i64 (D.rf : Nat)) D.c (aft D.L (selI D.fs) (selI D.ts)) e w') := hcar
  clear h hD hcar
  cases hgok : D.gok with
  | false =>
    rw [hgok] at gr0
    simp only [Bool.false_eq_true, if_false] at gr0
    have HO : Hid (D.out = 2) := by show D.out = 2; rw [Cd.out, hgok]; rfl
    clear hgok
    go_enter Ybaf.func5, Ybaf.ntmps5
    go_wp2_with fail
    go_ret
    refine ⟨by rw [HO.out]; rfl, ⟨B.rb, cap, ?_, ?_, .inl rfl⟩, Kp.refl _ w, fun _ => Kp.refl _ w⟩
    · rw [Cd.aL, Cd.aC, HO.out, if_neg (by decide), if_neg (by decide)]; exact HM.out.g
    · rw [Cd.aL, HO.out, if_neg (by decide)]; exact HM.out.own
  | true =>
    rw [hgok] at gr0
    simp only [if_true] at gr0
    obtain ⟨J, hJ⟩ : ∃ J, J = jd D.c D.mc (decide (selS D.fs = ⟨#[]⟩)) (decide (selS D.ts = ⟨#[]⟩)) (decide (0 ≤ selI D.fs ∧ selI D.fs ∈ D.L)) (decide (0 ≤ selI D.ts ∧ selI D.ts ∈ D.L)) D.cb (selI D.ts) (D.st (selI D.ts).toNat) (lm D.st D.L D.rf (selI D.fs) (selI D.ts)) := ⟨_, rfl⟩
    have HO : Hid (D.out = J) := by show D.out = J; rw [Cd.out, hgok, hJ]; rfl
    have hJr := jd_range D.c D.mc (decide (selS D.fs = ⟨#[]⟩)) (decide (selS D.ts = ⟨#[]⟩)) (decide (0 ≤ selI D.fs ∧ selI D.fs ∈ D.L)) (decide (0 ≤ selI D.ts ∧ selI D.ts ∈ D.L)) D.cb (selI D.ts) (D.st (selI D.ts).toNat) (lm D.st D.L D.rf (selI D.fs) (selI D.ts))
    rw [← hJ] at hJr
    obtain ⟨hJ0, hJ1⟩ := hJr
    have HZ : Hid (J = 0 → 0 ≤ selI D.fs → selI D.fs ∈ D.L) := fun e hf => by
      rw [hJ] at e
      have := jd_zero e (by simpa using selS_ne D.fs hf)
      simp at this
      exact this.2
    have HCF : Hid (∀ d, Calls Ybaf.prog 13 #[.pointer (some ⟨B.ab, 0, none⟩), .string (selS D.fs)] (w.drewN d) fun e w' => e = .returned (.int .i32 (selI D.fs)) ∧ ∃ d', w' = (w.drewN d).drewN d') := fun d => server_any B.ab B.mb D.fs (w.drewN d) HD.out.f5 a2 HM.out.mp
    have HCT : Hid (∀ d, Calls Ybaf.prog 13 #[.pointer (some ⟨B.ab, 0, none⟩), .string (selS D.ts)] (w.drewN d) fun e w' => e = .returned (.int .i32 (selI D.ts)) ∧ ∃ d', w' = (w.drewN d).drewN d') := fun d => server_any B.ab B.mb D.ts (w.drewN d) HD.out.t5 a2 HM.out.mp
    have HJU : Hid (∀ d, Calls Ybaf.prog 14 #[.pointer (some ⟨B.ab, 0, none⟩), .pointer (some ⟨B.gp, 0, none⟩), .pointer (some ⟨B.mvb, 0, none⟩), .int .i32 (selI D.fs), .int .i32 (selI D.ts), .bool D.cb] (w.drewN d) fun e w' => e = .returned (.int .i64 J) ∧ JP w w' B.ab (.pointer (some ⟨B.sb, 0, none⟩)) (.pointer (some ⟨B.pb, 0, none⟩)) (.map (some B.mb)) (.pointer none) (.slice (some ⟨B.slb, 0, none⟩) 1 1) (.slice (some ⟨B.grb, 0, none⟩) 1 1) (.slice (some ⟨B.rfb, 0, none⟩) 1 1) (.slice (some ⟨B.cbb, 0, none⟩) 1 1)) := fun d => by
      have hb1 := selI_bd D.fs HD.out.f5
      have hb2 := selI_bd D.ts HD.out.t5
      have hd := HD.out
      rw [hJ]
      exact (judge_any B.ab B.sb B.svb B.gp B.rb cap base D.rf B.mvb D.st D.L (selI D.fs) (selI D.ts) D.c D.mc _ _ D.cb (selS D.fs) (selS D.ts) _ _ _ _ _ _ _ _ _ _ _ _ _ _ _ _ _ (w.drewN d) HM.out.ap HM.out.sn HM.out.sv HM.out.g HM.out.mv HM.out.own hd.mem hd.len hd.rf1 hd.rf5 hb1.1 hb1.2 hb2.1 hb2.2 hd.c0 (by have := hd.c1; omega) hd.m0 (by have := hd.m1; omega) rfl rfl (selS_list _) (selS_list _)).mono fun e w' ⟨he, oq, n', h1, h2, h3, h4⟩ => ⟨he, oq, n', h1, h2, h3, ⟨h4.os, h4.tape, h4.output, h4.size, h4.block⟩⟩
    clear hgok hJ
    generalize hfE : selI D.fs = f at *
    generalize htE : selI D.ts = tt at *
    have HFT : Hid (selI D.fs = f ∧ selI D.ts = tt) := ⟨hfE, htE⟩
    clear hfE htE
    generalize selS D.fs = sF at *
    generalize selS D.ts = sT at *
    have n1 : B.rfb ≠ B.ab := HM.out.rd.ne HM.out.ap (by decide)
    have n2 : B.mvb ≠ B.ab := HM.out.mv.ne HM.out.ap (by decide)
    have n3 : B.gp ≠ B.ab := HM.out.g.ne HM.out.ap (by decide)
    have n4 : B.rb ≠ B.ab := own_ne HM.out.own HM.out.ap (by decide)
    have n5 : B.gp ≠ B.rfb := HM.out.g.ne HM.out.rd (by decide)
    have n6 : B.rb ≠ B.rfb := own_ne HM.out.own HM.out.rd (by decide)
    go_enter Ybaf.func5, Ybaf.ntmps5
    go_wp2_with fail
    go_quiet ((go_at_call 13; first | (with_reducible exact Calls.quiet_of (HCF.out _)) | (with_reducible exact Calls.quiet_of (HCT.out _))))
    go_wp2_with fail
    refine (Calls.mono (HJU.out _) ?_)
    rintro e w2 ⟨rfl, oq, n', hs2, hn2, hq2, hk2⟩
    clear a0 a1 a2 a4 a5 a6 a7 pl0 mv2 mv3 mv4 sl0 gr0 cd0 sn1 rd0 HCF HCT HJU
    have a6 := (hs2.blk.choose_spec).at_ 6 rfl
    have hrd := hk2.blk HM.out.rd n1
    have hg2 := hk2.blk HM.out.g n3
    have ho2 := own_kp HM.out.own hk2 (fun i hi => by cases hi; exact n4)
    have rd0 := hrd.at_ 0 rfl
    have rf0 := hrd.frozen 0
    have mv4 := (hk2.blk HM.out.mv n2).at_ 4 rfl
    have HG : Hid (Blk w2 B.gp 41 [.string gS, .string tS, .int .i64 (D.rf : Nat), .slice (some ⟨B.rb, 0, none⟩) D.L.length cap, .int .i64 D.c] ∧ w2.ownsRow base 21 1 (.slice (some ⟨B.rb, 0, none⟩) D.L.length cap) D.L.length (D.L.map (.int .i32 ·)) ∧ Kp (· = B.ab) w w2) := ⟨hg2, ho2, hk2⟩
    by_cases hJ2 : 1 < J
    · have HN : Hid (D.out ≠ 0) := by show D.out ≠ 0; rw [HO.out]; omega
      clear hs2 hk2 hg2 ho2 HZ HCAR
      go_wp2_with go_in
      go_ret
      refine ⟨by rw [HO.out]; rfl, ⟨B.rb, cap, ?_, ?_, .inl rfl⟩, (HG.out.2.2.mono (fun _ _ e => .inl e)).setCell (.inl (.inr (.inr (.inr (.inl rfl))))) _, fun _ => (HG.out.2.2.mono (fun _ _ e => .inl e)).setCell (.inl (.inr rfl)) _⟩
      · rw [Cd.aL, Cd.aC, if_neg HN.out, if_neg HN.out]; exact HG.out.1.other n5 _
      · rw [Cd.aL, if_neg HN.out]; exact own_set HG.out.2.1 (fun i hi => by cases hi; exact n6) _
    · by_cases hJz : J = 0
      · subst hJz
        have HC := HCAR.out w2 oq n' hs2 hn2 hk2 (HZ.out rfl) hq2
        have HCH : Hid (Calls Ybaf.prog 16 #[.pointer (some ⟨B.ab, 0, none⟩), .pointer (some ⟨B.gp, 0, none⟩), .int .i32 f, .int .i32 tt, .int .i64 0, fv] w2 fun e w' => CP w2 B.ab B.gp B.rb base nb oq (.string gS) (.string tS) (.int .i64 (D.rf : Nat)) D.c (aft D.L f tt) e w') := HC
        have HQ : Hid (∀ q, oq = some q → w.heap.size ≤ q) := hq2
        clear hs2 hk2 hg2 ho2 HZ HCAR HC hq2 hn2
        go_wp2_with (first | (go_at_call 16; refine (Calls.mono HCH.out ?_); rintro e w3 ⟨rfl, rb', cap', hg3, ho3, hk3, hr3⟩) | go_in)
        go_ret
        refine ⟨by rw [HO.out]; rfl, ⟨rb', cap', ?_, ?_, hr3.imp id (Nat.le_trans HG.out.2.2.size)⟩, HG.out.2.2.mono (Y := fun k => k = B.ab ∨ k = B.gp ∨ k = B.rb ∨ k = B.rfb ∨ k = nb) (fun _ _ e => .inl e) |>.trans hk3 (fun i hi e => ?_), fun hne => absurd HO.out hne⟩
        · rw [Cd.aL, Cd.aC, HO.out, if_pos rfl, if_pos rfl, HFT.out.1, HFT.out.2]; exact hg3
        · rw [Cd.aL, HO.out, if_pos rfl, HFT.out.1, HFT.out.2]; exact ho3
        · rcases e with e | e | e | e | e
          · exact .inl e
          · exact .inr (.inl e)
          · exact .inr (.inr (.inl e))
          · exact .inr (.inr (.inr (.inr e)))
          · have := HQ.out i e; omega
      · obtain rfl : J = 1 := by omega
        have HN : Hid (D.out ≠ 0) := by show D.out ≠ 0; rw [HO.out]; decide
        clear hs2 hk2 hg2 ho2 HZ HCAR
        go_wp2_with go_in
        go_ret
        refine ⟨by rw [HO.out]; rfl, ⟨B.rb, cap, ?_, ?_, .inl rfl⟩, HG.out.2.2.mono (fun _ _ e => .inl e), fun _ => HG.out.2.2.mono (fun _ _ e => .inl e)⟩
        · rw [Cd.aL, Cd.aC, if_neg HN.out, if_neg HN.out]; exact HG.out.1
        · rw [Cd.aL, if_neg HN.out]; exact HG.out.2.1

end Go.Proofs.YbulkadugFmt

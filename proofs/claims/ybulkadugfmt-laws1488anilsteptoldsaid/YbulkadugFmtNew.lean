/-
  LawS1488ANilStep over toys/ybulkadugfmt: newApplier.
-/
import Derived.Test.YbulkadugFmtBack
namespace Go.Proofs.YbulkadugFmt
open Go.RowKit Go.Maps
attribute [local go_sem ↓] Go.wp_at_zero Go.wp_at_succ

theorem cix_any (sb : Nat) (w : World) (h : w.cell? ⟨sb, 3, none⟩ = some (.slice none 0 0)) : Calls Ybaf.prog 17 #[.pointer (some ⟨sb, 0, none⟩)] w fun e w' => e = .returned (.pointer none) ∧ w' = w := by
  go_enter Ybaf.func17, Ybaf.ntmps17
  go_wp2_with fail
  go_ret
  exact ⟨rfl, rfl⟩

theorem mm4 (w : World) : (Instr.makeMap 71 (some (.int .i64 4))).run Ybaf.prog w = .ok (.map (some w.heap.size)) (w.alloc (.map #[] 0)) := by kernel_rfl

theorem new_o1 (w : World) (sb pb : Nat) : ∃ ab mb slb, Value.pointer (some ⟨w.heap.size + 1 + 1, 0, none⟩) = .pointer (some ⟨ab, 0, none⟩) ∧ Blk (((w.alloc (.map #[] 0)).alloc (.cells #[.int .i32 0] 21)).alloc (.cells #[.pointer (some ⟨sb, 0, none⟩), .pointer (some ⟨pb, 0, none⟩), .map (some w.heap.size), .pointer none, .slice (some ⟨w.heap.size + 1, 0, none⟩) 1 1, .slice none 0 0, .slice none 0 0, .slice none 0 0, .slice none 0 0, .int .u32 0] 77)).drew ab 77 [.pointer (some ⟨sb, 0, none⟩), .pointer (some ⟨pb, 0, none⟩), .map (some mb), .pointer none, .slice (some ⟨slb, 0, none⟩) 1 1, .slice none 0 0, .slice none 0 0, .slice none 0 0, .slice none 0 0, .int .u32 0] ∧ (((w.alloc (.map #[] 0)).alloc (.cells #[.int .i32 0] 21)).alloc (.cells #[.pointer (some ⟨sb, 0, none⟩), .pointer (some ⟨pb, 0, none⟩), .map (some w.heap.size), .pointer none, .slice (some ⟨w.heap.size + 1, 0, none⟩) 1 1, .slice none 0 0, .slice none 0 0, .slice none 0 0, .slice none 0 0, .int .u32 0] 77)).drew.heap[mb]? = some (.map #[] 0) ∧ Blk (((w.alloc (.map #[] 0)).alloc (.cells #[.int .i32 0] 21)).alloc (.cells #[.pointer (some ⟨sb, 0, none⟩), .pointer (some ⟨pb, 0, none⟩), .map (some w.heap.size), .pointer none, .slice (some ⟨w.heap.size + 1, 0, none⟩) 1 1, .slice none 0 0, .slice none 0 0, .slice none 0 0, .slice none 0 0, .int .u32 0] 77)).drew slb 21 [.int .i32 0] ∧ w.heap.size ≤ ab ∧ w.heap.size ≤ mb ∧ w.heap.size ≤ slb ∧ Below w.heap.size w (((w.alloc (.map #[] 0)).alloc (.cells #[.int .i32 0] 21)).alloc (.cells #[.pointer (some ⟨sb, 0, none⟩), .pointer (some ⟨pb, 0, none⟩), .map (some w.heap.size), .pointer none, .slice (some ⟨w.heap.size + 1, 0, none⟩) 1 1, .slice none 0 0, .slice none 0 0, .slice none 0 0, .slice none 0 0, .int .u32 0] 77)).drew := by
  have h3 := heap_alloc_new ((w.alloc (.map #[] 0)).alloc (.cells #[.int .i32 0] 21)) (.cells #[.pointer (some ⟨sb, 0, none⟩), .pointer (some ⟨pb, 0, none⟩), .map (some w.heap.size), .pointer none, .slice (some ⟨w.heap.size + 1, 0, none⟩) 1 1, .slice none 0 0, .slice none 0 0, .slice none 0 0, .slice none 0 0, .int .u32 0] 77)
  have h2 := heap_alloc_new (w.alloc (.map #[] 0)) (.cells #[.int .i32 0] 21)
  have h1 := heap_alloc_new w (.map #[] 0)
  rw [World.size_alloc, World.size_alloc] at h3
  rw [World.size_alloc] at h2
  have h2' := (Below.heap_alloc _ (.cells #[.pointer (some ⟨sb, 0, none⟩), .pointer (some ⟨pb, 0, none⟩), .map (some w.heap.size), .pointer none, .slice (some ⟨w.heap.size + 1, 0, none⟩) 1 1, .slice none 0 0, .slice none 0 0, .slice none 0 0, .slice none 0 0, .int .u32 0] 77) _ (Array.getElem?_eq_some_iff.1 h2).1).trans h2
  have h1' := (Below.heap_alloc _ (.cells #[.pointer (some ⟨sb, 0, none⟩), .pointer (some ⟨pb, 0, none⟩), .map (some w.heap.size), .pointer none, .slice (some ⟨w.heap.size + 1, 0, none⟩) 1 1, .slice none 0 0, .slice none 0 0, .slice none 0 0, .slice none 0 0, .int .u32 0] 77) _ (by simp; omega)).trans ((Below.heap_alloc _ (.cells #[.int .i32 0] 21) _ (Array.getElem?_eq_some_iff.1 h1).1).trans h1)
  exact ⟨w.heap.size + 1 + 1, w.heap.size, w.heap.size + 1, rfl, h3, h1', h2', by omega, by omega, by omega, ((((Below.refl _ w).alloc (Nat.le_refl _) _).alloc (by simp) _).alloc (by simp; omega) _).drew⟩
theorem new_o2 (w : World) (sb pb : Nat) : ∃ ab mb slb, Value.pointer (some ⟨w.heap.size + 1 + 1, 0, none⟩) = .pointer (some ⟨ab, 0, none⟩) ∧ Blk (((w.alloc (.cells #[.int .i32 0] 21)).alloc (.map #[] 0)).alloc (.cells #[.pointer (some ⟨sb, 0, none⟩), .pointer (some ⟨pb, 0, none⟩), .map (some (w.heap.size + 1)), .pointer none, .slice (some ⟨w.heap.size, 0, none⟩) 1 1, .slice none 0 0, .slice none 0 0, .slice none 0 0, .slice none 0 0, .int .u32 0] 77)).drew ab 77 [.pointer (some ⟨sb, 0, none⟩), .pointer (some ⟨pb, 0, none⟩), .map (some mb), .pointer none, .slice (some ⟨slb, 0, none⟩) 1 1, .slice none 0 0, .slice none 0 0, .slice none 0 0, .slice none 0 0, .int .u32 0] ∧ (((w.alloc (.cells #[.int .i32 0] 21)).alloc (.map #[] 0)).alloc (.cells #[.pointer (some ⟨sb, 0, none⟩), .pointer (some ⟨pb, 0, none⟩), .map (some (w.heap.size + 1)), .pointer none, .slice (some ⟨w.heap.size, 0, none⟩) 1 1, .slice none 0 0, .slice none 0 0, .slice none 0 0, .slice none 0 0, .int .u32 0] 77)).drew.heap[mb]? = some (.map #[] 0) ∧ Blk (((w.alloc (.cells #[.int .i32 0] 21)).alloc (.map #[] 0)).alloc (.cells #[.pointer (some ⟨sb, 0, none⟩), .pointer (some ⟨pb, 0, none⟩), .map (some (w.heap.size + 1)), .pointer none, .slice (some ⟨w.heap.size, 0, none⟩) 1 1, .slice none 0 0, .slice none 0 0, .slice none 0 0, .slice none 0 0, .int .u32 0] 77)).drew slb 21 [.int .i32 0] ∧ w.heap.size ≤ ab ∧ w.heap.size ≤ mb ∧ w.heap.size ≤ slb ∧ Below w.heap.size w (((w.alloc (.cells #[.int .i32 0] 21)).alloc (.map #[] 0)).alloc (.cells #[.pointer (some ⟨sb, 0, none⟩), .pointer (some ⟨pb, 0, none⟩), .map (some (w.heap.size + 1)), .pointer none, .slice (some ⟨w.heap.size, 0, none⟩) 1 1, .slice none 0 0, .slice none 0 0, .slice none 0 0, .slice none 0 0, .int .u32 0] 77)).drew := by
  have h3 := heap_alloc_new ((w.alloc (.cells #[.int .i32 0] 21)).alloc (.map #[] 0)) (.cells #[.pointer (some ⟨sb, 0, none⟩), .pointer (some ⟨pb, 0, none⟩), .map (some (w.heap.size + 1)), .pointer none, .slice (some ⟨w.heap.size, 0, none⟩) 1 1, .slice none 0 0, .slice none 0 0, .slice none 0 0, .slice none 0 0, .int .u32 0] 77)
  have h2 := heap_alloc_new (w.alloc (.cells #[.int .i32 0] 21)) (.map #[] 0)
  have h1 := heap_alloc_new w (.cells #[.int .i32 0] 21)
  rw [World.size_alloc, World.size_alloc] at h3
  rw [World.size_alloc] at h2
  have h2' := (Below.heap_alloc _ (.cells #[.pointer (some ⟨sb, 0, none⟩), .pointer (some ⟨pb, 0, none⟩), .map (some (w.heap.size + 1)), .pointer none, .slice (some ⟨w.heap.size, 0, none⟩) 1 1, .slice none 0 0, .slice none 0 0, .slice none 0 0, .slice none 0 0, .int .u32 0] 77) _ (Array.getElem?_eq_some_iff.1 h2).1).trans h2
  have h1' := (Below.heap_alloc _ (.cells #[.pointer (some ⟨sb, 0, none⟩), .pointer (some ⟨pb, 0, none⟩), .map (some (w.heap.size + 1)), .pointer none, .slice (some ⟨w.heap.size, 0, none⟩) 1 1, .slice none 0 0, .slice none 0 0, .slice none 0 0, .slice none 0 0, .int .u32 0] 77) _ (by simp; omega)).trans ((Below.heap_alloc _ (.map #[] 0) _ (Array.getElem?_eq_some_iff.1 h1).1).trans h1)
  exact ⟨w.heap.size + 1 + 1, w.heap.size + 1, w.heap.size, rfl, h3, h2', h1', by omega, by omega, by omega, ((((Below.refl _ w).alloc (Nat.le_refl _) _).alloc (by simp) _).alloc (by simp; omega) _).drew⟩

theorem idS_small (k : Nat) : (idS k).size ≤ maxLen := by
  unfold idS
  repeat' split
  all_goals decide

/-- What newApplier leaves. -/
def NP (w : World) (pb sb : Nat) (gok : Bool) (c mc : Int) (fs ts : Nat) (e : Ending) (w' : World) : Prop :=
  ∃ ab mb slb grb rfb cbb, e = .returned (.pointer (some ⟨ab, 0, none⟩)) ∧
    Blk w' ab 77 [.pointer (some ⟨sb, 0, none⟩), .pointer (some ⟨pb, 0, none⟩), .map (some mb), .pointer none, .slice (some ⟨slb, 0, none⟩) 1 1, .slice (some ⟨grb, 0, none⟩) 1 1, .slice (some ⟨rfb, 0, none⟩) 1 1, .slice (some ⟨cbb, 0, none⟩) 1 1, .slice none 0 0, .int .u32 0] ∧
    Blk w' slb 21 [.int .i32 0] ∧ Blk w' grb 21 [.int .i32 (if gok then 0 else -1)] ∧ Blk w' rfb 4 [.bool false] ∧ Blk w' cbb 4 [.bool (cbF gok c mc fs ts)] ∧ w'.ownsMap Ybaf.prog 9 (plainElem Ybaf.prog 21) mb 4 (Dk 4) ∧
    (w.heap.size ≤ ab ∧ w.heap.size ≤ rfb ∧ w.heap.size ≤ slb ∧ w.heap.size ≤ grb ∧ w.heap.size ≤ cbb) ∧ Below w.heap.size w w'

set_option maxRecDepth 100000 in
set_option maxHeartbeats 4000000 in
theorem new_any (pb mvb sb svb gp fs ts : Nat) (gok : Bool) (gid : ByteArray) (st : Nat → Nat) (c mc : Int) (z4 x1 x2 x3 : Value) (w : World) (hgid : gid = if gok then ⟨#[103]⟩ else ⟨#[104]⟩)
    (hpl : Blk w pb 68 [.slice (some ⟨mvb, 0, none⟩) 1 1]) (hmv : Blk w mvb 65 [.string gid, .int .i64 mc, .string (selS fs), .string (selS ts), z4]) (hsn : Blk w sb 50 [.slice (some ⟨svb, 0, none⟩) 4 4, .slice (some ⟨gp, 0, none⟩) 1 1, .slice none 0 0, .slice none 0 0, .int .i64 0, .map none, .map none]) (hsv : Blk w svb 58 (srvL st)) (hg : Blk w gp 41 [.string gS, x1, x2, x3, .int .i64 c])
    (hfs : fs ≤ 5) (hts : ts ≤ 5) (hc0 : -10 ≤ c) (hc1 : c ≤ 90) (hm0 : -10 ≤ mc) (hm1 : mc ≤ 90) :
    Calls Ybaf.prog 12 #[.pointer (some ⟨sb, 0, none⟩), .pointer (some ⟨pb, 0, none⟩)] w fun e w' => NP w pb sb gok c mc fs ts e w' := by
  have hmk := run_make_row' (P := Ybaf.prog) 31 21 (.int .i32 0) 4 Ybaf.underlying31 Ybaf.info21 rfl .i64 .i64 1 (by omega) (by omega)
  have hmkb := run_make_row' (P := Ybaf.prog) 73 4 (.bool false) 1 Ybaf.underlying73 Ybaf.info4 rfl .i64 .i64 1 (by omega) (by omega)
  rw [show ((1 : Nat) : Int) = 1 from rfl, made1] at hmk hmkb
  have hmm := @run_makeMap Ybaf.prog
  have hm4 := mm4
  have s0 := hsn.at_ 0 rfl
  have s1 := hsn.at_ 1 rfl
  have s3 := hsn.at_ 3 rfl
  have p0 := hpl.at_ 0 rfl
  have l1 := hsn.lt
  have l2 := hpl.lt
  have e1 : sb < w.heap.size + 1 := by omega
  have e2 : pb < w.heap.size + 1 := by omega
  have e3 : sb < w.heap.size + 1 + 1 := by omega
  have e4 : pb < w.heap.size + 1 + 1 := by omega
  go_enter Ybaf.func12, Ybaf.ntmps12
  go_upto_region 1 with fail
  go_cut [5] (fun v wc => ∃ ab mb slb, v = .pointer (some ⟨ab, 0, none⟩) ∧ Blk wc ab 77 [.pointer (some ⟨sb, 0, none⟩), .pointer (some ⟨pb, 0, none⟩), .map (some mb), .pointer none, .slice (some ⟨slb, 0, none⟩) 1 1, .slice none 0 0, .slice none 0 0, .slice none 0 0, .slice none 0 0, .int .u32 0] ∧ wc.heap[mb]? = some (.map #[] 0) ∧ Blk wc slb 21 [.int .i32 0] ∧ w.heap.size ≤ ab ∧ w.heap.size ≤ mb ∧ w.heap.size ≤ slb ∧ Below w.heap.size w wc)
  case first =>
    go_region_with (go_at_call 17; refine (cix_any sb _ (by first | exact s3 | (simp; exact s3) | (go_simp; done))).mono ?_; rintro e w1 ⟨rfl, rfl⟩)
    all_goals go_wp2_with fail
    all_goals go_meet
    all_goals (case rel => first | exact new_o1 w sb pb | exact new_o2 w sb pb)
  case rest =>
    obtain ⟨ab, mb, slb, rfl, hA, hM, hS, la, lm, ls, hbe⟩ := hcut
    have HSN : Hid (Blk w sb 50 [.slice (some ⟨svb, 0, none⟩) 4 4, .slice (some ⟨gp, 0, none⟩) 1 1, .slice none 0 0, .slice none 0 0, .int .i64 0, .map none, .map none] ∧ Blk w svb 58 (srvL st) ∧ Blk w gp 41 [.string gS, x1, x2, x3, .int .i64 c] ∧ Blk w pb 68 [.slice (some ⟨mvb, 0, none⟩) 1 1] ∧ Blk w mvb 65 [.string gid, .int .i64 mc, .string (selS fs), .string (selS ts), z4]) := ⟨hsn, hsv, hg, hpl, hmv⟩
    have l3 := hsv.lt
    have l4 := hg.lt
    have l5 := hmv.lt
    have nma : mb ≠ ab := by
      intro e; subst e; unfold Blk at hA; rw [hA] at hM; cases hM
    have nms : mb ≠ slb := by
      intro e; subst e; unfold Blk at hS; rw [hS] at hM; cases hM
    have nas : slb ≠ ab := hS.ne hA (by decide)
    have HA : Hid (Blk wc ab 77 [.pointer (some ⟨sb, 0, none⟩), .pointer (some ⟨pb, 0, none⟩), .map (some mb), .pointer none, .slice (some ⟨slb, 0, none⟩) 1 1, .slice none 0 0, .slice none 0 0, .slice none 0 0, .slice none 0 0, .int .u32 0] ∧ Blk wc slb 21 [.int .i32 0] ∧ Below w.heap.size w wc) := ⟨hA, hS, hbe⟩
    have hmap : wc.ownsMap Ybaf.prog 9 (plainElem Ybaf.prog 21) mb 0 (Dk 0) := map_none hM
    have s0' := (hsn.below hbe hsn.lt).at_ 0 rfl
    clear s0 s1 s3 p0 e1 e2 e3 e4 hA hS hbe hM hsn hsv hg hpl hmv hm4
    go_wp2_with fail
    go_loopw [38] (fun cv wr => ∃ k : Nat, k ≤ 4 ∧ cv = .int .i64 k ∧ wr.ownsMap Ybaf.prog 9 (plainElem Ybaf.prog 21) mb k (Dk k) ∧ Kp (· = mb) wc wr) (fun cv _ => 4 - (intOf cv).toNat)
    case atStart => exact ⟨0, by omega, rfl, hmap, Kp.refl _ _⟩
    case round =>
      clear hmap s0'
      obtain ⟨k, hk, rfl, hmap, hkp⟩ := hrel
      by_cases hlt : k < 4
      · have a2 := (hkp.blk HA.out.1 (fun e => nma (Eq.symm e))).at_ 2 rfl
        have hsn' := hkp.blk (HSN.out.1.below HA.out.2.2 HSN.out.1.lt) (fun e => by have : sb = mb := e; omega)
        have s0 := hsn'.at_ 0 rfl
        obtain ⟨u0, _, _⟩ := srv_at (hkp.blk (HSN.out.2.1.below HA.out.2.2 HSN.out.2.1.lt) (fun e => by have : svb = mb := e; omega)) hlt
        have z0 : (0 : Int) ≤ (k : Int) := by omega
        have z1 : (k : Int) < 4 := by omega
        have z2 : IntKind.i32.wrap (k : Int) = (k : Int) := by rw [IntKind.wrap_i32]; omega
        obtain ⟨w', hrun, hown', hgrow⟩ := World.ownsMap.update (w := wr.drew) hmap law9 Ybaf.underlying71 (by unfold maxLen; omega) (key := .string (idS k)) (val := .int .i32 (k : Nat)) (WideMaps.keyOf_string_mk Ybaf.underlying9 (idS_small k)) (plainElem_int Ybaf.underlying21 (wf32 (by omega) (by omega)))
        have HW : Hid (w'.ownsMap Ybaf.prog 9 (plainElem Ybaf.prog 21) mb (k + 1) (Dk (k + 1)) ∧ Kp (· = mb) wc w') := ⟨hown', (hkp.drew).grown hgrow (fun i hi => by cases hi; exact .inl rfl)⟩
        clear hsn' hmap hkp hown' hgrow
        generalize idS k = sK at *
        go_wp2_with fail
        go_region
        all_goals
          go_wp2_with fail
          go_roundw
          case rel => exact ⟨k + 1, by omega, by go_num, HW.out.1, HW.out.2⟩
          case measure => simp [intOf]; omega
      · obtain rfl : k = 4 := by omega
        have hA4 := hkp.blk HA.out.1 (fun e => nma (Eq.symm e))
        have hS4 := hkp.blk HA.out.2.1 (fun e => nms (Eq.symm e))
        have hK4 : Below w.heap.size w wr := HA.out.2.2.trans (hkp.below HA.out.2.2.size (fun i hi e => by have : i = mb := e; omega))
        have hmb := (show mb < wr.heap.size by obtain ⟨es, clock, hb, _⟩ := hmap; exact (Array.getElem?_eq_some_iff.1 hb).1)
        clear hkp
        cases gok with
        | true =>
          simp only [if_true] at hgid
          subst hgid
          have p0w := (HSN.out.2.2.2.1.below hK4 HSN.out.2.2.2.1.lt).at_ 0 rfl
          have hpbw : pb < wr.heap.size := Nat.lt_of_lt_of_le l2 hK4.size
          go_wp2_with fail
          clear p0w hpbw
          have hA5 := hA4.alloc (.map #[] 0)
          have hS5 := hS4.alloc (.map #[] 0)
          have hK5 := hK4.alloc hK4.size (.map #[] 0)
          have hZ5 : (wr.alloc (.map #[] 0)).heap[wr.heap.size]? = some (.map #[] 0) := heap_alloc_new wr _
          have hm5 := map_kp (X := fun _ => False) hmap ((Kp.refl (fun _ => False) wr).alloc (.map #[] 0)) (fun h => h)
          generalize wr.alloc (.map #[] 0) = W5 at hA5 hS5 hK5 hZ5 hm5 ⊢
          have nZa : wr.heap.size ≠ ab := by have := hA4.lt; omega
          have nZs : wr.heap.size ≠ slb := by have := hS4.lt; omega
          have nZm : wr.heap.size ≠ mb := by omega
          have nZw : w.heap.size ≤ wr.heap.size := hK4.size
          generalize wr.heap.size = Z at *
          clear hA4 hS4 hK4 hmap
          have a4 := hA5.at_ 4 rfl
          have sl0 := hS5.at_ 0 rfl
          have slf := hS5.frozen 0
          have p0 := (HSN.out.2.2.2.1.below hK5 HSN.out.2.2.2.1.lt).at_ 0 rfl
          have mv0 := (HSN.out.2.2.2.2.below hK5 HSN.out.2.2.2.2.lt).at_ 0 rfl
          refine wp_loop_rounds 2 ?_
          rw [rounds_succ]
          go_wp2_with (first
            | (at_lookup; refine wpList_lookup_own_ok_int _ rfl _ _ 71 rfl 9 21 .i32 law9 Ybaf.underlying71 Ybaf.underlying21 (zero21 _) Z 0 (.map []) rfl (map_none hZ5) _ _ rfl (WideMaps.keyOf_string_mk Ybaf.underlying9 (show (⟨#[103]⟩ : ByteArray).size ≤ maxLen by decide)) ?_; intro c1 hat hwc; rw [show Maps.has (DataW.map [] : DataW Unit) (.string [103]) = false from rfl])
            | (at_len; refine wpList_len_own _ rfl _ 71 rfl 9 21 Ybaf.underlying71 (plainElem (H := Unit) Ybaf.prog 21) Z 0 (.map []) rfl (map_none hZ5) ?_; rw [show Maps.size (DataW.map [] : DataW Unit) = 0 from rfl])
            | (at_mapUpdate; refine wpList_mapUpdate_own _ rfl _ _ _ 71 rfl 9 21 law9 Ybaf.underlying71 _ Z 0 _ rfl (map_none hZ5) (by decide) _ _ _ rfl rfl (WideMaps.keyOf_string_mk Ybaf.underlying9 (show (⟨#[103]⟩ : ByteArray).size ≤ maxLen by decide)) _ [] (plainElem_int Ybaf.underlying21 (show (Lit.int .i32 0).wf = true by decide)) ?_; intro w6 hown6 hgrow; have hk6 : Kp (· = Z) W5 w6 := (Kp.refl (· = Z) W5).grown hgrow (fun k hk => by cases hk; exact .inl rfl); have hA6 := hk6.blk hA5 (fun e => nZa (Eq.symm e)); have hS6 := hk6.blk hS5 (fun e => nZs (Eq.symm e)); have a46 := hA6.at_ 4 rfl; have sl06 := hS6.at_ 0 rfl; have slf6 := hS6.frozen 0))
          have hA7 := hA6.other (a := ⟨slb, 0, none⟩) (show ab ≠ slb from fun e => nas e.symm) (.int .i32 0)
          have hS7 := hS6.set 0 (.int .i32 0)
          have hkS : Kp (· = slb) w6 (w6.setCell ⟨slb, 0, none⟩ (.int .i32 0)) := (Kp.refl (· = slb) w6).setCell (.inl rfl) _
          have hO7 := map_kp hown6 hkS nZs
          have hm7 := map_kp (map_kp hm5 hk6 (fun e => nZm (Eq.symm e))) hkS nms
          have hK7 : Below w.heap.size w (w6.setCell ⟨slb, 0, none⟩ (.int .i32 0)) := (hK5.trans (hk6.below hK5.size (fun i hi e => by have : i = Z := e; omega))).setCell ls _
          generalize w6.setCell ⟨slb, 0, none⟩ (.int .i32 0) = W7 at hA7 hS7 hkS hO7 hm7 hK7 ⊢
          clear hA5 hS5 hK5 hZ5 hm5 hk6 hA6 hS6 a46 sl06 slf6 a4 sl0 slf p0 mv0 hown6 hgrow hkS
          have a5 := hA7.at_ 5 rfl
          have f5 := hA7.frozen 5
          have la7 := hA7.lt
          have ls7 := hS7.lt
          have lZ7 : Z < W7.heap.size := by obtain ⟨es, clock, hb, _⟩ := hO7; exact (Array.getElem?_eq_some_iff.1 hb).1
          have lm7 : mb < W7.heap.size := by obtain ⟨es, clock, hb, _⟩ := hm7; exact (Array.getElem?_eq_some_iff.1 hb).1
          rw [rounds_succ]
          go_wp2_with (at_len; refine wpList_len_own _ rfl _ 71 rfl 9 21 Ybaf.underlying71 (plainElem (H := Unit) Ybaf.prog 21) Z 1 _ rfl hO7 ?_; rw [show Maps.size ((DataW.map [] : DataW Unit).put (.string [103]) (.lit (.int .i32 0))) = 1 from rfl])
          refine wp_loop_rounds 2 ?_
          rw [rounds_succ]
          go_wp2_with fail
          rw [rounds_succ]
          have s1w := (HSN.out.1.below hK7 HSN.out.1.lt).at_ 1 rfl
          have lsb : sb < W7.heap.size := Nat.lt_of_lt_of_le l1 hK7.size
          go_wp2_with fail
          clear s1w lsb
          have hA8 := (hA7.set 5 (.slice (some ⟨W7.heap.size, 0, none⟩) 1 1)).alloc (.cells #[.int .i32 (-1)] 21)
          have hk8 : Kp (· = ab) W7 ((W7.setCell ⟨ab, 5, none⟩ (.slice (some ⟨W7.heap.size, 0, none⟩) 1 1)).alloc (.cells #[.int .i32 (-1)] 21)) := ((Kp.refl (· = ab) W7).setCell (.inl rfl) _).alloc _
          have hS8 := hk8.blk hS7 nas
          have hG8 : Blk ((W7.setCell ⟨ab, 5, none⟩ (.slice (some ⟨W7.heap.size, 0, none⟩) 1 1)).alloc (.cells #[.int .i32 (-1)] 21)) W7.heap.size 21 [.int .i32 (-1)] := by
            have h := Blk.new (W7.setCell ⟨ab, 5, none⟩ (.slice (some ⟨W7.heap.size, 0, none⟩) 1 1)) 21 [.int .i32 (-1)]
            rw [show (W7.setCell ⟨ab, 5, none⟩ (.slice (some ⟨W7.heap.size, 0, none⟩) 1 1)).heap.size = W7.heap.size by simp] at h
            exact h
          have hO8 := map_kp hO7 hk8 nZa
          have hm8 := map_kp hm7 hk8 nma
          have hK8 : Below w.heap.size w ((W7.setCell ⟨ab, 5, none⟩ (.slice (some ⟨W7.heap.size, 0, none⟩) 1 1)).alloc (.cells #[.int .i32 (-1)] 21)) := (hK7.setCell la _).alloc (by simpa using hK7.size) _
          have lg8 := hK7.size
          generalize (W7.setCell ⟨ab, 5, none⟩ (.slice (some ⟨W7.heap.size, 0, none⟩) 1 1)).alloc (.cells #[.int .i32 (-1)] 21) = W8 at hA8 hk8 hS8 hG8 hO8 hm8 hK8 ⊢
          have ngZ : W7.heap.size ≠ Z := by omega
          have ngm : W7.heap.size ≠ mb := by omega
          have nga : W7.heap.size ≠ ab := by omega
          have ngs : W7.heap.size ≠ slb := by omega
          generalize W7.heap.size = gq at *
          clear hA7 hS7 hO7 hm7 hK7 hk8 la7 ls7 lZ7 lm7 a5 f5
          have a5 := hA8.at_ 5 rfl
          have gq0 := hG8.at_ 0 rfl
          have gqf := hG8.frozen 0
          have s1 := (HSN.out.1.below hK8 HSN.out.1.lt).at_ 1 rfl
          have g0 := (HSN.out.2.2.1.below hK8 HSN.out.2.2.1.lt).at_ 0 rfl
          refine wp_loop_rounds 2 ?_
          rw [rounds_succ]
          go_wp2_with (at_lookup; refine wpList_lookup_own_ok_int _ rfl _ _ 71 rfl 9 21 .i32 law9 Ybaf.underlying71 Ybaf.underlying21 (zero21 _) Z 1 _ rfl hO8 _ _ rfl (WideMaps.keyOf_string_mk Ybaf.underlying9 (show gS.size ≤ maxLen by decide)) ?_; intro c1 hat hwc; rw [show Maps.has ((DataW.map [] : DataW Unit).put (.string [103]) (.lit (.int .i32 0))) (.string gS.data.toList) = true from rfl]; obtain rfl : c1 = 0 := by (have h9 : ((DataW.map [] : DataW Unit).put (.string [103]) (.lit (.int .i32 0))).atKey (.string gS.data.toList) (.lit (.int .i32 0)) = .lit (.int .i32 0) := rfl; rw [h9] at hat; injection hat with hat; injection hat with _ hat; exact hat.symm))
          rw [rounds_succ]
          have hA9 := hA8.other (a := ⟨gq, 0, none⟩) (show ab ≠ gq from fun e => nga e.symm) (.int .i32 0)
          have hS9 := hS8.other (a := ⟨gq, 0, none⟩) (show slb ≠ gq from fun e => ngs e.symm) (.int .i32 0)
          have hG9 := hG8.set 0 (.int .i32 0)
          have hkG : Kp (· = gq) W8 (W8.setCell ⟨gq, 0, none⟩ (.int .i32 0)) := (Kp.refl (· = gq) W8).setCell (.inl rfl) _
          have hO9 := map_kp hO8 hkG (fun e => ngZ (Eq.symm e))
          have hm9 := map_kp hm8 hkG (fun e => ngm (Eq.symm e))
          have hK9 : Below w.heap.size w (W8.setCell ⟨gq, 0, none⟩ (.int .i32 0)) := hK8.setCell lg8 _
          generalize W8.setCell ⟨gq, 0, none⟩ (.int .i32 0) = W9 at hA9 hS9 hG9 hkG hO9 hm9 hK9 ⊢
          clear hA8 hS8 hG8 hkG hO8 hm8 hK8 a5 gq0 gqf s1 g0
          have a6 := hA9.at_ 6 rfl
          have f6 := hA9.frozen 6
          have la9 := hA9.lt
          go_wp2_with (at_len; refine wpList_len_own _ rfl _ 71 rfl 9 21 Ybaf.underlying71 (plainElem (H := Unit) Ybaf.prog 21) Z 1 _ rfl hO9 ?_; rw [show Maps.size ((DataW.map [] : DataW Unit).put (.string [103]) (.lit (.int .i32 0))) = 1 from rfl])
          have hA10 := (hA9.set 6 (.slice (some ⟨W9.heap.size, 0, none⟩) 1 1)).alloc (.cells #[.bool false] 4)
          have hk10 : Kp (· = ab) W9 ((W9.setCell ⟨ab, 6, none⟩ (.slice (some ⟨W9.heap.size, 0, none⟩) 1 1)).alloc (.cells #[.bool false] 4)) := ((Kp.refl (· = ab) W9).setCell (.inl rfl) _).alloc _
          have hS10 := hk10.blk hS9 nas
          have hG10 := hk10.blk hG9 nga
          have hR10 : Blk ((W9.setCell ⟨ab, 6, none⟩ (.slice (some ⟨W9.heap.size, 0, none⟩) 1 1)).alloc (.cells #[.bool false] 4)) W9.heap.size 4 [.bool false] := by
            have h := Blk.new (W9.setCell ⟨ab, 6, none⟩ (.slice (some ⟨W9.heap.size, 0, none⟩) 1 1)) 4 [.bool false]
            rw [show (W9.setCell ⟨ab, 6, none⟩ (.slice (some ⟨W9.heap.size, 0, none⟩) 1 1)).heap.size = W9.heap.size by simp] at h
            exact h
          have hm10 := map_kp hm9 hk10 nma
          have hK10 : Below w.heap.size w ((W9.setCell ⟨ab, 6, none⟩ (.slice (some ⟨W9.heap.size, 0, none⟩) 1 1)).alloc (.cells #[.bool false] 4)) := (hK9.setCell la _).alloc (by simpa using hK9.size) _
          have lr10 := hK9.size
          have nra : W9.heap.size ≠ ab := by omega
          generalize (W9.setCell ⟨ab, 6, none⟩ (.slice (some ⟨W9.heap.size, 0, none⟩) 1 1)).alloc (.cells #[.bool false] 4) = W10 at hA10 hk10 hS10 hG10 hR10 hm10 hK10 ⊢
          generalize W9.heap.size = rq at *
          clear hA9 hS9 hG9 hO9 hm9 hK9 hk10 a6 f6 la9
          refine (back_any ab pb mvb sb gp slb gq mb fs ts true c mc _ _ _ _ _ _ _ _ _ _ _ _ _ W10 hA10 (HSN.out.2.2.2.1.below hK10 HSN.out.2.2.2.1.lt) (HSN.out.2.2.2.2.below hK10 HSN.out.2.2.2.2.lt) (HSN.out.1.below hK10 HSN.out.1.lt) (HSN.out.2.2.1.below hK10 HSN.out.2.2.1.lt) hS10 hG10 hm10 hfs hts hc0 hc1 hm0 hm1).mono ?_
          rintro e w11 ⟨rfl, cbb, hA11, hC11, lcb, hk11⟩
          go_wp2_with fail
          go_ret
          exact ⟨ab, mb, slb, gq, rq, cbb, rfl, hA11, hk11.blk hS10 nas, hk11.blk hG10 nga, hk11.blk hR10 nra, hC11, map_kp hm10 hk11 nma, ⟨la, lr10, ls, lg8, Nat.le_trans hK10.size lcb⟩, hK10.trans (hk11.below hK10.size (fun i hi e => by have : i = ab := e; omega))⟩
        | false =>
          simp only [Bool.false_eq_true, if_false] at hgid
          subst hgid
          have p0w := (HSN.out.2.2.2.1.below hK4 HSN.out.2.2.2.1.lt).at_ 0 rfl
          have hpbw : pb < wr.heap.size := Nat.lt_of_lt_of_le l2 hK4.size
          go_wp2_with fail
          clear p0w hpbw
          have hA5 := hA4.alloc (.map #[] 0)
          have hS5 := hS4.alloc (.map #[] 0)
          have hK5 := hK4.alloc hK4.size (.map #[] 0)
          have hZ5 : (wr.alloc (.map #[] 0)).heap[wr.heap.size]? = some (.map #[] 0) := heap_alloc_new wr _
          have hm5 := map_kp (X := fun _ => False) hmap ((Kp.refl (fun _ => False) wr).alloc (.map #[] 0)) (fun h => h)
          generalize wr.alloc (.map #[] 0) = W5 at hA5 hS5 hK5 hZ5 hm5 ⊢
          have nZa : wr.heap.size ≠ ab := by have := hA4.lt; omega
          have nZs : wr.heap.size ≠ slb := by have := hS4.lt; omega
          have nZm : wr.heap.size ≠ mb := by omega
          have nZw : w.heap.size ≤ wr.heap.size := hK4.size
          generalize wr.heap.size = Z at *
          clear hA4 hS4 hK4 hmap
          have a4 := hA5.at_ 4 rfl
          have sl0 := hS5.at_ 0 rfl
          have slf := hS5.frozen 0
          have p0 := (HSN.out.2.2.2.1.below hK5 HSN.out.2.2.2.1.lt).at_ 0 rfl
          have mv0 := (HSN.out.2.2.2.2.below hK5 HSN.out.2.2.2.2.lt).at_ 0 rfl
          refine wp_loop_rounds 2 ?_
          rw [rounds_succ]
          go_wp2_with (first
            | (at_lookup; refine wpList_lookup_own_ok_int _ rfl _ _ 71 rfl 9 21 .i32 law9 Ybaf.underlying71 Ybaf.underlying21 (zero21 _) Z 0 (.map []) rfl (map_none hZ5) _ _ rfl (WideMaps.keyOf_string_mk Ybaf.underlying9 (show (⟨#[104]⟩ : ByteArray).size ≤ maxLen by decide)) ?_; intro c1 hat hwc; rw [show Maps.has (DataW.map [] : DataW Unit) (.string [104]) = false from rfl])
            | (at_len; refine wpList_len_own _ rfl _ 71 rfl 9 21 Ybaf.underlying71 (plainElem (H := Unit) Ybaf.prog 21) Z 0 (.map []) rfl (map_none hZ5) ?_; rw [show Maps.size (DataW.map [] : DataW Unit) = 0 from rfl])
            | (at_mapUpdate; refine wpList_mapUpdate_own _ rfl _ _ _ 71 rfl 9 21 law9 Ybaf.underlying71 _ Z 0 _ rfl (map_none hZ5) (by decide) _ _ _ rfl rfl (WideMaps.keyOf_string_mk Ybaf.underlying9 (show (⟨#[104]⟩ : ByteArray).size ≤ maxLen by decide)) _ [] (plainElem_int Ybaf.underlying21 (show (Lit.int .i32 0).wf = true by decide)) ?_; intro w6 hown6 hgrow; have hk6 : Kp (· = Z) W5 w6 := (Kp.refl (· = Z) W5).grown hgrow (fun k hk => by cases hk; exact .inl rfl); have hA6 := hk6.blk hA5 (fun e => nZa (Eq.symm e)); have hS6 := hk6.blk hS5 (fun e => nZs (Eq.symm e)); have a46 := hA6.at_ 4 rfl; have sl06 := hS6.at_ 0 rfl; have slf6 := hS6.frozen 0))
          have hA7 := hA6.other (a := ⟨slb, 0, none⟩) (show ab ≠ slb from fun e => nas e.symm) (.int .i32 0)
          have hS7 := hS6.set 0 (.int .i32 0)
          have hkS : Kp (· = slb) w6 (w6.setCell ⟨slb, 0, none⟩ (.int .i32 0)) := (Kp.refl (· = slb) w6).setCell (.inl rfl) _
          have hO7 := map_kp hown6 hkS nZs
          have hm7 := map_kp (map_kp hm5 hk6 (fun e => nZm (Eq.symm e))) hkS nms
          have hK7 : Below w.heap.size w (w6.setCell ⟨slb, 0, none⟩ (.int .i32 0)) := (hK5.trans (hk6.below hK5.size (fun i hi e => by have : i = Z := e; omega))).setCell ls _
          generalize w6.setCell ⟨slb, 0, none⟩ (.int .i32 0) = W7 at hA7 hS7 hkS hO7 hm7 hK7 ⊢
          clear hA5 hS5 hK5 hZ5 hm5 hk6 hA6 hS6 a46 sl06 slf6 a4 sl0 slf p0 mv0 hown6 hgrow hkS
          have a5 := hA7.at_ 5 rfl
          have f5 := hA7.frozen 5
          have la7 := hA7.lt
          have ls7 := hS7.lt
          have lZ7 : Z < W7.heap.size := by obtain ⟨es, clock, hb, _⟩ := hO7; exact (Array.getElem?_eq_some_iff.1 hb).1
          have lm7 : mb < W7.heap.size := by obtain ⟨es, clock, hb, _⟩ := hm7; exact (Array.getElem?_eq_some_iff.1 hb).1
          rw [rounds_succ]
          go_wp2_with (at_len; refine wpList_len_own _ rfl _ 71 rfl 9 21 Ybaf.underlying71 (plainElem (H := Unit) Ybaf.prog 21) Z 1 _ rfl hO7 ?_; rw [show Maps.size ((DataW.map [] : DataW Unit).put (.string [104]) (.lit (.int .i32 0))) = 1 from rfl])
          refine wp_loop_rounds 2 ?_
          rw [rounds_succ]
          go_wp2_with fail
          rw [rounds_succ]
          have s1w := (HSN.out.1.below hK7 HSN.out.1.lt).at_ 1 rfl
          have lsb : sb < W7.heap.size := Nat.lt_of_lt_of_le l1 hK7.size
          go_wp2_with fail
          clear s1w lsb
          have hA8 := (hA7.set 5 (.slice (some ⟨W7.heap.size, 0, none⟩) 1 1)).alloc (.cells #[.int .i32 (-1)] 21)
          have hk8 : Kp (· = ab) W7 ((W7.setCell ⟨ab, 5, none⟩ (.slice (some ⟨W7.heap.size, 0, none⟩) 1 1)).alloc (.cells #[.int .i32 (-1)] 21)) := ((Kp.refl (· = ab) W7).setCell (.inl rfl) _).alloc _
          have hS8 := hk8.blk hS7 nas
          have hG8 : Blk ((W7.setCell ⟨ab, 5, none⟩ (.slice (some ⟨W7.heap.size, 0, none⟩) 1 1)).alloc (.cells #[.int .i32 (-1)] 21)) W7.heap.size 21 [.int .i32 (-1)] := by
            have h := Blk.new (W7.setCell ⟨ab, 5, none⟩ (.slice (some ⟨W7.heap.size, 0, none⟩) 1 1)) 21 [.int .i32 (-1)]
            rw [show (W7.setCell ⟨ab, 5, none⟩ (.slice (some ⟨W7.heap.size, 0, none⟩) 1 1)).heap.size = W7.heap.size by simp] at h
            exact h
          have hO8 := map_kp hO7 hk8 nZa
          have hm8 := map_kp hm7 hk8 nma
          have hK8 : Below w.heap.size w ((W7.setCell ⟨ab, 5, none⟩ (.slice (some ⟨W7.heap.size, 0, none⟩) 1 1)).alloc (.cells #[.int .i32 (-1)] 21)) := (hK7.setCell la _).alloc (by simpa using hK7.size) _
          have lg8 := hK7.size
          generalize (W7.setCell ⟨ab, 5, none⟩ (.slice (some ⟨W7.heap.size, 0, none⟩) 1 1)).alloc (.cells #[.int .i32 (-1)] 21) = W8 at hA8 hk8 hS8 hG8 hO8 hm8 hK8 ⊢
          have ngZ : W7.heap.size ≠ Z := by omega
          have ngm : W7.heap.size ≠ mb := by omega
          have nga : W7.heap.size ≠ ab := by omega
          have ngs : W7.heap.size ≠ slb := by omega
          generalize W7.heap.size = gq at *
          clear hA7 hS7 hO7 hm7 hK7 hk8 la7 ls7 lZ7 lm7 a5 f5
          have a5 := hA8.at_ 5 rfl
          have gq0 := hG8.at_ 0 rfl
          have gqf := hG8.frozen 0
          have s1 := (HSN.out.1.below hK8 HSN.out.1.lt).at_ 1 rfl
          have g0 := (HSN.out.2.2.1.below hK8 HSN.out.2.2.1.lt).at_ 0 rfl
          refine wp_loop_rounds 2 ?_
          rw [rounds_succ]
          go_wp2_with (at_lookup; refine wpList_lookup_own_ok_int _ rfl _ _ 71 rfl 9 21 .i32 law9 Ybaf.underlying71 Ybaf.underlying21 (zero21 _) Z 1 _ rfl hO8 _ _ rfl (WideMaps.keyOf_string_mk Ybaf.underlying9 (show gS.size ≤ maxLen by decide)) ?_; intro c1 hat hwc; rw [show Maps.has ((DataW.map [] : DataW Unit).put (.string [104]) (.lit (.int .i32 0))) (.string gS.data.toList) = false from rfl])
          rw [rounds_succ]
          have hA9 := hA8
          have hS9 := hS8
          have hG9 := hG8
          have hO9 := hO8
          have hm9 := hm8
          have hK9 := hK8
          generalize W8 = W9 at hA9 hS9 hG9 hO9 hm9 hK9 ⊢
          clear hA8 hS8 hG8 hO8 hm8 hK8 a5 gq0 gqf s1 g0
          have a6 := hA9.at_ 6 rfl
          have f6 := hA9.frozen 6
          have la9 := hA9.lt
          go_wp2_with (at_len; refine wpList_len_own _ rfl _ 71 rfl 9 21 Ybaf.underlying71 (plainElem (H := Unit) Ybaf.prog 21) Z 1 _ rfl hO9 ?_; rw [show Maps.size ((DataW.map [] : DataW Unit).put (.string [104]) (.lit (.int .i32 0))) = 1 from rfl])
          have hA10 := (hA9.set 6 (.slice (some ⟨W9.heap.size, 0, none⟩) 1 1)).alloc (.cells #[.bool false] 4)
          have hk10 : Kp (· = ab) W9 ((W9.setCell ⟨ab, 6, none⟩ (.slice (some ⟨W9.heap.size, 0, none⟩) 1 1)).alloc (.cells #[.bool false] 4)) := ((Kp.refl (· = ab) W9).setCell (.inl rfl) _).alloc _
          have hS10 := hk10.blk hS9 nas
          have hG10 := hk10.blk hG9 nga
          have hR10 : Blk ((W9.setCell ⟨ab, 6, none⟩ (.slice (some ⟨W9.heap.size, 0, none⟩) 1 1)).alloc (.cells #[.bool false] 4)) W9.heap.size 4 [.bool false] := by
            have h := Blk.new (W9.setCell ⟨ab, 6, none⟩ (.slice (some ⟨W9.heap.size, 0, none⟩) 1 1)) 4 [.bool false]
            rw [show (W9.setCell ⟨ab, 6, none⟩ (.slice (some ⟨W9.heap.size, 0, none⟩) 1 1)).heap.size = W9.heap.size by simp] at h
            exact h
          have hm10 := map_kp hm9 hk10 nma
          have hK10 : Below w.heap.size w ((W9.setCell ⟨ab, 6, none⟩ (.slice (some ⟨W9.heap.size, 0, none⟩) 1 1)).alloc (.cells #[.bool false] 4)) := (hK9.setCell la _).alloc (by simpa using hK9.size) _
          have lr10 := hK9.size
          have nra : W9.heap.size ≠ ab := by omega
          generalize (W9.setCell ⟨ab, 6, none⟩ (.slice (some ⟨W9.heap.size, 0, none⟩) 1 1)).alloc (.cells #[.bool false] 4) = W10 at hA10 hk10 hS10 hG10 hR10 hm10 hK10 ⊢
          generalize W9.heap.size = rq at *
          clear hA9 hS9 hG9 hO9 hm9 hK9 hk10 a6 f6 la9
          refine (back_any ab pb mvb sb gp slb gq mb fs ts false c mc _ _ _ _ _ _ _ _ _ _ _ _ _ W10 hA10 (HSN.out.2.2.2.1.below hK10 HSN.out.2.2.2.1.lt) (HSN.out.2.2.2.2.below hK10 HSN.out.2.2.2.2.lt) (HSN.out.1.below hK10 HSN.out.1.lt) (HSN.out.2.2.1.below hK10 HSN.out.2.2.1.lt) hS10 hG10 hm10 hfs hts hc0 hc1 hm0 hm1).mono ?_
          rintro e w11 ⟨rfl, cbb, hA11, hC11, lcb, hk11⟩
          go_wp2_with fail
          go_ret
          exact ⟨ab, mb, slb, gq, rq, cbb, rfl, hA11, hk11.blk hS10 nas, hk11.blk hG10 nga, hk11.blk hR10 nra, hC11, map_kp hm10 hk11 nma, ⟨la, lr10, ls, lg8, Nat.le_trans hK10.size lcb⟩, hK10.trans (hk11.below hK10.size (fun i hi e => by have : i = ab := e; omega))⟩

end Go.Proofs.YbulkadugFmt

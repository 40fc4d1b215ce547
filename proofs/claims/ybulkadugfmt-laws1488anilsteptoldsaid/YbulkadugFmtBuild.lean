/-
  LawS1488ANilStep over toys/ybulkadugfmt: zzs1488abuild.
-/
import Derived.Test.YbulkadugFmtNew
namespace Go.Proofs.YbulkadugFmt
open Go.RowKit Go.Maps
attribute [local go_sem ↓] Go.wp_at_zero Go.wp_at_succ

def zsrv : List Value := [.string ⟨#[]⟩, .string ⟨#[]⟩, .map none, .int .i64 0, .pointer none]
theorem mk42 (w : World) : (Instr.makeSlice 42 (.int .i64 4) (.int .i64 4)).run Ybaf.prog w = .ok (.slice (some ⟨w.heap.size, 0, none⟩) 4 4) (w.alloc (.cells (zsrv ++ zsrv ++ zsrv ++ zsrv).toArray 58)) := by kernel_rfl

def svk (st : Nat → Nat) (k i : Nat) : List Value := if i < k then srv st i else zsrv
def slk (st : Nat → Nat) (k : Nat) : List Value := svk st k 0 ++ svk st k 1 ++ svk st k 2 ++ svk st k 3
def stk (st : Nat → Nat) (k i : Nat) : Value := .int .i64 (if i < k then (st i : Int) else 0)
def zlk (st : Nat → Nat) (k : Nat) : List Value := [.pointer none, .pointer none, stk st k 0, stk st k 1, stk st k 2, stk st k 3, .slice none 0 0, .int .i64 0, .int .i64 0, .int .i64 0, .string ⟨#[]⟩, .string ⟨#[]⟩, .int .i32 0, .int .i32 0]

/-- The bytes that came in. -/
def Rs (w : World) (ad : Option Addr) (n : Nat) (X : Nat → Nat) : Prop := (n = 0 ∨ ∃ g off, ad = some ⟨g, off, none⟩ ∧ ∀ i, i < n → w.cell? ⟨g, off + i, none⟩ = some (.int .u8 (X i : Nat))) ∧ ∀ i, i < n → X i < 256
/-- The move's config id. -/
def mcF (c c4 : Nat) : Int := if c4 = 0 then (c : Int) - 1 else if c4 = 3 then (c : Int) + 1 else c
/-- What the call hands back. -/
def BLP (w : World) (D : Cd) (e : Ending) (w' : World) : Prop :=
  ∃ (B : Bs) (zb : Nat) (oa : Option Addr) (oc : Nat), e = .returned (.pointer (some ⟨zb, 0, none⟩)) ∧ AM w' B D w.heap.size D.L.length ∧
    Blk w' zb 33 [.pointer (some ⟨B.sb, 0, none⟩), .pointer (some ⟨B.ab, 0, none⟩), .int .i64 (D.st 0 : Nat), .int .i64 (D.st 1 : Nat), .int .i64 (D.st 2 : Nat), .int .i64 (D.st 3 : Nat), .slice oa D.L.length oc, .int .i64 D.c, .int .i64 D.mc, .int .i64 (D.rf : Nat), .string D.gid, .string (selS D.fs), .int .i32 (selI D.fs), .int .i32 (selI D.ts)] ∧
    Ls w' oa D.L ∧ (∀ q, oa = some q → w.heap.size ≤ q.block ∧ q.block ≠ B.rb ∧ ∃ l, Blk w' q.block 21 l) ∧ (w.heap.size ≤ B.ab ∧ w.heap.size ≤ B.gp ∧ w.heap.size ≤ B.rfb ∧ w.heap.size ≤ zb ∧ w.heap.size ≤ B.slb ∧ w.heap.size ≤ B.grb ∧ w.heap.size ≤ B.cbb) ∧ Below w.heap.size w w'
/-- Memory behind the move and the plan. -/
theorem fin_k {w : World} {b t : Nat} {l : List Value} (h : Blk w b t l) (m p : Obj) : Blk ((w.alloc m).alloc p).drew b t l := ((h.alloc m).alloc p).drew
theorem fin_pl (w : World) (m : Obj) : Blk ((w.alloc m).alloc (.cells #[.slice (some ⟨w.heap.size, 0, none⟩) 1 1] 68)).drew (w.heap.size + 1) 68 [.slice (some ⟨w.heap.size, 0, none⟩) 1 1] := by
  have h := Blk.new (w.alloc m) 68 [.slice (some ⟨w.heap.size, 0, none⟩) 1 1]
  rw [World.size_alloc] at h
  exact h.drew
theorem fin_mv (w : World) (p : Obj) {z0 z1 z4 : Value} {sF sT : ByteArray} (l : List Value) {fs ts : Nat} (h1 : selS fs = sF) (h2 : selS ts = sT) (hl : l = [z0, z1, .string sF, .string sT, z4] := by rfl) : Blk ((w.alloc (.cells l.toArray 65)).alloc p).drew w.heap.size 65 [z0, z1, .string (selS fs), .string (selS ts), z4] := by
  rw [h1, h2, ← hl]
  exact ((Blk.new w 65 l).alloc p).drew
theorem own_any {w : World} {base n c : Nat} {oa : Option Addr} {xs : List Value} (h : w.ownsRow base 21 1 (.slice oa n c) n xs) : ∀ q, oa = some q → ∃ l, Blk w q.block 21 l := by
  rintro q rfl
  rcases h.2 with ⟨e, _⟩ | ⟨g, _, cur, e, _, hh, _⟩
  · cases e
  · cases e
    exact ⟨cur.toList, by unfold Blk; rw [hh]⟩
/-- The replicas. -/
def rL (X : Nat → Nat) (n : Nat) : List Int := (List.range n).map (fun i => ((X i % 4 : Nat) : Int))
theorem rL_len (X : Nat → Nat) (n : Nat) : (rL X n).length = n := by simp [rL]
theorem row_own {w : World} {base rb n : Nat} {X : Nat → Nat} (h : w.rowIs rb 21 n (fun i => .int .i32 ((X i % 4 : Nat) : Int))) (hb : base ≤ rb) (hn : n ≤ maxLen) : w.ownsRow base 21 1 (.slice (some ⟨rb, 0, none⟩) n n) n ((rL X n).map (.int .i32 ·)) := by
  obtain ⟨c, hh, hs, hv⟩ := h
  refine ⟨by simp [rL], .inr ⟨rb, n, c, rfl, hb, hh, Nat.le_refl _, hn, by simpa using hs, ?_⟩⟩
  apply List.ext_getElem?
  intro j
  by_cases hj : j < n
  · rw [List.getElem?_take_of_lt (by omega), Array.getElem?_toList, hv j hj]
    simp [rL, hj]
  · rw [List.getElem?_eq_none (by simp; omega), List.getElem?_eq_none (by simp [rL]; omega)]

set_option maxRecDepth 100000 in
set_option maxHeartbeats 4000000 in
theorem build_any (rf cfg gs fs ts cs : Nat) (a : Nat → Nat) (st : Nat → Nat) (ad : Option Addr) (n cap : Nat) (w : World) (_ha : ∀ i, i < 4 → a i < 256) (hst : ∀ i, st i = a i % 3) (hn : n ≤ 1024) (c r5 : Nat) (hc : c = cfg % 8) (hr5 : r5 = rf % 5) (hcfg : cfg < 256) (hrf : rf < 256) (gok : Bool) (hgok : gok = decide (gs % 8 ≠ 7)) (gid : ByteArray) (hgidE : gid = if gok then (⟨#[103]⟩ : ByteArray) else ⟨#[104]⟩) (f6 t6 c4 : Nat) (hf6 : f6 = fs % 6) (ht6 : t6 = ts % 6) (hc4 : c4 = cs % 4) (hfs6 : fs < 256) (hts6 : ts < 256) (hcs6 : cs < 256) (X : Nat → Nat) (hX0 : Rs w ad n X) :
    Calls Ybaf.prog 4 #[.int .u8 rf, .int .u8 cfg, .agg #[.int .u8 (a 0 : Nat), .int .u8 (a 1 : Nat), .int .u8 (a 2 : Nat), .int .u8 (a 3 : Nat)], .slice ad n cap, .int .u8 gs, .int .u8 fs, .int .u8 ts, .int .u8 cs] w fun e w' => BLP w ⟨st, rL X n, 1 + r5, c, mcF c c4, gid, gok, f6, t6, cbF gok c (mcF c c4) f6 t6⟩ e w' := by
  have hmk := mk42
  have ec : (cfg : Int) % 8 = (c : Int) := by omega
  have er : (rf : Int) % 5 = (r5 : Int) := by omega
  have hc8 : c < 8 := by omega
  have hr58 : r5 < 5 := by omega
  clear hc hr5
  have HGS : Hid (gok = decide (gs % 8 ≠ 7)) := hgok
  have HGID : Hid (gid = if gok then (⟨#[103]⟩ : ByteArray) else ⟨#[104]⟩) := hgidE
  clear hgok hgidE
  have HR : Hid (Rs w ad n X) := hX0
  clear hX0
  go_enter Ybaf.func4, Ybaf.ntmps4
  go_wp2_with fail
  have hW0 : Blk (((w.alloc (.cells #[.int .u8 (a 0 : Nat), .int .u8 (a 1 : Nat), .int .u8 (a 2 : Nat), .int .u8 (a 3 : Nat)] 22)).alloc (.cells (zlk st 0).toArray 33)).alloc (.cells (slk st 0).toArray 58)) w.heap.size 22 [.int .u8 (a 0 : Nat), .int .u8 (a 1 : Nat), .int .u8 (a 2 : Nat), .int .u8 (a 3 : Nat)] := ((Blk.new w 22 _).alloc _).alloc _
  have hW1 : Blk (((w.alloc (.cells #[.int .u8 (a 0 : Nat), .int .u8 (a 1 : Nat), .int .u8 (a 2 : Nat), .int .u8 (a 3 : Nat)] 22)).alloc (.cells (zlk st 0).toArray 33)).alloc (.cells (slk st 0).toArray 58)) (w.heap.size + 1) 33 (zlk st 0) := by
    have h := Blk.new (w.alloc (.cells #[.int .u8 (a 0 : Nat), .int .u8 (a 1 : Nat), .int .u8 (a 2 : Nat), .int .u8 (a 3 : Nat)] 22)) 33 (zlk st 0)
    rw [World.size_alloc] at h
    exact h.alloc _
  have hW2 : Blk (((w.alloc (.cells #[.int .u8 (a 0 : Nat), .int .u8 (a 1 : Nat), .int .u8 (a 2 : Nat), .int .u8 (a 3 : Nat)] 22)).alloc (.cells (zlk st 0).toArray 33)).alloc (.cells (slk st 0).toArray 58)) (w.heap.size + 2) 58 (slk st 0) := by
    have h := Blk.new ((w.alloc (.cells #[.int .u8 (a 0 : Nat), .int .u8 (a 1 : Nat), .int .u8 (a 2 : Nat), .int .u8 (a 3 : Nat)] 22)).alloc (.cells (zlk st 0).toArray 33)) 58 (slk st 0)
    rw [World.size_alloc, World.size_alloc] at h
    exact h
  have hWb : Below w.heap.size w (((w.alloc (.cells #[.int .u8 (a 0 : Nat), .int .u8 (a 1 : Nat), .int .u8 (a 2 : Nat), .int .u8 (a 3 : Nat)] 22)).alloc (.cells (zlk st 0).toArray 33)).alloc (.cells (slk st 0).toArray 58)) := (((Below.refl _ _).alloc (Nat.le_refl _) _).alloc (by simp) _).alloc (by simp; omega) _
  rw [show zsrv ++ (zsrv ++ (zsrv ++ zsrv)) = slk st 0 from rfl]
  change Code.wp _ _ _ _ (((w.alloc (.cells #[.int .u8 (a 0 : Nat), .int .u8 (a 1 : Nat), .int .u8 (a 2 : Nat), .int .u8 (a 3 : Nat)] 22)).alloc (.cells (zlk st 0).toArray 33)).alloc (.cells (slk st 0).toArray 58))
  generalize World.alloc (World.alloc (World.alloc w _) _) _ = W0 at hW0 hW1 hW2 hWb ⊢
  rw [show w.heap.size + 1 + 1 = w.heap.size + 2 from rfl]
  generalize hH : w.heap.size = H at *
  have HH : Hid (w.heap.size = H) := hH
  clear hH hmk
  go_loopw [19] (fun cv wr => ∃ k : Nat, k ≤ 4 ∧ cv = .int .i64 k ∧ Blk wr H 22 [.int .u8 (a 0 : Nat), .int .u8 (a 1 : Nat), .int .u8 (a 2 : Nat), .int .u8 (a 3 : Nat)] ∧ Blk wr (H + 1) 33 (zlk st k) ∧ Blk wr (H + 2) 58 (slk st k) ∧ Below H w wr) (fun cv _ => 4 - (intOf cv).toNat)
  case atStart => exact ⟨0, by omega, rfl, hW0, hW1, hW2, hWb⟩
  case round =>
    clear hW0 hW1 hW2 hWb
    obtain ⟨k, hk, rfl, hX, hZ, hV, hbe⟩ := hrel
    by_cases hlt : k < 4
    · have m0 : ((a 0 : Nat) : Int) % 3 = (st 0 : Int) := by rw [hst]; omega
      have m1 : ((a 1 : Nat) : Int) % 3 = (st 1 : Int) := by rw [hst]; omega
      have m2 : ((a 2 : Nat) : Int) % 3 = (st 2 : Int) := by rw [hst]; omega
      have m3 : ((a 3 : Nat) : Int) % 3 = (st 3 : Int) := by rw [hst]; omega
      have b0 : st 0 < 3 := by rw [hst]; omega
      have b1 : st 1 < 3 := by rw [hst]; omega
      have b2 : st 2 < 3 := by rw [hst]; omega
      have b3 : st 3 < 3 := by rw [hst]; omega
      have HST : Hid (∀ i, st i = a i % 3) := hst
      have HX : Hid (Blk wr H 22 [.int .u8 (a 0 : Nat), .int .u8 (a 1 : Nat), .int .u8 (a 2 : Nat), .int .u8 (a 3 : Nat)] ∧ Blk wr (H + 1) 33 (zlk st k) ∧ Blk wr (H + 2) 58 (slk st k) ∧ Below H w wr) := ⟨hX, hZ, hV, hbe⟩
      clear hst hbe
      rcases (by omega : k = 0 ∨ k = 1 ∨ k = 2 ∨ k = 3) with rfl | rfl | rfl | rfl
      · have x0 := hX.at_ 0 rfl
        have zc := hZ.at_ 2 rfl
        have zf := hZ.frozen 2
        clear hX hZ hV
        go_wp2_with fail
        go_region
        all_goals
          go_wp2_with fail
          have hX1 := (HX.out.1.other (a := ⟨H + 1, 2, none⟩) (show H ≠ H + 1 by omega) (.int .i64 (st 0 : Nat))).drew
          have hZ1 : Blk (wr.setCell ⟨H + 1, 2, none⟩ (.int .i64 (st 0 : Nat))).drew (H + 1) 33 (zlk st 1) := (HX.out.2.1.set 2 (.int .i64 (st 0 : Nat))).drew
          have hV1 := (HX.out.2.2.1.other (a := ⟨H + 1, 2, none⟩) (show H + 2 ≠ H + 1 by omega) (.int .i64 (st 0 : Nat))).drew
          have hB1 : Below H w (wr.setCell ⟨H + 1, 2, none⟩ (.int .i64 (st 0 : Nat))).drew := (HX.out.2.2.2.setCell (show H ≤ H + 1 by omega) _).drew
          generalize (wr.setCell ⟨H + 1, 2, none⟩ (.int .i64 (st 0 : Nat))).drew = W6 at hX1 hZ1 hV1 hB1 ⊢
          have zc1 : W6.cell? ⟨H + 1, 2, none⟩ = some (.int .i64 (st 0 : Nat)) := hZ1.at_ 2 rfl
          have v0 := hV1.at_ 0 rfl
          have v1 := hV1.at_ 1 rfl
          have v2 := hV1.at_ 2 rfl
          have v3 := hV1.at_ 3 rfl
          have v4 := hV1.at_ 4 rfl
          have y0 := hV1.frozen 0
          have y1 := hV1.frozen 1
          have y2 := hV1.frozen 2
          have y3 := hV1.frozen 3
          have y4 := hV1.frozen 4
          have HY : Hid (Blk W6 H 22 [.int .u8 (a 0 : Nat), .int .u8 (a 1 : Nat), .int .u8 (a 2 : Nat), .int .u8 (a 3 : Nat)] ∧ Blk W6 (H + 1) 33 (zlk st 1) ∧ Blk W6 (H + 2) 58 (slk st 0) ∧ Below H w W6) := ⟨hX1, hZ1, hV1, hB1⟩
          clear hX1 hZ1 hV1 hB1 x0 zc zf HX
          go_region_with (go_at_call 9; refine (id_any 0 _ (by omega)).mono ?_; rintro e w1 ⟨rfl, rfl⟩)
          all_goals
            go_wp2_with fail
            go_roundw
            case rel => exact ⟨1, by omega, by rfl, (((((HY.out.1.other (a := ⟨H + 2, 0, none⟩) (show H ≠ H + 2 by omega) _).other (a := ⟨H + 2, 1, none⟩) (show H ≠ H + 2 by omega) _).other (a := ⟨H + 2, 2, none⟩) (show H ≠ H + 2 by omega) _).other (a := ⟨H + 2, 3, none⟩) (show H ≠ H + 2 by omega) _).other (a := ⟨H + 2, 4, none⟩) (show H ≠ H + 2 by omega) _).drew, (((((HY.out.2.1.other (a := ⟨H + 2, 0, none⟩) (show H + 1 ≠ H + 2 by omega) _).other (a := ⟨H + 2, 1, none⟩) (show H + 1 ≠ H + 2 by omega) _).other (a := ⟨H + 2, 2, none⟩) (show H + 1 ≠ H + 2 by omega) _).other (a := ⟨H + 2, 3, none⟩) (show H + 1 ≠ H + 2 by omega) _).other (a := ⟨H + 2, 4, none⟩) (show H + 1 ≠ H + 2 by omega) _).drew, (((((HY.out.2.2.1.set 0 _).set 1 _).set 2 _).set 3 _).set 4 _).drew, (((((HY.out.2.2.2.setCell (show H ≤ H + 2 by omega) _).setCell (show H ≤ H + 2 by omega) _).setCell (show H ≤ H + 2 by omega) _).setCell (show H ≤ H + 2 by omega) _).setCell (show H ≤ H + 2 by omega) _).drew⟩
            case measure => simp [intOf]
      · have x0 := hX.at_ 1 rfl
        have zc := hZ.at_ 3 rfl
        have zf := hZ.frozen 3
        clear hX hZ hV
        go_wp2_with fail
        go_region
        all_goals
          go_wp2_with fail
          have hX1 := (HX.out.1.other (a := ⟨H + 1, 3, none⟩) (show H ≠ H + 1 by omega) (.int .i64 (st 1 : Nat))).drew
          have hZ1 : Blk (wr.setCell ⟨H + 1, 3, none⟩ (.int .i64 (st 1 : Nat))).drew (H + 1) 33 (zlk st 2) := (HX.out.2.1.set 3 (.int .i64 (st 1 : Nat))).drew
          have hV1 := (HX.out.2.2.1.other (a := ⟨H + 1, 3, none⟩) (show H + 2 ≠ H + 1 by omega) (.int .i64 (st 1 : Nat))).drew
          have hB1 : Below H w (wr.setCell ⟨H + 1, 3, none⟩ (.int .i64 (st 1 : Nat))).drew := (HX.out.2.2.2.setCell (show H ≤ H + 1 by omega) _).drew
          generalize (wr.setCell ⟨H + 1, 3, none⟩ (.int .i64 (st 1 : Nat))).drew = W6 at hX1 hZ1 hV1 hB1 ⊢
          have zc1 : W6.cell? ⟨H + 1, 3, none⟩ = some (.int .i64 (st 1 : Nat)) := hZ1.at_ 3 rfl
          have v0 := hV1.at_ 5 rfl
          have v1 := hV1.at_ 6 rfl
          have v2 := hV1.at_ 7 rfl
          have v3 := hV1.at_ 8 rfl
          have v4 := hV1.at_ 9 rfl
          have y0 := hV1.frozen 5
          have y1 := hV1.frozen 6
          have y2 := hV1.frozen 7
          have y3 := hV1.frozen 8
          have y4 := hV1.frozen 9
          have HY : Hid (Blk W6 H 22 [.int .u8 (a 0 : Nat), .int .u8 (a 1 : Nat), .int .u8 (a 2 : Nat), .int .u8 (a 3 : Nat)] ∧ Blk W6 (H + 1) 33 (zlk st 2) ∧ Blk W6 (H + 2) 58 (slk st 1) ∧ Below H w W6) := ⟨hX1, hZ1, hV1, hB1⟩
          clear hX1 hZ1 hV1 hB1 x0 zc zf HX
          go_region_with (go_at_call 9; refine (id_any 1 _ (by omega)).mono ?_; rintro e w1 ⟨rfl, rfl⟩)
          all_goals
            go_wp2_with fail
            go_roundw
            case rel => exact ⟨2, by omega, by rfl, (((((HY.out.1.other (a := ⟨H + 2, 5, none⟩) (show H ≠ H + 2 by omega) _).other (a := ⟨H + 2, 6, none⟩) (show H ≠ H + 2 by omega) _).other (a := ⟨H + 2, 7, none⟩) (show H ≠ H + 2 by omega) _).other (a := ⟨H + 2, 8, none⟩) (show H ≠ H + 2 by omega) _).other (a := ⟨H + 2, 9, none⟩) (show H ≠ H + 2 by omega) _).drew, (((((HY.out.2.1.other (a := ⟨H + 2, 5, none⟩) (show H + 1 ≠ H + 2 by omega) _).other (a := ⟨H + 2, 6, none⟩) (show H + 1 ≠ H + 2 by omega) _).other (a := ⟨H + 2, 7, none⟩) (show H + 1 ≠ H + 2 by omega) _).other (a := ⟨H + 2, 8, none⟩) (show H + 1 ≠ H + 2 by omega) _).other (a := ⟨H + 2, 9, none⟩) (show H + 1 ≠ H + 2 by omega) _).drew, (((((HY.out.2.2.1.set 5 _).set 6 _).set 7 _).set 8 _).set 9 _).drew, (((((HY.out.2.2.2.setCell (show H ≤ H + 2 by omega) _).setCell (show H ≤ H + 2 by omega) _).setCell (show H ≤ H + 2 by omega) _).setCell (show H ≤ H + 2 by omega) _).setCell (show H ≤ H + 2 by omega) _).drew⟩
            case measure => simp [intOf]
      · have x0 := hX.at_ 2 rfl
        have zc := hZ.at_ 4 rfl
        have zf := hZ.frozen 4
        clear hX hZ hV
        go_wp2_with fail
        go_region
        all_goals
          go_wp2_with fail
          have hX1 := (HX.out.1.other (a := ⟨H + 1, 4, none⟩) (show H ≠ H + 1 by omega) (.int .i64 (st 2 : Nat))).drew
          have hZ1 : Blk (wr.setCell ⟨H + 1, 4, none⟩ (.int .i64 (st 2 : Nat))).drew (H + 1) 33 (zlk st 3) := (HX.out.2.1.set 4 (.int .i64 (st 2 : Nat))).drew
          have hV1 := (HX.out.2.2.1.other (a := ⟨H + 1, 4, none⟩) (show H + 2 ≠ H + 1 by omega) (.int .i64 (st 2 : Nat))).drew
          have hB1 : Below H w (wr.setCell ⟨H + 1, 4, none⟩ (.int .i64 (st 2 : Nat))).drew := (HX.out.2.2.2.setCell (show H ≤ H + 1 by omega) _).drew
          generalize (wr.setCell ⟨H + 1, 4, none⟩ (.int .i64 (st 2 : Nat))).drew = W6 at hX1 hZ1 hV1 hB1 ⊢
          have zc1 : W6.cell? ⟨H + 1, 4, none⟩ = some (.int .i64 (st 2 : Nat)) := hZ1.at_ 4 rfl
          have v0 := hV1.at_ 10 rfl
          have v1 := hV1.at_ 11 rfl
          have v2 := hV1.at_ 12 rfl
          have v3 := hV1.at_ 13 rfl
          have v4 := hV1.at_ 14 rfl
          have y0 := hV1.frozen 10
          have y1 := hV1.frozen 11
          have y2 := hV1.frozen 12
          have y3 := hV1.frozen 13
          have y4 := hV1.frozen 14
          have HY : Hid (Blk W6 H 22 [.int .u8 (a 0 : Nat), .int .u8 (a 1 : Nat), .int .u8 (a 2 : Nat), .int .u8 (a 3 : Nat)] ∧ Blk W6 (H + 1) 33 (zlk st 3) ∧ Blk W6 (H + 2) 58 (slk st 2) ∧ Below H w W6) := ⟨hX1, hZ1, hV1, hB1⟩
          clear hX1 hZ1 hV1 hB1 x0 zc zf HX
          go_region_with (go_at_call 9; refine (id_any 2 _ (by omega)).mono ?_; rintro e w1 ⟨rfl, rfl⟩)
          all_goals
            go_wp2_with fail
            go_roundw
            case rel => exact ⟨3, by omega, by rfl, (((((HY.out.1.other (a := ⟨H + 2, 10, none⟩) (show H ≠ H + 2 by omega) _).other (a := ⟨H + 2, 11, none⟩) (show H ≠ H + 2 by omega) _).other (a := ⟨H + 2, 12, none⟩) (show H ≠ H + 2 by omega) _).other (a := ⟨H + 2, 13, none⟩) (show H ≠ H + 2 by omega) _).other (a := ⟨H + 2, 14, none⟩) (show H ≠ H + 2 by omega) _).drew, (((((HY.out.2.1.other (a := ⟨H + 2, 10, none⟩) (show H + 1 ≠ H + 2 by omega) _).other (a := ⟨H + 2, 11, none⟩) (show H + 1 ≠ H + 2 by omega) _).other (a := ⟨H + 2, 12, none⟩) (show H + 1 ≠ H + 2 by omega) _).other (a := ⟨H + 2, 13, none⟩) (show H + 1 ≠ H + 2 by omega) _).other (a := ⟨H + 2, 14, none⟩) (show H + 1 ≠ H + 2 by omega) _).drew, (((((HY.out.2.2.1.set 10 _).set 11 _).set 12 _).set 13 _).set 14 _).drew, (((((HY.out.2.2.2.setCell (show H ≤ H + 2 by omega) _).setCell (show H ≤ H + 2 by omega) _).setCell (show H ≤ H + 2 by omega) _).setCell (show H ≤ H + 2 by omega) _).setCell (show H ≤ H + 2 by omega) _).drew⟩
            case measure => simp [intOf]
      · have x0 := hX.at_ 3 rfl
        have zc := hZ.at_ 5 rfl
        have zf := hZ.frozen 5
        clear hX hZ hV
        go_wp2_with fail
        go_region
        all_goals
          go_wp2_with fail
          have hX1 := (HX.out.1.other (a := ⟨H + 1, 5, none⟩) (show H ≠ H + 1 by omega) (.int .i64 (st 3 : Nat))).drew
          have hZ1 : Blk (wr.setCell ⟨H + 1, 5, none⟩ (.int .i64 (st 3 : Nat))).drew (H + 1) 33 (zlk st 4) := (HX.out.2.1.set 5 (.int .i64 (st 3 : Nat))).drew
          have hV1 := (HX.out.2.2.1.other (a := ⟨H + 1, 5, none⟩) (show H + 2 ≠ H + 1 by omega) (.int .i64 (st 3 : Nat))).drew
          have hB1 : Below H w (wr.setCell ⟨H + 1, 5, none⟩ (.int .i64 (st 3 : Nat))).drew := (HX.out.2.2.2.setCell (show H ≤ H + 1 by omega) _).drew
          generalize (wr.setCell ⟨H + 1, 5, none⟩ (.int .i64 (st 3 : Nat))).drew = W6 at hX1 hZ1 hV1 hB1 ⊢
          have zc1 : W6.cell? ⟨H + 1, 5, none⟩ = some (.int .i64 (st 3 : Nat)) := hZ1.at_ 5 rfl
          have v0 := hV1.at_ 15 rfl
          have v1 := hV1.at_ 16 rfl
          have v2 := hV1.at_ 17 rfl
          have v3 := hV1.at_ 18 rfl
          have v4 := hV1.at_ 19 rfl
          have y0 := hV1.frozen 15
          have y1 := hV1.frozen 16
          have y2 := hV1.frozen 17
          have y3 := hV1.frozen 18
          have y4 := hV1.frozen 19
          have HY : Hid (Blk W6 H 22 [.int .u8 (a 0 : Nat), .int .u8 (a 1 : Nat), .int .u8 (a 2 : Nat), .int .u8 (a 3 : Nat)] ∧ Blk W6 (H + 1) 33 (zlk st 4) ∧ Blk W6 (H + 2) 58 (slk st 3) ∧ Below H w W6) := ⟨hX1, hZ1, hV1, hB1⟩
          clear hX1 hZ1 hV1 hB1 x0 zc zf HX
          go_region_with (go_at_call 9; refine (id_any 3 _ (by omega)).mono ?_; rintro e w1 ⟨rfl, rfl⟩)
          all_goals
            go_wp2_with fail
            go_roundw
            case rel => exact ⟨4, by omega, by rfl, (((((HY.out.1.other (a := ⟨H + 2, 15, none⟩) (show H ≠ H + 2 by omega) _).other (a := ⟨H + 2, 16, none⟩) (show H ≠ H + 2 by omega) _).other (a := ⟨H + 2, 17, none⟩) (show H ≠ H + 2 by omega) _).other (a := ⟨H + 2, 18, none⟩) (show H ≠ H + 2 by omega) _).other (a := ⟨H + 2, 19, none⟩) (show H ≠ H + 2 by omega) _).drew, (((((HY.out.2.1.other (a := ⟨H + 2, 15, none⟩) (show H + 1 ≠ H + 2 by omega) _).other (a := ⟨H + 2, 16, none⟩) (show H + 1 ≠ H + 2 by omega) _).other (a := ⟨H + 2, 17, none⟩) (show H + 1 ≠ H + 2 by omega) _).other (a := ⟨H + 2, 18, none⟩) (show H + 1 ≠ H + 2 by omega) _).other (a := ⟨H + 2, 19, none⟩) (show H + 1 ≠ H + 2 by omega) _).drew, (((((HY.out.2.2.1.set 15 _).set 16 _).set 17 _).set 18 _).set 19 _).drew, (((((HY.out.2.2.2.setCell (show H ≤ H + 2 by omega) _).setCell (show H ≤ H + 2 by omega) _).setCell (show H ≤ H + 2 by omega) _).setCell (show H ≤ H + 2 by omega) _).setCell (show H ≤ H + 2 by omega) _).drew⟩
            case measure => simp [intOf]
    · obtain rfl : k = 4 := by omega
      have hmk := run_make_row' (P := Ybaf.prog) 31 21 (.int .i32 0) 4 Ybaf.underlying31 Ybaf.info21 rfl .i64 .i64 n (by omega) (by omega)
      have hsz := hbe.size
      go_wp2_with fail
      have hZ5 := hZ.alloc (.cells (madeCells #[.int .i32 0] n) 21)
      have hV5 : Blk (wr.alloc (.cells (madeCells #[.int .i32 0] n) 21)) (H + 2) 58 (srvL st) := hV.alloc (.cells (madeCells #[.int .i32 0] n) 21)
      have hB5 := hbe.alloc (by have := HH.out; omega) (.cells (madeCells #[.int .i32 0] n) 21)
      have hr5 : (wr.alloc (.cells (madeCells #[.int .i32 0] n) 21)).rowIs wr.heap.size 21 n (fun i => .int .i32 (if i < 0 then ((X i % 4 : Nat) : Int) else 0)) := (World.rowIs_made wr (.int .i32 0) n 21).congr (fun i _ => by simp)
      generalize wr.alloc (.cells (madeCells #[.int .i32 0] n) 21) = W5 at hZ5 hV5 hB5 hr5 ⊢
      have hrb : H + 3 ≤ wr.heap.size := hV.lt
      generalize wr.heap.size = rb at *
      clear hX hZ hV hbe hmk hlt hk hst
      go_loopw [59] (fun cv wr => ∃ j : Nat, j ≤ n ∧ cv = .int .i64 j ∧ wr.rowIs rb 21 n (fun i => .int .i32 (if i < j then ((X i % 4 : Nat) : Int) else 0)) ∧ Kp (· = rb) W5 wr) (fun cv _ => n - (intOf cv).toNat)
      case atStart => exact ⟨0, Nat.zero_le _, rfl, hr5, Kp.refl _ _⟩
      case round =>
        clear hr5
        obtain ⟨j, hj, rfl, hrow, hkp⟩ := hrel
        by_cases hjl : j < n
        · obtain ⟨g, off, rfl, hc⟩ := HR.out.1.resolve_left (by omega)
          have hx := HR.out.2 j hjl
          have hcj := hc j hjl
          have q := hkp.cell ((hB5.cell (p := ⟨g, off + j, none⟩) (by rw [← HH.out]; exact block_lt_of_cell hcj)).trans hcj) (by have h1 := block_lt_of_cell hcj; rw [HH.out] at h1; show ¬ g = rb; simp only at h1; omega)
          have r0 := hrow.cell hjl
          have rf0 := hrow.frozen j
          have m4 : ((X j : Nat) : Int) % 4 = ((X j % 4 : Nat) : Int) := by omega
          have HN : Hid ((wr.setCell ⟨rb, j, none⟩ (.int .i32 ((X j % 4 : Nat) : Int))).rowIs rb 21 n (fun i => .int .i32 (if i < j + 1 then ((X i % 4 : Nat) : Int) else 0)) ∧ Kp (· = rb) W5 (wr.setCell ⟨rb, j, none⟩ (.int .i32 ((X j % 4 : Nat) : Int)))) := ⟨(hrow.set j _).congr (fun i _ => by
            by_cases e : i = j
            · subst e; simp
            · rw [if_neg e]
              by_cases e2 : i < j
              · rw [if_pos e2, if_pos (by omega)]
              · rw [if_neg e2, if_neg (by omega)]), hkp.setCell (.inl rfl) _⟩
          have z0 : (0 : Int) ≤ (j : Int) := by omega
          have z1 : (j : Int) < (n : Int) := by omega
          have hx4 : X j % 4 < 4 := Nat.mod_lt _ (by omega)
          generalize X j % 4 = y at m4 HN hx4
          generalize X j = xj at q m4 hx
          clear hc hcj hrow hkp
          go_wp2_with fail
          go_roundw
          case rel => exact ⟨j + 1, by omega, by go_num, HN.out.1, HN.out.2⟩
          case measure => simp [intOf]; omega
        · obtain rfl : j = n := by omega
          have hrow' : wr.rowIs rb 21 j (fun i => .int .i32 ((X i % 4 : Nat) : Int)) := hrow.congr (fun i hi => by rw [if_pos hi])
          have hown := row_own (base := H) hrow' (by omega) (by unfold maxLen; omega)
          have hZ6 := hkp.blk hZ5 (show ¬ H + 1 = rb by omega)
          have hV6 := hkp.blk hV5 (show ¬ H + 2 = rb by omega)
          have hB6 : Below H w wr := hB5.trans (hkp.below (by have := hB5.size; have := HH.out; omega) (fun i hi e => by have : i = rb := e; omega))
          have hrblt := hrow.lt
          clear hrow hrow' hkp hZ5 hV5 hB5
          go_wp2_with fail
          refine (clone_any rb j j (rL X j) wr (rL_len X j) (by omega) (fun i hi => by
            have h1 := hown.cellAt i (by rw [rL_len] at hi; omega)
            rw [h1, List.getElem?_map, List.getElem?_eq_getElem hi]; rfl)).mono ?_
          rintro e w7 ⟨v, rfl, hov, hbe7⟩
          have hZ7 := hZ6.below hbe7 hZ6.lt
          have hV7 := hV6.below hbe7 hV6.lt
          have hB7 : Below H w w7 := hB6.trans (hbe7.mono (by have := hB6.size; have := HH.out; omega))
          have hown7 := own_kp (X := fun _ => False) hown (Kp.of_self hbe7) (fun _ _ h => h)
          have hov' : w7.ownsRow wr.heap.size 21 1 v (rL X j).length ((rL X j).map (.int .i32 ·)) := by rw [rL_len]; exact hov
          obtain ⟨oa, oc, hvE, hLo, hoa⟩ := Ls.of_own hov'
          rw [rL_len] at hvE
          subst hvE
          have hrb7 : rb < w7.heap.size := Nat.lt_of_lt_of_le hrblt hbe7.size
          have HO : Hid (Ls w7 oa (rL X j) ∧ (∀ q, oa = some q → wr.heap.size ≤ q.block ∧ q.block < w7.heap.size) ∧ rb < wr.heap.size ∧ (∀ q, oa = some q → ∃ l, Blk w7 q.block 21 l) ∧ H + 3 ≤ rb) := ⟨hLo, hoa, hrblt, own_any hov, hrb⟩
          have HQ : Hid (Blk w7 (H + 1) 33 (zlk st 4) ∧ Blk w7 (H + 2) 58 (srvL st) ∧ Below H w w7 ∧ w7.ownsRow H 21 1 (.slice (some ⟨rb, 0, none⟩) j j) j ((rL X j).map (.int .i32 ·))) := ⟨hZ7, hV7, hB7, hown7⟩
          have z6 := hZ7.at_ 6 rfl
          have z7 := hZ7.at_ 7 rfl
          have z9 := hZ7.at_ 9 rfl
          have z0c := hZ7.at_ 0 rfl
          have zf6 := hZ7.frozen 6
          have zf7 := hZ7.frozen 7
          have zf9 := hZ7.frozen 9
          have zf0 := hZ7.frozen 0
          have hzl := hZ7.lt
          have hzl1 : H + 1 < w7.heap.size + 1 := by omega
          have hzl2 : H + 1 < w7.heap.size + 1 + 1 := by omega
          clear hZ6 hV6 hB6 hown hbe7 hov hov' hLo hoa hZ7 hV7 hB7 hown7 hrblt
          go_wp2_with fail
          go_region
          have hsW : ((((w7.setCell ⟨H + 1, 6, none⟩ (.slice oa j oc)).setCell ⟨H + 1, 7, none⟩ (.int .i64 (c : Nat))).setCell ⟨H + 1, 9, none⟩ (.int .i64 (1 + (r5 : Int)))).setCell ⟨H + 1, 0, none⟩ (.pointer (some ⟨w7.heap.size + 1, 0, none⟩))).heap.size = w7.heap.size := by simp
          have hZ8 : Blk (((((((w7.setCell ⟨H + 1, 6, none⟩ (.slice oa j oc)).setCell ⟨H + 1, 7, none⟩ (.int .i64 (c : Nat))).setCell ⟨H + 1, 9, none⟩ (.int .i64 (1 + (r5 : Int)))).setCell ⟨H + 1, 0, none⟩ (.pointer (some ⟨w7.heap.size + 1, 0, none⟩))).alloc (.cells #[.string ⟨#[103]⟩, .string ⟨#[116]⟩, .int .i64 (1 + (r5 : Int)), .slice (some ⟨rb, 0, none⟩) j j, .int .i64 (c : Nat)] 41)).alloc (.cells #[.slice (some ⟨H + 2, 0, none⟩) 4 4, .slice (some ⟨w7.heap.size, 0, none⟩) 1 1, .slice none 0 0, .slice none 0 0, .int .i64 0, .map none, .map none] 50)).drew) (H + 1) 33 [.pointer (some ⟨w7.heap.size + 1, 0, none⟩), .pointer none, .int .i64 (st 0 : Nat), .int .i64 (st 1 : Nat), .int .i64 (st 2 : Nat), .int .i64 (st 3 : Nat), .slice oa j oc, .int .i64 (c : Nat), .int .i64 0, .int .i64 (1 + (r5 : Int)), .string ⟨#[]⟩, .string ⟨#[]⟩, .int .i32 0, .int .i32 0] := ((((((HQ.out.1.set 6 _).set 7 _).set 9 _).set 0 _).alloc _).alloc _).drew
          have hk8 : Kp (· = H + 1) w7 (((((((w7.setCell ⟨H + 1, 6, none⟩ (.slice oa j oc)).setCell ⟨H + 1, 7, none⟩ (.int .i64 (c : Nat))).setCell ⟨H + 1, 9, none⟩ (.int .i64 (1 + (r5 : Int)))).setCell ⟨H + 1, 0, none⟩ (.pointer (some ⟨w7.heap.size + 1, 0, none⟩))).alloc (.cells #[.string ⟨#[103]⟩, .string ⟨#[116]⟩, .int .i64 (1 + (r5 : Int)), .slice (some ⟨rb, 0, none⟩) j j, .int .i64 (c : Nat)] 41)).alloc (.cells #[.slice (some ⟨H + 2, 0, none⟩) 4 4, .slice (some ⟨w7.heap.size, 0, none⟩) 1 1, .slice none 0 0, .slice none 0 0, .int .i64 0, .map none, .map none] 50)).drew) := (((((((Kp.refl (· = H + 1) w7).setCell (.inl rfl) _).setCell (.inl rfl) _).setCell (.inl rfl) _).setCell (.inl rfl) _).alloc _).alloc _).drew
          have hG8 : Blk (((((((w7.setCell ⟨H + 1, 6, none⟩ (.slice oa j oc)).setCell ⟨H + 1, 7, none⟩ (.int .i64 (c : Nat))).setCell ⟨H + 1, 9, none⟩ (.int .i64 (1 + (r5 : Int)))).setCell ⟨H + 1, 0, none⟩ (.pointer (some ⟨w7.heap.size + 1, 0, none⟩))).alloc (.cells #[.string ⟨#[103]⟩, .string ⟨#[116]⟩, .int .i64 (1 + (r5 : Int)), .slice (some ⟨rb, 0, none⟩) j j, .int .i64 (c : Nat)] 41)).alloc (.cells #[.slice (some ⟨H + 2, 0, none⟩) 4 4, .slice (some ⟨w7.heap.size, 0, none⟩) 1 1, .slice none 0 0, .slice none 0 0, .int .i64 0, .map none, .map none] 50)).drew) w7.heap.size 41 [.string gS, .string tS, .int .i64 (1 + (r5 : Int)), .slice (some ⟨rb, 0, none⟩) j j, .int .i64 (c : Nat)] := by
            have h := Blk.new ((((w7.setCell ⟨H + 1, 6, none⟩ (.slice oa j oc)).setCell ⟨H + 1, 7, none⟩ (.int .i64 (c : Nat))).setCell ⟨H + 1, 9, none⟩ (.int .i64 (1 + (r5 : Int)))).setCell ⟨H + 1, 0, none⟩ (.pointer (some ⟨w7.heap.size + 1, 0, none⟩))) 41 [.string gS, .string tS, .int .i64 (1 + (r5 : Int)), .slice (some ⟨rb, 0, none⟩) j j, .int .i64 (c : Nat)]
            rw [hsW] at h
            exact (h.alloc _).drew
          have hS8 : Blk (((((((w7.setCell ⟨H + 1, 6, none⟩ (.slice oa j oc)).setCell ⟨H + 1, 7, none⟩ (.int .i64 (c : Nat))).setCell ⟨H + 1, 9, none⟩ (.int .i64 (1 + (r5 : Int)))).setCell ⟨H + 1, 0, none⟩ (.pointer (some ⟨w7.heap.size + 1, 0, none⟩))).alloc (.cells #[.string ⟨#[103]⟩, .string ⟨#[116]⟩, .int .i64 (1 + (r5 : Int)), .slice (some ⟨rb, 0, none⟩) j j, .int .i64 (c : Nat)] 41)).alloc (.cells #[.slice (some ⟨H + 2, 0, none⟩) 4 4, .slice (some ⟨w7.heap.size, 0, none⟩) 1 1, .slice none 0 0, .slice none 0 0, .int .i64 0, .map none, .map none] 50)).drew) (w7.heap.size + 1) 50 [.slice (some ⟨H + 2, 0, none⟩) 4 4, .slice (some ⟨w7.heap.size, 0, none⟩) 1 1, .slice none 0 0, .slice none 0 0, .int .i64 0, .map none, .map none] := by
            have h := Blk.new (((((w7.setCell ⟨H + 1, 6, none⟩ (.slice oa j oc)).setCell ⟨H + 1, 7, none⟩ (.int .i64 (c : Nat))).setCell ⟨H + 1, 9, none⟩ (.int .i64 (1 + (r5 : Int)))).setCell ⟨H + 1, 0, none⟩ (.pointer (some ⟨w7.heap.size + 1, 0, none⟩))).alloc (.cells #[.string gS, .string tS, .int .i64 (1 + (r5 : Int)), .slice (some ⟨rb, 0, none⟩) j j, .int .i64 (c : Nat)] 41)) 50 [.slice (some ⟨H + 2, 0, none⟩) 4 4, .slice (some ⟨w7.heap.size, 0, none⟩) 1 1, .slice none 0 0, .slice none 0 0, .int .i64 0, .map none, .map none]
            rw [World.size_alloc, hsW] at h
            exact h.drew
          generalize ((((((w7.setCell ⟨H + 1, 6, none⟩ (.slice oa j oc)).setCell ⟨H + 1, 7, none⟩ (.int .i64 (c : Nat))).setCell ⟨H + 1, 9, none⟩ (.int .i64 (1 + (r5 : Int)))).setCell ⟨H + 1, 0, none⟩ (.pointer (some ⟨w7.heap.size + 1, 0, none⟩))).alloc (.cells #[.string ⟨#[103]⟩, .string ⟨#[116]⟩, .int .i64 (1 + (r5 : Int)), .slice (some ⟨rb, 0, none⟩) j j, .int .i64 (c : Nat)] 41)).alloc (.cells #[.slice (some ⟨H + 2, 0, none⟩) 4 4, .slice (some ⟨w7.heap.size, 0, none⟩) 1 1, .slice none 0 0, .slice none 0 0, .int .i64 0, .map none, .map none] 50)).drew = W8 at hZ8 hk8 hG8 hS8 ⊢
          have hG7 : H + 2 < w7.heap.size := HQ.out.2.1.lt
          have HK8 : Hid (Kp (· = H + 1) w7 W8) := hk8
          generalize hGE : w7.heap.size = G at *
          have HG : Hid (w7.heap.size = G) := hGE
          have z8 := hZ8.at_ 8 rfl
          have z10 := hZ8.at_ 10 rfl
          have z11 := hZ8.at_ 11 rfl
          have z12 := hZ8.at_ 12 rfl
          have z13 := hZ8.at_ 13 rfl
          have z1 := hZ8.at_ 1 rfl
          have z7' := hZ8.at_ 7 rfl
          have z0' := hZ8.at_ 0 rfl
          have y8 := hZ8.frozen 8
          have y10 := hZ8.frozen 10
          have y11 := hZ8.frozen 11
          have y12 := hZ8.frozen 12
          have y13 := hZ8.frozen 13
          have y1 := hZ8.frozen 1
          have lz8 := hZ8.lt
          have lz9 : H + 1 < W8.heap.size + 1 := by omega
          have H8 : Hid (Blk W8 (H + 1) 33 [.pointer (some ⟨G + 1, 0, none⟩), .pointer none, .int .i64 (st 0 : Nat), .int .i64 (st 1 : Nat), .int .i64 (st 2 : Nat), .int .i64 (st 3 : Nat), .slice oa j oc, .int .i64 (c : Nat), .int .i64 0, .int .i64 (1 + (r5 : Int)), .string ⟨#[]⟩, .string ⟨#[]⟩, .int .i32 0, .int .i32 0] ∧ Blk W8 G 41 [.string gS, .string tS, .int .i64 (1 + (r5 : Int)), .slice (some ⟨rb, 0, none⟩) j j, .int .i64 (c : Nat)] ∧ Blk W8 (G + 1) 50 [.slice (some ⟨H + 2, 0, none⟩) 4 4, .slice (some ⟨G, 0, none⟩) 1 1, .slice none 0 0, .slice none 0 0, .int .i64 0, .map none, .map none]) := ⟨hZ8, hG8, hS8⟩
          clear hGE hsW hZ8 hk8 hG8 hS8 z6 z7 z9 z0c zf6 zf7 zf9 zf0 hzl hzl1 hzl2 ec er
          go_upto_if 111 with fail
          go_cut [111] (fun v wc => ∃ b : Bool, v = .bool b ∧ Blk wc (H + 1) 33 [.pointer (some ⟨G + 1, 0, none⟩), .pointer none, .int .i64 (st 0 : Nat), .int .i64 (st 1 : Nat), .int .i64 (st 2 : Nat), .int .i64 (st 3 : Nat), .slice oa j oc, .int .i64 (c : Nat), .int .i64 0, .int .i64 (1 + (r5 : Int)), .string gid, .string ⟨#[]⟩, .int .i32 0, .int .i32 0] ∧ Kp (· = H + 1) W8 wc)
          case first =>
            cases gok with
            | true =>
              have eg : ((gs : Int) % 8 == 7) = false := by rw [beq_eq_false_iff_ne]; have := HGS.out; simp at this; omega
              go_wp2_with fail
              go_meet
              case rel => exact ⟨_, rfl, by rw [show gid = ⟨#[103]⟩ from HGID.out]; exact H8.out.1.set 10 _, (Kp.refl (· = H + 1) W8).setCell (.inl rfl) _⟩
            | false =>
              have eg : (gs : Int) % 8 = 7 := by have := HGS.out; simp at this; omega
              go_wp2_with fail
              go_meet
              case rel => exact ⟨_, rfl, by rw [show gid = ⟨#[104]⟩ from HGID.out]; exact (H8.out.1.set 10 _).set 10 _, ((Kp.refl (· = H + 1) W8).setCell (.inl rfl) _).setCell (.inl rfl) _⟩
          case rest =>
            obtain ⟨b, rfl, hZ9, hk9⟩ := hcut
            clear z8 z10 z11 z12 z13 z1 z7' z0' y8 y10 y11 y12 y13 y1 lz8 lz9
            have z7' := hZ9.at_ 7 rfl
            have z8 := hZ9.at_ 8 rfl
            have z11 := hZ9.at_ 11 rfl
            have z12 := hZ9.at_ 12 rfl
            have z13 := hZ9.at_ 13 rfl
            have y8 := hZ9.frozen 8
            have y11 := hZ9.frozen 11
            have y12 := hZ9.frozen 12
            have y13 := hZ9.frozen 13
            have H9 : Hid (Blk wc (H + 1) 33 [.pointer (some ⟨G + 1, 0, none⟩), .pointer none, .int .i64 (st 0 : Nat), .int .i64 (st 1 : Nat), .int .i64 (st 2 : Nat), .int .i64 (st 3 : Nat), .slice oa j oc, .int .i64 (c : Nat), .int .i64 0, .int .i64 (1 + (r5 : Int)), .string gid, .string ⟨#[]⟩, .int .i32 0, .int .i32 0] ∧ Kp (· = H + 1) W8 wc) := ⟨hZ9, hk9⟩
            clear hZ9 hk9
            go_wp2_with fail
            refine (sel_any fs f6 _ hfs6 hf6).mono ?_
            rintro e w9 ⟨rfl, rfl⟩
            generalize e1 : selS f6 = sF at *
            generalize e2 : selI f6 = iF at *
            have HS1 : Hid (selS f6 = sF ∧ selI f6 = iF) := ⟨e1, e2⟩
            clear e1 e2
            go_wp2_with fail
            refine (sel_any ts t6 _ hts6 ht6).mono ?_
            rintro e w9' ⟨rfl, rfl⟩
            generalize e3 : selS t6 = sT at *
            generalize e4 : selI t6 = iT at *
            have HS2 : Hid (selS t6 = sT ∧ selI t6 = iT) := ⟨e3, e4⟩
            clear e3 e4
            rcases (by omega : cs % 4 = 0 ∨ cs % 4 = 3 ∨ cs % 4 = 1 ∨ cs % 4 = 2) with h4 | h4 | h4 | h4
            · have e4 : (cs : Int) % 4 = 0 := by omega
              go_wp2_with fail
              have hZ10 : Blk (((((w9.setCell ⟨H + 1, 11, none⟩ (.string sF)).setCell ⟨H + 1, 12, none⟩ (.int .i32 iF)).setCell ⟨H + 1, 13, none⟩ (.int .i32 iT)).setCell ⟨H + 1, 8, none⟩ (.int .i64 (c : Nat))).setCell ⟨H + 1, 8, none⟩ (.int .i64 ((c : Int) - 1))) (H + 1) 33 [.pointer (some ⟨G + 1, 0, none⟩), .pointer none, .int .i64 (st 0 : Nat), .int .i64 (st 1 : Nat), .int .i64 (st 2 : Nat), .int .i64 (st 3 : Nat), .slice oa j oc, .int .i64 (c : Nat), .int .i64 ((c : Int) - 1), .int .i64 (1 + (r5 : Int)), .string gid, .string sF, .int .i32 iF, .int .i32 iT] := ((((H9.out.1.set 11 _).set 12 _).set 13 _).set 8 _).set 8 _
              have hk10 : Kp (· = H + 1) W8 (((((w9.setCell ⟨H + 1, 11, none⟩ (.string sF)).setCell ⟨H + 1, 12, none⟩ (.int .i32 iF)).setCell ⟨H + 1, 13, none⟩ (.int .i32 iT)).setCell ⟨H + 1, 8, none⟩ (.int .i64 (c : Nat))).setCell ⟨H + 1, 8, none⟩ (.int .i64 ((c : Int) - 1))) := ((((H9.out.2.setCell (.inl rfl) _).setCell (.inl rfl) _).setCell (.inl rfl) _).setCell (.inl rfl) _).setCell (.inl rfl) _
              generalize ((((w9.setCell ⟨H + 1, 11, none⟩ (.string sF)).setCell ⟨H + 1, 12, none⟩ (.int .i32 iF)).setCell ⟨H + 1, 13, none⟩ (.int .i32 iT)).setCell ⟨H + 1, 8, none⟩ (.int .i64 (c : Nat))).setCell ⟨H + 1, 8, none⟩ (.int .i64 ((c : Int) - 1)) = W10 at hZ10 hk10 ⊢
              have HE : Hid (Blk W10 (H + 1) 33 [.pointer (some ⟨G + 1, 0, none⟩), .pointer none, .int .i64 (st 0 : Nat), .int .i64 (st 1 : Nat), .int .i64 (st 2 : Nat), .int .i64 (st 3 : Nat), .slice oa j oc, .int .i64 (c : Nat), .int .i64 ((c : Int) - 1), .int .i64 (1 + (r5 : Int)), .string gid, .string sF, .int .i32 iF, .int .i32 iT] ∧ Kp (· = H + 1) W8 W10) := ⟨hZ10, hk10⟩
              have q0 := hZ10.at_ 0 rfl
              have q5 := hZ10.at_ 8 rfl
              have q7 := hZ10.at_ 10 rfl
              have q8 := hZ10.at_ 11 rfl
              have l10 := hZ10.lt
              have l11 : H + 1 < W10.heap.size + 1 := by omega
              have l12 : H + 1 < W10.heap.size + 1 + 1 := by omega
              clear hZ10 hk10 z7' z8 z11 z12 z13 y8 y11 y12 y13
              go_region
              go_wp2_with fail
              have hmcE : mcF c c4 = ((c : Int) - 1) := by rw [mcF, if_pos (by omega)]
              refine (new_any (W10.heap.size + 1) W10.heap.size (G + 1) (H + 2) G f6 t6 gok gid st (c : Nat) ((c : Int) - 1) _ _ _ _ _ HGID.out (fin_pl W10 _) (fin_mv W10 _ _ HS1.out.1 HS2.out.1) (fin_k (HE.out.2.blk H8.out.2.2 (show ¬ G + 1 = H + 1 by omega)) _ _) (fin_k (HE.out.2.blk (HK8.out.blk HQ.out.2.1 (show ¬ H + 2 = H + 1 by omega)) (show ¬ H + 2 = H + 1 by omega)) _ _) (fin_k (HE.out.2.blk H8.out.2.1 (show ¬ G = H + 1 by omega)) _ _) (by omega) (by omega) (by omega) (by omega) (by omega) (by omega)).mono ?_
              rintro e w12 ⟨ab, mb, slb, grb, rfb, cbb, rfl, hA, hSl, hGr, hRf, hCb, hMp, hls, hbe12⟩
              have hz12 := (fin_k HE.out.1 _ _).below hbe12 (fin_k HE.out.1 _ _).lt
              have q1 := hz12.at_ 1 rfl
              have y1 := hz12.frozen 1
              clear q0 q5 q7 q8 l10 l11 l12
              go_wp2_with fail
              go_ret
              have hks : Kp (· = H + 1) w12 (w12.setCell ⟨H + 1, 1, none⟩ (.pointer (some ⟨ab, 0, none⟩))) := (Kp.refl (· = H + 1) w12).setCell (.inl rfl) _
              have C7 : ∀ {i t : Nat} {l : List Value}, Blk w7 i t l → ¬ i = H + 1 → Blk (w12.setCell ⟨H + 1, 1, none⟩ (.pointer (some ⟨ab, 0, none⟩))) i t l := fun hb hi => hks.blk ((fin_k (HE.out.2.blk (HK8.out.blk hb hi) hi) _ _).below hbe12 (fin_k (HE.out.2.blk (HK8.out.blk hb hi) hi) _ _).lt) hi
              have C8 : ∀ {i t : Nat} {l : List Value}, Blk W8 i t l → ¬ i = H + 1 → Blk (w12.setCell ⟨H + 1, 1, none⟩ (.pointer (some ⟨ab, 0, none⟩))) i t l := fun hb hi => hks.blk ((fin_k (HE.out.2.blk hb hi) _ _).below hbe12 (fin_k (HE.out.2.blk hb hi) _ _).lt) hi
              have K7 : Kp (· = H + 1) w7 (w12.setCell ⟨H + 1, 1, none⟩ (.pointer (some ⟨ab, 0, none⟩))) := ((((HK8.out.trans HE.out.2 (fun _ _ h => h)).alloc _).alloc _).drew.trans (Y := fun _ => False) (Kp.of_self hbe12) (fun _ _ h => h.elim)).trans hks (fun _ _ h => h)
              have hW10 : H + 1 < W10.heap.size := HE.out.1.lt
              have e1 := HS1.out.1
              have e2 := HS1.out.2
              have e3 := HS2.out.1
              have e4 := HS2.out.2
              subst e1 e2 e3 e4
              refine ⟨⟨ab, W10.heap.size + 1, W10.heap.size, G + 1, H + 2, G, rb, slb, grb, rfb, cbb, mb⟩, H + 1, oa, oc, rfl, ⟨hks.blk hA (hA.ne hz12 (by decide)), hks.blk ((fin_pl W10 _).below hbe12 (fin_pl W10 _).lt) (show ¬ W10.heap.size + 1 = H + 1 by omega), ?_, C8 H8.out.2.2 (show ¬ G + 1 = H + 1 by omega), C7 HQ.out.2.1 (show ¬ H + 2 = H + 1 by omega), ?_, ?_, hks.blk hSl (hSl.ne hz12 (by decide)), hks.blk hGr (hGr.ne hz12 (by decide)), hks.blk hRf (hRf.ne hz12 (by decide)), ?_, map_kp hMp hks (fun e => ?_)⟩, ?_, ?_, ?_, ?_, ?_⟩
              · show Blk _ _ 65 [.string gid, .int .i64 (mcF c c4), .string (selS f6), .string (selS t6), .int .i64 0]
                rw [hmcE]
                exact hks.blk ((fin_mv W10 _ _ rfl rfl).below hbe12 (fin_mv W10 _ _ rfl rfl).lt) (show ¬ W10.heap.size = H + 1 by omega)
              · show Blk _ G 41 [.string gS, .string tS, .int .i64 ((1 + r5 : Nat) : Int), .slice (some ⟨rb, 0, none⟩) (rL X j).length (rL X j).length, .int .i64 (c : Nat)]
                rw [rL_len]
                exact C8 H8.out.2.1 (show ¬ G = H + 1 by omega)
              · show World.ownsRow _ _ 21 1 (.slice (some ⟨rb, 0, none⟩) (rL X j).length (rL X j).length) (rL X j).length _
                rw [rL_len, HH.out]
                exact own_kp HQ.out.2.2.2 K7 (fun i hi => by cases hi; show ¬ rb = H + 1; have := HO.out.2.2.2.2; omega)
              · show Blk _ cbb 4 [.bool (cbF gok c (mcF c c4) f6 t6)]
                rw [hmcE]
                exact hks.blk hCb (hCb.ne hz12 (by decide))
              · obtain ⟨es, clock, hb, _⟩ := hMp
                have hz := hz12
                unfold Blk at hz
                have e' : mb = H + 1 := e
                rw [e', hz] at hb
                cases hb
              · show Blk _ (H + 1) 33 [.pointer (some ⟨G + 1, 0, none⟩), .pointer (some ⟨ab, 0, none⟩), .int .i64 (st 0 : Nat), .int .i64 (st 1 : Nat), .int .i64 (st 2 : Nat), .int .i64 (st 3 : Nat), .slice oa (rL X j).length oc, .int .i64 (c : Nat), .int .i64 (mcF c c4), .int .i64 ((1 + r5 : Nat) : Int), .string gid, .string (selS f6), .int .i32 (selI f6), .int .i32 (selI t6)]
                rw [rL_len, hmcE]
                exact hz12.set 1 _
              · exact HO.out.1.kp K7 (fun q hq e => by have := (HO.out.2.1 q hq).1; have := HO.out.2.2.1; have := HO.out.2.2.2.2; have : q.block = H + 1 := e; omega)
              · intro q hq
                have h1 := (HO.out.2.1 q hq).1
                have h2 := HO.out.2.2.1
                have h3 := HO.out.2.2.2.2
                refine ⟨by rw [HH.out]; omega, by show q.block ≠ rb; omega, ?_⟩
                obtain ⟨l, hl⟩ := HO.out.2.2.2.1 q hq
                exact ⟨l, C7 hl (by omega)⟩
              · rw [HH.out]
                have hs11 : W10.heap.size ≤ ((W10.alloc (.cells #[.string gid, .int .i64 ((c : Int) - 1), .string (selS f6), .string (selS t6), .int .i64 0] 65)).alloc (.cells #[.slice (some ⟨W10.heap.size, 0, none⟩) 1 1] 68)).drew.heap.size := by simp; omega
                have h1 := hls.1
                have h2 := hls.2.1
                have h3 := hls.2.2.1
                have h4' := hls.2.2.2.1
                have h5 := hls.2.2.2.2
                refine ⟨?_, ?_, ?_, ?_, ?_, ?_, ?_⟩
                · show H ≤ ab; omega
                · show H ≤ G; omega
                · show H ≤ rfb; omega
                · omega
                · show H ≤ slb; omega
                · show H ≤ grb; omega
                · show H ≤ cbb; omega
              · rw [HH.out]
                have hB7 := HQ.out.2.2.1
                exact hB7.trans (K7.below (by have := hB7.size; have := HH.out; omega) (fun i hi e => by have : i = H + 1 := e; omega))
            · have e4 : (cs : Int) % 4 = 3 := by omega
              go_wp2_with fail
              have hZ10 : Blk (((((w9.setCell ⟨H + 1, 11, none⟩ (.string sF)).setCell ⟨H + 1, 12, none⟩ (.int .i32 iF)).setCell ⟨H + 1, 13, none⟩ (.int .i32 iT)).setCell ⟨H + 1, 8, none⟩ (.int .i64 (c : Nat))).setCell ⟨H + 1, 8, none⟩ (.int .i64 ((c : Int) + 1))) (H + 1) 33 [.pointer (some ⟨G + 1, 0, none⟩), .pointer none, .int .i64 (st 0 : Nat), .int .i64 (st 1 : Nat), .int .i64 (st 2 : Nat), .int .i64 (st 3 : Nat), .slice oa j oc, .int .i64 (c : Nat), .int .i64 ((c : Int) + 1), .int .i64 (1 + (r5 : Int)), .string gid, .string sF, .int .i32 iF, .int .i32 iT] := ((((H9.out.1.set 11 _).set 12 _).set 13 _).set 8 _).set 8 _
              have hk10 : Kp (· = H + 1) W8 (((((w9.setCell ⟨H + 1, 11, none⟩ (.string sF)).setCell ⟨H + 1, 12, none⟩ (.int .i32 iF)).setCell ⟨H + 1, 13, none⟩ (.int .i32 iT)).setCell ⟨H + 1, 8, none⟩ (.int .i64 (c : Nat))).setCell ⟨H + 1, 8, none⟩ (.int .i64 ((c : Int) + 1))) := ((((H9.out.2.setCell (.inl rfl) _).setCell (.inl rfl) _).setCell (.inl rfl) _).setCell (.inl rfl) _).setCell (.inl rfl) _
              generalize ((((w9.setCell ⟨H + 1, 11, none⟩ (.string sF)).setCell ⟨H + 1, 12, none⟩ (.int .i32 iF)).setCell ⟨H + 1, 13, none⟩ (.int .i32 iT)).setCell ⟨H + 1, 8, none⟩ (.int .i64 (c : Nat))).setCell ⟨H + 1, 8, none⟩ (.int .i64 ((c : Int) + 1)) = W10 at hZ10 hk10 ⊢
              have HE : Hid (Blk W10 (H + 1) 33 [.pointer (some ⟨G + 1, 0, none⟩), .pointer none, .int .i64 (st 0 : Nat), .int .i64 (st 1 : Nat), .int .i64 (st 2 : Nat), .int .i64 (st 3 : Nat), .slice oa j oc, .int .i64 (c : Nat), .int .i64 ((c : Int) + 1), .int .i64 (1 + (r5 : Int)), .string gid, .string sF, .int .i32 iF, .int .i32 iT] ∧ Kp (· = H + 1) W8 W10) := ⟨hZ10, hk10⟩
              have q0 := hZ10.at_ 0 rfl
              have q5 := hZ10.at_ 8 rfl
              have q7 := hZ10.at_ 10 rfl
              have q8 := hZ10.at_ 11 rfl
              have l10 := hZ10.lt
              have l11 : H + 1 < W10.heap.size + 1 := by omega
              have l12 : H + 1 < W10.heap.size + 1 + 1 := by omega
              clear hZ10 hk10 z7' z8 z11 z12 z13 y8 y11 y12 y13
              go_region
              go_wp2_with fail
              have hmcE : mcF c c4 = ((c : Int) + 1) := by rw [mcF, if_neg (by omega), if_pos (by omega)]
              refine (new_any (W10.heap.size + 1) W10.heap.size (G + 1) (H + 2) G f6 t6 gok gid st (c : Nat) ((c : Int) + 1) _ _ _ _ _ HGID.out (fin_pl W10 _) (fin_mv W10 _ _ HS1.out.1 HS2.out.1) (fin_k (HE.out.2.blk H8.out.2.2 (show ¬ G + 1 = H + 1 by omega)) _ _) (fin_k (HE.out.2.blk (HK8.out.blk HQ.out.2.1 (show ¬ H + 2 = H + 1 by omega)) (show ¬ H + 2 = H + 1 by omega)) _ _) (fin_k (HE.out.2.blk H8.out.2.1 (show ¬ G = H + 1 by omega)) _ _) (by omega) (by omega) (by omega) (by omega) (by omega) (by omega)).mono ?_
              rintro e w12 ⟨ab, mb, slb, grb, rfb, cbb, rfl, hA, hSl, hGr, hRf, hCb, hMp, hls, hbe12⟩
              have hz12 := (fin_k HE.out.1 _ _).below hbe12 (fin_k HE.out.1 _ _).lt
              have q1 := hz12.at_ 1 rfl
              have y1 := hz12.frozen 1
              clear q0 q5 q7 q8 l10 l11 l12
              go_wp2_with fail
              go_ret
              have hks : Kp (· = H + 1) w12 (w12.setCell ⟨H + 1, 1, none⟩ (.pointer (some ⟨ab, 0, none⟩))) := (Kp.refl (· = H + 1) w12).setCell (.inl rfl) _
              have C7 : ∀ {i t : Nat} {l : List Value}, Blk w7 i t l → ¬ i = H + 1 → Blk (w12.setCell ⟨H + 1, 1, none⟩ (.pointer (some ⟨ab, 0, none⟩))) i t l := fun hb hi => hks.blk ((fin_k (HE.out.2.blk (HK8.out.blk hb hi) hi) _ _).below hbe12 (fin_k (HE.out.2.blk (HK8.out.blk hb hi) hi) _ _).lt) hi
              have C8 : ∀ {i t : Nat} {l : List Value}, Blk W8 i t l → ¬ i = H + 1 → Blk (w12.setCell ⟨H + 1, 1, none⟩ (.pointer (some ⟨ab, 0, none⟩))) i t l := fun hb hi => hks.blk ((fin_k (HE.out.2.blk hb hi) _ _).below hbe12 (fin_k (HE.out.2.blk hb hi) _ _).lt) hi
              have K7 : Kp (· = H + 1) w7 (w12.setCell ⟨H + 1, 1, none⟩ (.pointer (some ⟨ab, 0, none⟩))) := ((((HK8.out.trans HE.out.2 (fun _ _ h => h)).alloc _).alloc _).drew.trans (Y := fun _ => False) (Kp.of_self hbe12) (fun _ _ h => h.elim)).trans hks (fun _ _ h => h)
              have hW10 : H + 1 < W10.heap.size := HE.out.1.lt
              have e1 := HS1.out.1
              have e2 := HS1.out.2
              have e3 := HS2.out.1
              have e4 := HS2.out.2
              subst e1 e2 e3 e4
              refine ⟨⟨ab, W10.heap.size + 1, W10.heap.size, G + 1, H + 2, G, rb, slb, grb, rfb, cbb, mb⟩, H + 1, oa, oc, rfl, ⟨hks.blk hA (hA.ne hz12 (by decide)), hks.blk ((fin_pl W10 _).below hbe12 (fin_pl W10 _).lt) (show ¬ W10.heap.size + 1 = H + 1 by omega), ?_, C8 H8.out.2.2 (show ¬ G + 1 = H + 1 by omega), C7 HQ.out.2.1 (show ¬ H + 2 = H + 1 by omega), ?_, ?_, hks.blk hSl (hSl.ne hz12 (by decide)), hks.blk hGr (hGr.ne hz12 (by decide)), hks.blk hRf (hRf.ne hz12 (by decide)), ?_, map_kp hMp hks (fun e => ?_)⟩, ?_, ?_, ?_, ?_, ?_⟩
              · show Blk _ _ 65 [.string gid, .int .i64 (mcF c c4), .string (selS f6), .string (selS t6), .int .i64 0]
                rw [hmcE]
                exact hks.blk ((fin_mv W10 _ _ rfl rfl).below hbe12 (fin_mv W10 _ _ rfl rfl).lt) (show ¬ W10.heap.size = H + 1 by omega)
              · show Blk _ G 41 [.string gS, .string tS, .int .i64 ((1 + r5 : Nat) : Int), .slice (some ⟨rb, 0, none⟩) (rL X j).length (rL X j).length, .int .i64 (c : Nat)]
                rw [rL_len]
                exact C8 H8.out.2.1 (show ¬ G = H + 1 by omega)
              · show World.ownsRow _ _ 21 1 (.slice (some ⟨rb, 0, none⟩) (rL X j).length (rL X j).length) (rL X j).length _
                rw [rL_len, HH.out]
                exact own_kp HQ.out.2.2.2 K7 (fun i hi => by cases hi; show ¬ rb = H + 1; have := HO.out.2.2.2.2; omega)
              · show Blk _ cbb 4 [.bool (cbF gok c (mcF c c4) f6 t6)]
                rw [hmcE]
                exact hks.blk hCb (hCb.ne hz12 (by decide))
              · obtain ⟨es, clock, hb, _⟩ := hMp
                have hz := hz12
                unfold Blk at hz
                have e' : mb = H + 1 := e
                rw [e', hz] at hb
                cases hb
              · show Blk _ (H + 1) 33 [.pointer (some ⟨G + 1, 0, none⟩), .pointer (some ⟨ab, 0, none⟩), .int .i64 (st 0 : Nat), .int .i64 (st 1 : Nat), .int .i64 (st 2 : Nat), .int .i64 (st 3 : Nat), .slice oa (rL X j).length oc, .int .i64 (c : Nat), .int .i64 (mcF c c4), .int .i64 ((1 + r5 : Nat) : Int), .string gid, .string (selS f6), .int .i32 (selI f6), .int .i32 (selI t6)]
                rw [rL_len, hmcE]
                exact hz12.set 1 _
              · exact HO.out.1.kp K7 (fun q hq e => by have := (HO.out.2.1 q hq).1; have := HO.out.2.2.1; have := HO.out.2.2.2.2; have : q.block = H + 1 := e; omega)
              · intro q hq
                have h1 := (HO.out.2.1 q hq).1
                have h2 := HO.out.2.2.1
                have h3 := HO.out.2.2.2.2
                refine ⟨by rw [HH.out]; omega, by show q.block ≠ rb; omega, ?_⟩
                obtain ⟨l, hl⟩ := HO.out.2.2.2.1 q hq
                exact ⟨l, C7 hl (by omega)⟩
              · rw [HH.out]
                have hs11 : W10.heap.size ≤ ((W10.alloc (.cells #[.string gid, .int .i64 ((c : Int) + 1), .string (selS f6), .string (selS t6), .int .i64 0] 65)).alloc (.cells #[.slice (some ⟨W10.heap.size, 0, none⟩) 1 1] 68)).drew.heap.size := by simp; omega
                have h1 := hls.1
                have h2 := hls.2.1
                have h3 := hls.2.2.1
                have h4' := hls.2.2.2.1
                have h5 := hls.2.2.2.2
                refine ⟨?_, ?_, ?_, ?_, ?_, ?_, ?_⟩
                · show H ≤ ab; omega
                · show H ≤ G; omega
                · show H ≤ rfb; omega
                · omega
                · show H ≤ slb; omega
                · show H ≤ grb; omega
                · show H ≤ cbb; omega
              · rw [HH.out]
                have hB7 := HQ.out.2.2.1
                exact hB7.trans (K7.below (by have := hB7.size; have := HH.out; omega) (fun i hi e => by have : i = H + 1 := e; omega))
            · have e4 : (cs : Int) % 4 = 1 := by omega
              go_wp2_with fail
              have hZ10 : Blk (((((w9.setCell ⟨H + 1, 11, none⟩ (.string sF)).setCell ⟨H + 1, 12, none⟩ (.int .i32 iF)).setCell ⟨H + 1, 13, none⟩ (.int .i32 iT)).setCell ⟨H + 1, 8, none⟩ (.int .i64 (c : Nat)))) (H + 1) 33 [.pointer (some ⟨G + 1, 0, none⟩), .pointer none, .int .i64 (st 0 : Nat), .int .i64 (st 1 : Nat), .int .i64 (st 2 : Nat), .int .i64 (st 3 : Nat), .slice oa j oc, .int .i64 (c : Nat), .int .i64 (c : Int), .int .i64 (1 + (r5 : Int)), .string gid, .string sF, .int .i32 iF, .int .i32 iT] := (((H9.out.1.set 11 _).set 12 _).set 13 _).set 8 _
              have hk10 : Kp (· = H + 1) W8 (((((w9.setCell ⟨H + 1, 11, none⟩ (.string sF)).setCell ⟨H + 1, 12, none⟩ (.int .i32 iF)).setCell ⟨H + 1, 13, none⟩ (.int .i32 iT)).setCell ⟨H + 1, 8, none⟩ (.int .i64 (c : Nat)))) := (((H9.out.2.setCell (.inl rfl) _).setCell (.inl rfl) _).setCell (.inl rfl) _).setCell (.inl rfl) _
              generalize ((((w9.setCell ⟨H + 1, 11, none⟩ (.string sF)).setCell ⟨H + 1, 12, none⟩ (.int .i32 iF)).setCell ⟨H + 1, 13, none⟩ (.int .i32 iT)).setCell ⟨H + 1, 8, none⟩ (.int .i64 (c : Nat))) = W10 at hZ10 hk10 ⊢
              have HE : Hid (Blk W10 (H + 1) 33 [.pointer (some ⟨G + 1, 0, none⟩), .pointer none, .int .i64 (st 0 : Nat), .int .i64 (st 1 : Nat), .int .i64 (st 2 : Nat), .int .i64 (st 3 : Nat), .slice oa j oc, .int .i64 (c : Nat), .int .i64 (c : Int), .int .i64 (1 + (r5 : Int)), .string gid, .string sF, .int .i32 iF, .int .i32 iT] ∧ Kp (· = H + 1) W8 W10) := ⟨hZ10, hk10⟩
              have q0 := hZ10.at_ 0 rfl
              have q5 := hZ10.at_ 8 rfl
              have q7 := hZ10.at_ 10 rfl
              have q8 := hZ10.at_ 11 rfl
              have l10 := hZ10.lt
              have l11 : H + 1 < W10.heap.size + 1 := by omega
              have l12 : H + 1 < W10.heap.size + 1 + 1 := by omega
              clear hZ10 hk10 z7' z8 z11 z12 z13 y8 y11 y12 y13
              go_region
              go_wp2_with fail
              have hmcE : mcF c c4 = (c : Int) := by rw [mcF, if_neg (by omega), if_neg (by omega)]
              refine (new_any (W10.heap.size + 1) W10.heap.size (G + 1) (H + 2) G f6 t6 gok gid st (c : Nat) (c : Int) _ _ _ _ _ HGID.out (fin_pl W10 _) (fin_mv W10 _ _ HS1.out.1 HS2.out.1) (fin_k (HE.out.2.blk H8.out.2.2 (show ¬ G + 1 = H + 1 by omega)) _ _) (fin_k (HE.out.2.blk (HK8.out.blk HQ.out.2.1 (show ¬ H + 2 = H + 1 by omega)) (show ¬ H + 2 = H + 1 by omega)) _ _) (fin_k (HE.out.2.blk H8.out.2.1 (show ¬ G = H + 1 by omega)) _ _) (by omega) (by omega) (by omega) (by omega) (by omega) (by omega)).mono ?_
              rintro e w12 ⟨ab, mb, slb, grb, rfb, cbb, rfl, hA, hSl, hGr, hRf, hCb, hMp, hls, hbe12⟩
              have hz12 := (fin_k HE.out.1 _ _).below hbe12 (fin_k HE.out.1 _ _).lt
              have q1 := hz12.at_ 1 rfl
              have y1 := hz12.frozen 1
              clear q0 q5 q7 q8 l10 l11 l12
              go_wp2_with fail
              go_ret
              have hks : Kp (· = H + 1) w12 (w12.setCell ⟨H + 1, 1, none⟩ (.pointer (some ⟨ab, 0, none⟩))) := (Kp.refl (· = H + 1) w12).setCell (.inl rfl) _
              have C7 : ∀ {i t : Nat} {l : List Value}, Blk w7 i t l → ¬ i = H + 1 → Blk (w12.setCell ⟨H + 1, 1, none⟩ (.pointer (some ⟨ab, 0, none⟩))) i t l := fun hb hi => hks.blk ((fin_k (HE.out.2.blk (HK8.out.blk hb hi) hi) _ _).below hbe12 (fin_k (HE.out.2.blk (HK8.out.blk hb hi) hi) _ _).lt) hi
              have C8 : ∀ {i t : Nat} {l : List Value}, Blk W8 i t l → ¬ i = H + 1 → Blk (w12.setCell ⟨H + 1, 1, none⟩ (.pointer (some ⟨ab, 0, none⟩))) i t l := fun hb hi => hks.blk ((fin_k (HE.out.2.blk hb hi) _ _).below hbe12 (fin_k (HE.out.2.blk hb hi) _ _).lt) hi
              have K7 : Kp (· = H + 1) w7 (w12.setCell ⟨H + 1, 1, none⟩ (.pointer (some ⟨ab, 0, none⟩))) := ((((HK8.out.trans HE.out.2 (fun _ _ h => h)).alloc _).alloc _).drew.trans (Y := fun _ => False) (Kp.of_self hbe12) (fun _ _ h => h.elim)).trans hks (fun _ _ h => h)
              have hW10 : H + 1 < W10.heap.size := HE.out.1.lt
              have e1 := HS1.out.1
              have e2 := HS1.out.2
              have e3 := HS2.out.1
              have e4 := HS2.out.2
              subst e1 e2 e3 e4
              refine ⟨⟨ab, W10.heap.size + 1, W10.heap.size, G + 1, H + 2, G, rb, slb, grb, rfb, cbb, mb⟩, H + 1, oa, oc, rfl, ⟨hks.blk hA (hA.ne hz12 (by decide)), hks.blk ((fin_pl W10 _).below hbe12 (fin_pl W10 _).lt) (show ¬ W10.heap.size + 1 = H + 1 by omega), ?_, C8 H8.out.2.2 (show ¬ G + 1 = H + 1 by omega), C7 HQ.out.2.1 (show ¬ H + 2 = H + 1 by omega), ?_, ?_, hks.blk hSl (hSl.ne hz12 (by decide)), hks.blk hGr (hGr.ne hz12 (by decide)), hks.blk hRf (hRf.ne hz12 (by decide)), ?_, map_kp hMp hks (fun e => ?_)⟩, ?_, ?_, ?_, ?_, ?_⟩
              · show Blk _ _ 65 [.string gid, .int .i64 (mcF c c4), .string (selS f6), .string (selS t6), .int .i64 0]
                rw [hmcE]
                exact hks.blk ((fin_mv W10 _ _ rfl rfl).below hbe12 (fin_mv W10 _ _ rfl rfl).lt) (show ¬ W10.heap.size = H + 1 by omega)
              · show Blk _ G 41 [.string gS, .string tS, .int .i64 ((1 + r5 : Nat) : Int), .slice (some ⟨rb, 0, none⟩) (rL X j).length (rL X j).length, .int .i64 (c : Nat)]
                rw [rL_len]
                exact C8 H8.out.2.1 (show ¬ G = H + 1 by omega)
              · show World.ownsRow _ _ 21 1 (.slice (some ⟨rb, 0, none⟩) (rL X j).length (rL X j).length) (rL X j).length _
                rw [rL_len, HH.out]
                exact own_kp HQ.out.2.2.2 K7 (fun i hi => by cases hi; show ¬ rb = H + 1; have := HO.out.2.2.2.2; omega)
              · show Blk _ cbb 4 [.bool (cbF gok c (mcF c c4) f6 t6)]
                rw [hmcE]
                exact hks.blk hCb (hCb.ne hz12 (by decide))
              · obtain ⟨es, clock, hb, _⟩ := hMp
                have hz := hz12
                unfold Blk at hz
                have e' : mb = H + 1 := e
                rw [e', hz] at hb
                cases hb
              · show Blk _ (H + 1) 33 [.pointer (some ⟨G + 1, 0, none⟩), .pointer (some ⟨ab, 0, none⟩), .int .i64 (st 0 : Nat), .int .i64 (st 1 : Nat), .int .i64 (st 2 : Nat), .int .i64 (st 3 : Nat), .slice oa (rL X j).length oc, .int .i64 (c : Nat), .int .i64 (mcF c c4), .int .i64 ((1 + r5 : Nat) : Int), .string gid, .string (selS f6), .int .i32 (selI f6), .int .i32 (selI t6)]
                rw [rL_len, hmcE]
                exact hz12.set 1 _
              · exact HO.out.1.kp K7 (fun q hq e => by have := (HO.out.2.1 q hq).1; have := HO.out.2.2.1; have := HO.out.2.2.2.2; have : q.block = H + 1 := e; omega)
              · intro q hq
                have h1 := (HO.out.2.1 q hq).1
                have h2 := HO.out.2.2.1
                have h3 := HO.out.2.2.2.2
                refine ⟨by rw [HH.out]; omega, by show q.block ≠ rb; omega, ?_⟩
                obtain ⟨l, hl⟩ := HO.out.2.2.2.1 q hq
                exact ⟨l, C7 hl (by omega)⟩
              · rw [HH.out]
                have hs11 : W10.heap.size ≤ ((W10.alloc (.cells #[.string gid, .int .i64 (c : Int), .string (selS f6), .string (selS t6), .int .i64 0] 65)).alloc (.cells #[.slice (some ⟨W10.heap.size, 0, none⟩) 1 1] 68)).drew.heap.size := by simp; omega
                have h1 := hls.1
                have h2 := hls.2.1
                have h3 := hls.2.2.1
                have h4' := hls.2.2.2.1
                have h5 := hls.2.2.2.2
                refine ⟨?_, ?_, ?_, ?_, ?_, ?_, ?_⟩
                · show H ≤ ab; omega
                · show H ≤ G; omega
                · show H ≤ rfb; omega
                · omega
                · show H ≤ slb; omega
                · show H ≤ grb; omega
                · show H ≤ cbb; omega
              · rw [HH.out]
                have hB7 := HQ.out.2.2.1
                exact hB7.trans (K7.below (by have := hB7.size; have := HH.out; omega) (fun i hi e => by have : i = H + 1 := e; omega))
            · have e4 : (cs : Int) % 4 = 2 := by omega
              go_wp2_with fail
              have hZ10 : Blk (((((w9.setCell ⟨H + 1, 11, none⟩ (.string sF)).setCell ⟨H + 1, 12, none⟩ (.int .i32 iF)).setCell ⟨H + 1, 13, none⟩ (.int .i32 iT)).setCell ⟨H + 1, 8, none⟩ (.int .i64 (c : Nat)))) (H + 1) 33 [.pointer (some ⟨G + 1, 0, none⟩), .pointer none, .int .i64 (st 0 : Nat), .int .i64 (st 1 : Nat), .int .i64 (st 2 : Nat), .int .i64 (st 3 : Nat), .slice oa j oc, .int .i64 (c : Nat), .int .i64 (c : Int), .int .i64 (1 + (r5 : Int)), .string gid, .string sF, .int .i32 iF, .int .i32 iT] := (((H9.out.1.set 11 _).set 12 _).set 13 _).set 8 _
              have hk10 : Kp (· = H + 1) W8 (((((w9.setCell ⟨H + 1, 11, none⟩ (.string sF)).setCell ⟨H + 1, 12, none⟩ (.int .i32 iF)).setCell ⟨H + 1, 13, none⟩ (.int .i32 iT)).setCell ⟨H + 1, 8, none⟩ (.int .i64 (c : Nat)))) := (((H9.out.2.setCell (.inl rfl) _).setCell (.inl rfl) _).setCell (.inl rfl) _).setCell (.inl rfl) _
              generalize ((((w9.setCell ⟨H + 1, 11, none⟩ (.string sF)).setCell ⟨H + 1, 12, none⟩ (.int .i32 iF)).setCell ⟨H + 1, 13, none⟩ (.int .i32 iT)).setCell ⟨H + 1, 8, none⟩ (.int .i64 (c : Nat))) = W10 at hZ10 hk10 ⊢
              have HE : Hid (Blk W10 (H + 1) 33 [.pointer (some ⟨G + 1, 0, none⟩), .pointer none, .int .i64 (st 0 : Nat), .int .i64 (st 1 : Nat), .int .i64 (st 2 : Nat), .int .i64 (st 3 : Nat), .slice oa j oc, .int .i64 (c : Nat), .int .i64 (c : Int), .int .i64 (1 + (r5 : Int)), .string gid, .string sF, .int .i32 iF, .int .i32 iT] ∧ Kp (· = H + 1) W8 W10) := ⟨hZ10, hk10⟩
              have q0 := hZ10.at_ 0 rfl
              have q5 := hZ10.at_ 8 rfl
              have q7 := hZ10.at_ 10 rfl
              have q8 := hZ10.at_ 11 rfl
              have l10 := hZ10.lt
              have l11 : H + 1 < W10.heap.size + 1 := by omega
              have l12 : H + 1 < W10.heap.size + 1 + 1 := by omega
              clear hZ10 hk10 z7' z8 z11 z12 z13 y8 y11 y12 y13
              go_region
              go_wp2_with fail
              have hmcE : mcF c c4 = (c : Int) := by rw [mcF, if_neg (by omega), if_neg (by omega)]
              refine (new_any (W10.heap.size + 1) W10.heap.size (G + 1) (H + 2) G f6 t6 gok gid st (c : Nat) (c : Int) _ _ _ _ _ HGID.out (fin_pl W10 _) (fin_mv W10 _ _ HS1.out.1 HS2.out.1) (fin_k (HE.out.2.blk H8.out.2.2 (show ¬ G + 1 = H + 1 by omega)) _ _) (fin_k (HE.out.2.blk (HK8.out.blk HQ.out.2.1 (show ¬ H + 2 = H + 1 by omega)) (show ¬ H + 2 = H + 1 by omega)) _ _) (fin_k (HE.out.2.blk H8.out.2.1 (show ¬ G = H + 1 by omega)) _ _) (by omega) (by omega) (by omega) (by omega) (by omega) (by omega)).mono ?_
              rintro e w12 ⟨ab, mb, slb, grb, rfb, cbb, rfl, hA, hSl, hGr, hRf, hCb, hMp, hls, hbe12⟩
              have hz12 := (fin_k HE.out.1 _ _).below hbe12 (fin_k HE.out.1 _ _).lt
              have q1 := hz12.at_ 1 rfl
              have y1 := hz12.frozen 1
              clear q0 q5 q7 q8 l10 l11 l12
              go_wp2_with fail
              go_ret
              have hks : Kp (· = H + 1) w12 (w12.setCell ⟨H + 1, 1, none⟩ (.pointer (some ⟨ab, 0, none⟩))) := (Kp.refl (· = H + 1) w12).setCell (.inl rfl) _
              have C7 : ∀ {i t : Nat} {l : List Value}, Blk w7 i t l → ¬ i = H + 1 → Blk (w12.setCell ⟨H + 1, 1, none⟩ (.pointer (some ⟨ab, 0, none⟩))) i t l := fun hb hi => hks.blk ((fin_k (HE.out.2.blk (HK8.out.blk hb hi) hi) _ _).below hbe12 (fin_k (HE.out.2.blk (HK8.out.blk hb hi) hi) _ _).lt) hi
              have C8 : ∀ {i t : Nat} {l : List Value}, Blk W8 i t l → ¬ i = H + 1 → Blk (w12.setCell ⟨H + 1, 1, none⟩ (.pointer (some ⟨ab, 0, none⟩))) i t l := fun hb hi => hks.blk ((fin_k (HE.out.2.blk hb hi) _ _).below hbe12 (fin_k (HE.out.2.blk hb hi) _ _).lt) hi
              have K7 : Kp (· = H + 1) w7 (w12.setCell ⟨H + 1, 1, none⟩ (.pointer (some ⟨ab, 0, none⟩))) := ((((HK8.out.trans HE.out.2 (fun _ _ h => h)).alloc _).alloc _).drew.trans (Y := fun _ => False) (Kp.of_self hbe12) (fun _ _ h => h.elim)).trans hks (fun _ _ h => h)
              have hW10 : H + 1 < W10.heap.size := HE.out.1.lt
              have e1 := HS1.out.1
              have e2 := HS1.out.2
              have e3 := HS2.out.1
              have e4 := HS2.out.2
              subst e1 e2 e3 e4
              refine ⟨⟨ab, W10.heap.size + 1, W10.heap.size, G + 1, H + 2, G, rb, slb, grb, rfb, cbb, mb⟩, H + 1, oa, oc, rfl, ⟨hks.blk hA (hA.ne hz12 (by decide)), hks.blk ((fin_pl W10 _).below hbe12 (fin_pl W10 _).lt) (show ¬ W10.heap.size + 1 = H + 1 by omega), ?_, C8 H8.out.2.2 (show ¬ G + 1 = H + 1 by omega), C7 HQ.out.2.1 (show ¬ H + 2 = H + 1 by omega), ?_, ?_, hks.blk hSl (hSl.ne hz12 (by decide)), hks.blk hGr (hGr.ne hz12 (by decide)), hks.blk hRf (hRf.ne hz12 (by decide)), ?_, map_kp hMp hks (fun e => ?_)⟩, ?_, ?_, ?_, ?_, ?_⟩
              · show Blk _ _ 65 [.string gid, .int .i64 (mcF c c4), .string (selS f6), .string (selS t6), .int .i64 0]
                rw [hmcE]
                exact hks.blk ((fin_mv W10 _ _ rfl rfl).below hbe12 (fin_mv W10 _ _ rfl rfl).lt) (show ¬ W10.heap.size = H + 1 by omega)
              · show Blk _ G 41 [.string gS, .string tS, .int .i64 ((1 + r5 : Nat) : Int), .slice (some ⟨rb, 0, none⟩) (rL X j).length (rL X j).length, .int .i64 (c : Nat)]
                rw [rL_len]
                exact C8 H8.out.2.1 (show ¬ G = H + 1 by omega)
              · show World.ownsRow _ _ 21 1 (.slice (some ⟨rb, 0, none⟩) (rL X j).length (rL X j).length) (rL X j).length _
                rw [rL_len, HH.out]
                exact own_kp HQ.out.2.2.2 K7 (fun i hi => by cases hi; show ¬ rb = H + 1; have := HO.out.2.2.2.2; omega)
              · show Blk _ cbb 4 [.bool (cbF gok c (mcF c c4) f6 t6)]
                rw [hmcE]
                exact hks.blk hCb (hCb.ne hz12 (by decide))
              · obtain ⟨es, clock, hb, _⟩ := hMp
                have hz := hz12
                unfold Blk at hz
                have e' : mb = H + 1 := e
                rw [e', hz] at hb
                cases hb
              · show Blk _ (H + 1) 33 [.pointer (some ⟨G + 1, 0, none⟩), .pointer (some ⟨ab, 0, none⟩), .int .i64 (st 0 : Nat), .int .i64 (st 1 : Nat), .int .i64 (st 2 : Nat), .int .i64 (st 3 : Nat), .slice oa (rL X j).length oc, .int .i64 (c : Nat), .int .i64 (mcF c c4), .int .i64 ((1 + r5 : Nat) : Int), .string gid, .string (selS f6), .int .i32 (selI f6), .int .i32 (selI t6)]
                rw [rL_len, hmcE]
                exact hz12.set 1 _
              · exact HO.out.1.kp K7 (fun q hq e => by have := (HO.out.2.1 q hq).1; have := HO.out.2.2.1; have := HO.out.2.2.2.2; have : q.block = H + 1 := e; omega)
              · intro q hq
                have h1 := (HO.out.2.1 q hq).1
                have h2 := HO.out.2.2.1
                have h3 := HO.out.2.2.2.2
                refine ⟨by rw [HH.out]; omega, by show q.block ≠ rb; omega, ?_⟩
                obtain ⟨l, hl⟩ := HO.out.2.2.2.1 q hq
                exact ⟨l, C7 hl (by omega)⟩
              · rw [HH.out]
                have hs11 : W10.heap.size ≤ ((W10.alloc (.cells #[.string gid, .int .i64 (c : Int), .string (selS f6), .string (selS t6), .int .i64 0] 65)).alloc (.cells #[.slice (some ⟨W10.heap.size, 0, none⟩) 1 1] 68)).drew.heap.size := by simp; omega
                have h1 := hls.1
                have h2 := hls.2.1
                have h3 := hls.2.2.1
                have h4' := hls.2.2.2.1
                have h5 := hls.2.2.2.2
                refine ⟨?_, ?_, ?_, ?_, ?_, ?_, ?_⟩
                · show H ≤ ab; omega
                · show H ≤ G; omega
                · show H ≤ rfb; omega
                · omega
                · show H ≤ slb; omega
                · show H ≤ grb; omega
                · show H ≤ cbb; omega
              · rw [HH.out]
                have hB7 := HQ.out.2.2.1
                exact hB7.trans (K7.below (by have := hB7.size; have := HH.out; omega) (fun i hi e => by have : i = H + 1 := e; omega))

end Go.Proofs.YbulkadugFmt

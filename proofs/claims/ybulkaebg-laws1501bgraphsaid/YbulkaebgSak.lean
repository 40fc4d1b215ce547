/-
  LawS1501BGraph over toys/ybulkaebg: (*History).sessionsAndKeys.
-/
import Derived.Test.YbulkaebgPlain
namespace Go.Proofs.Ybulkaebg
open Go.RowKit
attribute [local go_sem ↓] Go.wp_at_zero Go.wp_at_succ

theorem Yba.info4 : (Yba.prog.info? 4).map (fun i => (i.zero, i.size, i.bytes)) = some (some (.bool false), 1, 1) := by kernel_rfl

/-- Which keys are marked as written, j operations into attempt i. -/
def wrj (A : Nat → Att) (i j : Nat) (x : Nat) : Bool := wrt A i x || ((A i).o.take j).any (fun p => p.1 == x && p.2)

theorem wrj_zero (A : Nat → Att) (i x : Nat) : wrj A i 0 x = wrt A i x := by simp [wrj]
theorem wrj_full (A : Nat → Att) (i x : Nat) (hc : (A i).c = true) : wrj A i (A i).o.length x = wrt A (i + 1) x := by simp [wrj, wrt, hc]
theorem wrj_step (A : Nat → Att) (i j : Nat) (h : j < (A i).o.length) (x : Nat) : (if x = (A i).o[j].1 then (wrj A i j x || (A i).o[j].2) else wrj A i j x) = wrj A i (j + 1) x := by
  unfold wrj
  rw [List.take_succ_eq_append_getElem h, List.any_append]
  by_cases e : x = (A i).o[j].1
  · subst e; simp [Bool.or_assoc]
  · have e' : ((A i).o[j].1 == x) = false := by rw [beq_eq_false_iff_ne]; exact fun h => e h.symm
    simp only [e, if_false, List.any_cons, List.any_nil, e', Bool.false_and, Bool.or_false]

theorem coms_lt {A : Nat → Att} {N S : Nat} (hs : ∀ i, i < N → (A i).s < S) : ∀ e, e ∈ coms A N → e.2 < S := fun e he => by
  obtain ⟨h1, _, h3⟩ := coms_mem he
  rw [h3]
  exact hs _ h1
theorem pfxE_bd (A : Nat → Att) (N S v : Nat) (hs : ∀ i, i < N → (A i).s < S) (hv : v < S) (hN : N ≤ 1024) : 0 ≤ pfxE (coms A N) v v ∧ pfxE (coms A N) v v ≤ 1024 ∧ 0 ≤ pfxE (coms A N) v (v + 1) ∧ pfxE (coms A N) v (v + 1) ≤ 1024 := by
  have h0 := coms_le A N
  have h1 := st_mono (coms A N) (a := v) (b := S) (by omega)
  rw [st_total (coms A N) S (coms_lt hs)] at h1
  have h2 := seg_le (coms A N) v
  simp only [pfxE, Nat.le_refl, if_true, show ¬ v + 1 ≤ v by omega, if_false, Nat.add_sub_cancel]
  omega

theorem coms_split {A : Nat → Att} {N k : Nat} (hk : k < N) (hc : (A k).c = true) : ∃ Q, coms A N = coms A k ++ (k, (A k).s) :: Q := by
  induction N with
  | zero => omega
  | succ N ih =>
    by_cases h : k = N
    · subst h; exact ⟨[], by simp [coms, hc]⟩
    · obtain ⟨Q, hQ⟩ := ih (by omega)
      simp only [coms]
      split
      · exact ⟨Q ++ [(N, (A N).s)], by rw [hQ]; simp⟩
      · exact ⟨Q, hQ⟩

/-- The sort of the committed attempts under way: 'by' in block g3, 'next' in block g4. -/
def FB (wr : World) (g3 g4 S m : Nat) (E P : List (Nat × Nat)) : Prop :=
  ∃ T N : Nat → Int, wr.rowIs g3 3 m (fun i => .int .i64 (T i)) ∧ wr.rowIs g4 3 S (fun x => .int .i64 (N x)) ∧ g3 ≠ g4 ∧ Filled E P T ∧ ∀ x, x < S → N x = ((st E x + (seg P x).length : Nat) : Int)
theorem FB.alloc {wr : World} {g3 g4 S m : Nat} {E P : List (Nat × Nat)} (h : FB wr g3 g4 S m E P) (o : Obj) : FB (wr.alloc o) g3 g4 S m E P := by
  obtain ⟨T, N, h1, h2, h3⟩ := h
  exact ⟨T, N, h1.alloc o, h2.alloc o, h3⟩
theorem FB.facts {wr : World} {g3 g4 S m : Nat} {E P : List (Nat × Nat)} {x : Nat} (h : FB wr g3 g4 S m E P) (hp : st E x + (seg P x).length < m) (hx : x < S) :
    wr.cell? ⟨g4, x, none⟩ = some (.int .i64 ((st E x + (seg P x).length : Nat) : Int)) ∧ (∃ y, wr.cell? ⟨g3, st E x + (seg P x).length, none⟩ = some (.int .i64 y)) ∧ wr.frozen? ⟨g3, st E x + (seg P x).length, none⟩ = false ∧ wr.frozen? ⟨g4, x, none⟩ = false ∧
    g3 < wr.heap.size ∧ g4 < wr.heap.size := by
  obtain ⟨T, N, h1, h2, _, _, h5⟩ := h
  exact ⟨by rw [h2.cell hx, h5 x hx], ⟨_, h1.cell hp⟩, h1.frozen _, h2.frozen _, h1.lt, h2.lt⟩
theorem FB.step {wr : World} {g3 g4 S m : Nat} {E P Q : List (Nat × Nat)} {u x : Nat} (h : FB wr g3 g4 S m E P) (hE : E = P ++ (u, x) :: Q) :
    FB ((wr.setCell ⟨g3, st E x + (seg P x).length, none⟩ (.int .i64 (u : Int))).setCell ⟨g4, x, none⟩ (.int .i64 (((st E x + (seg P x).length : Nat) : Int) + 1))) g3 g4 S m E (P ++ [(u, x)]) := by
  obtain ⟨T, N, h1, h2, h3, h4, h5⟩ := h
  refine ⟨_, _, ((h1.set (st E x + (seg P x).length) (.int .i64 (u : Int))).setOther (by show g3 ≠ g4; exact h3) _).congr (g := fun j => .int .i64 ((fun j => if j = st E x + (seg P x).length then (u : Int) else T j) j)) (fun j _ => by dsimp only; split <;> rfl),
    ((h2.setOther (by show g4 ≠ g3; exact fun e => h3 e.symm) _).set x _).congr (g := fun j => .int .i64 ((fun j => if j = x then ((st E x + (seg P x).length : Nat) : Int) + 1 else N j) j)) (fun j _ => by dsimp only; split <;> rfl), h3, filled_snoc hE h4, fun y hy => ?_⟩
  by_cases e : y = x
  · subst e
    rw [seg_snoc_same]
    simp
    omega
  · rw [seg_snoc_ne P e]
    simp only [e, if_false]
    exact h5 y hy
theorem FB.start (wr : World) (n m : Nat) (E : List (Nat × Nat)) :
    FB (((wr.alloc (.cells (madeCells #[.int .i64 0] m) 3)).alloc (.cells (madeCells #[.int .i64 0] n) 3)).setRow (wr.heap.size + 1) (((List.range n).map fun j => Value.int .i64 (st E j : Nat)) ++ List.drop n (madeCells #[Value.int .i64 0] n).toList).toArray) wr.heap.size (wr.heap.size + 1) n m E [] := by
  refine ⟨fun _ => 0, fun j => (st E j : Nat), ((World.rowIs_made wr (.int .i64 0) m 3).alloc _).of_block (setRow_other _ _ _ _ (by omega)), ⟨_, setRow_heap _ _ (madeCells #[.int .i64 0] n) _ 3 (0, 0) (by have := heap_alloc_new (wr.alloc (.cells (madeCells #[.int .i64 0] m) 3)) (.cells (madeCells #[.int .i64 0] n) 3); simpa using this), ?_, fun i hi => ?_⟩, by omega, filled_nil _ _, fun x _ => by simp [seg]⟩
  · simp [madeCells]
  · rw [List.getElem?_toArray, List.getElem?_append_left (by simpa using hi), List.getElem?_map, List.getElem?_range hi]
    rfl
theorem Frm.two {w wr : World} {n K m : Nat} {F : Nat → Int} {G : Nat → Value} (h1 : wr.rowIs w.heap.size 3 (n + 1) (fun j => .int .i64 (F j))) (h2 : wr.rowIs (w.heap.size + 1) 4 K G) (hb : Below w.heap.size w wr) :
    (((wr.alloc (.cells (madeCells #[.int .i64 0] m) 3)).alloc (.cells (madeCells #[.int .i64 0] n) 3)).setRow (wr.heap.size + 1) (((List.range n).map fun j => Value.int .i64 (F j)) ++ List.drop n (madeCells #[Value.int .i64 0] n).toList).toArray).rowIs w.heap.size 3 (n + 1) (fun j => .int .i64 (F j)) ∧
    (((wr.alloc (.cells (madeCells #[.int .i64 0] m) 3)).alloc (.cells (madeCells #[.int .i64 0] n) 3)).setRow (wr.heap.size + 1) (((List.range n).map fun j => Value.int .i64 (F j)) ++ List.drop n (madeCells #[Value.int .i64 0] n).toList).toArray).rowIs (w.heap.size + 1) 4 K G ∧
    Below w.heap.size w (((wr.alloc (.cells (madeCells #[.int .i64 0] m) 3)).alloc (.cells (madeCells #[.int .i64 0] n) 3)).setRow (wr.heap.size + 1) (((List.range n).map fun j => Value.int .i64 (F j)) ++ List.drop n (madeCells #[Value.int .i64 0] n).toList).toArray) := by
  have l1 := h1.lt
  have l2 := h2.lt
  have hs := hb.size
  exact ⟨((h1.alloc _).alloc _).of_block (setRow_other _ _ _ _ (by omega)), ((h2.alloc _).alloc _).of_block (setRow_other _ _ _ _ (by omega)), below_setRow ((hb.alloc hs _).alloc (by simp; omega) _) (by omega) _⟩

theorem heap2 (w : World) (o1 o2 : Obj) : ((w.alloc o1).alloc o2).heap[w.heap.size + 1]? = some o2 := by
  have := heap_alloc_new (w.alloc o1) o2
  simpa using this
theorem copy_src2 {wr : World} {g n : Nat} {F : Nat → Int} {o1 o2 : Obj} (h : wr.rowIs g 3 (n + 1) (fun j => .int .i64 (F j))) : ∀ j v, ((List.range n).map fun j => Value.int .i64 (F j))[j]? = some v → ((wr.alloc o1).alloc o2).cell? ((⟨g, 0, none⟩ : Addr).add j) = some v := by
  intro j v hj
  have hjn : j < n := by
    have := (List.getElem?_eq_some_iff.1 hj).1
    simpa using this
  rw [Addr.add_lit, Nat.zero_add, ((h.alloc o1).alloc o2).cell (by omega)]
  rw [List.getElem?_map, List.getElem?_range hjn] at hj
  exact hj

theorem MT.box {W wr : World} {g S K n : Nat} {F : Nat → Int} {tl : List Nat} {Ac : Nat → Bool} {Sn : Nat → Int} (h : MT W wr g S K n F tl Ac Sn) : ∃ a c, wr.cell? ⟨g + 1, 1, none⟩ = some (.slice a tl.length c) := by
  obtain ⟨v, h1, h2⟩ := h.b1
  rcases h2.2 with ⟨rfl, h0⟩ | ⟨g', cap, cur, rfl, _⟩
  · exact ⟨none, 0, by rw [h1, h0]⟩
  · exact ⟨_, _, h1⟩

/-- What sessionsAndKeys hands back. -/
def SP (w : World) (N S K : Nat) (A : Nat → Att) (e : Ending) (w' : World) : Prop :=
  ∃ b0 b1 gs0 gt0 gs1 gt1 m ga, e = .returned (.tuple #[.pointer (some ⟨b0, 0, none⟩), .pointer (some ⟨b1, 0, none⟩), .slice (some ⟨ga, 0, none⟩) S S]) ∧
    Succ w' b0 (S + K) (rev (rev (Mt A N S) (S + K)) (S + K)) gs0 (S + K + 1) (some ⟨gt0, 0, none⟩) m m ∧ Succ w' b1 (S + K) (rev (Mt A N S) (S + K)) gs1 (S + K + 1) (some ⟨gt1, 0, none⟩) m m ∧
    w'.rowIs ga 4 S (fun x => .bool (act A N x)) ∧ m ≤ 128 ∧ Below w.heap.size w w'

set_option maxRecDepth 100000 in
set_option maxHeartbeats 4000000 in
theorem sak_any (bh N S K : Nat) (A : Nat → Att) (ga ca gb : Nat) (ao : Option Addr) (co gk gse : Nat) (w : World) (h : Hist w bh N S K A ga ca gb ao co gk gse) :
    Calls Yba.prog 5 #[.pointer (some ⟨bh, 0, none⟩)] w fun e w' => SP w N S K A e w' := by
  have c0 := h.c0
  have c4 := h.c4
  have hbh := block_lt_of_cell c0
  simp only at hbh
  have hN := h.hN
  have hS := h.hS
  have hK := h.hK
  have HH : Hid (Hist w bh N S K A ga ca gb ao co gk gse) := h
  clear h
  have hmk1 := run_make_row' (P := Yba.prog) 41 3 (.int .i64 0) 8 Yba.underlying41 Yba.info3 rfl .i64 .i64 (S + 1) (by omega) (by omega)
  have hmk2 := run_make_row' (P := Yba.prog) 29 4 (.bool false) 1 Yba.underlying29 Yba.info4 rfl .i64 .i64 K (by omega) (by omega)
  have ec : ((S + 1 : Nat) : Int) = (S : Int) + 1 := by omega
  rw [ec] at hmk1
  clear ec
  go_enter Yba.func5, Yba.ntmps5
  go_wp2_with (go_at_call 9; refine (sessions_any bh S gse _ HH.out.c5).mono ?_; rintro e w ⟨rfl, rfl⟩)
  generalize hW1 : World.alloc (World.alloc w _) _ = W1
  have r1 : W1.rowIs w.heap.size 3 (S + 1) (fun j => .int .i64 (cnt ((coms A 0).map (·.2)) j)) := by
    rw [← hW1]; exact ((World.rowIs_made w _ (S + 1) 3).alloc _).congr fun j _ => by cases j <;> simp [cnt, coms]
  have r2 : W1.rowIs (w.heap.size + 1) 4 K (fun x => .bool (wrt A 0 x)) := by
    rw [← hW1]
    have := World.rowIs_made (w.alloc (.cells (madeCells #[.int .i64 0] (S + 1)) 3)) (.bool false) K 4
    simp only [World.size_alloc] at this
    exact this.congr fun j _ => by simp [wrt]
  have hb1 : Below w.heap.size w W1 := by rw [← hW1]; exact ((Below.refl _ _).alloc (Nat.le_refl _) _).alloc (by simp) _
  have hs1 : w.heap.size + 2 ≤ W1.heap.size := by rw [← hW1]; simp
  clear hW1 hmk1 hmk2
  go_loopw [43] (fun c wr => ∃ i : Nat, i ≤ N ∧ c = .int .i64 i ∧ wr.rowIs w.heap.size 3 (S + 1) (fun j => .int .i64 (cnt ((coms A i).map (·.2)) j)) ∧ wr.rowIs (w.heap.size + 1) 4 K (fun x => .bool (wrt A i x)) ∧ Below w.heap.size w wr) (fun c _ => N - (intOf c).toNat)
  case atStart => exact ⟨0, Nat.zero_le _, rfl, r1, r2, hb1⟩
  case round =>
    clear r1 r2 hb1 hs1
    obtain ⟨i, hi, rfl, r1, r2, hb⟩ := hrel
    have hsz := hb.size
    by_cases hlt : i < N
    · have hHr := HH.out.below hb
      obtain ⟨a0, a1, a2, a3, a4, a5, a6⟩ := hHr.at_ i hlt
      have hgl := block_lt_of_cell a0
      simp only at hgl
      by_cases hc : (A i).c = false
      · rw [hc] at a2
        have Hc : Hid ((A i).c = false) := hc
        clear hc hHr
        go_wp2_with fail
        go_roundw
        case rel => exact ⟨i + 1, by omega, by go_num, by simp only [coms, Hc.out]; exact r1.alloc _, by simp only [wrt, Hc.out]; exact r2.alloc _, hb.alloc hsz _⟩
        case measure => simp [intOf]; omega
      · have hc' : (A i).c = true := by simpa using hc
        rw [hc'] at a2
        have Hc : Hid ((A i).c = true) := hc'
        clear hc hc'
        have hs := hHr.hs i hlt
        have q1 := r1.cell (i := (A i).s + 1) (by omega)
        have f1 := r1.frozen ((A i).s + 1)
        have hl1 := r1.lt
        have hl2 := r2.lt
        have hcb := cnt_bd ((coms A i).map (·.2)) (A i).s (by have := coms_le A i; simp; omega)
        obtain ⟨hcb0, hcb1⟩ := hcb
        have HR1 : Hid (wr.rowIs w.heap.size 3 (S + 1) (fun j => .int .i64 (cnt ((coms A i).map (·.2)) j))) := r1
        have hst := cnt_snoc ((coms A i).map (·.2)) (A i).s
        have HST : Hid (∀ j, (if j = (A i).s + 1 then cnt ((coms A i).map (·.2)) ((A i).s + 1) + 1 else cnt ((coms A i).map (·.2)) j) = cnt ((coms A i).map (·.2) ++ [(A i).s]) j) := hst
        generalize cnt ((coms A i).map (·.2)) ((A i).s + 1) = cs at *
        clear r1 hst hHr
        go_wp2_with fail
        generalize hW2 : World.alloc (World.setCell wr _ _) _ = W2
        have s1 : W2.rowIs w.heap.size 3 (S + 1) (fun j => .int .i64 (cnt ((coms A (i + 1)).map (·.2)) j)) := by
          rw [← hW2]
          refine ((HR1.out.set ((A i).s + 1) (.int .i64 (cs + 1))).alloc _).congr fun j _ => ?_
          have := HST.out j
          simp only [coms, Hc.out, if_true, List.map_append, List.map_cons, List.map_nil]
          rw [← this]
          split <;> rfl
        have s2 : W2.rowIs (w.heap.size + 1) 4 K (fun x => .bool (wrj A i 0 x)) := by
          rw [← hW2]
          exact ((r2.setOther (by show w.heap.size + 1 ≠ w.heap.size; omega) _).alloc _).congr fun x _ => by rw [wrj_zero]
        have hb2 : Below w.heap.size w W2 := by rw [← hW2]; exact (hb.setCell (by show w.heap.size ≤ w.heap.size; omega) _).alloc (by simpa using hsz) _
        have l4 : W2.cell? ⟨wr.heap.size, 4, none⟩ = some (.int .u32 1) := by rw [← hW2]; rw [World.cell?_alloc_at _ _ _ _ (by simp)]; rfl
        have l5 : W2.cell? ⟨wr.heap.size, 5, none⟩ = some (.int .u32 (os A i : Nat)) := by rw [← hW2]; rw [World.cell?_alloc_at _ _ _ _ (by simp)]; rfl
        have l6 : W2.cell? ⟨wr.heap.size, 6, none⟩ = some (.int .u32 ((A i).o.length : Nat)) := by rw [← hW2]; rw [World.cell?_alloc_at _ _ _ _ (by simp)]; rfl
        clear hW2
        refine (opsOf_any bh N S K A ga ca gb ao co gk gse wr.heap.size 0 i W2 (HH.out.below hb2) hlt l4 l5 l6).mono ?_
        rintro e w2 ⟨a, cc, rfl, hops, d, rfl⟩
        have HOP : Hid (∀ w0, Hist w0 bh N S K A ga ca gb ao co gk gse → Ops w0 a (A i).o) := hops
        have hol : (A i).o.length ≤ 8192 := by have := os_mono A (a := i + 1) (b := N) hlt; have := os_succ A i; have := HH.out.hO; omega
        clear l4 l5 l6 hops a0 a1 a2 a3 a4 a5 a6 r2 hb q1 f1 hl1 hl2 HST HR1 hcb0 hcb1 hsz
        go_wp2_with fail
        go_loopw [63] (fun c wr => ∃ j : Nat, j ≤ (A i).o.length ∧ c = .int .i64 j ∧ wr.rowIs w.heap.size 3 (S + 1) (fun j => .int .i64 (cnt ((coms A (i + 1)).map (·.2)) j)) ∧ wr.rowIs (w.heap.size + 1) 4 K (fun x => .bool (wrj A i j x)) ∧ Below w.heap.size w wr) (fun c _ => (A i).o.length - (intOf c).toNat)
        case atStart => exact ⟨0, Nat.zero_le _, rfl, s1, s2, below_drewN hb2 _⟩
        case round =>
          clear s1 s2 hb2
          obtain ⟨j, hj, rfl, s1, s2, hb⟩ := hrel
          have hsz := hb.size
          by_cases hjl : j < (A i).o.length
          · obtain ⟨g, off, rfl, hcell⟩ := (HOP.out wr (HH.out.below hb)).resolve_left (fun e => by simp [e] at hjl)
            obtain ⟨o0, o1, o2, o3, o4⟩ := hcell j hjl
            have hkx : (A i).o[j].1 < K := HH.out.hk i hlt _ (List.getElem_mem _)
            have hst := wrj_step A i j hjl
            obtain ⟨kx, hk1⟩ : ∃ y, y = (A i).o[j].1 := ⟨_, rfl⟩
            obtain ⟨bx, hk2⟩ : ∃ y, y = (A i).o[j].2 := ⟨_, rfl⟩
            rw [← hk1] at o0 hkx hst
            rw [← hk2] at o2 hst
            have q2 := s2.cell (i := kx) hkx
            have f2 := s2.frozen kx
            have hg := block_lt_of_cell o0
            simp only at hg
            have hl2 := s2.lt
            have HS1 : Hid (wr.rowIs w.heap.size 3 (S + 1) (fun j => .int .i64 (cnt ((coms A (i + 1)).map (·.2)) j)) ∧ wr.rowIs (w.heap.size + 1) 4 K (fun x => .bool (wrj A i j x))) := ⟨s1, s2⟩
            have HST : Hid (∀ x, (if x = kx then (wrj A i j x || bx) else wrj A i j x) = wrj A i (j + 1) x) := hst
            have z1 : (0 : Int) ≤ (kx : Int) := by omega
            have z2 : (kx : Int) < (K : Int) := by omega
            obtain ⟨wv, hwv⟩ : ∃ y, y = wrj A i j kx := ⟨_, rfl⟩
            have HWV : Hid (wv = wrj A i j kx) := hwv
            rw [← hwv] at q2
            clear hcell hst s1 s2 hk1 hk2 hwv
            cases wv with
            | true =>
              go_wp2_with fail
              go_region
              all_goals
                go_wp2_with fail
                go_roundw
                case rel =>
                  refine ⟨j + 1, by omega, by go_num, (HS1.out.1.setOther (by show w.heap.size ≠ w.heap.size + 1; omega) _).alloc _, ((HS1.out.2.set kx (.bool true)).alloc _).congr fun x _ => ?_, ((hb.setCell (by show w.heap.size ≤ w.heap.size + 1; omega) _).alloc (by simpa using hsz) _).drew⟩
                  rw [← HST.out x]
                  by_cases e : x = kx
                  · subst e; rw [if_pos rfl, if_pos rfl, ← HWV.out]; rfl
                  · rw [if_neg e, if_neg e]
                case measure => simp [intOf]; omega
            | false =>
              go_wp2_with fail
              go_region
              all_goals
                go_wp2_with fail
                go_roundw
                case rel =>
                  refine ⟨j + 1, by omega, by go_num, (HS1.out.1.setOther (by show w.heap.size ≠ w.heap.size + 1; omega) _).alloc _, ((HS1.out.2.set kx (.bool bx)).alloc _).congr fun x _ => ?_, ((hb.setCell (by show w.heap.size ≤ w.heap.size + 1; omega) _).alloc (by simpa using hsz) _).drew⟩
                  rw [← HST.out x]
                  by_cases e : x = kx
                  · subst e; rw [if_pos rfl, if_pos rfl, ← HWV.out]; rfl
                  · rw [if_neg e, if_neg e]
                case measure => simp [intOf]; omega
          · obtain rfl : j = (A i).o.length := by omega
            go_wp2_with fail
            go_roundw
            case rel => exact ⟨i + 1, by omega, by go_num, s1, s2.congr fun x _ => by rw [wrj_full A i x Hc.out], hb⟩
            case measure => simp [intOf]; omega
    · obtain rfl : N = i := by omega
      have e0 : wr.rowIs w.heap.size 3 (S + 1) (fun j => .int .i64 (pfxE (coms A N) 0 j)) := r1.congr fun j _ => by rw [pfxE_zero]
      clear r1 hlt hi
      go_wp2_with fail
      go_loopw [12] (fun c wr => ∃ v : Nat, v ≤ S ∧ c = .int .i64 v ∧ wr.rowIs w.heap.size 3 (S + 1) (fun j => .int .i64 (pfxE (coms A N) v j)) ∧ wr.rowIs (w.heap.size + 1) 4 K (fun x => .bool (wrt A N x)) ∧ Below w.heap.size w wr) (fun c _ => S - (intOf c).toNat)
      case atStart => exact ⟨0, Nat.zero_le _, rfl, e0, r2, hb⟩
      case round =>
        clear e0 r2 hb hsz
        obtain ⟨v, hv, rfl, r1, r2, hb⟩ := hrel
        by_cases hlt : v < S
        · have k0 := r1.cell (i := v) (by omega)
          have k1 := r1.cell (i := v + 1) (by omega)
          have f1 := r1.frozen (v + 1)
          obtain ⟨hb0, hb1, hb2, hb3⟩ := pfxE_bd A N S v HH.out.hs hlt hN
          have HR : Hid (wr.rowIs w.heap.size 3 (S + 1) (fun j => .int .i64 (pfxE (coms A N) v j)) ∧ wr.rowIs (w.heap.size + 1) 4 K (fun x => .bool (wrt A N x)) ∧ Below w.heap.size w wr) := ⟨r1, r2, hb⟩
          have HST : Hid (∀ j, (if j = v + 1 then pfxE (coms A N) v (v + 1) + pfxE (coms A N) v v else pfxE (coms A N) v j) = pfxE (coms A N) (v + 1) j) := pfxE_step (coms A N) v
          generalize pfxE (coms A N) v v = x0 at *
          generalize pfxE (coms A N) v (v + 1) = x1 at *
          clear r1 r2 hb
          have z1 : (0 : Int) ≤ (v : Int) := by omega
          have z2 : (v : Int) < (S : Int) + 1 := by omega
          have z3 : (v : Int) + 1 < (S : Int) + 1 := by omega
          go_wp2_with fail
          go_region
          all_goals
            go_wp2_with fail
            go_roundw
            case rel =>
              refine ⟨v + 1, by omega, by go_num, (HR.out.1.set (v + 1) (.int .i64 (x1 + x0))).congr fun j _ => ?_, HR.out.2.1.setOther (by show w.heap.size + 1 ≠ w.heap.size; omega) _, (HR.out.2.2.setCell (by show w.heap.size ≤ w.heap.size; omega) _).drew⟩
              rw [← HST.out j]
              split <;> rfl
            case measure => simp [intOf]; omega
        · obtain rfl : S = v := by omega
          have e1 : wr.rowIs w.heap.size 3 (S + 1) (fun j => .int .i64 (st (coms A N) j : Nat)) := r1.congr fun j hj => by simp [pfxE, show j ≤ S by omega]
          clear r1 hlt hv
          have hm0 : st (coms A N) S ≤ 1024 := by rw [st_total (coms A N) S (coms_lt HH.out.hs)]; have := coms_le A N; omega
          have hmk3 := run_make_row' (P := Yba.prog) 41 3 (.int .i64 0) 8 Yba.underlying41 Yba.info3 rfl .i64 .i64 (st (coms A N) S) (by omega) (by omega)
          have hmk4 := run_make_row' (P := Yba.prog) 41 3 (.int .i64 0) 8 Yba.underlying41 Yba.info3 rfl .i64 .i64 S (by omega) (by omega)
          have k0 := e1.cell (i := S) (by omega)
          have c0r := (hb.cell (p := ⟨bh, 0, none⟩) hbh).trans c0
          have hl1 := e1.lt
          have hsz := hb.size
          have hbhr : bh < wr.heap.size := by omega
          have HE : Hid (wr.rowIs w.heap.size 3 (S + 1) (fun j => .int .i64 (st (coms A N) j : Nat)) ∧ wr.rowIs (w.heap.size + 1) 4 K (fun x => .bool (wrt A N x)) ∧ Below w.heap.size w wr) := ⟨e1, r2, hb⟩
          generalize hmm : st (coms A N) S = m at *
          have HMM : Hid (st (coms A N) S = m) := hmm
          have hcp := run_copy_row (P := Yba.prog) ((wr.alloc (.cells (madeCells #[.int .i64 0] m) 3)).alloc (.cells (madeCells #[.int .i64 0] S) 3)) 41 41 3 3 (wr.heap.size + 1) 0 S S ⟨w.heap.size, 0, none⟩ (S + 1) (S + 1) (madeCells #[.int .i64 0] S) 3 ((List.range S).map fun j => .int .i64 (st (coms A N) j : Nat)) Yba.underlying41 (by kernel_rfl) (heap2 wr _ _) (by simp) (copy_src2 HE.out.1) (by simp [madeCells]) (by simp [Value.oneCell'])
          have hsr : ∀ cs, (((wr.alloc (.cells (madeCells #[.int .i64 0] m) 3)).alloc (.cells (madeCells #[.int .i64 0] S) 3)).setRow (wr.heap.size + 1) cs).cell? ⟨bh, 0, none⟩ = some (.slice (some ⟨ga, 0, none⟩) N ca) := fun cs =>
            (World.cell?_of_block (a := ⟨bh, 0, none⟩) (setRow_other _ _ _ _ (by show bh ≠ _; omega))).trans ((World.cell?_alloc_past _ _ _ (by simp; omega)).trans ((World.cell?_alloc_past _ _ _ hbhr).trans c0r))
          clear hmm e1 r2 hb
          go_wp2_with fail
          have hFB := FB.start wr S m (coms A N)
          have hE2 := Frm.two HE.out.1 HE.out.2.1 HE.out.2.2 (m := m) (F := fun j => (st (coms A N) j : Nat))
          have hg3lo : w.heap.size + 2 ≤ wr.heap.size := by have := HE.out.2.1.lt; omega
          obtain ⟨g3, hg3⟩ : ∃ g, g = wr.heap.size := ⟨_, rfl⟩
          rw [← hg3] at hFB hE2 hsz hg3lo ⊢
          generalize World.setRow _ _ _ = W4 at hFB hE2 ⊢
          clear hcp hsr hmk3 hmk4 k0 c0r hl1 hbhr HE hg3
          obtain ⟨hE1, hE2, hb4⟩ := hE2
          go_loopw [114] (fun c wr => ∃ k : Nat, k ≤ N ∧ c = .int .i64 k ∧ FB wr g3 (g3 + 1) S m (coms A N) (coms A k) ∧ wr.rowIs w.heap.size 3 (S + 1) (fun j => .int .i64 (st (coms A N) j : Nat)) ∧ wr.rowIs (w.heap.size + 1) 4 K (fun x => .bool (wrt A N x)) ∧ Below w.heap.size w wr) (fun c _ => N - (intOf c).toNat)
          case atStart => exact ⟨0, Nat.zero_le _, rfl, hFB, hE1, hE2, hb4⟩
          case round =>
            clear hFB hE1 hE2 hb4
            obtain ⟨k, hk, rfl, hFB, hE1, hE2, hb4⟩ := hrel
            by_cases hlt : k < N
            · have hHr := HH.out.below hb4
              obtain ⟨a0, a1, a2, a3, a4, a5, a6⟩ := hHr.at_ k hlt
              have hsz4 := hb4.size
              have hgl := block_lt_of_cell a0
              simp only at hgl
              by_cases hc : (A k).c = false
              · rw [hc] at a2
                have Hc : Hid ((A k).c = false) := hc
                clear hc hHr
                go_wp2_with fail
                go_roundw
                case rel => exact ⟨k + 1, by omega, by go_num, by simp only [coms, Hc.out]; exact hFB.alloc _, hE1.alloc _, hE2.alloc _, hb4.alloc hsz4 _⟩
                case measure => simp [intOf]; omega
              · have hc' : (A k).c = true := by simpa using hc
                rw [hc'] at a2
                have Hc : Hid ((A k).c = true) := hc'
                obtain ⟨Q, hQ⟩ := coms_split hlt hc'
                have hs := hHr.hs k hlt
                have hpos := FS.pos_lt hQ hs
                rw [HMM.out] at hpos
                obtain ⟨k0, ⟨y, k1⟩, kf1, kf0, kl3, kl4⟩ := hFB.facts hpos hs
                have HSTEP : Hid (FB ((wr.setCell ⟨g3, st (coms A N) (A k).s + (seg (coms A k) (A k).s).length, none⟩ (.int .i64 (k : Int))).setCell ⟨g3 + 1, (A k).s, none⟩ (.int .i64 (((st (coms A N) (A k).s + (seg (coms A k) (A k).s).length : Nat) : Int) + 1))) g3 (g3 + 1) S m (coms A N) (coms A (k + 1))) := by
                  show FB _ _ _ _ _ _ _
                  have := hFB.step hQ
                  simpa only [coms, hc', if_true] using this
                have HE : Hid (wr.rowIs w.heap.size 3 (S + 1) (fun j => .int .i64 (st (coms A N) j : Nat)) ∧ wr.rowIs (w.heap.size + 1) 4 K (fun x => .bool (wrt A N x)) ∧ Below w.heap.size w wr) := ⟨hE1, hE2, hb4⟩
                generalize st (coms A N) (A k).s + (seg (coms A k) (A k).s).length = nx at *
                clear hc hc' hHr hQ hFB hE1 hE2 hb4
                go_wp2_with fail
                go_roundw
                case rel => exact ⟨k + 1, by omega, by go_num, HSTEP.out.alloc _, ((HE.out.1.setOther (by show w.heap.size ≠ g3; omega) _).setOther (by show w.heap.size ≠ g3 + 1; omega) _).alloc _, ((HE.out.2.1.setOther (by show w.heap.size + 1 ≠ g3; omega) _).setOther (by show w.heap.size + 1 ≠ g3 + 1; omega) _).alloc _, ((HE.out.2.2.setCell (by show w.heap.size ≤ g3; omega) _).setCell (by show w.heap.size ≤ g3 + 1; omega) _).alloc (by simpa using hsz4) _⟩
                case measure => simp [intOf]; omega
            · obtain rfl : N = k := by omega
              obtain ⟨T, _, t1, _, _, hfill, _⟩ := hFB
              have hsz4 := hb4.size
              have hbhr : bh < wr.heap.size := by omega
              have hbhr1 : bh < wr.heap.size + 1 := by omega
              have hbhr2 : bh < wr.heap.size + 1 + 1 := by omega
              have c4r := (hb4.cell (p := ⟨bh, 4, none⟩) hbh).trans c4
              have hmk5 := run_make_row' (P := Yba.prog) 41 3 (.int .i64 0) 8 Yba.underlying41 Yba.info3 rfl .i64 .i64 (S + K + 1) (by omega) (by omega)
              have hmk6 := run_make_row' (P := Yba.prog) 29 4 (.bool false) 1 Yba.underlying29 Yba.info4 rfl .i64 .i64 S (by omega) (by omega)
              have hmk7 := run_make_row' (P := Yba.prog) 41 3 (.int .i64 0) 8 Yba.underlying41 Yba.info3 rfl .i64 .i64 K (by omega) (by omega)
              have ec : ((S + K + 1 : Nat) : Int) = (S : Int) + (K : Int) + 1 := by omega
              rw [ec] at hmk5
              have HE : Hid (wr.rowIs g3 3 m (fun i => .int .i64 (T i)) ∧ wr.rowIs w.heap.size 3 (S + 1) (fun j => .int .i64 (st (coms A N) j : Nat)) ∧ wr.rowIs (w.heap.size + 1) 4 K (fun x => .bool (wrt A N x)) ∧ Below w.heap.size w wr ∧ Filled (coms A N) (coms A N) T) := ⟨t1, hE1, hE2, hb4, hfill⟩
              clear ec hlt hk t1 hfill hE1 hE2 hb4
              go_wp2_with fail
              have hMT := MT.start wr S K (S + K)
              generalize World.alloc (World.alloc (World.alloc (World.alloc wr _) _) _) _ = W6 at hMT ⊢
              clear hmk5 hmk6 hmk7 c4r hbhr1 hbhr2 hbhr
              obtain ⟨W5, rfl⟩ : ∃ W, W = wr := ⟨_, rfl⟩
              obtain ⟨g5, hg5⟩ : ∃ g, g = W5.heap.size := ⟨_, rfl⟩
              rw [← hg5] at hMT hsz4 ⊢
              have hl1 : w.heap.size + 1 < g5 := by have := HE.out.2.2.1.lt; omega
              have hl3 : g3 < g5 := by have := HE.out.1.lt; omega
              rw [show g5 + 1 + 1 + 1 = g5 + 3 from rfl, show g5 + 1 + 1 = g5 + 2 from rfl]
              clear hg5 hsz
              go_loopw [20] (fun c wr => ∃ s : Nat, s ≤ S ∧ c = .int .i64 s ∧ ∃ Sn, MT W5 wr g5 S K (S + K) (fun j => if j ≤ s then (at0 (Mt A N S) j : Nat) else 0) (cat (Mt A N S) s) (fun x => if x < s then act A N x else false) Sn ∧ ∀ x, x < K → 0 ≤ Sn x ∧ Sn x ≤ s) (fun c _ => S - (intOf c).toNat)
              case atStart => exact ⟨0, Nat.zero_le _, rfl, _, hMT.congr (fun i _ => at0_first (Mt A N S) i) (fun i _ => by simp), fun x _ => by simp⟩
              case round =>
                clear hMT
                obtain ⟨s, hs, rfl, Sn, hM, hSn⟩ := hrel
                by_cases hlt : s < S
                · have hMs := hM
                  have k0 : wr.cell? ⟨w.heap.size, s, none⟩ = some (.int .i64 (st (coms A N) s : Nat)) := (hM.bel.cell (by show w.heap.size < g5; omega)).trans (HE.out.2.1.cell (by omega))
                  have k1 : wr.cell? ⟨w.heap.size, s + 1, none⟩ = some (.int .i64 (st (coms A N) (s + 1) : Nat)) := (hM.bel.cell (by show w.heap.size < g5; omega)).trans (HE.out.2.1.cell (by omega))
                  have hst : st (coms A N) (s + 1) = st (coms A N) s + (seg (coms A N) s).length := rfl
                  have hmm : st (coms A N) (s + 1) ≤ m := by rw [← HMM.out]; exact st_mono _ hlt
                  obtain ⟨lo, hlo⟩ : ∃ x, x = st (coms A N) s := ⟨_, rfl⟩
                  obtain ⟨L, hL⟩ : ∃ x, x = (seg (coms A N) s).length := ⟨_, rfl⟩
                  rw [hst, ← hlo, ← hL] at k1 hmm
                  rw [← hlo] at k0
                  obtain ⟨a, hsl, ha⟩ := slice41 g3 m lo (lo + L) (by omega) hmm
                  have HL : Hid (lo = st (coms A N) s ∧ L = (seg (coms A N) s).length) := ⟨hlo, hL⟩
                  have HM : Hid (MT W5 wr g5 S K (S + K) (fun j => if j ≤ s then (at0 (Mt A N S) j : Nat) else 0) (cat (Mt A N S) s) (fun x => if x < s then act A N x else false) Sn) := hM
                  have e1 : (0 : Int) ≤ (s : Int) := by omega
                  have e2 : (s : Int) < (S : Int) + 1 := by omega
                  have e3 : (s : Int) + 1 < (S : Int) + 1 := by omega
                  have el : lo + L - lo = L := by omega
                  rw [el] at hsl
                  have er : ((lo + L : Nat) : Int) = (lo : Int) + (L : Int) := by omega
                  rw [er] at hsl k1
                  clear hst hMs hlo hL hM el er
                  go_wp2_with fail
                  go_quiet (fail)
                  go_wp2_with fail
                  clear k0 k1 hsl e1 e2 e3
                  go_loopw [174] (fun c wr => ∃ k : Nat, k ≤ L ∧ c = .int .i64 k ∧ ∃ Sn, MT W5 wr g5 S K (S + K) (fun j => if j ≤ s then (at0 (Mt A N S) j : Nat) else 0) (cat (Mt A N S) s ++ Mk A N S s k) (fun x => if x < s then act A N x else decide (x = s ∧ 0 < k)) Sn ∧ Seen S K s (Mk A N S s k) Sn) (fun c _ => L - (intOf c).toNat)
                  case atStart =>
                    refine ⟨0, Nat.zero_le _, rfl, Sn, ?_, fun x hx => ?_⟩
                    · rw [mk_zero, List.append_nil]
                      exact (HM.out.drewN _).congr (fun _ _ => rfl) (fun i _ => by simp)
                    · have := hSn x hx
                      rw [mk_zero]
                      simp
                      omega
                  case round =>
                    clear hSn HM Sn
                    obtain ⟨k, hk, rfl, Sn, hM, hSn⟩ := hrel
                    by_cases hkl : k < L
                    · obtain rfl : a = some ⟨g3, lo, none⟩ := ha.resolve_left (by omega)
                      have hkl' : k < (seg (coms A N) s).length := by rw [← HL.out.2]; exact hkl
                      have hfk := HE.out.2.2.2.2 s k hkl'
                      rw [← HL.out.1] at hfk
                      have q1 : wr.cell? ⟨g3, lo + k, none⟩ = some (.int .i64 (((seg (coms A N) s)[k] : Nat) : Int)) := by
                        rw [← hfk]
                        exact (hM.bel.cell (by show g3 < g5; omega)).trans (HE.out.1.cell (by omega))
                      obtain ⟨hiN, hic, his⟩ := seg_coms.1 (List.getElem_mem hkl')
                      have HFULL : Hid (Mj A N S s k (seg (coms A N) s)[k] (A (seg (coms A N) s)[k]).o.length = Mk A N S s (k + 1)) := mj_full hkl'
                      generalize (seg (coms A N) s)[k] = i at q1 hiN hic his HFULL
                      have z1 := hM.ra.cell (i := s) hlt
                      have z2 := hM.ra.frozen s
                      have hsz := hM.sz
                      have hM7 := hM.setA s true
                      have HW : Hid (Below w.heap.size w (wr.setCell ⟨g5 + 2, s, none⟩ (.bool true))) := (HE.out.2.2.2.1.trans (hM.bel.mono hsz4)).setCell (by show w.heap.size ≤ g5 + 2; omega) _
                      have HM7 : Hid (MT W5 (wr.setCell ⟨g5 + 2, s, none⟩ (.bool true)) g5 S K (S + K) (fun j => if j ≤ s then (at0 (Mt A N S) j : Nat) else 0) (cat (Mt A N S) s ++ Mk A N S s k) (fun x => if x < s then act A N x else decide (x = s ∧ 0 < k + 1)) Sn) := hM7.congr (fun _ _ => rfl) (fun x _ => by
                        by_cases e : x = s
                        · subst e; simp
                        · simp [e])
                      clear hfk hM hM7 hkl'
                      go_wp2_with fail
                      generalize wr.setCell _ _ = W7 at *
                      have hH7 := HH.out.below HW.out
                      obtain ⟨ad, cc, hops, hcall⟩ := opsOf_val bh N S K A ga ca gb ao co gk gse i W7 hH7 hiN
                      have c07 := hH7.c0
                      have HOP : Hid (∀ w0, Hist w0 bh N S K A ga ca gb ao co gk gse → Ops w0 ad (A i).o) := hops
                      have HC : Hid (∀ n, Calls Yba.prog 10 #[.pointer (some ⟨bh, 0, none⟩), .pointer (some ⟨ga, i * 7, none⟩)] (W7.drewN n) fun e w' => e = .returned (.slice ad (A i).o.length cc) ∧ ∃ d, w' = (W7.drewN n).drewN d) := fun n => hcall _ (HH.out.below (below_drewN HW.out n))
                      have hol : (A i).o.length ≤ 8192 := by have := os_mono A (a := i + 1) (b := N) hiN; have := os_succ A i; have := HH.out.hO; omega
                      clear hops hcall hH7 q1 z1 z2 hic his hsz
                      go_quiet ((go_at_call 10; exact Calls.quiet_of (HC.out _)))
                      go_wp2_with fail
                      clear HC c07
                      go_loopw [193] (fun c wr => ∃ j : Nat, j ≤ (A i).o.length ∧ c = .int .i64 j ∧ ∃ Sn, MT W5 wr g5 S K (S + K) (fun j => if j ≤ s then (at0 (Mt A N S) j : Nat) else 0) (cat (Mt A N S) s ++ Mj A N S s k i j) (fun x => if x < s then act A N x else decide (x = s ∧ 0 < k + 1)) Sn ∧ Seen S K s (Mj A N S s k i j) Sn) (fun c _ => (A i).o.length - (intOf c).toNat)
                      case atStart => exact ⟨0, Nat.zero_le _, rfl, Sn, by rw [mj_zero]; exact HM7.out.drewN _, by rw [mj_zero]; exact hSn⟩
                      case round =>
                        clear hSn HM7 Sn HW
                        obtain ⟨j, hj, rfl, Sn, hM, hSn⟩ := hrel
                        by_cases hjl : j < (A i).o.length
                        · have hbw : Below w.heap.size w wr := HE.out.2.2.2.1.trans (hM.bel.mono hsz4)
                          obtain ⟨g, off, rfl, hcell⟩ := (HOP.out wr (HH.out.below hbw)).resolve_left (fun e => by simp [e] at hjl)
                          obtain ⟨o0, o1, o2, o3, o4⟩ := hcell j hjl
                          have hkx : (A i).o[j].1 < K := HH.out.hk i hiN _ (List.getElem_mem _)
                          have hst := mj_step (N := N) (S := S) (s := s) (k := k) hjl
                          generalize (A i).o[j] = ob at *
                          have q1 : wr.cell? ⟨w.heap.size + 1, ob.1, none⟩ = some (.bool (wrt A N ob.1)) := (hM.bel.cell (by show w.heap.size + 1 < g5; omega)).trans (HE.out.2.2.1.cell hkx)
                          have q2 := hM.rn.cell hkx
                          have f2 := hM.rn.frozen ob.1
                          obtain ⟨hs0, hs1, hs2⟩ := hSn ob.1 hkx
                          have hsz := hM.sz
                          have hg := block_lt_of_cell o0
                          simp only at hg
                          have hl8 : w.heap.size + 1 < wr.heap.size := by omega
                          have hl9 : g5 + 3 < wr.heap.size := by omega
                          have HST : Hid (Mj A N S s k i (j + 1) = stepM (wrt A N) S (Mj A N S s k i j) ob) := hst
                          have HM : Hid (MT W5 wr g5 S K (S + K) (fun j => if j ≤ s then (at0 (Mt A N S) j : Nat) else 0) (cat (Mt A N S) s ++ Mj A N S s k i j) (fun x => if x < s then act A N x else decide (x = s ∧ 0 < k + 1)) Sn) := hM
                          have HSN : Hid (Seen S K s (Mj A N S s k i j) Sn) := hSn
                          have z1 : (0 : Int) ≤ (ob.1 : Int) := by omega
                          have z2 : (ob.1 : Int) < (K : Int) := by omega
                          have z3 : (s : Int) ≤ 8 := by omega
                          have hlen : (cat (Mt A N S) s ++ Mj A N S s k i j).length ≤ 72 := by
                            rw [List.length_append, cat_len]
                            have h1 := mt_at0 (S := S) HH.out.hk s
                            have h2 := (mj_good (S := S) HH.out.hk s k i j hiN).le
                            have h3 : s * K ≤ 8 * 8 := Nat.mul_le_mul (by omega) hK
                            omega
                          by_cases hw : wrt A N ob.1 = false
                          · rw [hw] at q1
                            have HS1 : Hid (stepM (wrt A N) S (Mj A N S s k i j) ob = Mj A N S s k i j) := stepM_no1 hw
                            clear hw hst hM hSn hs2 hcell hbw
                            generalize Sn ob.1 = sv at *
                            go_wp2_with fail
                            go_roundw
                            case rel => exact ⟨j + 1, by omega, by go_num, Sn, by rw [HST.out, HS1.out]; exact HM.out.alloc _, by rw [HST.out, HS1.out]; exact HSN.out⟩
                            case measure => simp [intOf]; omega
                          · have hw' : wrt A N ob.1 = true := by simpa using hw
                            rw [hw'] at q1
                            by_cases he : Sn ob.1 = (s : Int) + 1
                            · have HS1 : Hid (stepM (wrt A N) S (Mj A N S s k i j) ob = Mj A N S s k i j) := stepM_no2 (hs2.1 he)
                              rw [he] at q2
                              clear hw hw' he hst hM hSn hs2 hs0 hs1 hcell hbw
                              go_wp2_with fail
                              go_roundw
                              case rel => exact ⟨j + 1, by omega, by go_num, Sn, by rw [HST.out, HS1.out]; exact HM.out.alloc _, by rw [HST.out, HS1.out]; exact HSN.out⟩
                              case measure => simp [intOf]; omega
                            · have HS1 : Hid (stepM (wrt A N) S (Mj A N S s k i j) ob = Mj A N S s k i j ++ [S + ob.1]) := stepM_yes hw' (fun h => he (hs2.2 h))
                              clear hw hw' hst hM hSn hs2 hcell hbw
                              generalize Sn ob.1 = sv at *
                              go_wp2_with fail
                              generalize hW8 : World.alloc (World.setCell wr _ _) _ = W8
                              have hM8 : MT W5 W8 g5 S K (S + K) (fun j => if j ≤ s then (at0 (Mt A N S) j : Nat) else 0) (cat (Mt A N S) s ++ Mj A N S s k i j) (fun x => if x < s then act A N x else decide (x = s ∧ 0 < k + 1)) (fun y => if y = ob.1 then (s : Int) + 1 else Sn y) := by
                                rw [← hW8]; exact (HM.out.setN ob.1 ((s : Int) + 1)).alloc _
                              have p0 : W8.cell? ⟨wr.heap.size, 0, none⟩ = some (.int .i64 (ob.1 : Nat)) := by
                                rw [← hW8, World.cell?_alloc_at _ _ _ _ (by simp)]; rfl
                              have s8 : wr.heap.size + 1 = W8.heap.size := by rw [← hW8]; simp
                              have p1 : wr.heap.size < W8.heap.size := by omega
                              have p2 : g5 + 1 < W8.heap.size := by omega
                              clear hW8 o0 o1 o2 o3 o4 q1 q2 f2 hs0 hs1 he hg hl8 hl9
                              obtain ⟨v, cv, own⟩ := hM8.b1
                              have bf := hM8.bf
                              have b8 := hM8.sz
                              have HM8 : Hid (MT W5 W8 g5 S K (S + K) (fun j => if j ≤ s then (at0 (Mt A N S) j : Nat) else 0) (cat (Mt A N S) s ++ Mj A N S s k i j) (fun x => if x < s then act A N x else decide (x = s ∧ 0 < k + 1)) (fun y => if y = ob.1 then (s : Int) + 1 else Sn y) ∧ W8.ownsRow (g5 + 4) 21 1 v (cat (Mt A N S) s ++ Mj A N S s k i j).length ((cat (Mt A N S) s ++ Mj A N S s k i j).map fun x => .int .i32 (x : Nat))) := ⟨hM8, own⟩
                              clear hM8 own
                              obtain ⟨i1, hi1, hz0, hz1, hz2⟩ := info_parts Yba.info21
                              have z4 : (S : Int) + (ob.1 : Int) ≤ 16 := by omega
                              have z5 : IntKind.i64.wrap ((S : Int) + (ob.1 : Int)) = (S : Int) + (ob.1 : Int) := by rw [IntKind.wrap_i64]; omega
                              have z6 : IntKind.i32.wrap ((S : Int) + (ob.1 : Int)) = (S : Int) + (ob.1 : Int) := by rw [IntKind.wrap_i32]; omega
                              go_region_law (refine step_append_lies _ (by rfl) _ _ _ (by rfl) (g5 + 4) 21 i1 (.int .i32 0) 1 4 Yba.underlying59 hi1 hz0 hz1 hz2 rfl (by omega) v _ _ (by simp [Act.eval]) ((HM8.out.2.alloc _).drew) ⟨W8.heap.size, 0, none⟩ 1 1 [.int .i32 ((S : Int) + (ob.1 : Int))] (by simp [Act.eval]) (by rfl) (World.news_of_block (cs := #[.int .i32 ((S : Int) + (ob.1 : Int))]) (t := 21) (fr := (0, 0)) (heap_alloc_new W8 _)) (by simp [Value.oneCell']) (by omega) (by unfold maxLen; omega) (by omega) (by simp; omega) (W8.heap.size + 1) (by simp) ?_; intro g1 cap1 w2 hown2 hgrow hat hlt2; have hB2 : Below (g5 + 4) W8 w2 := ((((Below.refl _ _).alloc b8 _).drew).grown hgrow (by simp; omega) (fun k hk => (HM8.out.2.lt k hk).1)); have cv2 := (hB2.cell (p := ⟨g5 + 1, 1, none⟩) (by show g5 + 1 < g5 + 4; omega)).trans cv; have bf2 := (hB2.frozen (p := ⟨g5 + 1, 1, none⟩) (by show g5 + 1 < g5 + 4; omega)).trans bf)
                              all_goals
                                have HFIN : Hid (MT W5 (w2.setCell ⟨g5 + 1, 1, none⟩ (.slice (some ⟨g1, 0, none⟩) ((cat (Mt A N S) s).length + (Mj A N S s k i j).length + 1) cap1)) g5 S K (S + K) (fun j => if j ≤ s then (at0 (Mt A N S) j : Nat) else 0) (cat (Mt A N S) s ++ Mj A N S s k i (j + 1)) (fun x => if x < s then act A N x else decide (x = s ∧ 0 < k + 1)) (fun y => if y = ob.1 then (s : Int) + 1 else Sn y) ∧ Seen S K s (Mj A N S s k i (j + 1)) (fun y => if y = ob.1 then (s : Int) + 1 else Sn y)) := by
                                  rw [← Int.natCast_add] at hown2
                                  have h9 := HM8.out.1.app (x := S + ob.1) hB2 hown2
                                  rw [List.length_append, List.append_assoc, ← HS1.out, ← HST.out] at h9
                                  have h8 := HSN.out.mark ob.1
                                  rw [← HS1.out, ← HST.out] at h8
                                  exact ⟨h9, h8⟩
                                clear hgrow hat hlt2 cv2 bf2 cv bf p0 s8 p1 p2 b8 hi1 hz0 hz1 hz2 z4 z5 z6 hown2 hB2 HM8 HSN HS1 HST hlen
                                go_wp2_with fail
                                go_roundw
                                case rel => exact ⟨j + 1, by omega, by go_num, _, HFIN.out⟩
                                case measure => simp [intOf]; omega
                        · obtain rfl : j = (A i).o.length := by omega
                          go_wp2_with fail
                          go_roundw
                          case rel => exact ⟨k + 1, by omega, by go_num, Sn, by rw [← HFULL.out]; exact hM, by rw [← HFULL.out]; exact hSn⟩
                          case measure => simp [intOf]; omega
                    · obtain rfl : L = k := by omega
                      have hmt : Mk A N S s L = Mt A N S s := by rw [HL.out.2]; exact mk_full hlt
                      rw [hmt] at hM hSn
                      obtain ⟨av, cv, hbx⟩ := hM.box
                      have hln : (cat (Mt A N S) s ++ Mt A N S s).length = at0 (Mt A N S) (s + 1) := by rw [← cat_len]; rfl
                      rw [hln] at hbx
                      have hb64 : at0 (Mt A N S) (s + 1) ≤ 72 := by
                        have h1 := mt_at0 (S := S) HH.out.hk (s + 1)
                        have h3 : (s + 1) * K ≤ 8 * 8 := Nat.mul_le_mul (by omega) hK
                        omega
                      have b0 := hM.b0
                      have q0 : wr.cell? ⟨g5, s + 1, none⟩ = some (.int .i64 0) := by rw [hM.rs.cell (by omega), if_neg (by omega)]
                      have f0 := hM.rs.frozen (s + 1)
                      have hsz := hM.sz
                      have z1 : (0 : Int) ≤ (s : Int) + 1 := by omega
                      have z2 : (s : Int) + 1 < (S : Int) + (K : Int) + 1 := by omega
                      have HFIN : Hid (MT W5 (wr.setCell ⟨g5, s + 1, none⟩ (.int .i64 (at0 (Mt A N S) (s + 1) : Nat))) g5 S K (S + K) (fun j => if j ≤ s + 1 then (at0 (Mt A N S) j : Nat) else 0) (cat (Mt A N S) (s + 1)) (fun x => if x < s + 1 then act A N x else false) Sn ∧ ∀ x, x < K → 0 ≤ Sn x ∧ Sn x ≤ ((s + 1 : Nat) : Int)) := by
                        refine ⟨(hM.setS (s + 1) (at0 (Mt A N S) (s + 1) : Nat)).congr (fun j _ => ?_) (fun x _ => ?_), fun x hx => ?_⟩
                        · by_cases e : j = s + 1
                          · subst e; simp
                          · rw [if_neg e]
                            by_cases e2 : j ≤ s
                            · rw [if_pos e2, if_pos (by omega)]
                            · rw [if_neg e2, if_neg (by omega)]
                        · by_cases e : x < s
                          · simp [e, show x < s + 1 by omega]
                          · by_cases e2 : x = s
                            · subst e2
                              rw [act_seg, ← HL.out.2]
                              simp
                            · simp [e, e2, show ¬ x < s + 1 by omega]
                        · have := hSn x hx
                          omega
                      generalize at0 (Mt A N S) (s + 1) = L1 at hbx hb64 HFIN
                      clear hM hSn hln hmt hkl hk
                      go_wp2_with fail
                      go_region
                      all_goals
                        go_wp2_with fail
                        go_roundw
                        case rel => exact ⟨s + 1, by omega, by go_num, Sn, HFIN.out.1.drew, HFIN.out.2⟩
                        case measure => simp [intOf]; omega
                · obtain rfl : S = s := by omega
                  have hM0 : MT W5 wr g5 S K (S + K) (fun j => if j ≤ S then (at0 (Mt A N S) j : Nat) else 0) (cat (Mt A N S) S) (fun x => act A N x) Sn := hM.congr (fun _ _ => rfl) (fun x hx => by simp [hx])
                  clear hM hSn hs hlt
                  go_wp2_with fail
                  go_loopw [25] (fun c wr => ∃ v : Nat, S ≤ v ∧ v ≤ S + K ∧ c = .int .i64 v ∧ MT W5 wr g5 S K (S + K) (fun j => if j ≤ v then (at0 (Mt A N S) j : Nat) else 0) (cat (Mt A N S) v) (fun x => act A N x) Sn) (fun c _ => S + K - (intOf c).toNat)
                  case atStart => exact ⟨S, Nat.le_refl _, by omega, rfl, hM0⟩
                  case round =>
                    clear hM0
                    obtain ⟨v, hv0, hv, rfl, hM⟩ := hrel
                    by_cases hlt : v < S + K
                    · have hcat : cat (Mt A N S) v = cat (Mt A N S) (v + 1) := by simp [cat, mt_out hv0]
                      rw [hcat] at hM
                      obtain ⟨av, cv, hbx⟩ := hM.box
                      rw [cat_len] at hbx
                      have hb64 : at0 (Mt A N S) (v + 1) ≤ 128 := by
                        have h1 := mt_at0 (S := S) HH.out.hk (v + 1)
                        have h3 : (v + 1) * K ≤ 16 * 8 := Nat.mul_le_mul (by omega) hK
                        omega
                      have b0 := hM.b0
                      have q0 : wr.cell? ⟨g5, v + 1, none⟩ = some (.int .i64 0) := by rw [hM.rs.cell (by omega), if_neg (by omega)]
                      have f0 := hM.rs.frozen (v + 1)
                      have hsz := hM.sz
                      have z1 : (0 : Int) ≤ (v : Int) + 1 := by omega
                      have z2 : (v : Int) + 1 < (S : Int) + (K : Int) + 1 := by omega
                      have z3 : (v : Int) < (S : Int) + (K : Int) := by omega
                      have HFIN : Hid (MT W5 (wr.setCell ⟨g5, v + 1, none⟩ (.int .i64 (at0 (Mt A N S) (v + 1) : Nat))) g5 S K (S + K) (fun j => if j ≤ v + 1 then (at0 (Mt A N S) j : Nat) else 0) (cat (Mt A N S) (v + 1)) (fun x => act A N x) Sn) := by
                        refine (hM.setS (v + 1) (at0 (Mt A N S) (v + 1) : Nat)).congr (fun j _ => ?_) (fun x _ => rfl)
                        by_cases e : j = v + 1
                        · subst e; simp
                        · rw [if_neg e]
                          by_cases e2 : j ≤ v
                          · rw [if_pos e2, if_pos (by omega)]
                          · rw [if_neg e2, if_neg (by omega)]
                      generalize at0 (Mt A N S) (v + 1) = L1 at hbx hb64 HFIN
                      clear hM hcat
                      go_wp2_with fail
                      go_region
                      all_goals
                        go_wp2_with fail
                        go_roundw
                        case rel => exact ⟨v + 1, by omega, by omega, by go_num, HFIN.out.drew⟩
                        case measure => simp [intOf]; omega
                    · obtain rfl : v = S + K := by omega
                      obtain ⟨aos, cts, hSu⟩ := hM.succ (M := Mt A N S) (fun u hu => by simp [hu])
                      have hm : at0 (Mt A N S) (S + K) ≤ 128 := by
                        have h1 := mt_at0 (S := S) HH.out.hk (S + K)
                        have h3 : (S + K) * K ≤ 16 * 8 := Nat.mul_le_mul (by omega) hK
                        omega
                      have hbw : Below w.heap.size w wr := HE.out.2.2.2.1.trans (hM.bel.mono hsz4)
                      have hra := hM.ra
                      have hral := hra.lt
                      clear hM hlt hv hv0
                      go_wp2_with fail
                      refine (reversed_any (g5 + 1) (S + K) (Mt A N S) g5 (S + K + 1) aos _ cts wr hSu (by omega) (by omega) (fun u _ x hx => ((mt_good (S := S) HH.out.hk u).2 x hx).2)).mono ?_
                      rintro e w1 ⟨b1, gs1, gt1, rfl, hS1, hb1⟩
                      generalize at0 (Mt A N S) (S + K) = m1 at *
                      go_wp2_with fail
                      refine (reversed_any b1 (S + K) (rev (Mt A N S) (S + K)) gs1 (S + K + 1) (some ⟨gt1, 0, none⟩) _ _ w1 hS1 (by omega) (by omega) (fun u _ x hx => sof_lt HH.out.hk _ _ x hx)).mono ?_
                      rintro e w2 ⟨b0, gs0, gt0, rfl, hS0, hb2⟩
                      go_wp2_with fail
                      go_ret3
                      exact ⟨b0, b1, gs0, gt0, gs1, gt1, m1, g5 + 2, rfl, hS0, hS1.below hb2, (hra.of_block (hb1.block _ hral)).of_block (hb2.block _ (by have := hb1.size; omega)), hm, (hbw.trans (hb1.mono hbw.size)).trans (hb2.mono (by have := hb1.size; have := hbw.size; omega))⟩

end Go.Proofs.Ybulkaebg

/-
  LawS1501BGraph over toys/ybulkaebg: the law itself.
-/
import Derived.Test.YbulkaebgSak
import Derived.Test.YbulkaebgBuild
namespace Go.Proofs.Ybulkaebg
open Go.RowKit
attribute [local go_sem ↓] Go.wp_at_zero Go.wp_at_succ

/-- What the law marks for itself: who touches what; what is written; who is active. -/
structure LW (w wr : World) (g q K S : Nat) (T Wt Ac : Nat → Bool) : Prop where
  rt : wr.rowIs g 4 q (fun t => .bool (T t))
  rw : wr.rowIs (g + 1) 4 K (fun x => .bool (Wt x))
  ra : wr.rowIs (g + 2) 4 S (fun s => .bool (Ac s))
  bel : Below g w wr

section
variable {w wr : World} {g q K S : Nat} {T Wt Ac : Nat → Bool}
theorem LW.sz (h : LW w wr g q K S T Wt Ac) : g + 3 ≤ wr.heap.size := h.ra.lt
theorem LW.alloc (h : LW w wr g q K S T Wt Ac) (o : Obj) : LW w (wr.alloc o) g q K S T Wt Ac := ⟨h.rt.alloc o, h.rw.alloc o, h.ra.alloc o, h.bel.alloc (by have := h.sz; omega) o⟩
theorem LW.drewN (h : LW w wr g q K S T Wt Ac) (d : Nat) : LW w (wr.drewN d) g q K S T Wt Ac := ⟨h.rt, h.rw, h.ra, below_drewN h.bel d⟩
theorem LW.setT (h : LW w wr g q K S T Wt Ac) (i : Nat) (x : Bool) : LW w (wr.setCell ⟨g, i, none⟩ (.bool x)) g q K S (fun j => if j = i then x else T j) Wt Ac :=
  ⟨(h.rt.set i _).congr fun j _ => by split <;> rfl, h.rw.setOther (by show g + 1 ≠ g; omega) _, h.ra.setOther (by show g + 2 ≠ g; omega) _, h.bel.setCell (by show g ≤ g; omega) _⟩
theorem LW.setW (h : LW w wr g q K S T Wt Ac) (i : Nat) (x : Bool) : LW w (wr.setCell ⟨g + 1, i, none⟩ (.bool x)) g q K S T (fun j => if j = i then x else Wt j) Ac :=
  ⟨h.rt.setOther (by show g ≠ g + 1; omega) _, (h.rw.set i _).congr fun j _ => by split <;> rfl, h.ra.setOther (by show g + 2 ≠ g + 1; omega) _, h.bel.setCell (by show g ≤ g + 1; omega) _⟩
theorem LW.setA (h : LW w wr g q K S T Wt Ac) (i : Nat) (x : Bool) : LW w (wr.setCell ⟨g + 2, i, none⟩ (.bool x)) g q K S T Wt (fun j => if j = i then x else Ac j) :=
  ⟨h.rt.setOther (by show g ≠ g + 2; omega) _, h.rw.setOther (by show g + 1 ≠ g + 2; omega) _, (h.ra.set i _).congr fun j _ => by split <;> rfl, h.bel.setCell (by show g ≤ g + 2; omega) _⟩
theorem LW.congr {T' Wt' Ac' : Nat → Bool} (h : LW w wr g q K S T Wt Ac) (e1 : ∀ t, t < q → T t = T' t) (e2 : ∀ x, x < K → Wt x = Wt' x) (e3 : ∀ s, s < S → Ac s = Ac' s) : LW w wr g q K S T' Wt' Ac' :=
  ⟨h.rt.congr fun i hi => by rw [e1 i hi], h.rw.congr fun i hi => by rw [e2 i hi], h.ra.congr fun i hi => by rw [e3 i hi], h.bel⟩
theorem LW.below {w2 : World} (h : LW w wr g q K S T Wt Ac) (hb : Below wr.heap.size wr w2) : LW w w2 g q K S T Wt Ac := by
  have := h.sz
  exact ⟨h.rt.of_block (hb.block _ (by omega)), h.rw.of_block (hb.block _ (by omega)), h.ra.of_block (hb.block _ (by omega)), h.bel.trans (hb.mono (by omega))⟩
theorem LW.start (w : World) (q K S : Nat) : LW w (((w.alloc (.cells (madeCells #[.bool false] q) 4)).alloc (.cells (madeCells #[.bool false] K) 4)).alloc (.cells (madeCells #[.bool false] S) 4)) w.heap.size q K S (fun _ => false) (fun _ => false) (fun _ => false) := by
  refine ⟨((World.rowIs_made w _ q 4).alloc _).alloc _, ?_, ?_, ((((Below.refl _ _).alloc (Nat.le_refl _) _).alloc (by simp) _).alloc (by simp; omega) _)⟩
  · have := World.rowIs_made (w.alloc (.cells (madeCells #[.bool false] q) 4)) (.bool false) K 4
    simp only [World.size_alloc] at this
    exact this.alloc _
  · have := World.rowIs_made ((w.alloc (.cells (madeCells #[.bool false] q) 4)).alloc (.cells (madeCells #[.bool false] K) 4)) (.bool false) S 4
    simp only [World.size_alloc] at this
    exact this
end

theorem idx_lt {s S x K : Nat} (hs : s < S) (hx : x < K) : s * K + x < S * K := by
  have h1 := Nat.mul_le_mul_right K (show s + 1 ≤ S by omega)
  rw [Nat.succ_mul] at h1
  omega
theorem idx_div {s x K : Nat} (hx : x < K) : (s * K + x) / K = s ∧ (s * K + x) % K = x := by
  constructor
  · rw [Nat.mul_comm, Nat.mul_add_div (by omega), Nat.div_eq_of_lt hx, Nat.add_zero]
  · rw [Nat.mul_comm, Nat.mul_add_mod, Nat.mod_eq_of_lt hx]

theorem wrj_yes {A : Nat → Att} {i j : Nat} (h : j < (A i).o.length) (hb : (A i).o[j].2 = true) (x : Nat) : (if x = (A i).o[j].1 then true else wrj A i j x) = wrj A i (j + 1) x := by
  rw [← wrj_step A i j h x, hb]
  simp
theorem wrj_no {A : Nat → Att} {i j : Nat} (h : j < (A i).o.length) (hb : (A i).o[j].2 = false) (x : Nat) : wrj A i j x = wrj A i (j + 1) x := by
  rw [← wrj_step A i j h x, hb]
  simp

theorem slice_nil52' (w : World) : (Instr.slice 52 (.slice none 0 0) (some (.int .u32 0)) (some (.int .u32 0)) none).run Yba.prog w = .ok (.slice none 0 0) w := by kernel_rfl
/-- blocks[1][lo:lo+k]. -/
theorem slice52 {bh N S K : Nat} {A : Nat → Att} {ga ca gb : Nat} {ao : Option Addr} {co gk gse : Nat} {i : Nat} {w0 : World} (h : Hist w0 bh N S K A ga ca gb ao co gk gse) (hi : i < N) :
    ∃ a c, (∀ w, (Instr.slice 52 (.slice ao (os A N) co) (some (.int .u32 (os A i : Nat))) (some (.int .u32 ((os A i : Nat) + ((A i).o.length : Nat)))) none).run Yba.prog w = .ok (.slice a (A i).o.length c) w) ∧
      (∀ w, Hist w bh N S K A ga ca gb ao co gk gse → Ops w a (A i).o) := by
  have h1 := os_mono A (a := i + 1) (b := N) hi
  have h2 := os_succ A i
  have h3 := h.cap
  have h4 := h.hO
  rcases h.ops with ⟨rfl, rfl⟩ | ⟨g, rfl, _⟩
  · have hl : (A i).o.length = 0 := by omega
    have hz : os A i = 0 := by omega
    have hzN : os A N = 0 := by omega
    refine ⟨none, 0, fun w => ?_, fun _ _ => .inl (List.length_eq_zero_iff.1 hl)⟩
    rw [hl, hz, hzN]
    exact slice_nil52' w
  · obtain ⟨lo, hlo⟩ : ∃ x, x = os A i := ⟨_, rfl⟩
    obtain ⟨k, hk⟩ : ∃ x, x = (A i).o.length := ⟨_, rfl⟩
    rw [← hlo, ← hk]
    have l1 : lo + k ≤ co := by omega
    have l0 : lo ≤ co := by omega
    have l2 : lo ≤ 8192 := by omega
    have l3 : k ≤ 8192 := by omega
    have e1 : (lo : Int) ≤ (lo : Int) + (k : Int) := by omega
    have e2 : (lo : Int) + (k : Int) ≤ (co : Int) := by omega
    by_cases hc : co = lo
    · obtain rfl : k = 0 := by omega
      refine ⟨some ⟨g, 0, none⟩, 0, fun w => ?_, fun _ _ => .inl (List.length_eq_zero_iff.1 (by omega))⟩
      subst hc
      generalize os A N = tot
      clear h h1 h2 h3 h4 hlo hk
      go_simp
    · refine ⟨some ⟨g, lo * 5, none⟩, co - lo, fun w => ?_, fun w0 h0 => ?_⟩
      · generalize os A N = tot
        clear h h1 h2 h3 h4 hlo hk
        go_simp
        omega
      · rcases h0.ops with ⟨e, _⟩ | ⟨g', e, ht'⟩
        · cases e
        · cases e
          refine .inr ⟨g, lo * 5, rfl, fun j hj => ?_⟩
          rw [hlo, ← Nat.add_mul]
          exact ht' i hi j hj

/-- What a slice that was grown holds. -/
theorem i32s_of_own {w : World} {base : Nat} {v : Value} {l : List Nat} (h : w.ownsRow base 21 1 v l.length (l.map fun x => .int .i32 (x : Nat))) : ∃ a c, v = .slice a l.length c ∧ I32s w a l := by
  rcases h.2 with ⟨rfl, h0⟩ | ⟨g, cap, cur, rfl, _⟩
  · exact ⟨none, 0, by rw [h0], .inl (List.length_eq_zero_iff.1 h0)⟩
  · refine ⟨_, cap, rfl, .inr ⟨g, 0, rfl, fun i hi => ?_⟩⟩
    have := h.cells (g := g) rfl i (.int .i32 (l[i] : Nat)) (by rw [List.getElem?_map, List.getElem?_eq_getElem hi]; rfl)
    rw [Addr.add_lit] at this
    exact this
theorem I32s.below {w w' : World} {a : Option Addr} {l : List Nat} (h : I32s w a l) (hb : Below w.heap.size w w') : I32s w' a l := by
  rcases h with h | ⟨g, off, e, hc⟩
  · exact .inl h
  · exact .inr ⟨g, off, e, fun i hi => (hb.cell (block_lt_of_cell (hc i hi))).trans (hc i hi)⟩
theorem below_self (w : World) (d : Nat) : Below w.heap.size w (w.drewN d) := below_drewN (Below.refl _ _) d

theorem own_snoc {w : World} {base : Nat} {v : Value} {l : List Nat} {y : Nat} (h : w.ownsRow base 21 1 v (l.length + 1) ((l.map fun x => .int .i32 (x : Nat)) ++ [.int .i32 (y : Nat)])) : w.ownsRow base 21 1 v (l ++ [y]).length ((l ++ [y]).map fun x => .int .i32 (x : Nat)) := by
  rw [List.length_append, List.map_append]; exact h

set_option maxRecDepth 100000 in
theorem law_long (s k : Nat) (ad : Option Addr) (n cap : Nat) (w : World) (hn : 1024 < n) :
    Calls Yba.prog 3 #[.int .u8 s, .int .u8 k, .slice ad n cap] w fun e w' => e = .returned (.bool true) ∧ Below w.heap.size w w' := by
  go_enter Yba.func3, Yba.ntmps3
  go_wp2_with fail
  go_ret
  exact ⟨rfl, Below.refl _ _⟩

set_option maxRecDepth 100000 in
set_option maxHeartbeats 4000000 in
theorem law_any (s k : Nat) (ad : Option Addr) (n cap : Nat) (X : Nat → XAtt) (w : World) (hI : Inp w ad n X) (hn : n ≤ 1024) (hL : ∀ i, i < n → (X i).l.length ≤ 1000000000000000) (hs : s < 256) (hk : k < 256) :
    Calls Yba.prog 3 #[.int .u8 s, .int .u8 k, .slice ad n cap] w fun e w' => e = .returned (.bool true) ∧ Below w.heap.size w w' := by
  have HI : Hid (Inp w ad n X) := hI
  have HLN : Hid (∀ i, i < n → (X i).l.length ≤ 1000000000000000) := hL
  clear hI hL
  go_enter Yba.func3, Yba.ntmps3
  go_wp2_with fail
  rw [show decide ((1024 : Int) < (n : Int)) = false from decide_eq_false (by omega)]
  go_loopw [7, 36] (fun t c wr => ∃ i : Nat, i ≤ n ∧ c = .int .i64 i ∧ t = .int .i64 (pre (fun i => (X i).l.length) i : Nat) ∧ pre (fun i => (X i).l.length) i ≤ 8192 ∧ Below w.heap.size w wr) (fun _ c _ => n - (intOf c).toNat)
  case atStart => exact ⟨0, Nat.zero_le _, rfl, rfl, Nat.zero_le _, Below.refl _ _⟩
  case round =>
    obtain ⟨i, hi, rfl, rfl, hp, hb⟩ := hrel
    have hsz := hb.size
    by_cases hlt : i < n
    · obtain ⟨g, off, rfl, hc⟩ := HI.out.row.resolve_left (by omega)
      obtain ⟨r0, r1, r2⟩ := hc i hlt
      have hgl := block_lt_of_cell r0
      simp only at hgl
      replace r0 := (hb.cell (p := ⟨g, off + i * 3, none⟩) hgl).trans r0
      replace r1 := (hb.cell (p := ⟨g, off + i * 3 + 1, none⟩) hgl).trans r1
      replace r2 := (hb.cell (p := ⟨g, off + i * 3 + 2, none⟩) hgl).trans r2
      have hglr : g < wr.heap.size := by omega
      have hl := HLN.out i hlt
      have HPS : Hid (pre (fun i => (X i).l.length) (i + 1) = pre (fun i => (X i).l.length) i + (X i).l.length) := rfl
      generalize pre (fun i => (X i).l.length) i = p at *
      generalize (X i).l.length = l at *
      clear hc
      by_cases h8 : 8192 < p + l
      · have h8' : (8192 : Int) < (p : Int) + (l : Int) := by omega
        go_wp2_with fail
        go_ret
        exact ⟨rfl, hb.alloc hsz _⟩
      · have h8' : ¬ (8192 : Int) < (p : Int) + (l : Int) := by omega
        go_wp2_with fail
        go_roundw
        case rel => exact ⟨i + 1, by omega, by go_num, by rw [HPS.out]; go_num, by rw [HPS.out]; omega, hb.alloc hsz _⟩
        case measure => simp [intOf]; omega
    · obtain rfl : i = n := by omega
      clear hlt hi
      obtain ⟨S, hS⟩ : ∃ S, S = s % 9 := ⟨_, rfl⟩
      obtain ⟨K, hK⟩ : ∃ K, K = k % 9 := ⟨_, rfl⟩
      go_wp2_with fail
      refine (build_any s k S K ad i cap X wr (HI.out.below hb) hn hp hs hk hS hK).mono ?_
      rintro e w1 ⟨bh, N, ga, ca, gb, ao, co, gk, gse, rfl, hH, hNe, hb1⟩
      clear hNe
      have hS8 := hH.hS
      have hK8 := hH.hK
      have hN8 := hH.hN
      have c0 := hH.c0
      have c1 := hH.c1
      have b1 := hH.b1
      have hbh := block_lt_of_cell c0
      have hgb := block_lt_of_cell b1
      simp only at hbh hgb
      have hbw := hb.trans (hb1.mono hsz)
      have HH : Hid (Hist w1 bh N S K (AA S K X) ga ca gb ao co gk gse) := hH
      have HB : Hid (Below w.heap.size w w1) := hbw
      clear hb hb1 hH hS hK hbw hp hsz
      generalize AA S K X = A at *
      obtain ⟨q, hq⟩ : ∃ q, q = S * K := ⟨_, rfl⟩
      have hq64 : q ≤ 64 := by rw [hq]; exact Nat.mul_le_mul hS8 hK8
      have hqI : (S : Int) * (K : Int) = (q : Int) := by rw [hq]; exact (Int.natCast_mul S K).symm
      have HQ : Hid (q = S * K) := hq
      clear hq
      have hmk1 := run_make_row' (P := Yba.prog) 29 4 (.bool false) 1 Yba.underlying29 Yba.info4 rfl .i64 .i64 q (by omega) (by omega)
      have hmk2 := run_make_row' (P := Yba.prog) 29 4 (.bool false) 1 Yba.underlying29 Yba.info4 rfl .i64 .i64 K (by omega) (by omega)
      have hmk3 := run_make_row' (P := Yba.prog) 29 4 (.bool false) 1 Yba.underlying29 Yba.info4 rfl .i64 .i64 S (by omega) (by omega)
      have hb2 : bh < w1.heap.size + 1 := by omega
      have hb3 : bh < w1.heap.size + 1 + 1 := by omega
      go_wp2_with fail
      have hM := LW.start w1 q K S
      generalize World.alloc (World.alloc (World.alloc w1 _) _) _ = W1 at hM ⊢
      obtain ⟨g, hg⟩ : ∃ g, g = w1.heap.size := ⟨_, rfl⟩
      rw [← hg] at hM hbh hgb ⊢
      rw [show g + 1 + 1 = g + 2 from rfl]
      have HG : Hid (g = w1.heap.size) := hg
      clear hmk1 hmk2 hmk3 hb2 hb3 hg hqI
      go_loopw [70] (fun c wr => ∃ i : Nat, i ≤ N ∧ c = .int .i64 i ∧ LW w1 wr g q K S (fun t => tch A i (t / K) (t % K)) (wrt A i) (act A i)) (fun c _ => N - (intOf c).toNat)
      case atStart => exact ⟨0, Nat.zero_le _, rfl, hM.congr (fun _ _ => rfl) (fun _ _ => rfl) (fun _ _ => rfl)⟩
      case round =>
        clear hM
        obtain ⟨i, hi, rfl, hM⟩ := hrel
        by_cases hlt : i < N
        · have hbel : Below w1.heap.size w1 wr := by rw [← HG.out]; exact hM.bel
          have hHr := HH.out.below hbel
          obtain ⟨a0, a1, a2, a3, a4, a5, a6⟩ := hHr.at_ i hlt
          have hgl := block_lt_of_cell a0
          have hsz := hM.sz
          simp only at hgl
          have hs := hHr.hs i hlt
          by_cases hc : (A i).c = false
          · rw [hc] at a2
            have HM : Hid (LW w1 wr g q K S (fun t => tch A (i + 1) (t / K) (t % K)) (wrt A (i + 1)) (act A (i + 1))) := hM.congr (fun t _ => by simp [tch, hc]) (fun t _ => by simp [wrt, hc]) (fun t _ => by simp [act, hc])
            clear hc hHr hM hbel
            go_wp2_with fail
            go_roundw
            case rel => exact ⟨i + 1, by omega, by go_num, HM.out.alloc _⟩
            case measure => simp [intOf]; omega
          · have hc' : (A i).c = true := by simpa using hc
            rw [hc'] at a2
            obtain ⟨av, cv, hsl, hops⟩ := slice52 HH.out hlt
            have c1r := hHr.c1
            have b1r := hHr.b1
            have hol : (A i).o.length ≤ 8192 ∧ os A i ≤ 8192 := by have := os_mono A (a := i + 1) (b := N) hlt; have := os_succ A i; have := HH.out.hO; omega
            obtain ⟨hol, hos⟩ := hol
            have hg2 : g + 2 < wr.heap.size := by omega
            have qa := hM.ra.cell hs
            have fa := hM.ra.frozen (A i).s
            have HM : Hid (LW w1 (wr.setCell ⟨g + 2, (A i).s, none⟩ (.bool true)) g q K S (fun t => tchj A i 0 (t / K) (t % K)) (wrj A i 0) (act A (i + 1))) :=
              (hM.setA (A i).s true).congr (fun t _ => by rw [tchj_zero]) (fun t _ => by rw [wrj_zero]) (fun t _ => by
                by_cases e : t = (A i).s
                · subst e; simp [act, hc']
                · have e' : ((A i).s == t) = false := by rw [beq_eq_false_iff_ne]; exact fun h => e h.symm
                  simp [act, hc', e, e'])
            have HC : Hid ((A i).c = true) := hc'
            have HOP : Hid (∀ w, Hist w bh N S K A ga ca gb ao co gk gse → Ops w av (A i).o) := hops
            clear hc hc' hHr hM hbel hops c1r b1r
            go_wp2_with fail
            generalize hW2 : World.alloc (World.setCell wr _ _) _ = W2
            have hM2 : LW w1 W2 g q K S (fun t => tchj A i 0 (t / K) (t % K)) (wrj A i 0) (act A (i + 1)) := by rw [← hW2]; exact HM.out.alloc _
            have l1 : W2.cell? ⟨wr.heap.size, 1, none⟩ = some (.int .i64 ((A i).s : Nat)) := by rw [← hW2, World.cell?_alloc_at _ _ _ _ (by simp)]; rfl
            have l5 : W2.cell? ⟨wr.heap.size, 5, none⟩ = some (.int .u32 (os A i : Nat)) := by rw [← hW2, World.cell?_alloc_at _ _ _ _ (by simp)]; rfl
            have l6 : W2.cell? ⟨wr.heap.size, 6, none⟩ = some (.int .u32 ((A i).o.length : Nat)) := by rw [← hW2, World.cell?_alloc_at _ _ _ _ (by simp)]; rfl
            have hH2 : Hist W2 bh N S K A ga ca gb ao co gk gse := HH.out.below (by rw [← HG.out]; exact hM2.bel)
            have c12 := hH2.c1
            have b12 := hH2.b1
            have z1 : IntKind.u32.wrap ((os A i : Int) + ((A i).o.length : Int)) = (os A i : Int) + ((A i).o.length : Int) := by rw [IntKind.wrap_u32]; omega
            have hba : g + 3 ≤ wr.heap.size := hsz
            have hba2 : wr.heap.size < W2.heap.size := by rw [← hW2]; simp
            generalize wr.heap.size = ba at *
            clear hW2 hH2 HM a0 a1 a2 a3 a4 a5 a6 qa fa hgl hsz hg2
            go_quiet (fail)
            go_wp2_with fail
            clear l5 l6 c12 b12 hsl z1
            go_loopw [98] (fun c wr => ∃ j : Nat, j ≤ (A i).o.length ∧ c = .int .i64 j ∧ LW w1 wr g q K S (fun t => tchj A i j (t / K) (t % K)) (wrj A i j) (act A (i + 1)) ∧ wr.cell? ⟨ba, 1, none⟩ = some (.int .i64 ((A i).s : Nat)) ∧ ba < wr.heap.size) (fun c _ => (A i).o.length - (intOf c).toNat)
            case atStart => exact ⟨0, Nat.zero_le _, rfl, hM2.drewN _, l1, hba2⟩
            case round =>
              clear hM2 l1 hba2
              obtain ⟨j, hj, rfl, hM, l1, hba2⟩ := hrel
              by_cases hjl : j < (A i).o.length
              · obtain ⟨gq, off, rfl, hcell⟩ := (HOP.out wr (HH.out.below (by rw [← HG.out]; exact hM.bel))).resolve_left (fun e => by simp [e] at hjl)
                obtain ⟨o0, o1, o2, o3, o4⟩ := hcell j hjl
                have hkx : (A i).o[j].1 < K := HH.out.hk i hlt _ (List.getElem_mem _)
                have HT : Hid (∀ t, (if t = (A i).s * K + (A i).o[j].1 then true else tchj A i j (t / K) (t % K)) = tchj A i (j + 1) (t / K) (t % K)) := tchj_step A i j K hjl hkx
                have hW1 : (A i).o[j].2 = true → ∀ x, (if x = (A i).o[j].1 then true else wrj A i j x) = wrj A i (j + 1) x := wrj_yes hjl
                have hW0 : (A i).o[j].2 = false → ∀ x, wrj A i j x = wrj A i (j + 1) x := wrj_no hjl
                generalize (A i).o[j] = ob at *
                obtain ⟨p, hp⟩ : ∃ p, p = (A i).s * K := ⟨_, rfl⟩
                have hpI : ((A i).s : Int) * (K : Int) = (p : Int) := by rw [hp]; exact (Int.natCast_mul _ _).symm
                have hpq : p + ob.1 < q := by rw [hp, HQ.out]; exact idx_lt hs hkx
                rw [← hp] at HT
                clear hp
                obtain ⟨tv, q1⟩ : ∃ b, wr.cell? ⟨g, p + ob.1, none⟩ = some (.bool b) := ⟨_, hM.rt.cell hpq⟩
                obtain ⟨wv, q2⟩ : ∃ b, wr.cell? ⟨g + 1, ob.1, none⟩ = some (.bool b) := ⟨_, hM.rw.cell hkx⟩
                have f1 := hM.rt.frozen (p + ob.1)
                have f2 := hM.rw.frozen ob.1
                have hsz := hM.sz
                have hg0 : g < wr.heap.size := by omega
                have hg1 : g + 1 < wr.heap.size := by omega
                have hgq := block_lt_of_cell o0
                simp only at hgq
                have z1 : (p : Int) + (ob.1 : Int) < (q : Int) := by omega
                have z2 : (0 : Int) ≤ (p : Int) + (ob.1 : Int) := by omega
                have z3 : (ob.1 : Int) < (K : Int) := by omega
                have HBA : Hid (ba ≠ g ∧ ba ≠ g + 1) := ⟨by omega, by omega⟩
                cases hb : ob.2 with
                | true =>
                  rw [hb] at o2
                  have HM2 : Hid (LW w1 ((wr.setCell ⟨g, p + ob.1, none⟩ (.bool true)).setCell ⟨g + 1, ob.1, none⟩ (.bool true)) g q K S (fun t => tchj A i (j + 1) (t / K) (t % K)) (wrj A i (j + 1)) (act A (i + 1)) ∧ ((wr.setCell ⟨g, p + ob.1, none⟩ (.bool true)).setCell ⟨g + 1, ob.1, none⟩ (.bool true)).cell? ⟨ba, 1, none⟩ = some (.int .i64 ((A i).s : Nat))) :=
                    ⟨((hM.setT (p + ob.1) true).setW ob.1 true).congr (fun t _ => HT.out t) (fun x _ => hW1 hb x) (fun _ _ => rfl),
                     (World.cell?_setCell_other _ _ _ _ (fun e => by injection e with e1; have := HBA.out; omega)).trans ((World.cell?_setCell_other _ _ _ _ (fun e => by injection e with e1; have := HBA.out; omega)).trans l1)⟩
                  clear hM hW1 hW0 hcell hb HT
                  go_wp2_with fail
                  go_roundw
                  case rel => exact ⟨j + 1, by omega, by go_num, HM2.out.1.alloc _, (World.cell?_alloc_past _ _ _ (by simpa using hba2)).trans HM2.out.2, by simp; omega⟩
                  case measure => simp [intOf]; omega
                | false =>
                  rw [hb] at o2
                  have HM2 : Hid (LW w1 (wr.setCell ⟨g, p + ob.1, none⟩ (.bool true)) g q K S (fun t => tchj A i (j + 1) (t / K) (t % K)) (wrj A i (j + 1)) (act A (i + 1)) ∧ (wr.setCell ⟨g, p + ob.1, none⟩ (.bool true)).cell? ⟨ba, 1, none⟩ = some (.int .i64 ((A i).s : Nat))) :=
                    ⟨(hM.setT (p + ob.1) true).congr (fun t _ => HT.out t) (fun x _ => hW0 hb x) (fun _ _ => rfl),
                     (World.cell?_setCell_other _ _ _ _ (fun e => by injection e with e1; have := HBA.out; omega)).trans l1⟩
                  clear hM hW1 hW0 hcell hb HT
                  go_wp2_with fail
                  go_roundw
                  case rel => exact ⟨j + 1, by omega, by go_num, HM2.out.1.alloc _, (World.cell?_alloc_past _ _ _ (by simpa using hba2)).trans HM2.out.2, by simp; omega⟩
                  case measure => simp [intOf]; omega
              · obtain rfl : j = (A i).o.length := by omega
                go_wp2_with fail
                go_roundw
                case rel => exact ⟨i + 1, by omega, by go_num, hM.congr (fun t _ => by rw [tchj_full A i _ _ HC.out]) (fun t _ => by rw [wrj_full A i _ HC.out]) (fun _ _ => rfl)⟩
                case measure => simp [intOf]; omega
        · obtain rfl : N = i := by omega
          have hbel : Below w1.heap.size w1 wr := by rw [← HG.out]; exact hM.bel
          have hsz := hM.sz
          go_wp2_with fail
          refine (sak_any bh N S K A ga ca gb ao co gk gse wr (HH.out.below hbel)).mono ?_
          rintro e w2 ⟨d0, d1, gs0, gt0, gs1, gt1, m, gv, rfl, hS0, hS1, hrv, hm, hb2⟩
          have HM : Hid (LW w1 w2 g q K S (fun t => tch A N (t / K) (t % K)) (wrt A N) (act A N) ∧ w2.rowIs gv 4 S (fun x => .bool (act A N x)) ∧ Below w.heap.size w w2) := ⟨hM.below hb2, hrv, (HB.out.trans (hbel.mono HB.out.size)).trans (hb2.mono (by have := HB.out.size; have := hbel.size; omega))⟩
          have HK : Hid (∀ i, i < N → ∀ x, x ∈ (A i).o → x.1 < K) := HH.out.hk
          have HS0 : Hid (Succ w2 d0 (S + K) (rev (rev (Mt A N S) (S + K)) (S + K)) gs0 (S + K + 1) (some ⟨gt0, 0, none⟩) m m) := hS0
          have HS1 : Hid (Succ w2 d1 (S + K) (rev (Mt A N S) (S + K)) gs1 (S + K + 1) (some ⟨gt1, 0, none⟩) m m) := hS1
          clear hM hbel hb2 hS0 hS1 hrv hsz c0 c1 b1 hlt hi
          go_wp2_with fail
          refine (wellformed_any d0 (S + K) _ gs0 _ _ m m _ HS0.out (by omega)).mono ?_
          rintro e w3 ⟨rfl, dd, rfl⟩
          go_wp2_with fail
          refine (wellformed_any d1 (S + K) _ gs1 _ _ m m _ (HS1.out.below (below_self _ _)) (by omega)).mono ?_
          rintro e w3 ⟨rfl, de, rfl⟩
          go_wp2_with fail
          go_loopw [25] (fun c wr => ∃ s : Nat, s ≤ S ∧ c = .int .i64 s ∧ Below w2.heap.size w2 wr) (fun c _ => S - (intOf c).toNat)
          case atStart => exact ⟨0, Nat.zero_le _, rfl, below_self _ _⟩
          case round =>
            obtain ⟨s, hs, rfl, hb⟩ := hrel
            have hsz := hb.size
            by_cases hlt : s < S
            · have k0 : wr.cell? ⟨gv, s, none⟩ = some (.bool (act A N s)) := (hb.cell (p := ⟨gv, s, none⟩) HM.out.2.1.lt).trans (HM.out.2.1.cell hlt)
              have hz2 := HM.out.1.sz
              have k1 : wr.cell? ⟨g + 2, s, none⟩ = some (.bool (act A N s)) := (hb.cell (p := ⟨g + 2, s, none⟩) hz2).trans (HM.out.1.ra.cell hlt)
              generalize act A N s = av at k0 k1
              have e1 : (0 : Int) ≤ (s : Int) := by omega
              have e2 : (s : Int) < (S : Int) := by omega
              have e3 : (av != av) = false := by cases av <;> rfl
              go_wp2_with fail
              go_quiet (fail)
              go_wp2_with fail
              go_loopw [26, 27] (fun sv c wr => ∃ (x : Nat) (v : Value), x ≤ K ∧ c = .int .i64 x ∧ v = sv ∧ wr.ownsRow w2.heap.size 21 1 v (wantK A N S s x).length ((wantK A N S s x).map fun x => .int .i32 (x : Nat)) ∧ Below w2.heap.size w2 wr) (fun _ c _ => K - (intOf c).toNat)
              case atStart => exact ⟨0, _, Nat.zero_le _, rfl, rfl, World.ownsRow_nil _ _ _ _, below_drewN hb _⟩
              case round =>
                clear hb hsz k0 k1 e3
                obtain ⟨x, v, hx, rfl, rfl, hown, hb⟩ := hrel
                have hsz := hb.size
                by_cases hxl : x < K
                · obtain ⟨p, hp⟩ : ∃ p, p = s * K := ⟨_, rfl⟩
                  have hpI : (s : Int) * (K : Int) = (p : Int) := by rw [hp]; exact (Int.natCast_mul _ _).symm
                  have hpq : p + x < q := by rw [hp, HQ.out]; exact idx_lt hlt hxl
                  have t0 : wr.cell? ⟨g, p + x, none⟩ = some (.bool (tch A N s x)) := by
                    rw [(hb.cell (p := ⟨g, p + x, none⟩) (by show g < _; omega)).trans (HM.out.1.rt.cell hpq), hp, (idx_div hxl).1, (idx_div hxl).2]
                  have t1 : wr.cell? ⟨g + 1, x, none⟩ = some (.bool (wrt A N x)) := (hb.cell (p := ⟨g + 1, x, none⟩) (by show g + 1 < _; omega)).trans (HM.out.1.rw.cell hxl)
                  have HST : Hid (wantK A N S s (x + 1) = if tch A N s x && wrt A N x then wantK A N S s x ++ [S + x] else wantK A N S s x) := wantK_step A N S s x
                  have z1 : (p : Int) + (x : Int) < (q : Int) := by omega
                  have z2 : (0 : Int) ≤ (p : Int) + (x : Int) := by omega
                  have z3 : (x : Int) < (K : Int) := by omega
                  have z4 : IntKind.i32.wrap ((S : Int) + (x : Int)) = (S : Int) + (x : Int) := by rw [IntKind.wrap_i32]; omega
                  clear hp
                  by_cases ht : tch A N s x = true
                  · by_cases hw : wrt A N x = true
                    · have HS2 : Hid (wantK A N S s (x + 1) = wantK A N S s x ++ [S + x]) := by
                        show wantK _ _ _ _ _ = _
                        rw [HST.out, ht, hw]; rfl
                      rw [ht] at t0
                      rw [hw] at t1
                      have hle := wantK_le A N S s x
                      have HL : Hid (∀ k, v.ownBlock = some k → w2.heap.size ≤ k ∧ k < wr.heap.size) := hown.lt
                      clear ht hw HST
                      generalize wantK A N S s x = l at *
                      obtain ⟨i1, hi1, hz0, hz1, hzb⟩ := info_parts Yba.info21
                      go_wp2_with (at_builtin; refine wpList_append_lies _ rfl _ _ 59 rfl w2.heap.size 21 i1 (.int .i32 0) 1 4 Yba.underlying59 hi1 hz0 hz1 hzb rfl (by omega) v l.length (l.map fun x => .int .i32 (x : Nat)) rfl (hown.alloc _) ⟨wr.heap.size, 0, none⟩ 1 1 [.int .i32 ((S : Int) + (x : Int))] rfl rfl (World.news_of_block (cs := #[.int .i32 ((S : Int) + (x : Int))]) (t := 21) (fr := (0, 0)) (heap_alloc_new wr _)) (by simp [Value.oneCell']) (by omega) (by unfold maxLen; omega) (by omega) (by simp; omega) (wr.heap.size + 1) (by simp) ?_; intro gg cap1 w3 hown1 hgrow hat hlt1)
                      go_roundw
                      case rel => exact ⟨x + 1, _, by omega, by go_num, rfl, by rw [HS2.out]; exact own_snoc (y := S + x) hown1, (hb.alloc hsz _).grown hgrow (by simp; omega) (fun k hk => (HL.out k hk).1)⟩
                      case measure => simp [intOf]; omega
                    · have hw' : wrt A N x = false := by simpa using hw
                      have HS2 : Hid (wantK A N S s (x + 1) = wantK A N S s x) := by
                        show wantK _ _ _ _ _ = _
                        rw [HST.out, ht, hw']; rfl
                      rw [ht] at t0
                      rw [hw'] at t1
                      clear ht hw hw' HST
                      go_wp2_with fail
                      go_roundw
                      case rel => exact ⟨x + 1, _, by omega, by go_num, rfl, by rw [HS2.out]; exact hown, hb⟩
                      case measure => simp [intOf]; omega
                  · have ht' : tch A N s x = false := by simpa using ht
                    have HS2 : Hid (wantK A N S s (x + 1) = wantK A N S s x) := by
                      show wantK _ _ _ _ _ = _
                      rw [HST.out, ht']; rfl
                    rw [ht'] at t0
                    clear ht ht' HST
                    go_wp2_with fail
                    go_roundw
                    case rel => exact ⟨x + 1, _, by omega, by go_num, rfl, by rw [HS2.out]; exact hown, hb⟩
                    case measure => simp [intOf]; omega
                · obtain rfl : K = x := by omega
                  obtain ⟨av, cv, rfl, hi32⟩ := i32s_of_own hown
                  have hko := kof_want (S := S) (K := K) HK.out hlt
                  have hso := sof_none (S := S) (K := K) HK.out hlt
                  clear hown hxl hx
                  go_wp2_with fail
                  refine (of_any d0 (S + K) s _ gs0 _ _ m m _ (HS0.out.below hb) (by omega) (by omega) (by omega)).mono ?_
                  rintro e w3 ⟨a3, c3, rfl, hi3, dd3, rfl⟩
                  rw [hko] at hi3 ⊢
                  have hi4 := hi3 _ (HS0.out.below (below_drewN hb dd3))
                  have hle := wantK_le A N S s K
                  clear hi3 hko
                  go_wp2_with fail
                  refine (eq_any a3 av c3 cv (wantK A N S s K) _ (by omega) hi4 (hi32.below (below_self _ _))).mono ?_
                  rintro e w3 ⟨rfl, d4, rfl⟩
                  go_wp2_with fail
                  refine (of_any d1 (S + K) s _ gs1 _ _ m m _ (HS1.out.below (below_drewN hb _)) (by omega) (by omega) (by omega)).mono ?_
                  rintro e w3 ⟨a5, c5, rfl, hi5, d5, rfl⟩
                  rw [hso]
                  clear hi5 hso hi4 hi32
                  go_wp2_with fail
                  go_roundw
                  case rel => exact ⟨s + 1, by omega, by go_num, below_drewN hb _⟩
                  case measure => simp [intOf]; omega
            · obtain rfl : S = s := by omega
              clear hs hlt
              go_wp2_with fail
              go_loopw [28] (fun c wr => ∃ x : Nat, x ≤ K ∧ c = .int .i64 x ∧ Below w2.heap.size w2 wr) (fun c _ => K - (intOf c).toNat)
              case atStart => exact ⟨0, Nat.zero_le _, rfl, hb⟩
              case round =>
                clear hb hsz
                obtain ⟨x, hx, rfl, hb⟩ := hrel
                have hsz := hb.size
                have hz2 := HM.out.1.sz
                by_cases hxl : x < K
                · have t1 : wr.cell? ⟨g + 1, x, none⟩ = some (.bool (wrt A N x)) := (hb.cell (p := ⟨g + 1, x, none⟩) (by show g + 1 < _; omega)).trans (HM.out.1.rw.cell hxl)
                  have hso := sof_want (S := S) (K := K) HK.out x
                  have hko := kof_none (S := S) (K := K) HK.out x
                  have z3 : (x : Int) < (K : Int) := by omega
                  by_cases hw : wrt A N x = true
                  · rw [hw] at t1
                    rw [if_pos hw] at hso
                    have HSO : Hid (rev (Mt A N S) (S + K) (S + x) = wantS A N x S) := hso
                    have HKO : Hid (rev (rev (Mt A N S) (S + K)) (S + K) (S + x) = []) := hko
                    clear hw hso hko
                    go_wp2_with fail
                    clear t1
                    go_loopw [29, 30] (fun sv c wr => ∃ (s : Nat) (v : Value), s ≤ S ∧ c = .int .i64 s ∧ v = sv ∧ wr.ownsRow w2.heap.size 21 1 v (wantS A N x s).length ((wantS A N x s).map fun x => .int .i32 (x : Nat)) ∧ Below w2.heap.size w2 wr) (fun _ c _ => S - (intOf c).toNat)
                    case atStart => exact ⟨0, _, Nat.zero_le _, rfl, rfl, World.ownsRow_nil _ _ _ _, hb⟩
                    case round =>
                      clear hb hsz
                      obtain ⟨s, v, hs, rfl, rfl, hown, hb⟩ := hrel
                      have hsz := hb.size
                      by_cases hsl : s < S
                      · obtain ⟨p, hp⟩ : ∃ p, p = s * K := ⟨_, rfl⟩
                        have hpI : (s : Int) * (K : Int) = (p : Int) := by rw [hp]; exact (Int.natCast_mul _ _).symm
                        have hpq : p + x < q := by rw [hp, HQ.out]; exact idx_lt hsl hxl
                        have t0 : wr.cell? ⟨g, p + x, none⟩ = some (.bool (tch A N s x)) := by
                          rw [(hb.cell (p := ⟨g, p + x, none⟩) (by show g < _; omega)).trans (HM.out.1.rt.cell hpq), hp, (idx_div hxl).1, (idx_div hxl).2]
                        have HST : Hid (wantS A N x (s + 1) = if tch A N s x then wantS A N x s ++ [s] else wantS A N x s) := wantS_step A N x s
                        have z1 : (p : Int) + (x : Int) < (q : Int) := by omega
                        have z2 : (0 : Int) ≤ (p : Int) + (x : Int) := by omega
                        have z5 : (s : Int) < (S : Int) := by omega
                        have z4 : IntKind.i32.wrap (s : Int) = (s : Int) := by rw [IntKind.wrap_i32]; omega
                        clear hp
                        by_cases ht : tch A N s x = true
                        · have HS2 : Hid (wantS A N x (s + 1) = wantS A N x s ++ [s]) := by
                            show wantS _ _ _ _ = _
                            rw [HST.out, ht]; rfl
                          rw [ht] at t0
                          have hle := wantS_le A N x s
                          have HL : Hid (∀ k, v.ownBlock = some k → w2.heap.size ≤ k ∧ k < wr.heap.size) := hown.lt
                          clear ht HST
                          generalize wantS A N x s = l at *
                          obtain ⟨i1, hi1, hz0, hz1, hzb⟩ := info_parts Yba.info21
                          go_wp2_with (at_builtin; refine wpList_append_lies _ rfl _ _ 59 rfl w2.heap.size 21 i1 (.int .i32 0) 1 4 Yba.underlying59 hi1 hz0 hz1 hzb rfl (by omega) v l.length (l.map fun x => .int .i32 (x : Nat)) rfl (hown.alloc _) ⟨wr.heap.size, 0, none⟩ 1 1 [.int .i32 (s : Int)] rfl rfl (World.news_of_block (cs := #[.int .i32 (s : Int)]) (t := 21) (fr := (0, 0)) (heap_alloc_new wr _)) (by simp [Value.oneCell']) (by omega) (by unfold maxLen; omega) (by omega) (by simp; omega) (wr.heap.size + 1) (by simp) ?_; intro gg cap1 w3 hown1 hgrow hat hlt1)
                          go_roundw
                          case rel => exact ⟨s + 1, _, by omega, by go_num, rfl, by rw [HS2.out]; exact own_snoc (y := s) hown1, (hb.alloc hsz _).grown hgrow (by simp; omega) (fun k hk => (HL.out k hk).1)⟩
                          case measure => simp [intOf]; omega
                        · have ht' : tch A N s x = false := by simpa using ht
                          have HS2 : Hid (wantS A N x (s + 1) = wantS A N x s) := by
                            show wantS _ _ _ _ = _
                            rw [HST.out, ht']; rfl
                          rw [ht'] at t0
                          clear ht ht' HST
                          go_wp2_with fail
                          go_roundw
                          case rel => exact ⟨s + 1, _, by omega, by go_num, rfl, by rw [HS2.out]; exact hown, hb⟩
                          case measure => simp [intOf]; omega
                      · obtain rfl : S = s := by omega
                        obtain ⟨av, cv, rfl, hi32⟩ := i32s_of_own hown
                        clear hown hsl hs
                        go_wp2_with fail
                        refine (of_any d1 (S + K) (S + x) _ gs1 _ _ m m _ (HS1.out.below hb) (by omega) (by omega) (by omega)).mono ?_
                        rintro e w3 ⟨a3, c3, rfl, hi3, dd3, rfl⟩
                        rw [HSO.out] at hi3 ⊢
                        have hi4 := hi3 _ (HS1.out.below (below_drewN hb dd3))
                        have hle := wantS_le A N x S
                        clear hi3
                        go_wp2_with fail
                        refine (eq_any a3 av c3 cv (wantS A N x S) _ (by omega) hi4 (hi32.below (below_self _ _))).mono ?_
                        rintro e w3 ⟨rfl, d4, rfl⟩
                        go_wp2_with fail
                        refine (of_any d0 (S + K) (S + x) _ gs0 _ _ m m _ (HS0.out.below (below_drewN hb _)) (by omega) (by omega) (by omega)).mono ?_
                        rintro e w3 ⟨a5, c5, rfl, hi5, d5, rfl⟩
                        rw [HKO.out]
                        clear hi5 hi4 hi32
                        go_wp2_with fail
                        go_roundw
                        case rel => exact ⟨x + 1, by omega, by go_num, below_drewN hb _⟩
                        case measure => simp [intOf]; omega
                  · have hw' : wrt A N x = false := by simpa using hw
                    rw [hw'] at t1
                    rw [if_neg hw] at hso
                    have HSO : Hid (rev (Mt A N S) (S + K) (S + x) = []) := hso
                    have HKO : Hid (rev (rev (Mt A N S) (S + K)) (S + K) (S + x) = []) := hko
                    clear hw hw' hso hko
                    go_wp2_with fail
                    refine (of_any d1 (S + K) (S + x) _ gs1 _ _ m m _ (HS1.out.below hb) (by omega) (by omega) (by omega)).mono ?_
                    rintro e w3 ⟨a3, c3, rfl, hi3, dd3, rfl⟩
                    rw [HSO.out]
                    clear hi3
                    go_wp2_with fail
                    refine (eq_any a3 none c3 0 [] _ (by simp) (.inl rfl) (.inl rfl)).mono ?_
                    rintro e w3 ⟨rfl, d4, rfl⟩
                    go_wp2_with fail
                    refine (of_any d0 (S + K) (S + x) _ gs0 _ _ m m _ (HS0.out.below (below_drewN hb _)) (by omega) (by omega) (by omega)).mono ?_
                    rintro e w3 ⟨a5, c5, rfl, hi5, d5, rfl⟩
                    rw [HKO.out]
                    clear hi5
                    go_wp2_with fail
                    go_roundw
                    case rel => exact ⟨x + 1, by omega, by go_num, below_drewN hb _⟩
                    case measure => simp [intOf]; omega
                · obtain rfl : K = x := by omega
                  go_wp2_with fail
                  go_ret
                  exact ⟨rfl, HM.out.2.2.trans (hb.mono HM.out.2.2.size)⟩

end Go.Proofs.Ybulkaebg

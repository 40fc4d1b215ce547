/-
  LawS1501BGraph over toys/ybulkaebg: zzs1501bbuild.
-/
import Derived.Test.YbulkaebgIn
namespace Go.Proofs.Ybulkaebg
open Go.RowKit
attribute [local go_sem ↓] Go.wp_at_zero Go.wp_at_succ
def attZ : Value := .agg #[.int .i64 0, .int .i64 0, .bool false, .bool false, .int .u32 0, .int .u32 0, .int .u32 0]
def opZ : Value := .agg #[.int .i64 0, .int .i64 0, .bool false, .bool false, .int .u32 0]
theorem Yba.info51 : (Yba.prog.info? 51).map (fun i => (i.zero, i.size, i.bytes)) = some (some attZ, 7, 32) := by kernel_rfl
theorem Yba.info54 : (Yba.prog.info? 54).map (fun i => (i.zero, i.size, i.bytes)) = some (some opZ, 5, 24) := by kernel_rfl
theorem Yba.info9 : (Yba.prog.info? 9).map (fun i => (i.zero, i.size, i.bytes)) = some (some (.string ByteArray.empty), 1, 16) := by kernel_rfl

/-- What build hands back. -/
def BP (w : World) (S K n : Nat) (X : Nat → XAtt) (e : Ending) (w' : World) : Prop :=
  ∃ bh N ga ca gb ao co gk gse, e = .returned (.tuple #[.pointer (some ⟨bh, 0, none⟩), .int .i64 S, .int .i64 K]) ∧ Hist w' bh N S K (AA S K X) ga ca gb ao co gk gse ∧ N = (if S = 0 then 0 else n) ∧ Below w.heap.size w w'

set_option maxRecDepth 100000 in
set_option maxHeartbeats 4000000 in
theorem build_any (s k S K : Nat) (ad : Option Addr) (n cap : Nat) (X : Nat → XAtt) (w : World) (hI : Inp w ad n X) (hn : n ≤ 1024) (hO : pre (fun i => (X i).l.length) n ≤ 8192) (hs : s < 256) (hk : k < 256) (hS : S = s % 9) (hK : K = k % 9) :
    Calls Yba.prog 4 #[.int .u8 s, .int .u8 k, .slice ad n cap] w fun e w' => BP w S K n X e w' := by
  have hS8 : S ≤ 8 := by omega
  have hK8 : K ≤ 8 := by omega
  have eS : (s : Int) % 9 = (S : Int) := by omega
  have eK : (k : Int) % 9 = (K : Int) := by omega
  obtain ⟨i1, hi1, hz0, hz1, hz2⟩ := info_parts Yba.info51
  clear hS hK
  go_enter Yba.func4, Yba.ntmps4
  go_wp2_with (at_make; refine wpList_make_own _ rfl _ _ 30 rfl w.heap.size 51 i1 attZ 7 Yba.underlying30 hi1 hz0 hz1 .i64 .i64 _ n rfl rfl rfl (by rw [hz2]; omega) (by unfold maxLen; omega) (Nat.le_refl _) ?_; intro w1 hown1 hgrow1)
  have hB1 : BS w w1 (AA S K X) 0 [] (.slice none 0 0) (.slice (some ⟨w.heap.size, 0, none⟩) 0 n) := ⟨hown1, World.ownsRow_nil _ _ _ _, .inl rfl, ⟨_, rfl⟩, (Below.refl _ _).grown hgrow1 (Nat.le_refl _) (by simp)⟩
  have HI : Hid (Inp w ad n X) := hI
  have hOn : os (AA S K X) n ≤ 8192 := Nat.le_trans (aa_os S K X n) hO
  clear hown1 hgrow1 hI eS eK hO
  go_loopw [11, 12, 13] (fun vo va c wr => ∃ (i : Nat) (ao : Option Addr) (co ga ca : Nat), i ≤ n ∧ (i ≠ 0 → S ≠ 0) ∧ c = .int .i64 i ∧ vo = .slice ao (os (AA S K X) i) co ∧ va = .slice (some ⟨ga, 0, none⟩) i ca ∧ BS w wr (AA S K X) i [] (.slice ao (os (AA S K X) i) co) (.slice (some ⟨ga, 0, none⟩) i ca)) (fun _ _ c _ => n - (intOf c).toNat)
  case atStart => exact ⟨0, none, 0, w.heap.size, n, Nat.zero_le _, by simp, rfl, rfl, rfl, hB1⟩
  case round =>
    clear hB1
    obtain ⟨i, ao, co, ga, ca, hi, hi0, rfl, rfl, rfl, hB⟩ := hrel
    have hoi : os (AA S K X) i ≤ 8192 := Nat.le_trans (os_mono _ hi) hOn
    by_cases hlt : i < n ∧ S ≠ 0
    · obtain ⟨hlt, hS0⟩ := hlt
      obtain ⟨g, off, rfl, hc⟩ := HI.out.row.resolve_left (by omega)
      obtain ⟨r0, r1, r2⟩ := hc i hlt
      have hgl := block_lt_of_cell r0
      simp only at hgl
      replace r0 := (hB.bel.cell (p := ⟨g, off + i * 3, none⟩) hgl).trans r0
      replace r1 := (hB.bel.cell (p := ⟨g, off + i * 3 + 1, none⟩) hgl).trans r1
      replace r2 := (hB.bel.cell (p := ⟨g, off + i * 3 + 2, none⟩) hgl).trans r2
      have z1 : (0 : Int) < (S : Int) := by omega
      have hsz := hB.bel.size
      have hglr : g < wr.heap.size := by omega
      clear hc
      have z1' : 0 < S := by omega
      go_upto_if 45 with fail
      obtain ⟨bw, hbw⟩ : ∃ b, b = wr.heap.size := ⟨_, rfl⟩
      rw [← hbw]
      have hheap : (wr.alloc (.cells #[.int .u8 ((X i).s : Nat), .bool (X i).c, .slice (X i).a (X i).l.length (X i).cap] 25)).heap[bw]? = some (.cells #[.int .u8 ((X i).s : Nat), .bool (X i).c, .slice (X i).a (X i).l.length (X i).cap] 25 (0, 0)) := by rw [hbw]; exact heap_alloc_new wr _
      have hBW := hB.alloc (.cells #[.int .u8 ((X i).s : Nat), .bool (X i).c, .slice (X i).a (X i).l.length (X i).cap] 25)
      generalize World.alloc wr _ = W at hheap hBW ⊢
      have hst := os_succ (AA S K X) i
      have hle := os_mono (AA S K X) (a := i + 1) (b := n) hlt
      clear r0 r1 r2 hglr hbw hB hsz
      go_cut [11] (fun v wc => ∃ (ao : Option Addr) (co : Nat), v = .slice ao (os (AA S K X) (i + 1)) co ∧ BS w wc (AA S K X) i (AA S K X i).o (.slice ao (os (AA S K X) (i + 1)) co) (.slice (some ⟨ga, 0, none⟩) i ca) ∧ wc.heap[bw]? = some (.cells #[.int .u8 ((X i).s : Nat), .bool (X i).c, .slice (X i).a (X i).l.length (X i).cap] 25 (0, 0)))
      case first =>
        by_cases hK0 : K = 0
        · subst hK0
          go_wp2_with fail
          go_meet
          case rel => exact ⟨ao, co, by rw [os_succ, aa_nil]; rfl, by rw [os_succ, aa_nil]; exact hBW, hheap⟩
        · have z2 : (0 : Int) < (K : Int) := by omega
          have z2' : 0 < K := by omega
          have f2 := cells_at (i := 2) hheap rfl
          have hlx : (AA S K X i).o.length = (X i).l.length := aa_len hK0
          have hlb : (X i).l.length ≤ 8192 := by omega
          rw [show decide (0 < K) = true from decide_eq_true z2']
          go_wp2_with fail
          go_loopw [11, 49] (fun v c wr => ∃ (j : Nat) (ao : Option Addr) (co : Nat), j ≤ (X i).l.length ∧ c = .int .i64 j ∧ v = .slice ao (os (AA S K X) i + j) co ∧ BS w wr (AA S K X) i ((AA S K X i).o.take j) (.slice ao (os (AA S K X) i + j) co) (.slice (some ⟨ga, 0, none⟩) i ca) ∧ wr.heap[bw]? = some (.cells #[.int .u8 ((X i).s : Nat), .bool (X i).c, .slice (X i).a (X i).l.length (X i).cap] 25 (0, 0))) (fun _ c _ => (X i).l.length - (intOf c).toNat)
          case atStart => exact ⟨0, ao, co, Nat.zero_le _, rfl, rfl, hBW, hheap⟩
          case round =>
            clear hBW hheap f2
            obtain ⟨j, ao, co, hj, rfl, rfl, hB, hheap⟩ := hrel
            by_cases hjl : j < (X i).l.length
            · obtain ⟨gx, ox, hxa, hcx⟩ := (HI.out.ops i hlt).resolve_left (fun e => by simp [e] at hjl)
              obtain ⟨x0, x1⟩ := hcx j hjl
              have hgx := block_lt_of_cell x0
              simp only at hgx
              have hsz := hB.bel.size
              replace x0 := (hB.bel.cell (p := ⟨gx, ox + j * 2, none⟩) hgx).trans x0
              replace x1 := (hB.bel.cell (p := ⟨gx, ox + j * 2 + 1, none⟩) hgx).trans x1
              have hgxr : gx < wr.heap.size := by omega
              clear hcx
              have HXA : Hid ((X i).a = some ⟨gx, ox, none⟩) := hxa
              rw [hxa]
              have hp := (HI.out.rng i hlt).2 _ (List.getElem_mem hjl)
              have htk : (AA S K X i).o.take (j + 1) = (AA S K X i).o.take j ++ [((X i).l[j].1 % K, (X i).l[j].2)] := by
                rw [List.take_succ_eq_append_getElem (by omega), aa_at hK0 (by omega) hjl]
              have HTK : Hid ((AA S K X i).o.take (j + 1) = (AA S K X i).o.take j ++ [((X i).l[j].1 % K, (X i).l[j].2)]) := htk
              clear htk
              generalize (X i).l[j] = p at *
              obtain ⟨q, hq⟩ : ∃ q, q = p.1 % K := ⟨_, rfl⟩
              rw [← hq] at HTK
              have hqK : q < K := by rw [hq]; exact Nat.mod_lt _ z2'
              have hmod : (p.1 : Int) % (K : Int) = (q : Int) := by rw [hq]; exact (Int.natCast_emod _ _).symm
              have hmod2 : (p.1 : Int).tmod (K : Int) = (q : Int) := by rw [Int.tmod_eq_emod_of_nonneg (by omega)]; exact hmod
              have z3 : ¬ (K : Int) = 0 := by omega
              have z4 : IntKind.i64.wrap (p.1 : Int) = (p.1 : Int) := by rw [IntKind.wrap_i64]; omega
              have hlen : (allO (AA S K X) i ++ (AA S K X i).o.take j).length = os (AA S K X) i + j := by rw [List.length_append, allO_len, List.length_take]; omega
              clear hq
              go_wp2_with fail
              generalize hWe : World.alloc wr _ = W2
              have f0 : W2.cell? ⟨wr.heap.size, 0, none⟩ = some (.int .u8 (p.1 : Nat)) := by rw [← hWe]; simp
              have f1 : W2.cell? ⟨wr.heap.size, 1, none⟩ = some (.bool p.2) := by rw [← hWe]; simp
              have HB : Hid (BS w W2 (AA S K X) i ((AA S K X i).o.take j) (.slice ao (os (AA S K X) i + j) co) (.slice (some ⟨ga, 0, none⟩) i ca)) := by rw [← hWe]; exact hB.alloc _
              have HL : Hid (∀ k, (Value.slice ao (os (AA S K X) i + j) co).ownBlock = some k → w.heap.size ≤ k ∧ k < wr.heap.size) := hB.oo.lt
              have HH : Hid (W2.heap[bw]? = some (.cells #[.int .u8 ((X i).s : Nat), .bool (X i).c, .slice (X i).a (X i).l.length (X i).cap] 25 (0, 0))) := by
                rw [← hWe]; exact (Below.heap_alloc _ _ _ (Array.getElem?_eq_some_iff.1 hheap).1).trans hheap
              have hWs : wr.heap.size + 1 = W2.heap.size := by rw [← hWe]; simp
              have HO : Hid (W2.ownsRow w.heap.size 54 5 (.slice ao (os (AA S K X) i + j) co) (os (AA S K X) i + j) (flatO (allO (AA S K X) i ++ (AA S K X i).o.take j))) := by have := HB.out.oo; rw [hlen] at this; exact this
              have HLEN : Hid ((allO (AA S K X) i ++ (AA S K X i).o.take j).length = os (AA S K X) i + j) := hlen
              have HBL : Hid (bw < W2.heap.size) := (Array.getElem?_eq_some_iff.1 HH.out).1
              obtain ⟨i2, hi2, hy0, hy1, hy2⟩ := info_parts Yba.info54
              clear hWe hB hheap x0 x1 hgxr hxa hlen hgx
              go_region_held3 (fun w' => w'.cell? ⟨wr.heap.size, 0, none⟩ = some (.int .u8 (p.1 : Nat)) ∧ w'.cell? ⟨wr.heap.size, 1, none⟩ = some (.bool p.2))
                (first
                  | (go_split_ands; refine ⟨?_, ?_⟩ <;> first | go_keep | (rw [hgrow.cell_far _ (by simp; omega) (fun e => by have := HL.out _ e.symm; simp at this)]; assumption)))
                (first
                  | ((refine step_append_lies _ (by rfl) _ _ _ (by rfl) w.heap.size 54 i2 opZ 5 24 Yba.underlying52 hi2 hy0 hy1 hy2 rfl (by omega) (.slice ao (os (AA S K X) i + j) co) (os (AA S K X) i + j) (flatO (allO (AA S K X) i ++ (AA S K X i).o.take j)) (by rfl) ((HO.out.alloc _).drew) ⟨W2.heap.size, 0, none⟩ 1 1 (opV (q, p.2)) (by rfl) (by rfl) (World.news_of_block (cs := #[.int .i64 (q : Int), .int .i64 0, .bool p.2, .bool false, .int .u32 0]) (t := 54) (fr := (0, 0)) (heap_alloc_new W2 _)) (by simp [Value.oneCell', opV]) (by omega) (by unfold maxLen; omega) (by omega) (by simp; omega) (W2.heap.size + 1) (by simp) ?_; intro gg cap1 w2 hown2 hgrow hat hlt2)))
              have hb3 : BS w w2 (AA S K X) i ((AA S K X i).o.take (j + 1)) (.slice (some ⟨gg, 0, none⟩) (os (AA S K X) i + (j + 1)) cap1) (.slice (some ⟨ga, 0, none⟩) i ca) := by
                have := ((HB.out.alloc (.cells #[.int .i64 (q : Int), .int .i64 0, .bool p.2, .bool false, .int .u32 0] 54)).drew).appO (p := (q, p.2)) (g := gg) (cap := cap1) (w2 := w2) (by rw [HLEN.out]; exact hown2) hgrow (hat.imp id (fun h => by simpa using h))
                rw [HLEN.out] at this
                rw [HTK.out]
                exact this
              have hh3 : w2.heap[bw]? = some (.cells #[.int .u8 ((X i).s : Nat), .bool (X i).c, .slice (X i).a (X i).l.length (X i).cap] 25 (0, 0)) :=
                (hgrow.block bw (by have := HBL.out; simp; omega) (fun e => (HB.out.far HH.out (by decide) (by decide)).1 e.symm)).trans ((Below.heap_alloc _ _ _ HBL.out).trans HH.out)
              go_wp2_with fail
              rw [← HXA.out]
              go_roundw
              case rel => exact ⟨j + 1, _, _, by omega, by go_num, rfl, hb3, hh3⟩
              case measure => simp [intOf]; omega
            · obtain rfl : j = (X i).l.length := by omega
              go_wp2_with fail
              go_meet
              case rel => exact ⟨ao, co, by rw [hst, hlx], by rw [hst, hlx]; rw [← hlx, List.take_length] at hB; rw [hlx] at hB; exact hB, hheap⟩
      case rest =>
        clear hBW hheap
        obtain ⟨ao, co, rfl, hB, hheap⟩ := hcut
        have hx := (HI.out.rng i hlt).1
        obtain ⟨q, hq⟩ : ∃ q, q = (X i).s % S := ⟨_, rfl⟩
        have hqA : (AA S K X i).s = q := by rw [hq]; rfl
        have HV : Hid (attV (AA S K X) i = [.int .i64 ((i : Int) + 1), .int .i64 (q : Nat), .bool (X i).c, .bool false, .int .u32 1, .int .u32 (os (AA S K X) i : Nat), .int .u32 ((AA S K X i).o.length : Nat)]) := by
          show attV _ _ = _
          unfold attV; rw [hqA]; rfl
        have hmod : ((X i).s : Int) % (S : Int) = (q : Int) := by rw [hq]; exact (Int.natCast_emod _ _).symm
        have hmod2 : ((X i).s : Int).tmod (S : Int) = (q : Int) := by rw [Int.tmod_eq_emod_of_nonneg (by omega)]; exact hmod
        have z3 : ¬ (S : Int) = 0 := by omega
        have z4 : IntKind.i64.wrap ((X i).s : Int) = ((X i).s : Int) := by rw [IntKind.wrap_i64]; omega
        have z5 : IntKind.u32.wrap (os (AA S K X) i : Int) = (os (AA S K X) i : Int) := by rw [IntKind.wrap_u32]; omega
        have z6 : (os (AA S K X) (i + 1) : Int) - (os (AA S K X) i : Int) = ((AA S K X i).o.length : Int) := by omega
        have z7 : IntKind.u32.wrap ((AA S K X i).o.length : Int) = ((AA S K X i).o.length : Int) := by rw [IntKind.wrap_u32]; omega
        have z8 : IntKind.i64.wrap ((i : Int) + 1) = (i : Int) + 1 := by rw [IntKind.wrap_i64]; omega
        have z9 : IntKind.i64.wrap ((AA S K X i).o.length : Int) = ((AA S K X i).o.length : Int) := by rw [IntKind.wrap_i64]; omega
        have f0 := cells_at (i := 0) hheap rfl
        have f1 := cells_at (i := 1) hheap rfl
        have hbw : bw < wc.heap.size := (Array.getElem?_eq_some_iff.1 hheap).1
        have hsz := hB.bel.size
        have HB : Hid (BS w wc (AA S K X) i (AA S K X i).o (.slice ao (os (AA S K X) (i + 1)) co) (.slice (some ⟨ga, 0, none⟩) i ca)) := hB
        have HF : Hid ((Value.slice (some ⟨ga, 0, none⟩) i ca).ownBlock ≠ some bw) := (hB.far hheap (by decide) (by decide)).2
        clear hq hqA hheap hB hst hle
        go_wp2_with fail
        go_region_held3 (fun w' => w'.cell? ⟨bw, 0, none⟩ = some (.int .u8 ((X i).s : Nat)) ∧ w'.cell? ⟨bw, 1, none⟩ = some (.bool (X i).c))
          (first
            | (go_split_ands; refine ⟨?_, ?_⟩ <;> first | go_keep | (rw [hgrow.cell_far _ (by simp; omega) (fun e => HF.out e.symm)]; assumption)))
          (first
            | ((refine step_append_lies _ (by rfl) _ _ _ (by rfl) w.heap.size 51 i1 attZ 7 32 Yba.underlying30 hi1 hz0 hz1 hz2 rfl (by omega) (.slice (some ⟨ga, 0, none⟩) i ca) i (flatA (AA S K X) i) (by rfl) ((HB.out.oa.alloc _).drew) ⟨wc.heap.size, 0, none⟩ 1 1 [.int .i64 ((i : Int) + 1), .int .i64 (q : Nat), .bool (X i).c, .bool false, .int .u32 1, .int .u32 (os (AA S K X) i : Nat), .int .u32 ((AA S K X i).o.length : Nat)] (by rfl) (by rfl) (World.news_of_block (cs := #[.int .i64 ((i : Int) + 1), .int .i64 (q : Nat), .bool (X i).c, .bool false, .int .u32 1, .int .u32 (os (AA S K X) i : Nat), .int .u32 ((AA S K X i).o.length : Nat)]) (t := 51) (fr := (0, 0)) (heap_alloc_new wc _)) (by simp [Value.oneCell']) (by omega) (by unfold maxLen; omega) (by omega) (by simp; omega) (wc.heap.size + 1) (by simp) ?_; intro gg cap1 w2 hown2 hgrow hat hlt2)))
        have hb3 : BS w w2 (AA S K X) (i + 1) [] (.slice ao (os (AA S K X) (i + 1)) co) (.slice (some ⟨gg, 0, none⟩) (i + 1) cap1) :=
          ((HB.out.alloc (.cells #[.int .i64 ((i : Int) + 1), .int .i64 (q : Nat), .bool (X i).c, .bool false, .int .u32 1, .int .u32 (os (AA S K X) i : Nat), .int .u32 ((AA S K X i).o.length : Nat)] 51)).drew).appA (by rw [HV.out]; exact hown2) hgrow (hat.imp id (fun h => by simpa using h))
        go_wp2_with fail
        go_roundw
        case rel => exact ⟨i + 1, ao, co, gg, cap1, by omega, fun _ => hS0, by go_num, rfl, rfl, hb3⟩
        case measure => simp [intOf]; omega
    · have HN : Hid (i = if S = 0 then 0 else n) := by
        show i = _
        split
        · rename_i h
          by_cases h2 : i = 0
          · exact h2
          · exact absurd h (hi0 h2)
        · rename_i h
          by_cases h2 : i < n
          · exact absurd ⟨h2, h⟩ hlt
          · omega
      have hmk1 := run_make_row' (P := Yba.prog) 34 9 (.string ByteArray.empty) 16 Yba.underlying34 Yba.info9 rfl .i64 .i64 K (by omega) (by omega)
      have hmk2 := run_make_row' (P := Yba.prog) 34 9 (.string ByteArray.empty) 16 Yba.underlying34 Yba.info9 rfl .i64 .i64 S (by omega) (by omega)
      have hsz := hB.bel.size
      have hex : (i = n) ∨ (i < n ∧ S = 0) := by
        by_cases h : i < n
        · exact .inr ⟨h, by by_cases h2 : S = 0; exact h2; exact absurd ⟨h, h2⟩ hlt⟩
        · exact .inl (by omega)
      clear hlt
      rcases hex with rfl | ⟨hlt, hS0⟩
      · have hsS : ∀ j, j < i → (AA S K X j).s < S := fun j hj => aa_s (hi0 (by omega))
        go_upto_region 17 with fail
        go_cut [18] (fun v wc => ∃ (bh gb gk gse : Nat), v = .pointer (some ⟨bh, 0, none⟩) ∧ Hist wc bh i S K (AA S K X) ga ca gb ao co gk gse ∧ Below w.heap.size w wc)
        case first =>
          go_region
          all_goals go_wp2_with fail
          all_goals go_meet
          all_goals
            case rel =>
              first
              | (refine ⟨_, wr.heap.size, wr.heap.size + 1, wr.heap.size + 1 + 1, rfl, (hist_of hB ?_ ?_ ?_ ?_ ?_ ?_ (by omega) (by first | omega | exact Nat.le_trans (os_mono _ (Nat.le_of_lt hlt)) hOn) hS8 hK8 (fun i hi => hsS i hi) (fun i _ => aa_k)), ?_⟩
                 · exact (((((Below.refl _ _).alloc (by first | omega | (simp; done)) _).alloc (by first | omega | (simp; done) | (simp; omega)) _).alloc (by first | omega | (simp; done) | (simp; omega)) _).alloc (by first | omega | (simp; done) | (simp; omega)) _).drew
                 · go_simp
                 · (go_simp; done)
                 · (go_simp; done)
                 · (go_simp; done)
                 · (go_simp; done)
                 · exact (((((hB.bel).alloc (by first | omega | (simp; done) | (simp; omega)) _).alloc (by first | omega | (simp; done) | (simp; omega)) _).alloc (by first | omega | (simp; done) | (simp; omega)) _).alloc (by first | omega | (simp; done) | (simp; omega)) _).drew)
              | (refine ⟨_, wr.heap.size, wr.heap.size + 1 + 1, wr.heap.size + 1, rfl, (hist_of hB ?_ ?_ ?_ ?_ ?_ ?_ (by omega) (by first | omega | exact Nat.le_trans (os_mono _ (Nat.le_of_lt hlt)) hOn) hS8 hK8 (fun i hi => hsS i hi) (fun i _ => aa_k)), ?_⟩
                 · exact (((((Below.refl _ _).alloc (by first | omega | (simp; done)) _).alloc (by first | omega | (simp; done) | (simp; omega)) _).alloc (by first | omega | (simp; done) | (simp; omega)) _).alloc (by first | omega | (simp; done) | (simp; omega)) _).drew
                 · go_simp
                 · (go_simp; done)
                 · (go_simp; done)
                 · (go_simp; done)
                 · (go_simp; done)
                 · exact (((((hB.bel).alloc (by first | omega | (simp; done) | (simp; omega)) _).alloc (by first | omega | (simp; done) | (simp; omega)) _).alloc (by first | omega | (simp; done) | (simp; omega)) _).alloc (by first | omega | (simp; done) | (simp; omega)) _).drew)
              | (refine ⟨_, wr.heap.size + 1, wr.heap.size, wr.heap.size + 1 + 1, rfl, (hist_of hB ?_ ?_ ?_ ?_ ?_ ?_ (by omega) (by first | omega | exact Nat.le_trans (os_mono _ (Nat.le_of_lt hlt)) hOn) hS8 hK8 (fun i hi => hsS i hi) (fun i _ => aa_k)), ?_⟩
                 · exact (((((Below.refl _ _).alloc (by first | omega | (simp; done)) _).alloc (by first | omega | (simp; done) | (simp; omega)) _).alloc (by first | omega | (simp; done) | (simp; omega)) _).alloc (by first | omega | (simp; done) | (simp; omega)) _).drew
                 · go_simp
                 · (go_simp; done)
                 · (go_simp; done)
                 · (go_simp; done)
                 · (go_simp; done)
                 · exact (((((hB.bel).alloc (by first | omega | (simp; done) | (simp; omega)) _).alloc (by first | omega | (simp; done) | (simp; omega)) _).alloc (by first | omega | (simp; done) | (simp; omega)) _).alloc (by first | omega | (simp; done) | (simp; omega)) _).drew)
              | (refine ⟨_, wr.heap.size + 1, wr.heap.size + 1 + 1, wr.heap.size, rfl, (hist_of hB ?_ ?_ ?_ ?_ ?_ ?_ (by omega) (by first | omega | exact Nat.le_trans (os_mono _ (Nat.le_of_lt hlt)) hOn) hS8 hK8 (fun i hi => hsS i hi) (fun i _ => aa_k)), ?_⟩
                 · exact (((((Below.refl _ _).alloc (by first | omega | (simp; done)) _).alloc (by first | omega | (simp; done) | (simp; omega)) _).alloc (by first | omega | (simp; done) | (simp; omega)) _).alloc (by first | omega | (simp; done) | (simp; omega)) _).drew
                 · go_simp
                 · (go_simp; done)
                 · (go_simp; done)
                 · (go_simp; done)
                 · (go_simp; done)
                 · exact (((((hB.bel).alloc (by first | omega | (simp; done) | (simp; omega)) _).alloc (by first | omega | (simp; done) | (simp; omega)) _).alloc (by first | omega | (simp; done) | (simp; omega)) _).alloc (by first | omega | (simp; done) | (simp; omega)) _).drew)
              | (refine ⟨_, wr.heap.size + 1 + 1, wr.heap.size, wr.heap.size + 1, rfl, (hist_of hB ?_ ?_ ?_ ?_ ?_ ?_ (by omega) (by first | omega | exact Nat.le_trans (os_mono _ (Nat.le_of_lt hlt)) hOn) hS8 hK8 (fun i hi => hsS i hi) (fun i _ => aa_k)), ?_⟩
                 · exact (((((Below.refl _ _).alloc (by first | omega | (simp; done)) _).alloc (by first | omega | (simp; done) | (simp; omega)) _).alloc (by first | omega | (simp; done) | (simp; omega)) _).alloc (by first | omega | (simp; done) | (simp; omega)) _).drew
                 · go_simp
                 · (go_simp; done)
                 · (go_simp; done)
                 · (go_simp; done)
                 · (go_simp; done)
                 · exact (((((hB.bel).alloc (by first | omega | (simp; done) | (simp; omega)) _).alloc (by first | omega | (simp; done) | (simp; omega)) _).alloc (by first | omega | (simp; done) | (simp; omega)) _).alloc (by first | omega | (simp; done) | (simp; omega)) _).drew)
              | (refine ⟨_, wr.heap.size + 1 + 1, wr.heap.size + 1, wr.heap.size, rfl, (hist_of hB ?_ ?_ ?_ ?_ ?_ ?_ (by omega) (by first | omega | exact Nat.le_trans (os_mono _ (Nat.le_of_lt hlt)) hOn) hS8 hK8 (fun i hi => hsS i hi) (fun i _ => aa_k)), ?_⟩
                 · exact (((((Below.refl _ _).alloc (by first | omega | (simp; done)) _).alloc (by first | omega | (simp; done) | (simp; omega)) _).alloc (by first | omega | (simp; done) | (simp; omega)) _).alloc (by first | omega | (simp; done) | (simp; omega)) _).drew
                 · go_simp
                 · (go_simp; done)
                 · (go_simp; done)
                 · (go_simp; done)
                 · (go_simp; done)
                 · exact (((((hB.bel).alloc (by first | omega | (simp; done) | (simp; omega)) _).alloc (by first | omega | (simp; done) | (simp; omega)) _).alloc (by first | omega | (simp; done) | (simp; omega)) _).alloc (by first | omega | (simp; done) | (simp; omega)) _).drew)
        case rest =>
          obtain ⟨bh, gb, gk, gse, rfl, hH, hbc⟩ := hcut
          clear hmk1 hmk2 hB
          go_wp2_with fail
          go_ret3
          exact ⟨bh, _, _, _, _, _, _, _, _, rfl, hH, HN.out, hbc⟩
      · subst hS0
        obtain rfl : i = 0 := by by_cases h : i = 0; exact h; exact absurd rfl (hi0 h)
        rw [show ((0 : Nat) : Int) = 0 from rfl] at hmk2
        go_upto_region 17 with fail
        go_cut [18] (fun v wc => ∃ (bh gb gk gse : Nat), v = .pointer (some ⟨bh, 0, none⟩) ∧ Hist wc bh 0 0 K (AA 0 K X) ga ca gb ao co gk gse ∧ Below w.heap.size w wc)
        case first =>
          go_region
          all_goals go_wp2_with fail
          all_goals go_meet
          all_goals
            case rel =>
              first
              | (refine ⟨_, wr.heap.size, wr.heap.size + 1, wr.heap.size + 1 + 1, rfl, (hist_of hB ?_ ?_ ?_ ?_ ?_ ?_ (by omega) (by first | omega | exact Nat.le_trans (os_mono _ (Nat.le_of_lt hlt)) hOn) hS8 hK8 (fun i hi => absurd hi (by omega)) (fun i _ => aa_k)), ?_⟩
                 · exact (((((Below.refl _ _).alloc (by first | omega | (simp; done)) _).alloc (by first | omega | (simp; done) | (simp; omega)) _).alloc (by first | omega | (simp; done) | (simp; omega)) _).alloc (by first | omega | (simp; done) | (simp; omega)) _).drew
                 · go_simp
                 · (go_simp; done)
                 · (go_simp; done)
                 · (go_simp; done)
                 · (go_simp; done)
                 · exact (((((hB.bel).alloc (by first | omega | (simp; done) | (simp; omega)) _).alloc (by first | omega | (simp; done) | (simp; omega)) _).alloc (by first | omega | (simp; done) | (simp; omega)) _).alloc (by first | omega | (simp; done) | (simp; omega)) _).drew)
              | (refine ⟨_, wr.heap.size, wr.heap.size + 1 + 1, wr.heap.size + 1, rfl, (hist_of hB ?_ ?_ ?_ ?_ ?_ ?_ (by omega) (by first | omega | exact Nat.le_trans (os_mono _ (Nat.le_of_lt hlt)) hOn) hS8 hK8 (fun i hi => absurd hi (by omega)) (fun i _ => aa_k)), ?_⟩
                 · exact (((((Below.refl _ _).alloc (by first | omega | (simp; done)) _).alloc (by first | omega | (simp; done) | (simp; omega)) _).alloc (by first | omega | (simp; done) | (simp; omega)) _).alloc (by first | omega | (simp; done) | (simp; omega)) _).drew
                 · go_simp
                 · (go_simp; done)
                 · (go_simp; done)
                 · (go_simp; done)
                 · (go_simp; done)
                 · exact (((((hB.bel).alloc (by first | omega | (simp; done) | (simp; omega)) _).alloc (by first | omega | (simp; done) | (simp; omega)) _).alloc (by first | omega | (simp; done) | (simp; omega)) _).alloc (by first | omega | (simp; done) | (simp; omega)) _).drew)
              | (refine ⟨_, wr.heap.size + 1, wr.heap.size, wr.heap.size + 1 + 1, rfl, (hist_of hB ?_ ?_ ?_ ?_ ?_ ?_ (by omega) (by first | omega | exact Nat.le_trans (os_mono _ (Nat.le_of_lt hlt)) hOn) hS8 hK8 (fun i hi => absurd hi (by omega)) (fun i _ => aa_k)), ?_⟩
                 · exact (((((Below.refl _ _).alloc (by first | omega | (simp; done)) _).alloc (by first | omega | (simp; done) | (simp; omega)) _).alloc (by first | omega | (simp; done) | (simp; omega)) _).alloc (by first | omega | (simp; done) | (simp; omega)) _).drew
                 · go_simp
                 · (go_simp; done)
                 · (go_simp; done)
                 · (go_simp; done)
                 · (go_simp; done)
                 · exact (((((hB.bel).alloc (by first | omega | (simp; done) | (simp; omega)) _).alloc (by first | omega | (simp; done) | (simp; omega)) _).alloc (by first | omega | (simp; done) | (simp; omega)) _).alloc (by first | omega | (simp; done) | (simp; omega)) _).drew)
              | (refine ⟨_, wr.heap.size + 1, wr.heap.size + 1 + 1, wr.heap.size, rfl, (hist_of hB ?_ ?_ ?_ ?_ ?_ ?_ (by omega) (by first | omega | exact Nat.le_trans (os_mono _ (Nat.le_of_lt hlt)) hOn) hS8 hK8 (fun i hi => absurd hi (by omega)) (fun i _ => aa_k)), ?_⟩
                 · exact (((((Below.refl _ _).alloc (by first | omega | (simp; done)) _).alloc (by first | omega | (simp; done) | (simp; omega)) _).alloc (by first | omega | (simp; done) | (simp; omega)) _).alloc (by first | omega | (simp; done) | (simp; omega)) _).drew
                 · go_simp
                 · (go_simp; done)
                 · (go_simp; done)
                 · (go_simp; done)
                 · (go_simp; done)
                 · exact (((((hB.bel).alloc (by first | omega | (simp; done) | (simp; omega)) _).alloc (by first | omega | (simp; done) | (simp; omega)) _).alloc (by first | omega | (simp; done) | (simp; omega)) _).alloc (by first | omega | (simp; done) | (simp; omega)) _).drew)
              | (refine ⟨_, wr.heap.size + 1 + 1, wr.heap.size, wr.heap.size + 1, rfl, (hist_of hB ?_ ?_ ?_ ?_ ?_ ?_ (by omega) (by first | omega | exact Nat.le_trans (os_mono _ (Nat.le_of_lt hlt)) hOn) hS8 hK8 (fun i hi => absurd hi (by omega)) (fun i _ => aa_k)), ?_⟩
                 · exact (((((Below.refl _ _).alloc (by first | omega | (simp; done)) _).alloc (by first | omega | (simp; done) | (simp; omega)) _).alloc (by first | omega | (simp; done) | (simp; omega)) _).alloc (by first | omega | (simp; done) | (simp; omega)) _).drew
                 · go_simp
                 · (go_simp; done)
                 · (go_simp; done)
                 · (go_simp; done)
                 · (go_simp; done)
                 · exact (((((hB.bel).alloc (by first | omega | (simp; done) | (simp; omega)) _).alloc (by first | omega | (simp; done) | (simp; omega)) _).alloc (by first | omega | (simp; done) | (simp; omega)) _).alloc (by first | omega | (simp; done) | (simp; omega)) _).drew)
              | (refine ⟨_, wr.heap.size + 1 + 1, wr.heap.size + 1, wr.heap.size, rfl, (hist_of hB ?_ ?_ ?_ ?_ ?_ ?_ (by omega) (by first | omega | exact Nat.le_trans (os_mono _ (Nat.le_of_lt hlt)) hOn) hS8 hK8 (fun i hi => absurd hi (by omega)) (fun i _ => aa_k)), ?_⟩
                 · exact (((((Below.refl _ _).alloc (by first | omega | (simp; done)) _).alloc (by first | omega | (simp; done) | (simp; omega)) _).alloc (by first | omega | (simp; done) | (simp; omega)) _).alloc (by first | omega | (simp; done) | (simp; omega)) _).drew
                 · go_simp
                 · (go_simp; done)
                 · (go_simp; done)
                 · (go_simp; done)
                 · (go_simp; done)
                 · exact (((((hB.bel).alloc (by first | omega | (simp; done) | (simp; omega)) _).alloc (by first | omega | (simp; done) | (simp; omega)) _).alloc (by first | omega | (simp; done) | (simp; omega)) _).alloc (by first | omega | (simp; done) | (simp; omega)) _).drew)
        case rest =>
          obtain ⟨bh, gb, gk, gse, rfl, hH, hbc⟩ := hcut
          clear hmk1 hmk2 hB
          go_wp2_with fail
          go_ret3
          exact ⟨bh, _, _, _, _, _, _, _, _, rfl, hH, HN.out, hbc⟩

end Go.Proofs.Ybulkaebg

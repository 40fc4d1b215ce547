/-
  LawS1488ANilStep over toys/ybulkadugfmt: zzs1488aafter.
-/
import Derived.Test.YbulkadugFmtMove
namespace Go.Proofs.YbulkadugFmt
open Go.RowKit
attribute [local go_sem ↓] Go.wp_at_zero Go.wp_at_succ

/-- The list under way. -/
def pk (L : List Int) (f : Int) (k : Nat) : List Int := if 0 ≤ f then (L.take k).erase f else L.take k
theorem pk_le (L : List Int) (f : Int) (k : Nat) : (pk L f k).length ≤ k := by
  unfold pk
  split
  · exact Nat.le_trans List.length_erase_le (by simp; omega)
  · simp; omega
theorem pk_skip {L : List Int} {f : Int} {k : Nat} (hk : k < L.length) (h0 : 0 ≤ f) (hn : f ∉ L.take k) (he : L[k] = f) : pk L f (k + 1) = pk L f k := by
  unfold pk
  rw [if_pos h0, if_pos h0, List.take_succ_eq_append_getElem hk, List.erase_append, if_neg hn, he, List.erase_of_not_mem hn]
  simp
theorem pk_add {L : List Int} {f : Int} {k : Nat} (hk : k < L.length) (h : ¬ (0 ≤ f ∧ f ∉ L.take k ∧ L[k] = f)) : pk L f (k + 1) = pk L f k ++ [L[k]] := by
  unfold pk
  rw [List.take_succ_eq_append_getElem hk]
  by_cases h0 : 0 ≤ f
  · rw [if_pos h0, if_pos h0, List.erase_append]
    by_cases hm : f ∈ L.take k
    · rw [if_pos hm]
    · rw [if_neg hm, List.erase_of_not_mem hm, List.erase_of_not_mem (by
        simp only [List.mem_singleton]
        exact fun e => h ⟨h0, hm, e.symm⟩)]
  · rw [if_neg h0, if_neg h0]

/-- What the call hands back. -/
def FP (w : World) (L : List Int) (e : Ending) (w' : World) : Prop := ∃ a c', e = .returned (.slice a L.length c') ∧ Ls w' a L ∧ Below w.heap.size w w'

set_option maxRecDepth 100000 in
set_option maxHeartbeats 2000000 in
theorem after_any (zb : Nat) (L : List Int) (f t : Int) (oa : Option Addr) (oc : Nat) (q0 q1 q2 q3 q4 q5 q7 q8 q9 q10 q11 : Value) (w : World) (hz : Blk w zb 33 [q0, q1, q2, q3, q4, q5, .slice oa L.length oc, q7, q8, q9, q10, q11, .int .i32 f, .int .i32 t]) (hL : Ls w oa L) (hl : L.length ≤ 1024) (hf0 : -2 ≤ f) (hf1 : f ≤ 3) (_ht0 : -2 ≤ t) (_ht1 : t ≤ 3) :
    Calls Ybaf.prog 8 #[.pointer (some ⟨zb, 0, none⟩)] w fun e w' => FP w (aft L f t) e w' := by
  obtain ⟨i1, hi1, hz0, hz1, hz2⟩ := info_parts Ybaf.info21
  have z6 := hz.at_ 6 rfl
  have hzl := hz.lt
  have HZ : Hid (Blk w zb 33 [q0, q1, q2, q3, q4, q5, .slice oa L.length oc, q7, q8, q9, q10, q11, .int .i32 f, .int .i32 t] ∧ Ls w oa L) := ⟨hz, hL⟩
  clear hz hL
  go_enter Ybaf.func8, Ybaf.ntmps8
  go_wp2_with (at_make; refine wpList_make_own _ rfl _ _ 31 rfl w.heap.size 21 i1 (.int .i32 0) 1 Ybaf.underlying31 hi1 hz0 hz1 .i64 .i64 _ (L.length + 1) rfl rfl rfl (by rw [hz2]; omega) (by unfold maxLen; omega) (Nat.le_refl _) ?_; intro w1 hown1 hgrow1; have z61 := ((Below.refl w.heap.size w).grown hgrow1 (Nat.le_refl _) (by simp)).cell (p := ⟨zb, 6, none⟩) hzl |>.trans z6)
  have hb1 : Below w.heap.size w w1 := (Below.refl _ _).grown hgrow1 (Nat.le_refl _) (by simp)
  have HB1 : Hid (w1.ownsRow w.heap.size 21 1 (.slice (some ⟨w.heap.size, 0, none⟩) 0 (L.length + 1)) 0 [] ∧ Below w.heap.size w w1) := ⟨hown1, hb1⟩
  clear hown1 hgrow1 hb1 z6 z61
  go_loopw [3, 4, 19] (fun v rv cv wr => ∃ (k : Nat) (sv : Value), k ≤ L.length ∧ cv = .int .i64 k ∧ rv = .bool (decide (0 ≤ f ∧ f ∈ L.take k)) ∧ sv = v ∧ wr.ownsRow w.heap.size 21 1 sv (pk L f k).length ((pk L f k).map (.int .i32 ·)) ∧ Below w.heap.size w wr) (fun _ _ cv _ => L.length - (intOf cv).toNat)
  case atStart => exact ⟨0, _, Nat.zero_le _, rfl, by simp, rfl, by simpa [pk] using HB1.out.1, HB1.out.2⟩
  case round =>
    clear HB1
    obtain ⟨k, sv, hk, rfl, rfl, rfl, hown, hbe⟩ := hrel
    have hsz := hbe.size
    have z12 := (hbe.cell (p := ⟨zb, 12, none⟩) hzl).trans (HZ.out.1.at_ 12 rfl)
    by_cases hlt : k < L.length
    · obtain ⟨b, off, rfl, hc⟩ := HZ.out.2.resolve_left (fun e => by simp [e] at hlt)
      have hck := hc k hlt
      have q := (hbe.cell (p := ⟨b, off + k, none⟩) (block_lt_of_cell hck)).trans hck
      have z0 : (0 : Int) ≤ (k : Int) := by omega
      have z1 : (k : Int) < (L.length : Int) := by omega
      have hple := pk_le L f k
      have htk : L.take (k + 1) = L.take k ++ [L[k]] := List.take_succ_eq_append_getElem hlt
      by_cases hs : 0 ≤ f ∧ f ∉ L.take k ∧ L[k] = f
      · obtain ⟨s0, s1, s2⟩ := hs
        have HP : Hid (pk L f (k + 1) = pk L f k) := pk_skip hlt s0 s1 s2
        have HR : Hid (decide (0 ≤ f ∧ f ∈ L.take (k + 1)) = true) := by
          show decide (0 ≤ f ∧ f ∈ L.take (k + 1)) = true
          rw [htk, s2]; simp [s0]
        have hd : decide (0 ≤ f ∧ f ∈ L.take k) = false := by simp [s1]
        rw [s2] at q
        rw [hd]
        clear s1 s2 htk hc hck hd
        generalize pk L f k = P at *
        go_wp2_with fail
        go_roundw
        case rel => exact ⟨k + 1, _, by omega, by go_num, by rw [HR.out], rfl, by rw [HP.out]; exact hown, hbe⟩
        case measure => simp [intOf]; omega
      · have HP : Hid (pk L f (k + 1) = pk L f k ++ [L[k]]) := pk_add hlt hs
        have HR : Hid (decide (0 ≤ f ∧ f ∈ L.take (k + 1)) = decide (0 ≤ f ∧ f ∈ L.take k)) := by
          show decide (0 ≤ f ∧ f ∈ L.take (k + 1)) = decide (0 ≤ f ∧ f ∈ L.take k)
          rw [htk]
          have hiff : (0 ≤ f ∧ f ∈ L.take k ++ [L[k]]) ↔ (0 ≤ f ∧ f ∈ L.take k) := by
            constructor
            · rintro ⟨h0, hm⟩
              refine ⟨h0, ?_⟩
              rcases List.mem_append.1 hm with hm | hm
              · exact hm
              · by_cases hm2 : f ∈ L.take k
                · exact hm2
                · exact absurd ⟨h0, hm2, (List.mem_singleton.1 hm).symm⟩ hs
            · rintro ⟨h0, hm⟩
              exact ⟨h0, List.mem_append.2 (.inl hm)⟩
          exact decide_eq_decide.2 hiff
        have HL : Hid (∀ k, sv.ownBlock = some k → w.heap.size ≤ k ∧ k < wr.heap.size) := hown.lt
        have hor : f < 0 ∨ decide (0 ≤ f ∧ f ∈ L.take k) = true ∨ (0 ≤ f ∧ decide (0 ≤ f ∧ f ∈ L.take k) = false ∧ ¬ L[k] = f) := by
          by_cases h0 : 0 ≤ f
          · by_cases hm : f ∈ L.take k
            · exact .inr (.inl (by simp [h0, hm]))
            · exact .inr (.inr ⟨h0, by simp [hm], fun e => hs ⟨h0, hm, e⟩⟩)
          · exact .inl (by omega)
        clear hs htk hc hck
        generalize pk L f k = P at *
        generalize L[k] = x at *
        generalize decide (0 ≤ f ∧ f ∈ L.take k) = rm at *
        rcases hor with h0 | h0 | ⟨h0, h1, h2⟩
        · cases rm
          all_goals
            go_wp2_with (at_builtin; refine wpList_append_lies _ rfl _ _ 31 rfl w.heap.size 21 i1 (.int .i32 0) 1 4 Ybaf.underlying31 hi1 hz0 hz1 hz2 rfl (by omega) sv P.length (P.map (.int .i32 ·)) rfl (hown.alloc _) ⟨wr.heap.size, 0, none⟩ 1 1 [.int .i32 x] rfl rfl (World.news_of_block (cs := #[.int .i32 x]) (t := 21) (fr := (0, 0)) (heap_alloc_new wr _)) (by simp [Value.oneCell']) (by omega) (by unfold maxLen; omega) (by omega) (by simp; omega) (wr.heap.size + 1) (by simp) ?_; intro gg cap1 w3 hown3 hgrow hat hlt3)
            go_roundw
            case rel => exact ⟨k + 1, _, by omega, by go_num, by rw [HR.out], rfl, by rw [HP.out, List.length_append, ← map_snoc]; exact hown3, (hbe.alloc hsz _).grown hgrow (by simp; omega) (fun k hk => (HL.out k hk).1)⟩
            case measure => simp [intOf]; omega
        · subst h0
          go_wp2_with (at_builtin; refine wpList_append_lies _ rfl _ _ 31 rfl w.heap.size 21 i1 (.int .i32 0) 1 4 Ybaf.underlying31 hi1 hz0 hz1 hz2 rfl (by omega) sv P.length (P.map (.int .i32 ·)) rfl (hown.alloc _) ⟨wr.heap.size, 0, none⟩ 1 1 [.int .i32 x] rfl rfl (World.news_of_block (cs := #[.int .i32 x]) (t := 21) (fr := (0, 0)) (heap_alloc_new wr _)) (by simp [Value.oneCell']) (by omega) (by unfold maxLen; omega) (by omega) (by simp; omega) (wr.heap.size + 1) (by simp) ?_; intro gg cap1 w3 hown3 hgrow hat hlt3)
          go_roundw
          case rel => exact ⟨k + 1, _, by omega, by go_num, by rw [HR.out], rfl, by rw [HP.out, List.length_append, ← map_snoc]; exact hown3, (hbe.alloc hsz _).grown hgrow (by simp; omega) (fun k hk => (HL.out k hk).1)⟩
          case measure => simp [intOf]; omega
        · subst h1
          have h2' : ¬ x = f := h2
          go_wp2_with (at_builtin; refine wpList_append_lies _ rfl _ _ 31 rfl w.heap.size 21 i1 (.int .i32 0) 1 4 Ybaf.underlying31 hi1 hz0 hz1 hz2 rfl (by omega) sv P.length (P.map (.int .i32 ·)) rfl (hown.alloc _) ⟨wr.heap.size, 0, none⟩ 1 1 [.int .i32 x] rfl rfl (World.news_of_block (cs := #[.int .i32 x]) (t := 21) (fr := (0, 0)) (heap_alloc_new wr _)) (by simp [Value.oneCell']) (by omega) (by unfold maxLen; omega) (by omega) (by simp; omega) (wr.heap.size + 1) (by simp) ?_; intro gg cap1 w3 hown3 hgrow hat hlt3)
          go_roundw
          case rel => exact ⟨k + 1, _, by omega, by go_num, by rw [HR.out], rfl, by rw [HP.out, List.length_append, ← map_snoc]; exact hown3, (hbe.alloc hsz _).grown hgrow (by simp; omega) (fun k hk => (HL.out k hk).1)⟩
          case measure => simp [intOf]; omega
    · obtain rfl : k = L.length := by omega
      have z13 := (hbe.cell (p := ⟨zb, 13, none⟩) hzl).trans (HZ.out.1.at_ 13 rfl)
      have HPF : Hid (pk L f L.length = if 0 ≤ f then L.erase f else L) := by show pk L f L.length = _; simp [pk]
      have hple := pk_le L f L.length
      have HL : Hid (∀ k, sv.ownBlock = some k → w.heap.size ≤ k ∧ k < wr.heap.size) := hown.lt
      have HF : Hid (aft L f t = pk L f L.length ++ (if 0 ≤ t then [t] else [])) := by show aft L f t = _; rw [HPF.out, aft]
      clear HPF
      generalize pk L f L.length = P at *
      generalize decide (0 ≤ f ∧ f ∈ L.take L.length) = rm at *
      by_cases htp : 0 ≤ t
      · have HF2 : Hid (aft L f t = P ++ [t]) := by show aft L f t = _; rw [HF.out, if_pos htp]
        go_wp2_with (at_builtin; refine wpList_append_lies _ rfl _ _ 31 rfl w.heap.size 21 i1 (.int .i32 0) 1 4 Ybaf.underlying31 hi1 hz0 hz1 hz2 rfl (by omega) sv P.length (P.map (.int .i32 ·)) rfl (hown.alloc _) ⟨wr.heap.size, 0, none⟩ 1 1 [.int .i32 t] rfl rfl (World.news_of_block (cs := #[.int .i32 t]) (t := 21) (fr := (0, 0)) (heap_alloc_new wr _)) (by simp [Value.oneCell']) (by omega) (by unfold maxLen; omega) (by omega) (by simp; omega) (wr.heap.size + 1) (by simp) ?_; intro gg cap1 w3 hown3 hgrow hat hlt3)
        go_ret
        have h9 : w3.ownsRow w.heap.size 21 1 (.slice (some ⟨gg, 0, none⟩) (P ++ [t]).length cap1) (P ++ [t]).length ((P ++ [t]).map (.int .i32 ·)) := by rw [List.length_append, ← map_snoc]; exact hown3
        obtain ⟨a, c, e, hls, _⟩ := Ls.of_own h9
        cases e
        exact ⟨_, _, by rw [HF2.out, List.length_append]; rfl, by rw [HF2.out]; exact hls, (hbe.alloc hsz _).grown hgrow (by simp; omega) (fun k hk => (HL.out k hk).1)⟩
      · have HF2 : Hid (aft L f t = P) := by show aft L f t = _; rw [HF.out, if_neg htp, List.append_nil]
        obtain ⟨a, c, rfl, hls, _⟩ := Ls.of_own hown
        go_wp2_with fail
        go_ret
        exact ⟨_, _, by rw [HF2.out]; rfl, by rw [HF2.out]; exact hls, hbe⟩

end Go.Proofs.YbulkadugFmt

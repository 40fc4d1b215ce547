/-
  LawS1488ANilStep over toys/ybulkadugfmt: (*Group).moveReplica.
-/
import Derived.Test.YbulkadugFmtLib
namespace Go.Proofs.YbulkadugFmt
open Go.RowKit
attribute [local go_sem ↓] Go.wp_at_zero Go.wp_at_succ

/-- The replicas behind a move. -/
def aft (L : List Int) (f t : Int) : List Int := (if 0 ≤ f then L.erase f else L) ++ (if 0 ≤ t then [t] else [])

theorem own_kp {X : Nat → Prop} {w w' : World} {base : Nat} {e : TypeId} {size n : Nat} {v : Value} {xs : List Value} (h : w.ownsRow base e size v n xs) (k : Kp X w w') (hX : ∀ i, v.ownBlock = some i → ¬ X i) : w'.ownsRow base e size v n xs := by
  refine ⟨h.1, ?_⟩
  rcases h.2 with h0 | ⟨g, cap, cur, rfl, hb, hh, hr⟩
  · exact .inl h0
  · exact .inr ⟨g, cap, cur, rfl, hb, (k.block g (Array.getElem?_eq_some_iff.1 hh).1 (hX g rfl)).trans hh, hr⟩
theorem own_set {w : World} {base : Nat} {e : TypeId} {size n : Nat} {v : Value} {xs : List Value} (h : w.ownsRow base e size v n xs) {a : Addr} (hX : ∀ i, v.ownBlock = some i → i ≠ a.block) (u : Value) : (w.setCell a u).ownsRow base e size v n xs :=
  own_kp h ((Kp.refl (· = a.block) w).setCell (.inl rfl) u) hX
theorem heap_new_set (w : World) (a : Addr) (u : Value) (o : Obj) : ((w.setCell a u).alloc o).heap[w.heap.size]? = some o := by
  rw [show w.heap.size = (w.setCell a u).heap.size by simp]; exact heap_alloc_new _ _
theorem own_ls {w : World} {base rb cap : Nat} {L : List Int} (h : w.ownsRow base 21 1 (.slice (some ⟨rb, 0, none⟩) L.length cap) L.length (L.map (.int .i32 ·))) : Ls w (some ⟨rb, 0, none⟩) L := by
  obtain ⟨a, c, e, hl, _⟩ := Ls.of_own h
  cases e
  exact hl
theorem own_ne {w : World} {base rb cap n b : Nat} {t : TypeId} {xs l : List Value} (h : w.ownsRow base 21 1 (.slice (some ⟨rb, 0, none⟩) n cap) n xs) (hb : Blk w b t l) (ht : t ≠ 21) : rb ≠ b := by
  rcases h.2 with ⟨e, _⟩ | ⟨g, _, cur, e, _, hh, _⟩
  · cases e
  · cases e
    intro e
    subst e
    unfold Blk at hb
    rw [hh] at hb
    injection hb with hb
    injection hb with _ hb _
    exact ht hb.symm
theorem own_cap {w : World} {base rb cap n : Nat} {xs : List Value} (h : w.ownsRow base 21 1 (.slice (some ⟨rb, 0, none⟩) n cap) n xs) : base ≤ rb ∧ rb < w.heap.size := h.lt rb rfl
theorem map_snoc (L : List Int) (t : Int) : (L.map (.int .i32 ·)) ++ [.int .i32 t] = (L ++ [t]).map (Value.int .i32 ·) := by simp

/-- What moveReplica leaves. -/
def MP (w : World) (gp base : Nat) (x0 x1 x2 : Value) (c : Int) (rb : Nat) (L : List Int) (e : Ending) (w' : World) : Prop :=
  e = .returned (.tuple #[]) ∧ ∃ rb' cap', Blk w' gp 41 [x0, x1, x2, .slice (some ⟨rb', 0, none⟩) L.length cap', .int .i64 (c + 1)] ∧ w'.ownsRow base 21 1 (.slice (some ⟨rb', 0, none⟩) L.length cap') L.length (L.map (.int .i32 ·)) ∧ Kp (fun k => k = gp ∨ k = rb) w w' ∧ (rb' = rb ∨ w.heap.size ≤ rb')

set_option maxRecDepth 100000 in
set_option maxHeartbeats 1000000 in
theorem move_any (gp rb cap base : Nat) (L : List Int) (f t c : Int) (x0 x1 x2 : Value) (w : World) (hg : Blk w gp 41 [x0, x1, x2, .slice (some ⟨rb, 0, none⟩) L.length cap, .int .i64 c]) (hr : w.ownsRow base 21 1 (.slice (some ⟨rb, 0, none⟩) L.length cap) L.length (L.map (.int .i32 ·)))
    (hf : 0 ≤ f → f ∈ L) (hl : L.length ≤ 1024) (hb : base ≤ w.heap.size) (hc0 : -10 ≤ c) (hc1 : c ≤ 100) (_hf0 : -2 ≤ f) (_hf1 : f ≤ 3) (ht0 : -2 ≤ t) (ht1 : t ≤ 3) :
    Calls Ybaf.prog 24 #[.pointer (some ⟨gp, 0, none⟩), .int .i32 f, .int .i32 t] w fun e w' => MP w gp base x0 x1 x2 c rb (aft L f t) e w' := by
  have hne := own_ne hr hg (by decide)
  obtain ⟨i1, hi1, hz0, hz1, hz2⟩ := info_parts Ybaf.info21
  have q3 := hg.at_ 3 rfl
  have q4 := hg.at_ 4 rfl
  have y3 := hg.frozen 3
  have y4 := hg.frozen 4
  have hgl := hg.lt
  have hbr := own_cap hr
  have HG : Hid (Blk w gp 41 [x0, x1, x2, .slice (some ⟨rb, 0, none⟩) L.length cap, .int .i64 c]) := hg
  clear hg
  by_cases hfp : 0 ≤ f
  · obtain ⟨i, hi⟩ : ∃ i, i = L.idxOf f := ⟨_, rfl⟩
    have hil : i < L.length := by rw [hi]; exact List.idxOf_lt_length_of_mem (hf hfp)
    have hix : ix L f = (i : Int) := by rw [ix, if_pos (hf hfp), hi]
    have HE : Hid (L.eraseIdx i = L.erase f) := by
      show L.eraseIdx i = L.erase f
      rw [hi]; exact (List.erase_eq_eraseIdx_of_idxOf rfl).symm
    clear hi
    go_enter Ybaf.func24, Ybaf.ntmps24
    go_wp2_with fail
    refine (index_any (some ⟨rb, 0, none⟩) cap L f w (own_ls hr) (by omega)).mono ?_
    rintro e w1 ⟨rfl, rfl⟩
    rw [hix]
    go_wp2_with fail
    refine (del_any base rb cap i L w1 hr hil).mono ?_
    rintro e w2 ⟨rfl, hr2, hk2⟩
    have hg2 : Blk w2 gp 41 [x0, x1, x2, .slice (some ⟨rb, 0, none⟩) L.length cap, .int .i64 c] := hk2.blk HG.out (fun e => hne e.symm)
    have hlE : (L.erase f).length = L.length - 1 := List.length_erase_of_mem (hf hfp)
    have hs2 := hk2.size
    rw [HE.out] at hr2
    have HAF : Hid (aft L f t = L.erase f ++ (if 0 ≤ t then [t] else [])) := by show aft L f t = _; rw [aft, if_pos hfp]
    rw [← hlE] at hr2 ⊢
    have hl2 : (L.erase f).length ≤ 1024 := by omega
    clear hlE
    generalize L.erase f = L2 at *
    clear hix HE q3 q4 y3 y4 hf
    have q3 := hg2.at_ 3 rfl
    have q4 := hg2.at_ 4 rfl
    have y3 := hg2.frozen 3
    have y4 := hg2.frozen 4
    have hgl2 := hg2.lt
    have HG2 : Hid (Blk w2 gp 41 [x0, x1, x2, .slice (some ⟨rb, 0, none⟩) L.length cap, .int .i64 c]) := hg2
    have HK2 : Hid (Kp (· = rb) w1 w2) := hk2
    clear hg2 hk2
    by_cases htp : 0 ≤ t
    · have HR : Hid ((w2.setCell ⟨gp, 3, none⟩ (.slice (some ⟨rb, 0, none⟩) L2.length cap)).ownsRow base 21 1 (.slice (some ⟨rb, 0, none⟩) L2.length cap) L2.length (L2.map (.int .i32 ·))) := own_set hr2 (fun i hi => by cases hi; exact hne) _
      have hgz : gp < (w2.setCell ⟨gp, 3, none⟩ (.slice (some ⟨rb, 0, none⟩) L2.length cap)).heap.size := by simpa using hgl2
      go_wp2_with (at_builtin; refine wpList_append_lies _ rfl _ _ 31 rfl base 21 i1 (.int .i32 0) 1 4 Ybaf.underlying31 hi1 hz0 hz1 hz2 rfl (by omega) (.slice (some ⟨rb, 0, none⟩) L2.length cap) L2.length (L2.map (.int .i32 ·)) rfl (HR.out.alloc _) ⟨w2.heap.size, 0, none⟩ 1 1 [.int .i32 t] rfl rfl (World.news_of_block (cs := #[.int .i32 t]) (t := 21) (fr := (0, 0)) (heap_new_set w2 _ _ _)) (by simp [Value.oneCell']) (by omega) (by unfold maxLen; omega) (by omega) (by simp; omega) (w2.heap.size + 1) (by simp) ?_; intro gg cap1 w3 hown1 hgrow hat hlt1; have hg3 : Blk w3 gp 41 [x0, x1, x2, .slice (some ⟨rb, 0, none⟩) L2.length cap, .int .i64 c] := (hgrow.block gp (by simp; omega) (fun e => hne (by cases e; rfl))).trans ((HG2.out.set 3 (.slice (some ⟨rb, 0, none⟩) L2.length cap)).alloc _); have q33 := hg3.at_ 3 rfl; have q34 := hg3.at_ 4 rfl; have y33 := hg3.frozen 3; have y34 := hg3.frozen 4)
      go_end0
      refine ⟨rfl, gg, cap1, ?_, ?_, ?_, hat.elim (fun h => .inl (by cases h; rfl)) (fun h => .inr (by omega))⟩
      · rw [HAF.out, if_pos (by omega), List.length_append]
        exact (hg3.set 3 _).set 4 _
      · rw [HAF.out, if_pos (by omega), List.length_append, ← map_snoc]
        exact own_set (own_set hown1 (fun i hi => by cases hi; rcases hat with h | h; cases h; exact hne; rw [h]; simp; omega) _) (fun i hi => by cases hi; rcases hat with h | h; cases h; exact hne; rw [h]; simp; omega) _
      · exact ((((((HK2.out.mono (Y := fun k => k = gp ∨ k = rb) (fun _ _ h => .inr h)).setCell (.inl (.inl rfl)) _).alloc _).grown hgrow (fun k hk => by cases hk; exact .inl (.inr rfl))).setCell (.inl (.inl rfl)) _).setCell (.inl (.inl rfl)) _)
    · go_wp2_with fail
      go_end0
      refine ⟨rfl, rb, cap, ?_, ?_, ?_, .inl rfl⟩
      · rw [HAF.out, if_neg (by omega), List.append_nil]
        exact (HG2.out.set 3 _).set 4 _
      · rw [HAF.out, if_neg (by omega), List.append_nil]
        exact own_set (own_set hr2 (fun i hi => by cases hi; exact hne) _) (fun i hi => by cases hi; exact hne) _
      · exact ((HK2.out.mono (Y := fun k => k = gp ∨ k = rb) (fun _ _ h => .inr h)).setCell (.inl (.inl rfl)) _).setCell (.inl (.inl rfl)) _
  · have HAF : Hid (aft L f t = L ++ (if 0 ≤ t then [t] else [])) := by show aft L f t = _; rw [aft, if_neg hfp]
    clear hf
    by_cases htp : 0 ≤ t
    · go_enter Ybaf.func24, Ybaf.ntmps24
      go_wp2_with (at_builtin; refine wpList_append_lies _ rfl _ _ 31 rfl base 21 i1 (.int .i32 0) 1 4 Ybaf.underlying31 hi1 hz0 hz1 hz2 rfl (by omega) (.slice (some ⟨rb, 0, none⟩) L.length cap) L.length (L.map (.int .i32 ·)) rfl (hr.alloc _) ⟨w.heap.size, 0, none⟩ 1 1 [.int .i32 t] rfl rfl (World.news_of_block (cs := #[.int .i32 t]) (t := 21) (fr := (0, 0)) (heap_alloc_new w _)) (by simp [Value.oneCell']) (by omega) (by unfold maxLen; omega) (by omega) (by simp; omega) (w.heap.size + 1) (by simp) ?_; intro gg cap1 w3 hown1 hgrow hat hlt1; have hg3 : Blk w3 gp 41 [x0, x1, x2, .slice (some ⟨rb, 0, none⟩) L.length cap, .int .i64 c] := (hgrow.block gp (by simp; omega) (fun e => hne (by cases e; rfl))).trans (HG.out.alloc _); have q33 := hg3.at_ 3 rfl; have q34 := hg3.at_ 4 rfl; have y33 := hg3.frozen 3; have y34 := hg3.frozen 4)
      go_end0
      refine ⟨rfl, gg, cap1, ?_, ?_, ?_, hat.elim (fun h => .inl (by cases h; rfl)) (fun h => .inr (by omega))⟩
      · rw [HAF.out, if_pos (by omega), List.length_append]
        exact (hg3.set 3 _).set 4 _
      · rw [HAF.out, if_pos (by omega), List.length_append, ← map_snoc]
        exact own_set (own_set hown1 (fun i hi => by cases hi; rcases hat with h | h; cases h; exact hne; rw [h]; simp; omega) _) (fun i hi => by cases hi; rcases hat with h | h; cases h; exact hne; rw [h]; simp; omega) _
      · exact (((((Kp.refl (fun k => k = gp ∨ k = rb) w).alloc _).grown hgrow (fun k hk => by cases hk; exact .inl (.inr rfl))).setCell (.inl (.inl rfl)) _).setCell (.inl (.inl rfl)) _)
    · go_enter Ybaf.func24, Ybaf.ntmps24
      go_wp2_with fail
      go_end0
      refine ⟨rfl, rb, cap, ?_, ?_, ?_, .inl rfl⟩
      · rw [HAF.out, if_neg (by omega), List.append_nil]
        exact HG.out.set 4 _
      · rw [HAF.out, if_neg (by omega), List.append_nil]
        exact own_set hr (fun i hi => by cases hi; exact hne) _
      · exact (Kp.refl (fun k => k = gp ∨ k = rb) w).setCell (.inl (.inl rfl)) _

end Go.Proofs.YbulkadugFmt

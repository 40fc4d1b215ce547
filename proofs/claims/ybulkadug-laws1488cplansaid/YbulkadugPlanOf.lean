/-
  LawS1488CPlan over toys/ybulkadug: planOf.
-/
import Derived.Test.YbulkadugCallees
import Derived.Deep.RegionHeld3
import Derived.Deep.AppendLies
import Derived.Deep.DrawnRows
namespace Go.Proofs.Ybulkadug
open Go.RowKit
attribute [local go_sem ↓] Go.wp_at_zero Go.wp_at_succ

/-- The planned moves lie in block g, six cells each. -/
def PMs (w : World) (g n : Nat) (M : Nat → PM) : Prop :=
  ∀ i, i < n → w.cell? ⟨g, i * 6, none⟩ = some (.int .i64 (M i).c) ∧ w.cell? ⟨g, i * 6 + 1, none⟩ = some (.int .i32 (M i).g) ∧ w.cell? ⟨g, i * 6 + 2, none⟩ = some (.int .i32 (M i).f) ∧
    w.cell? ⟨g, i * 6 + 3, none⟩ = some (.int .i32 (M i).t) ∧ w.cell? ⟨g, i * 6 + 4, none⟩ = some (.int .u8 (M i).r) ∧ w.cell? ⟨g, i * 6 + 5, none⟩ = some (.bool (M i).j)

theorem PMs.below {B : Nat} {w w' : World} {g n : Nat} {M : Nat → PM} (h : PMs w g n M) (hb : Below B w w') (hg : g < B) : PMs w' g n M := fun i hi => by
  obtain ⟨a, b, c, d, e, f⟩ := h i hi
  exact ⟨(hb.cell hg).trans a, (hb.cell hg).trans b, (hb.cell hg).trans c, (hb.cell hg).trans d, (hb.cell hg).trans e, (hb.cell hg).trans f⟩

/-- Ids in a row of five cells an element. -/
def Ids (w : World) (ao : Option Addr) (n : Nat) (S : Nat → ByteArray) : Prop := ∀ i, i < n → ∃ g, ao = some ⟨g, 0, none⟩ ∧ w.cell? ⟨g, i * 5, none⟩ = some (.string (S i))

def mvZero : Value := .agg #[.string ⟨#[]⟩, .int .i64 0, .string ⟨#[]⟩, .string ⟨#[]⟩, .int .i64 0]
theorem Yba.info56 : (Yba.prog.info? 56).map (fun i => (i.zero, i.size, i.bytes)) = some (some mvZero, 5, 64) := by kernel_rfl
theorem field_group (v0 v1 v2 v3 v4 v5 : Value) (w : World) : (Instr.field 46 (.agg #[v0, v1, v2, v3, v4, v5]) 1).run Yba.prog w = .ok v1 w := by kernel_rfl

theorem wrap_u8 {r : Int} (h0 : 0 ≤ r) (h1 : r ≤ 255) : IntKind.i64.wrap r = r := by
  rw [IntKind.wrap_i64]
  omega

theorem IdAt_of {w : World} {ao : Option Addr} {n : Nat} {S : Nat → ByteArray} (h : Ids w ao n S) {x : Int} (hx : x < n) : IdAt w ao x (idOf S x) := by
  unfold idOf IdAt
  by_cases h0 : x < 0
  · exact .inl ⟨h0, by rw [if_pos h0]⟩
  · obtain ⟨g, e, hc⟩ := h x.toNat (by omega)
    exact .inr ⟨by omega, g, e, by rw [if_neg h0]; exact hc⟩

theorem IdAt.below {w w' : World} {ao : Option Addr} {x : Int} {s : ByteArray} (h : IdAt w ao x s) (hb : Below w.heap.size w w') : IdAt w' ao x s := by
  rcases h with h | ⟨h0, g, e, hc⟩
  · exact .inl h
  · exact .inr ⟨h0, g, e, (hb.cell (block_lt_of_cell hc)).trans hc⟩

set_option maxHeartbeats 1000000 in
theorem planOf_any (bs bc gp n cp nS nG cS cG : Nat) (aS aG : Option Addr) (S G : Nat → ByteArray) (M : Nat → PM) (w : World) (hn : n ≤ 1024)
    (hs0 : w.cell? ⟨bs, 0, none⟩ = some (.slice aS nS cS)) (hs1 : w.cell? ⟨bs, 1, none⟩ = some (.slice aG nG cG)) (hS : Ids w aS nS S) (hG : Ids w aG nG G)
    (hc0 : w.cell? ⟨bc, 0, none⟩ = some (.slice none 0 0)) (hc1 : w.cell? ⟨bc, 1, none⟩ = some (.slice (some ⟨gp, 0, none⟩) n cp)) (hgp : gp < w.heap.size) (hM : PMs w gp n M)
    (hMg : ∀ i, i < n → (M i).g < nG) (hMf : ∀ i, i < n → (M i).f < nS) (hMt : ∀ i, i < n → (M i).t < nS) (hMr : ∀ i, i < n → 0 ≤ (M i).r ∧ (M i).r ≤ 255) :
    Calls Yba.prog 5 #[.pointer (some ⟨bs, 0, none⟩), .pointer (some ⟨bc, 0, none⟩)] w fun e w' => ∃ bp v, e = .returned (.pointer (some ⟨bp, 0, none⟩)) ∧ w'.cell? ⟨bp, 0, none⟩ = some v ∧
      ((kept M n = [] ∧ v = .slice none 0 0) ∨ (kept M n ≠ [] ∧ w'.ownsRow w.heap.size 56 5 v (kept M n).length (mvs S G (kept M n)))) ∧ Below w.heap.size w w' := by
  have hbs : bs < w.heap.size := block_lt_of_cell hs0
  have hbc : bc < w.heap.size := block_lt_of_cell hc0
  have HM : Hid (PMs w gp n M) := hM
  have HS : Hid (Ids w aS nS S ∧ Ids w aG nG G) := ⟨hS, hG⟩
  clear hM hS hG
  have hfd := field_group
  go_enter Yba.func5, Yba.ntmps5
  go_wp2_with (go_at_call 6; refine (len_any bc n cp (some ⟨gp, 0, none⟩) hn _ hc0 hc1).mono ?_; rintro e w1 ⟨rfl, d, rfl⟩)
  go_loopw [5, 12] (fun c i wr => ∃ k : Nat, k ≤ n ∧ i = .int .i64 k ∧ c = .int .i64 (kept M k).length ∧ Below w.heap.size w wr) (fun _ i _ => n - (intOf i).toNat)
  case atStart => exact ⟨0, Nat.zero_le _, rfl, rfl, below_drewN (Below.refl _ _) _⟩
  case round =>
    obtain ⟨k, hk, rfl, rfl, hbel⟩ := hrel
    have hkl := kept_le M k
    have hown0 := True.intro
    have q0 : wr.cell? ⟨bc, 0, none⟩ = some (.slice none 0 0) := (hbel.cell hbc).trans hc0
    have q1 : wr.cell? ⟨bc, 1, none⟩ = some (.slice (some ⟨gp, 0, none⟩) n cp) := (hbel.cell hbc).trans hc1
    have hsz := hbel.size
    by_cases hlt : k < n
    · obtain ⟨c0, c1, c2, c3, c4, c5⟩ := HM.out.below hbel hgp k hlt
      by_cases hg : (M k).g < 0
      · go_wp2_with (go_at_call 7; refine (at_any bc gp n cp k (M k) hn hlt _ q0 q1 c0 c1 c2 c3 c4 c5).mono ?_; rintro e w1 ⟨rfl, rfl⟩)
        go_roundw
        case rel => exact ⟨k + 1, by omega, by go_num, by simp [kept, hg], (hbel.alloc hsz _).drew⟩
        case measure => simp [intOf]; omega
      · go_wp2_with (go_at_call 7; refine (at_any bc gp n cp k (M k) hn hlt _ q0 q1 c0 c1 c2 c3 c4 c5).mono ?_; rintro e w1 ⟨rfl, rfl⟩)
        go_roundw
        case rel => exact ⟨k + 1, by omega, by go_num, by simp [kept]; rw [if_neg (by omega)]; simp, (hbel.alloc hsz _).drew⟩
        case measure => simp [intOf]; omega
    · obtain rfl : k = n := by omega
      by_cases h0 : kept M k = []
      · have hk1 : ((((kept M k).length : Nat) : Int) == 0) = true := by simp [h0]
        have H0 : Hid (kept M k = []) := h0
        clear h0
        go_wp2
        go_ret
        exact ⟨wr.heap.size, .slice none 0 0, rfl, by simp, .inl ⟨H0.out, rfl⟩, hbel.alloc hsz _⟩
      · have hk1 : ((((kept M k).length : Nat) : Int) == 0) = false := by simp [h0]
        have H0 : Hid (kept M k ≠ []) := h0
        clear h0
        obtain ⟨i0, hi, hz0, hz1, hz2⟩ := info_parts Yba.info56
        go_wp2_with (first
          | (at_make; refine wpList_make_own _ rfl _ _ 53 rfl w.heap.size 56 i0 mvZero 5 Yba.underlying53 hi hz0 hz1 .i64 .i64 _ (kept M k).length rfl rfl rfl (by rw [hz2]; omega) (by unfold maxLen; omega) (by omega) ?_; intro w2 hown hgrow; have hb2 := hbel.grown hgrow hsz (by simp); have q02 := (hb2.cell (p := ⟨bc, 0, none⟩) hbc).trans hc0; have q12 := (hb2.cell (p := ⟨bc, 1, none⟩) hbc).trans hc1; have hgw := hgrow.size; clear hgrow)
          | (go_at_call 6; refine (len_any bc k cp (some ⟨gp, 0, none⟩) hn _ (by assumption) (by assumption)).mono ?_; rintro e w1 ⟨rfl, d1, rfl⟩))
        clear q0 q1 hk hlt hkl hown0
        go_loopw [7, 31] (fun v i wr => ∃ j : Nat, j ≤ k ∧ i = .int .i64 j ∧ wr.ownsRow w.heap.size 56 5 v (kept M j).length (mvs S G (kept M j)) ∧ Below w.heap.size w wr) (fun _ i _ => k - (intOf i).toNat)
        case atStart => exact ⟨0, Nat.zero_le _, rfl, hown, below_drewN hb2 _⟩
        case round =>
          clear hown q02 q12 hb2 hgw hbel hsz
          obtain ⟨j, hj, rfl, hown, hbel⟩ := hrel
          have hkl := kept_le M j
          have q0 : wr.cell? ⟨bc, 0, none⟩ = some (.slice none 0 0) := (hbel.cell hbc).trans hc0
          have q1 : wr.cell? ⟨bc, 1, none⟩ = some (.slice (some ⟨gp, 0, none⟩) k cp) := (hbel.cell hbc).trans hc1
          have hsz := hbel.size
          by_cases hlt : j < k
          · obtain ⟨c0, c1, c2, c3, c4, c5⟩ := HM.out.below hbel hgp j hlt
            by_cases hg : (M j).g < 0
            · go_wp2_with (go_at_call 7; refine (at_any bc gp k cp j (M j) hn hlt _ q0 q1 c0 c1 c2 c3 c4 c5).mono ?_; rintro e w1 ⟨rfl, rfl⟩)
              go_roundw
              case rel => exact ⟨j + 1, by omega, by go_num, by simp only [kept, if_pos hg]; exact ((hown.alloc _).alloc _).drew, ((hbel.alloc hsz _).alloc (by simp; omega) _).drew⟩
              case measure => simp [intOf]; omega
            · obtain ⟨gG, rfl, hgc⟩ := HS.out.2 (M j).g.toNat (by have := hMg j hlt; omega)
              have HSID : Hid (∀ (x : Int) (w' : World), x < nS → Below w.heap.size w w' → Calls Yba.prog 8 #[.pointer (some ⟨bs, 0, none⟩), .int .i32 x] w' fun e w'' => e = .returned (.string (idOf S x)) ∧ w'' = w') :=
                fun x w' hx hb => serverID_any bs nS cS aS (idOf S x) x hx w' ((hb.cell hbs).trans hs0) ((IdAt_of HS.out.1 hx).below hb)
              have hmf := hMf j hlt
              have hmt := hMt j hlt
              have hmg := hMg j hlt
              go_wp2_with (go_at_call 7; refine (at_any bc gp k cp j (M j) hn hlt _ q0 q1 c0 c1 c2 c3 c4 c5).mono ?_; rintro e w1 ⟨rfl, rfl⟩)
              generalize hWe : World.drew (World.alloc _ _) = W
              have f0 : W.cell? ⟨wr.heap.size + 1, 0, none⟩ = some (.int .i64 (M j).c) := by rw [← hWe]; simp
              have f1 : W.cell? ⟨wr.heap.size + 1, 1, none⟩ = some (.int .i32 (M j).g) := by rw [← hWe]; simp
              have f2 : W.cell? ⟨wr.heap.size + 1, 2, none⟩ = some (.int .i32 (M j).f) := by rw [← hWe]; simp
              have f3 : W.cell? ⟨wr.heap.size + 1, 3, none⟩ = some (.int .i32 (M j).t) := by rw [← hWe]; simp
              have f4 : W.cell? ⟨wr.heap.size + 1, 4, none⟩ = some (.int .u8 (M j).r) := by rw [← hWe]; simp
              have hWo : W.ownsRow w.heap.size 56 5 u7 (kept M j).length (mvs S G (kept M j)) := by rw [← hWe]; exact ((hown.alloc _).alloc _).drew
              have hWb : Below w.heap.size w W := by rw [← hWe]; exact ((hbel.alloc hsz _).alloc (by simp; omega) _).drew
              have hWs : wr.heap.size + 2 ≤ W.heap.size := by rw [← hWe]; simp
              obtain ⟨hr0, hr1⟩ := hMr j hlt
              have hrw := wrap_u8 hr0 hr1
              have hWl := hown.lt
              clear hWe hown hbel q0 q1 c0 c1 c2 c3 c4 c5
              have p0 : W.cell? ⟨bs, 0, none⟩ = some (.slice aS nS cS) := (hWb.cell hbs).trans hs0
              have p1 : W.cell? ⟨bs, 1, none⟩ = some (.slice (some ⟨gG, 0, none⟩) nG cG) := (hWb.cell hbs).trans hs1
              have hgl : gG < w.heap.size := block_lt_of_cell hgc
              have p2 : W.cell? ⟨gG, (M j).g.toNat * 5, none⟩ = some (.string (G (M j).g.toNat)) := (hWb.cell hgl).trans hgc
              have hgn : (0 : Int) ≤ (M j).g := by omega
              have HO : Hid (W.ownsRow w.heap.size 56 5 u7 (kept M j).length (mvs S G (kept M j))) := hWo
              have HL : Hid (∀ k, u7.ownBlock = some k → w.heap.size ≤ k ∧ k < wr.heap.size) := hWl
              clear hWo hWl hgc
              go_region_held3 (fun w' => w'.cell? ⟨bs, 0, none⟩ = some (.slice aS nS cS) ∧ w'.cell? ⟨bs, 1, none⟩ = some (.slice (some ⟨gG, 0, none⟩) nG cG) ∧ w'.cell? ⟨gG, (M j).g.toNat * 5, none⟩ = some (.string (G (M j).g.toNat)) ∧
                  w'.cell? ⟨wr.heap.size + 1, 0, none⟩ = some (.int .i64 (M j).c) ∧ w'.cell? ⟨wr.heap.size + 1, 1, none⟩ = some (.int .i32 (M j).g) ∧ w'.cell? ⟨wr.heap.size + 1, 2, none⟩ = some (.int .i32 (M j).f) ∧
                  w'.cell? ⟨wr.heap.size + 1, 3, none⟩ = some (.int .i32 (M j).t) ∧ w'.cell? ⟨wr.heap.size + 1, 4, none⟩ = some (.int .u8 (M j).r) ∧ Below w.heap.size w w')
                (first
                  | (go_split_ands; refine ⟨?_, ?_, ?_, ?_, ?_, ?_, ?_, ?_, ?_⟩ <;> first | go_keep | exact Below.drew (by assumption) | exact Below.drew (Below.alloc (by assumption) (by first | omega | (simp; omega)) _) | exact Below.grown (by assumption) hgrow (by first | omega | (simp; omega)) (fun k hk => (HL.out k hk).1) | (rw [hgrow.cell_far _ (by simp; omega) (fun e => by have := HL.out _ e.symm; simp at this; omega)]; assumption) ))
                (first
                  | (go_at_call 8; refine (HSID.out _ _ ?_ ?_).mono ?_; (assumption); (first | assumption | exact Below.drew (by assumption)); rintro e w' ⟨rfl, rfl⟩)
                  | ((refine step_append_lies _ (by rfl) _ _ _ (by rfl) w.heap.size 56 i0 _ 5 64 Yba.underlying53 hi hz0 hz1 hz2 rfl (by omega) u7 _ _ (by rfl) ((HO.out.alloc _).drew) ⟨W.heap.size, 0, none⟩ 1 1 (mv S G (M j)) (by rfl) (by rfl) (World.news_of_block (cs := (mv S G (M j)).toArray) (t := 56) (fr := (0, 0)) (heap_alloc_new W _)) (by simp [Value.oneCell', mv]) (by omega) (by unfold maxLen; omega) (by omega) (by simp; omega) (W.heap.size + 1) (by simp) ?_; intro gg cap w1 hown1 hgrow hat hlt1)))
              have hb1 : Below w.heap.size w w1 := ((hWb.alloc (by omega) _).drew).grown hgrow (by simp; omega) (fun k hk => (HL.out k hk).1)
              clear hgrow hWb f0 f1 f2 f3 f4 p0 p1 p2
              go_wp2
              go_roundw
              case rel => exact ⟨j + 1, by omega, by go_num, by simp only [kept]; rw [if_neg (by omega), mvs_snoc]; simpa using hown1, hb1⟩
              case measure => simp [intOf]; omega
          · obtain rfl : j = k := by omega
            obtain ⟨g7, c7, rfl, _, _⟩ := hown.form (List.length_pos_iff.2 H0.out)
            go_wp2
            go_ret
            exact ⟨wr.heap.size, _, rfl, by simp, .inr ⟨H0.out, hown.alloc _⟩, hbel.alloc hsz _⟩

end Go.Proofs.Ybulkadug

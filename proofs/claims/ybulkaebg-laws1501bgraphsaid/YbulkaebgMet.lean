/-
  LawS1501BGraph over toys/ybulkaebg: the lists 'met' that sessionsAndKeys makes: the plain functions; their memory.
-/
import Derived.Test.YbulkaebgFrm
import Derived.Deep.RegionLaw
import Derived.Deep.AppendLies
namespace Go.Proofs.Ybulkaebg
open Go.RowKit

/-! ### Plain -/
def stepM (Wr : Nat → Bool) (S : Nat) (l : List Nat) (o : Nat × Bool) : List Nat := if Wr o.1 && !l.contains (S + o.1) then l ++ [S + o.1] else l
def attM (A : Nat → Att) (Wr : Nat → Bool) (S : Nat) (l : List Nat) (i : Nat) : List Nat := (A i).o.foldl (stepM Wr S) l
/-- Session s's keys, as vertices, in the order in which they are met. -/
def Mt (A : Nat → Att) (N S s : Nat) : List Nat := if s < S then (seg (coms A N) s).foldl (attM A (wrt A N) S) [] else []

/-- Each vertex once; vertices of keys only. -/
def Good (S K : Nat) (l : List Nat) : Prop := l.Nodup ∧ ∀ v, v ∈ l → S ≤ v ∧ v < S + K

theorem Good.nil (S K : Nat) : Good S K [] := ⟨List.nodup_nil, fun v h => by simp at h⟩
theorem Good.step {S K : Nat} {l : List Nat} (h : Good S K l) {Wr : Nat → Bool} {o : Nat × Bool} (ho : o.1 < K) : Good S K (stepM Wr S l o) := by
  unfold stepM
  split
  · rename_i hc
    simp only [Bool.and_eq_true, Bool.not_eq_true', List.contains_eq_mem, decide_eq_false_iff_not] at hc
    refine ⟨?_, fun v hv => ?_⟩
    · rw [List.nodup_append]
      exact ⟨h.1, by simp, fun a ha b hb => by simp at hb; subst hb; exact fun e => hc.2 (e ▸ ha)⟩
    · simp only [List.mem_append, List.mem_singleton] at hv
      rcases hv with hv | rfl
      · exact h.2 v hv
      · omega
  · exact h
theorem Good.fold {S K : Nat} {Wr : Nat → Bool} : ∀ (os : List (Nat × Bool)) {l : List Nat}, Good S K l → (∀ x, x ∈ os → x.1 < K) → Good S K (os.foldl (stepM Wr S) l)
  | [], _, h, _ => h
  | o :: os, _, h, hk => Good.fold os (h.step (hk o (by simp))) (fun x hx => hk x (by simp [hx]))
theorem Good.att {A : Nat → Att} {S K : Nat} {Wr : Nat → Bool} : ∀ (is : List Nat) {l : List Nat}, Good S K l → (∀ i, i ∈ is → ∀ x, x ∈ (A i).o → x.1 < K) → Good S K (is.foldl (attM A Wr S) l)
  | [], _, h, _ => h
  | i :: is, _, h, hk => Good.att is (Good.fold _ h (hk i (by simp))) (fun x hx => hk x (by simp [hx]))
theorem nodup_le (S : Nat) : ∀ (K : Nat) (l : List Nat), l.Nodup → (∀ v, v ∈ l → S ≤ v ∧ v < S + K) → l.length ≤ K
  | 0, l, _, h => by
    cases l with
    | nil => simp
    | cons a l => have := h a (by simp); omega
  | K + 1, l, hn, h => by
    have h1 := nodup_le S K (l.erase (S + K)) (hn.erase _) (fun v hv => by
      rw [hn.mem_erase_iff] at hv
      have := h v hv.2
      have := hv.1
      omega)
    rw [List.length_erase] at h1
    split at h1 <;> omega
theorem Good.le {S K : Nat} {l : List Nat} (h : Good S K l) : l.length ≤ K := nodup_le S K l h.1 h.2

theorem fold_mem (Wr : Nat → Bool) (S v : Nat) : ∀ (os : List (Nat × Bool)) (l : List Nat), v ∈ os.foldl (stepM Wr S) l ↔ v ∈ l ∨ ∃ o, o ∈ os ∧ Wr o.1 = true ∧ v = S + o.1
  | [], l => by simp
  | o :: os, l => by
    rw [List.foldl_cons, fold_mem Wr S v os]
    have hs : v ∈ stepM Wr S l o ↔ v ∈ l ∨ (Wr o.1 = true ∧ v = S + o.1) := by
      unfold stepM
      split
      · rename_i hc
        simp only [Bool.and_eq_true] at hc
        simp [hc.1]
      · rename_i hc
        simp only [Bool.and_eq_true, Bool.not_eq_true', List.contains_eq_mem, decide_eq_false_iff_not, not_and, Classical.not_not] at hc
        constructor
        · exact .inl
        · rintro (h | ⟨h1, rfl⟩)
          · exact h
          · exact hc h1
    rw [hs]
    simp only [List.mem_cons, exists_eq_or_imp, or_assoc]
theorem att_mem (A : Nat → Att) (Wr : Nat → Bool) (S v : Nat) : ∀ (is : List Nat) (l : List Nat), v ∈ is.foldl (attM A Wr S) l ↔ v ∈ l ∨ ∃ i, i ∈ is ∧ ∃ o, o ∈ (A i).o ∧ Wr o.1 = true ∧ v = S + o.1
  | [], l => by simp
  | i :: is, l => by
    rw [List.foldl_cons, att_mem A Wr S v is, attM, fold_mem]
    simp only [List.mem_cons, exists_eq_or_imp, or_assoc]

theorem mem_seg {E : List (Nat × Nat)} {v i : Nat} : i ∈ seg E v ↔ (i, v) ∈ E := by
  simp only [seg, List.mem_map, List.mem_filter, beq_iff_eq]
  constructor
  · rintro ⟨⟨a, b⟩, ⟨h1, h2⟩, rfl⟩; simp at h2; subst h2; exact h1
  · intro h; exact ⟨(i, v), ⟨h, rfl⟩, rfl⟩
theorem seg_coms {A : Nat → Att} {N s i : Nat} : i ∈ seg (coms A N) s ↔ i < N ∧ (A i).c = true ∧ (A i).s = s := by
  rw [mem_seg]
  constructor
  · intro h
    have := coms_mem h
    exact ⟨this.1, this.2.1, this.2.2.symm⟩
  · rintro ⟨h1, h2, rfl⟩
    exact mem_coms h1 h2

/-- Does a committed one of the first i attempts, of session s, touch key x? -/
def tch (A : Nat → Att) : Nat → Nat → Nat → Bool
  | 0, _, _ => false
  | i + 1, s, x => if (A i).c then tch A i s x || ((A i).s == s && (A i).o.any (fun p => p.1 == x)) else tch A i s x
/-- Has session s a committed one of the first i attempts? -/
def act (A : Nat → Att) : Nat → Nat → Bool
  | 0, _ => false
  | i + 1, s => if (A i).c then act A i s || (A i).s == s else act A i s

theorem tch_iff (A : Nat → Att) (s x : Nat) : ∀ N, tch A N s x = true ↔ ∃ i, i < N ∧ (A i).c = true ∧ (A i).s = s ∧ ∃ o, o ∈ (A i).o ∧ o.1 = x
  | 0 => by simp [tch]
  | N + 1 => by
    have ih := tch_iff A s x N
    simp only [tch]
    constructor
    · intro h
      split at h
      · rename_i hc
        simp only [Bool.or_eq_true, Bool.and_eq_true, beq_iff_eq, List.any_eq_true] at h
        rcases h with h | ⟨h1, o, ho, hx⟩
        · obtain ⟨i, h1, h2⟩ := ih.1 h; exact ⟨i, by omega, h2⟩
        · exact ⟨N, by omega, hc, h1, o, ho, hx⟩
      · obtain ⟨i, h1, h2⟩ := ih.1 h; exact ⟨i, by omega, h2⟩
    · rintro ⟨i, h1, h2, h3, h4⟩
      by_cases e : i = N
      · subst e
        obtain ⟨o, ho, hx⟩ := h4
        rw [if_pos h2]
        simp only [Bool.or_eq_true, Bool.and_eq_true, beq_iff_eq, List.any_eq_true]
        exact .inr ⟨h3, o, ho, hx⟩
      · have := ih.2 ⟨i, by omega, h2, h3, h4⟩
        split
        · simp [this]
        · exact this
theorem act_iff (A : Nat → Att) (s : Nat) : ∀ N, act A N s = true ↔ ∃ i, i < N ∧ (A i).c = true ∧ (A i).s = s
  | 0 => by simp [act]
  | N + 1 => by
    have ih := act_iff A s N
    simp only [act]
    constructor
    · intro h
      split at h
      · rename_i hc
        simp only [Bool.or_eq_true, beq_iff_eq] at h
        rcases h with h | h1
        · obtain ⟨i, h1, h2⟩ := ih.1 h; exact ⟨i, by omega, h2⟩
        · exact ⟨N, by omega, hc, h1⟩
      · obtain ⟨i, h1, h2⟩ := ih.1 h; exact ⟨i, by omega, h2⟩
    · rintro ⟨i, h1, h2, h3⟩
      by_cases e : i = N
      · subst e
        rw [if_pos h2]
        simp [h3]
      · have := ih.2 ⟨i, by omega, h2, h3⟩
        split
        · simp [this]
        · exact this

theorem mt_mem (A : Nat → Att) (N S s v : Nat) : v ∈ Mt A N S s ↔ s < S ∧ ∃ x, v = S + x ∧ wrt A N x = true ∧ tch A N s x = true := by
  unfold Mt
  split
  · rename_i hs
    rw [att_mem]
    simp only [List.not_mem_nil, false_or, seg_coms, hs, true_and]
    constructor
    · rintro ⟨i, ⟨h1, h2, h3⟩, o, ho, hw, rfl⟩
      exact ⟨o.1, rfl, hw, (tch_iff A s o.1 N).2 ⟨i, h1, h2, h3, o, ho, rfl⟩⟩
    · rintro ⟨x, rfl, hw, ht⟩
      obtain ⟨i, h1, h2, h3, o, ho, rfl⟩ := (tch_iff A s x N).1 ht
      exact ⟨i, ⟨h1, h2, h3⟩, o, ho, hw, rfl⟩
  · rename_i hs
    simp [hs]
theorem act_seg (A : Nat → Att) (N s : Nat) : act A N s = decide (0 < (seg (coms A N) s).length) := by
  rw [Bool.eq_iff_iff, act_iff, decide_eq_true_iff, List.length_pos_iff_exists_mem]
  constructor
  · rintro ⟨i, h⟩; exact ⟨i, seg_coms.2 h⟩
  · rintro ⟨i, h⟩; exact ⟨i, seg_coms.1 h⟩
theorem mt_good {A : Nat → Att} {N S K : Nat} (hk : ∀ i, i < N → ∀ x, x ∈ (A i).o → x.1 < K) (s : Nat) : Good S K (Mt A N S s) := by
  unfold Mt
  split
  · exact Good.att _ (Good.nil S K) (fun i hi => hk i (seg_coms.1 hi).1)
  · exact Good.nil S K
theorem mt_out {A : Nat → Att} {N S s : Nat} (h : S ≤ s) : Mt A N S s = [] := by unfold Mt; rw [if_neg (by omega)]

/-- Under way: k attempts of session s are taken. -/
def Mk (A : Nat → Att) (N S s k : Nat) : List Nat := ((seg (coms A N) s).take k).foldl (attM A (wrt A N) S) []
theorem mk_zero (A : Nat → Att) (N S s : Nat) : Mk A N S s 0 = [] := by simp [Mk]
theorem mk_full {A : Nat → Att} {N S s : Nat} (hs : s < S) : Mk A N S s (seg (coms A N) s).length = Mt A N S s := by simp [Mk, Mt, hs]
/-- Under way: of the next, j operations are taken. -/
def Mj (A : Nat → Att) (N S s k i j : Nat) : List Nat := ((A i).o.take j).foldl (stepM (wrt A N) S) (Mk A N S s k)
theorem mj_zero (A : Nat → Att) (N S s k i : Nat) : Mj A N S s k i 0 = Mk A N S s k := by simp [Mj]
theorem mj_full {A : Nat → Att} {N S s k : Nat} (h : k < (seg (coms A N) s).length) : Mj A N S s k (seg (coms A N) s)[k] (A (seg (coms A N) s)[k]).o.length = Mk A N S s (k + 1) := by
  unfold Mj Mk
  rw [List.take_succ_eq_append_getElem h, List.foldl_append, List.take_length]
  rfl
theorem mj_step {A : Nat → Att} {N S s k i j : Nat} (h : j < (A i).o.length) : Mj A N S s k i (j + 1) = stepM (wrt A N) S (Mj A N S s k i j) (A i).o[j] := by
  unfold Mj
  rw [List.take_succ_eq_append_getElem h, List.foldl_append]
  rfl
theorem mk_good {A : Nat → Att} {N S K : Nat} (hk : ∀ i, i < N → ∀ x, x ∈ (A i).o → x.1 < K) (s k : Nat) : Good S K (Mk A N S s k) :=
  Good.att _ (Good.nil S K) (fun i hi => hk i (seg_coms.1 (List.mem_of_mem_take hi)).1)
theorem mj_good {A : Nat → Att} {N S K : Nat} (hk : ∀ i, i < N → ∀ x, x ∈ (A i).o → x.1 < K) (s k i j : Nat) (hi : i < N) : Good S K (Mj A N S s k i j) :=
  Good.fold _ (mk_good hk s k) (fun x hx => hk i hi x (List.mem_of_mem_take hx))

theorem pre_le (f : Nat → Nat) (c : Nat) : ∀ n, (∀ u, u < n → f u ≤ c) → pre f n ≤ n * c
  | 0, _ => by simp [pre]
  | n + 1, h => by
    have h1 := pre_le f c n (fun u hu => h u (by omega))
    have h2 := h n (by omega)
    simp only [pre]
    rw [Nat.succ_mul]
    omega
theorem mt_at0 {A : Nat → Att} {N S K : Nat} (hk : ∀ i, i < N → ∀ x, x ∈ (A i).o → x.1 < K) (s : Nat) : at0 (Mt A N S) s ≤ s * K := pre_le _ K s (fun u _ => (mt_good hk u).le)

theorem at0_first (M : Nat → List Nat) (i : Nat) : (0 : Int) = if i ≤ 0 then ((at0 M i : Nat) : Int) else 0 := by
  split
  · obtain rfl : i = 0 := by omega
    rfl
  · rfl

/-! ### The memory -/
/-- The lists 'met' under way: 'start' holds F, 'to' holds tl; 'active' and 'seen' beside them. -/
structure MT (W wr : World) (g S K n : Nat) (F : Nat → Int) (tl : List Nat) (Ac : Nat → Bool) (Sn : Nat → Int) : Prop where
  rs : wr.rowIs g 3 (n + 1) (fun i => .int .i64 (F i))
  ra : wr.rowIs (g + 2) 4 S (fun x => .bool (Ac x))
  rn : wr.rowIs (g + 3) 3 K (fun x => .int .i64 (Sn x))
  b0 : wr.cell? ⟨g + 1, 0, none⟩ = some (.slice (some ⟨g, 0, none⟩) (n + 1) (n + 1))
  b1 : ∃ v, wr.cell? ⟨g + 1, 1, none⟩ = some v ∧ wr.ownsRow (g + 4) 21 1 v tl.length (tl.map fun x => .int .i32 (x : Nat))
  bf : wr.frozen? ⟨g + 1, 1, none⟩ = false
  sz : g + 4 ≤ wr.heap.size
  bel : Below g W wr

section
variable {W wr : World} {g S K n : Nat} {F : Nat → Int} {tl : List Nat} {Ac : Nat → Bool} {Sn : Nat → Int}

theorem MT.block {w2 : World} (h : MT W wr g S K n F tl Ac Sn) (hb : Below (g + 4) wr w2) (ho : ∀ v, wr.ownsRow (g + 4) 21 1 v tl.length (tl.map fun x => .int .i32 (x : Nat)) → w2.ownsRow (g + 4) 21 1 v tl.length (tl.map fun x => .int .i32 (x : Nat))) : MT W w2 g S K n F tl Ac Sn :=
  ⟨h.rs.of_block (hb.block _ (by omega)), h.ra.of_block (hb.block _ (by omega)), h.rn.of_block (hb.block _ (by omega)), (hb.cell (by show g + 1 < g + 4; omega)).trans h.b0, by
    obtain ⟨v, h1, h2⟩ := h.b1
    exact ⟨v, (hb.cell (by show g + 1 < g + 4; omega)).trans h1, ho v h2⟩, (hb.frozen (by show g + 1 < g + 4; omega)).trans h.bf, Nat.le_trans h.sz hb.size, h.bel.trans (hb.mono (by omega))⟩
theorem MT.alloc (h : MT W wr g S K n F tl Ac Sn) (o : Obj) : MT W (wr.alloc o) g S K n F tl Ac Sn := h.block ((Below.refl _ _).alloc h.sz o) (fun _ ho => ho.alloc o)
theorem MT.drew (h : MT W wr g S K n F tl Ac Sn) : MT W wr.drew g S K n F tl Ac Sn := ⟨h.rs, h.ra, h.rn, h.b0, h.b1, h.bf, h.sz, h.bel.drew⟩
theorem MT.drewN (h : MT W wr g S K n F tl Ac Sn) (d : Nat) : MT W (wr.drewN d) g S K n F tl Ac Sn := ⟨h.rs, h.ra, h.rn, h.b0, h.b1, h.bf, h.sz, below_drewN h.bel d⟩
theorem MT.setS (h : MT W wr g S K n F tl Ac Sn) (i : Nat) (x : Int) : MT W (wr.setCell ⟨g, i, none⟩ (.int .i64 x)) g S K n (fun j => if j = i then x else F j) tl Ac Sn :=
  ⟨(h.rs.set i _).congr fun j _ => by split <;> rfl, h.ra.setOther (by show g + 2 ≠ g; omega) _, h.rn.setOther (by show g + 3 ≠ g; omega) _, (World.cell?_setCell_other _ _ _ _ (by simp)).trans h.b0, by
    obtain ⟨v, h1, h2⟩ := h.b1
    exact ⟨v, (World.cell?_setCell_other _ _ _ _ (by simp)).trans h1, ownsRow_setCell_below h2 (by show g < g + 4; omega) _⟩,
   (World.frozen?_of_block (Below.heap_setCell _ _ _ _ (by show g + 1 ≠ g; omega))).trans h.bf, by simpa using h.sz, h.bel.setCell (by show g ≤ g; omega) _⟩
theorem MT.setA (h : MT W wr g S K n F tl Ac Sn) (i : Nat) (x : Bool) : MT W (wr.setCell ⟨g + 2, i, none⟩ (.bool x)) g S K n F tl (fun j => if j = i then x else Ac j) Sn :=
  ⟨h.rs.setOther (by show g ≠ g + 2; omega) _, (h.ra.set i _).congr fun j _ => by split <;> rfl, h.rn.setOther (by show g + 3 ≠ g + 2; omega) _, (World.cell?_setCell_other _ _ _ _ (by simp)).trans h.b0, by
    obtain ⟨v, h1, h2⟩ := h.b1
    exact ⟨v, (World.cell?_setCell_other _ _ _ _ (by simp)).trans h1, ownsRow_setCell_below h2 (by show g + 2 < g + 4; omega) _⟩,
   (World.frozen?_of_block (Below.heap_setCell _ _ _ _ (by show g + 1 ≠ g + 2; omega))).trans h.bf, by simpa using h.sz, h.bel.setCell (by show g ≤ g + 2; omega) _⟩
theorem MT.setN (h : MT W wr g S K n F tl Ac Sn) (i : Nat) (x : Int) : MT W (wr.setCell ⟨g + 3, i, none⟩ (.int .i64 x)) g S K n F tl Ac (fun j => if j = i then x else Sn j) :=
  ⟨h.rs.setOther (by show g ≠ g + 3; omega) _, h.ra.setOther (by show g + 2 ≠ g + 3; omega) _, (h.rn.set i _).congr fun j _ => by split <;> rfl, (World.cell?_setCell_other _ _ _ _ (by simp)).trans h.b0, by
    obtain ⟨v, h1, h2⟩ := h.b1
    exact ⟨v, (World.cell?_setCell_other _ _ _ _ (by simp)).trans h1, ownsRow_setCell_below h2 (by show g + 3 < g + 4; omega) _⟩,
   (World.frozen?_of_block (Below.heap_setCell _ _ _ _ (by show g + 1 ≠ g + 3; omega))).trans h.bf, by simpa using h.sz, h.bel.setCell (by show g ≤ g + 3; omega) _⟩
theorem MT.app {w2 : World} {x g1 cap : Nat} (h : MT W wr g S K n F tl Ac Sn) (hb : Below (g + 4) wr w2) (ho : w2.ownsRow (g + 4) 21 1 (.slice (some ⟨g1, 0, none⟩) (tl.length + 1) cap) (tl.length + 1) ((tl.map fun x => .int .i32 (x : Nat)) ++ [.int .i32 (x : Nat)])) :
    MT W (w2.setCell ⟨g + 1, 1, none⟩ (.slice (some ⟨g1, 0, none⟩) (tl.length + 1) cap)) g S K n F (tl ++ [x]) Ac Sn := by
  obtain ⟨v, h1, _⟩ := h.b1
  have h2 := (hb.cell (p := ⟨g + 1, 1, none⟩) (by show g + 1 < g + 4; omega)).trans h1
  refine ⟨(h.rs.of_block (hb.block _ (by omega))).setOther (by show g ≠ g + 1; omega) _, (h.ra.of_block (hb.block _ (by omega))).setOther (by show g + 2 ≠ g + 1; omega) _, (h.rn.of_block (hb.block _ (by omega))).setOther (by show g + 3 ≠ g + 1; omega) _,
    (World.cell?_setCell_other _ _ _ _ (by simp)).trans ((hb.cell (by show g + 1 < g + 4; omega)).trans h.b0), ⟨_, World.cell?_setCell_same _ _ _ h2, ?_⟩, ?_, by have := h.sz; have := hb.size; simp; omega, (h.bel.trans (hb.mono (by omega))).setCell (by show g ≤ g + 1; omega) _⟩
  · have := ownsRow_setCell_below ho (a := ⟨g + 1, 1, none⟩) (by show g + 1 < g + 4; omega) (.slice (some ⟨g1, 0, none⟩) (tl.length + 1) cap)
    simpa using this
  · have := (hb.frozen (p := ⟨g + 1, 1, none⟩) (by show g + 1 < g + 4; omega)).trans h.bf
    simpa using this
theorem MT.congr {F' : Nat → Int} {Ac' : Nat → Bool} (h : MT W wr g S K n F tl Ac Sn) (e : ∀ i, i < n + 1 → F i = F' i) (e2 : ∀ i, i < S → Ac i = Ac' i) : MT W wr g S K n F' tl Ac' Sn :=
  ⟨h.rs.congr fun i hi => by rw [e i hi], h.ra.congr fun i hi => by rw [e2 i hi], h.rn, h.b0, h.b1, h.bf, h.sz, h.bel⟩
theorem MT.start (W : World) (S K n : Nat) : MT W ((((W.alloc (.cells (madeCells #[.int .i64 0] (n + 1)) 3)).alloc (.cells #[.slice (some ⟨W.heap.size, 0, none⟩) (n + 1) (n + 1), .slice none 0 0] 69)).alloc (.cells (madeCells #[.bool false] S) 4)).alloc (.cells (madeCells #[.int .i64 0] K) 3))
    W.heap.size S K n (fun _ => 0) [] (fun _ => false) (fun _ => 0) := by
  refine ⟨(((World.rowIs_made W _ (n + 1) 3).alloc _).alloc _).alloc _, ?_, ?_, by go_simp, ⟨.slice none 0 0, by go_simp, World.ownsRow_nil _ _ _ _⟩, by go_simp, by simp, ?_⟩
  · have := World.rowIs_made ((W.alloc (.cells (madeCells #[.int .i64 0] (n + 1)) 3)).alloc (.cells #[.slice (some ⟨W.heap.size, 0, none⟩) (n + 1) (n + 1), .slice none 0 0] 69)) (.bool false) S 4
    simp only [World.size_alloc] at this
    exact this.alloc _
  · have := World.rowIs_made (((W.alloc (.cells (madeCells #[.int .i64 0] (n + 1)) 3)).alloc (.cells #[.slice (some ⟨W.heap.size, 0, none⟩) (n + 1) (n + 1), .slice none 0 0] 69)).alloc (.cells (madeCells #[.bool false] S) 4)) (.int .i64 0) K 3
    simp only [World.size_alloc] at this
    exact this
  · exact ((((Below.refl _ _).alloc (Nat.le_refl _) _).alloc (by simp) _).alloc (by simp; omega) _).alloc (by simp; omega) _
/-- What the finished lists are. -/
theorem MT.succ {M : Nat → List Nat} (h : MT W wr g S K n F (cat M n) Ac Sn) (hF : ∀ u, u ≤ n → F u = (at0 M u : Nat)) : ∃ ao ct, Succ wr (g + 1) n M g (n + 1) ao (at0 M n) ct := by
  obtain ⟨v, h1, h2⟩ := h.b1
  have hl := cat_len M n
  rcases h2.2 with ⟨rfl, h0⟩ | ⟨g', cap, cur, rfl, _, hg, hc, _⟩
  · refine ⟨none, 0, ⟨h.b0, ?_, rfl, by omega, fun u hu => by rw [h.rs.cell (by omega), hF u hu], .inl ⟨rfl, rfl⟩⟩⟩
    rw [h1]; rw [show at0 M n = 0 by omega]
  · refine ⟨some ⟨g', 0, none⟩, cap, ⟨h.b0, ?_, rfl, by omega, fun u hu => by rw [h.rs.cell (by omega), hF u hu], .inr ⟨g', rfl, fun u j hj hu => ?_⟩⟩⟩
    · rw [h1, hl]
    · have := h2.cells (g := g') rfl (at0 M u + j) (.int .i32 ((M u)[j] : Nat)) (by rw [List.getElem?_map, show (Ybulkaebg.cat M n)[at0 M u + j]? = some ((M u)[j]) from cat_at M hu hj]; rfl)
      rw [Addr.add_lit, Nat.zero_add] at this
      exact this
end

/-- by[lo:hi]: where it begins does not matter if it is empty. -/
theorem slice41 (g m lo hi : Nat) (h1 : lo ≤ hi) (h2 : hi ≤ m) : ∃ a, (∀ w, (Instr.slice 41 (.slice (some ⟨g, 0, none⟩) m m) (some (.int .i64 (lo : Int))) (some (.int .i64 (hi : Int))) none).run Yba.prog w = .ok (.slice a (hi - lo) (m - lo)) w) ∧ (hi = lo ∨ a = some ⟨g, lo, none⟩) := by
  have e1 : (lo : Int) ≤ (hi : Int) := by omega
  have e2 : (hi : Int) ≤ (m : Int) := by omega
  by_cases h : m = lo
  · subst h
    obtain rfl : hi = m := by omega
    refine ⟨some ⟨g, 0, none⟩, fun w => ?_, .inl rfl⟩
    go_simp
  · refine ⟨some ⟨g, lo, none⟩, fun w => ?_, .inr rfl⟩
    go_simp

theorem stepM_no1 {Wr : Nat → Bool} {S : Nat} {l : List Nat} {o : Nat × Bool} (h : Wr o.1 = false) : stepM Wr S l o = l := by simp [stepM, h]
theorem stepM_no2 {Wr : Nat → Bool} {S : Nat} {l : List Nat} {o : Nat × Bool} (h : S + o.1 ∈ l) : stepM Wr S l o = l := by simp [stepM, h]
theorem stepM_yes {Wr : Nat → Bool} {S : Nat} {l : List Nat} {o : Nat × Bool} (h : Wr o.1 = true) (h2 : S + o.1 ∉ l) : stepM Wr S l o = l ++ [S + o.1] := by simp [stepM, h, h2]

/-- seen: which keys are listed for session s. -/
def Seen (S K s : Nat) (l : List Nat) (Sn : Nat → Int) : Prop := ∀ x, x < K → 0 ≤ Sn x ∧ Sn x ≤ (s : Int) + 1 ∧ (Sn x = (s : Int) + 1 ↔ S + x ∈ l)
theorem Seen.mark {S K s : Nat} {l : List Nat} {Sn : Nat → Int} (h : Seen S K s l Sn) (x : Nat) : Seen S K s (l ++ [S + x]) (fun j => if j = x then (s : Int) + 1 else Sn j) := fun y hy => by
  obtain ⟨h1, h2, h3⟩ := h y hy
  by_cases e : y = x
  · subst e
    simp
    omega
  · simp only [e, if_false, List.mem_append, List.mem_singleton]
    refine ⟨h1, h2, h3.trans ⟨.inl, fun h => ?_⟩⟩
    rcases h with h | h
    · exact h
    · omega

set_option maxHeartbeats 1000000 in
theorem opsOf_val (bh N S K : Nat) (A : Nat → Att) (ga ca gb : Nat) (ao : Option Addr) (co gk gse : Nat) (i : Nat) (w0 : World) (h0 : Hist w0 bh N S K A ga ca gb ao co gk gse) (hi : i < N) :
    ∃ a c, (∀ w, Hist w bh N S K A ga ca gb ao co gk gse → Ops w a (A i).o) ∧
      ∀ w, Hist w bh N S K A ga ca gb ao co gk gse → Calls Yba.prog 10 #[.pointer (some ⟨bh, 0, none⟩), .pointer (some ⟨ga, i * 7, none⟩)] w fun e w' => e = .returned (.slice a (A i).o.length c) ∧ ∃ d, w' = w.drewN d := by
  have h1 := os_mono A (a := i + 1) (b := N) hi
  have h2 := os_succ A i
  have h3 := h0.cap
  have h4 := h0.hO
  rcases h0.ops with ⟨rfl, rfl⟩ | ⟨g, rfl, _⟩
  · have hl : (A i).o.length = 0 := by omega
    have hz : os A i = 0 := by omega
    have hzN : os A N = 0 := by omega
    refine ⟨none, 0, fun _ _ => .inl (List.length_eq_zero_iff.1 hl), fun w h => ?_⟩
    have c1 := h.c1
    have b1 := h.b1
    obtain ⟨_, _, _, _, a4, a5, a6⟩ := h.at_ i hi
    rw [hz] at a5
    rw [hl] at a6
    rw [hzN] at b1
    have HR : Hid ((A i).o.length = 0) := hl
    clear h h0 h1 h2 h3 h4 hl hz hzN
    have hsl := slice_nil52
    go_enter Yba.func10, Yba.ntmps10
    go_wp2
    go_quiet (fail)
    go_wp2
    go_ret
    exact ⟨by rw [HR.out]; rfl, _, rfl⟩
  · obtain ⟨lo, hlo⟩ : ∃ x, x = os A i := ⟨_, rfl⟩
    obtain ⟨k, hk⟩ : ∃ x, x = (A i).o.length := ⟨_, rfl⟩
    have l1 : lo + k ≤ co := by omega
    have l2 : lo ≤ 8192 := by omega
    have l3 : k ≤ 8192 := by omega
    by_cases hc : k = 0
    · refine ⟨some ⟨g, 0, none⟩, 0, fun _ _ => .inl (List.length_eq_zero_iff.1 (by omega)), fun w h => ?_⟩
      have c1 := h.c1
      have b1 := h.b1
      obtain ⟨_, _, _, _, a4, a5, a6⟩ := h.at_ i hi
      rw [← hlo] at a5
      rw [← hk] at a6 ⊢
      subst hc
      generalize os A N = tot at *
      clear h h0 h1 h2 h3 h4 hlo hk
      go_enter Yba.func10, Yba.ntmps10
      go_wp2
      go_quiet (fail)
      go_wp2
      go_ret
      exact ⟨rfl, _, rfl⟩
    · refine ⟨some ⟨g, lo * 5, none⟩, k, fun w h => ?_, fun w h => ?_⟩
      · rcases h.ops with ⟨e, _⟩ | ⟨g', e, ht'⟩
        · cases e
        · cases e
          refine .inr ⟨g, lo * 5, rfl, fun j hj => ?_⟩
          rw [hlo, ← Nat.add_mul]
          exact ht' i hi j hj
      · have c1 := h.c1
        have b1 := h.b1
        obtain ⟨_, _, _, _, a4, a5, a6⟩ := h.at_ i hi
        rw [← hlo] at a5
        rw [← hk] at a6 ⊢
        generalize os A N = tot at *
        clear h h0 h1 h2 h3 h4 hlo hk
        go_enter Yba.func10, Yba.ntmps10
        go_wp2
        go_quiet (fail)
        go_wp2
        go_ret
        refine ⟨?_, _, rfl⟩
        simp

end Go.Proofs.Ybulkaebg

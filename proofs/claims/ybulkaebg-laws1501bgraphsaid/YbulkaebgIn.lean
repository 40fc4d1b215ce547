/-
  LawS1501BGraph over toys/ybulkaebg: what came in, and the history that is built of it, in memory.
-/
import Derived.Test.YbulkaebgMet
namespace Go.Proofs.Ybulkaebg
open Go.RowKit

/-- An attempt that came in. -/
structure XAtt where
  s : Nat
  c : Bool
  l : List (Nat × Bool)
  a : Option Addr
  cap : Nat

/-- Operations that came in: two cells each. -/
def XOps (w : World) (a : Option Addr) (l : List (Nat × Bool)) : Prop :=
  l = [] ∨ ∃ g off, a = some ⟨g, off, none⟩ ∧ ∀ j (h : j < l.length), w.cell? ⟨g, off + j * 2, none⟩ = some (.int .u8 (l[j].1 : Nat)) ∧ w.cell? ⟨g, off + j * 2 + 1, none⟩ = some (.bool l[j].2)

/-- The attempts that came in: three cells each. -/
structure Inp (w : World) (ad : Option Addr) (n : Nat) (X : Nat → XAtt) : Prop where
  row : n = 0 ∨ ∃ g off, ad = some ⟨g, off, none⟩ ∧ ∀ i, i < n → w.cell? ⟨g, off + i * 3, none⟩ = some (.int .u8 ((X i).s : Nat)) ∧ w.cell? ⟨g, off + i * 3 + 1, none⟩ = some (.bool (X i).c) ∧ w.cell? ⟨g, off + i * 3 + 2, none⟩ = some (.slice (X i).a (X i).l.length (X i).cap)
  ops : ∀ i, i < n → XOps w (X i).a (X i).l
  rng : ∀ i, i < n → (X i).s < 256 ∧ ∀ p, p ∈ (X i).l → p.1 < 256

theorem XOps.below {w w' : World} {a : Option Addr} {l : List (Nat × Bool)} (h : XOps w a l) (hb : Below w.heap.size w w') : XOps w' a l := by
  rcases h with h | ⟨g, off, e, hc⟩
  · exact .inl h
  · exact .inr ⟨g, off, e, fun j hj => ⟨(hb.cell (block_lt_of_cell (hc j hj).1)).trans (hc j hj).1, (hb.cell (block_lt_of_cell (hc j hj).2)).trans (hc j hj).2⟩⟩
theorem Inp.below {w w' : World} {ad : Option Addr} {n : Nat} {X : Nat → XAtt} (h : Inp w ad n X) (hb : Below w.heap.size w w') : Inp w' ad n X := by
  have T : ∀ {a : Addr} {v : Value}, w.cell? a = some v → w'.cell? a = some v := fun hc => (hb.cell (block_lt_of_cell hc)).trans hc
  refine ⟨?_, fun i hi => (h.ops i hi).below hb, h.rng⟩
  rcases h.row with h | ⟨g, off, e, hc⟩
  · exact .inl h
  · exact .inr ⟨g, off, e, fun i hi => ⟨T (hc i hi).1, T (hc i hi).2.1, T (hc i hi).2.2⟩⟩

/-- What build makes of one. -/
def attOf (S K : Nat) (x : XAtt) : Att := ⟨x.s % S, x.c, if K = 0 then [] else x.l.map (fun p => (p.1 % K, p.2))⟩
def AA (S K : Nat) (X : Nat → XAtt) (i : Nat) : Att := attOf S K (X i)

theorem aa_len {S K : Nat} {X : Nat → XAtt} {i : Nat} (h : K ≠ 0) : (AA S K X i).o.length = (X i).l.length := by simp [AA, attOf, h]
theorem aa_at {S K : Nat} {X : Nat → XAtt} {i j : Nat} (h : K ≠ 0) (hj : j < (AA S K X i).o.length) (hj' : j < (X i).l.length) : (AA S K X i).o[j] = ((X i).l[j].1 % K, (X i).l[j].2) := by simp [AA, attOf, h]
theorem aa_le (S K : Nat) (X : Nat → XAtt) (i : Nat) : (AA S K X i).o.length ≤ (X i).l.length := by
  unfold AA attOf
  dsimp only
  split <;> simp
theorem aa_nil {S : Nat} {X : Nat → XAtt} {i : Nat} : (AA S 0 X i).o = [] := by simp [AA, attOf]
theorem pre_mono_fun {f g : Nat → Nat} (h : ∀ i, f i ≤ g i) : ∀ n, pre f n ≤ pre g n
  | 0 => Nat.le_refl _
  | n + 1 => by have := pre_mono_fun h n; have := h n; simp only [pre]; omega
theorem aa_os (S K : Nat) (X : Nat → XAtt) (n : Nat) : os (AA S K X) n ≤ pre (fun i => (X i).l.length) n := pre_mono_fun (fun i => aa_le S K X i) n
theorem aa_s {S K : Nat} {X : Nat → XAtt} {i : Nat} (h : S ≠ 0) : (AA S K X i).s < S := Nat.mod_lt _ (by omega)
theorem aa_k {S K : Nat} {X : Nat → XAtt} {i : Nat} : ∀ x, x ∈ (AA S K X i).o → x.1 < K := by
  intro x hx
  by_cases h : K = 0
  · subst h; rw [aa_nil] at hx; simp at hx
  · simp only [AA, attOf, h, if_false, List.mem_map] at hx
    obtain ⟨p, _, rfl⟩ := hx
    exact Nat.mod_lt _ (by omega)

/-! ### The two rows that build makes -/
def attV (A : Nat → Att) (i : Nat) : List Value := [.int .i64 ((i : Int) + 1), .int .i64 ((A i).s : Nat), .bool (A i).c, .bool false, .int .u32 1, .int .u32 (os A i : Nat), .int .u32 ((A i).o.length : Nat)]
def opV (p : Nat × Bool) : List Value := [.int .i64 (p.1 : Nat), .int .i64 0, .bool p.2, .bool false, .int .u32 0]
def flatA (A : Nat → Att) : Nat → List Value
  | 0 => []
  | n + 1 => flatA A n ++ attV A n
def flatO (l : List (Nat × Bool)) : List Value := l.flatMap opV
def allO (A : Nat → Att) : Nat → List (Nat × Bool)
  | 0 => []
  | n + 1 => allO A n ++ (A n).o

theorem flatO_snoc (l : List (Nat × Bool)) (p : Nat × Bool) : flatO (l ++ [p]) = flatO l ++ opV p := by simp [flatO]
theorem allO_len (A : Nat → Att) : ∀ n, (allO A n).length = os A n
  | 0 => rfl
  | n + 1 => by rw [os_succ, ← allO_len A n]; simp [allO]
theorem flatA_len (A : Nat → Att) : ∀ n, (flatA A n).length = n * 7
  | 0 => rfl
  | n + 1 => by simp [flatA, flatA_len A n, attV]; omega
theorem flatA_at (A : Nat → Att) {n i : Nat} (hi : i < n) (k : Nat) (hk : k < 7) : (flatA A n)[i * 7 + k]? = (attV A i)[k]? := by
  induction n with
  | zero => omega
  | succ n ih =>
    simp only [flatA]
    by_cases h : i < n
    · rw [List.getElem?_append_left (by rw [flatA_len]; omega)]
      exact ih h
    · obtain rfl : i = n := by omega
      rw [List.getElem?_append_right (by rw [flatA_len]; omega), flatA_len, show i * 7 + k - i * 7 = k by omega]
theorem flatO_at : ∀ (l : List (Nat × Bool)) {i : Nat} (hi : i < l.length) (k : Nat), k < 5 → (flatO l)[i * 5 + k]? = (opV l[i])[k]?
  | p :: l, 0, _, k, hk => by
    simp only [flatO, List.flatMap_cons, Nat.zero_mul, Nat.zero_add]
    rw [List.getElem?_append_left (by simp [opV]; omega)]
    rfl
  | p :: l, i + 1, hi, k, hk => by
    have := flatO_at l (i := i) (by simpa using hi) k hk
    simp only [flatO, List.flatMap_cons]
    rw [List.getElem?_append_right (by simp [opV]; omega)]
    simp only [List.getElem_cons_succ]
    rw [← this]
    congr 1
    simp [opV]
    omega
theorem allO_at (A : Nat → Att) {n i : Nat} (hi : i < n) {j : Nat} (hj : j < (A i).o.length) : (allO A n)[os A i + j]? = some (A i).o[j] := by
  induction n with
  | zero => omega
  | succ n ih =>
    simp only [allO]
    by_cases h : i < n
    · rw [List.getElem?_append_left ?_]
      · exact ih h
      · rw [allO_len]
        have h1 := os_mono A (a := i + 1) (b := n) h
        rw [os_succ] at h1
        omega
    · obtain rfl : i = n := by omega
      rw [List.getElem?_append_right (by rw [allO_len]; omega), allO_len, show os A i + j - os A i = j by omega]
      exact List.getElem?_eq_getElem hj

/-- The two rows while they are made: n attempts are in; of the next, the operations l. -/
structure BS (w wr : World) (A : Nat → Att) (n : Nat) (l : List (Nat × Bool)) (vo va : Value) : Prop where
  oa : wr.ownsRow w.heap.size 51 7 va n (flatA A n)
  oo : wr.ownsRow w.heap.size 54 5 vo (allO A n ++ l).length (flatO (allO A n ++ l))
  ne : vo.ownBlock = none ∨ vo.ownBlock ≠ va.ownBlock
  sa : ∃ k, va.ownBlock = some k
  bel : Below w.heap.size w wr

section
variable {w wr : World} {A : Nat → Att} {n : Nat} {l : List (Nat × Bool)} {vo va : Value}
theorem BS.alloc (h : BS w wr A n l vo va) (o : Obj) : BS w (wr.alloc o) A n l vo va := ⟨h.oa.alloc o, h.oo.alloc o, h.ne, h.sa, h.bel.alloc h.bel.size o⟩
theorem BS.drew (h : BS w wr A n l vo va) : BS w wr.drew A n l vo va := ⟨h.oa, h.oo, h.ne, h.sa, h.bel.drew⟩
theorem BS.appO (h : BS w wr A n l vo va) {p : Nat × Bool} {g cap : Nat} {w2 : World} (hown : w2.ownsRow w.heap.size 54 5 (.slice (some ⟨g, 0, none⟩) ((allO A n ++ l).length + 1) cap) ((allO A n ++ l).length + 1) (flatO (allO A n ++ l) ++ opV p))
    (hgrow : wr.grownBy w2 vo.ownBlock) (hat : vo.ownBlock = some g ∨ g = wr.heap.size) : BS w w2 A n (l ++ [p]) (.slice (some ⟨g, 0, none⟩) ((allO A n ++ l).length + 1) cap) va := by
  obtain ⟨k, hk⟩ := h.sa
  have hk2 := h.oa.lt k hk
  refine ⟨h.oa.kept hgrow ?_, ?_, .inr ?_, h.sa, h.bel.grown hgrow h.bel.size (fun k hk => (h.oo.lt k hk).1)⟩
  · rcases h.ne with e | e
    · rw [e, hk]; exact .inr (by simp)
    · exact .inr fun x => e x.symm
  · rw [← List.append_assoc, flatO_snoc, show (allO A n ++ l ++ [p]).length = (allO A n ++ l).length + 1 by simp; omega]
    exact hown
  · rw [hk]
    simp only [Value.ownBlock]
    rcases hat with e | e
    · rcases h.ne with x | x
      · rw [x] at e; cases e
      · rw [hk, e] at x; exact x
    · intro x
      have := Option.some.inj x
      omega
theorem BS.appA (h : BS w wr A n (A n).o vo va) {g cap : Nat} {w2 : World} (hown : w2.ownsRow w.heap.size 51 7 (.slice (some ⟨g, 0, none⟩) (n + 1) cap) (n + 1) (flatA A n ++ attV A n))
    (hgrow : wr.grownBy w2 va.ownBlock) (hat : va.ownBlock = some g ∨ g = wr.heap.size) : BS w w2 A (n + 1) [] vo (.slice (some ⟨g, 0, none⟩) (n + 1) cap) := by
  refine ⟨hown, ?_, ?_, ⟨g, rfl⟩, h.bel.grown hgrow h.bel.size (fun k hk => (h.oa.lt k hk).1)⟩
  · have := h.oo.kept hgrow h.ne
    simpa [allO] using this
  · rcases h.ne with e | e
    · exact .inl e
    · show vo.ownBlock = none ∨ vo.ownBlock ≠ some g
      rcases hat with x | x
      · rw [x] at e; exact .inr e
      · cases hv : vo.ownBlock with
        | none => exact .inl rfl
        | some k =>
          have := h.oo.lt k hv
          refine .inr fun y => ?_
          have := Option.some.inj y
          omega
theorem BS.start (w : World) (A : Nat → Att) (n : Nat) (z : Array Value) (hz : z.size = n * 7) (hn : n ≤ maxLen) : BS w (w.alloc (.cells z 51)) A 0 [] (.slice none 0 0) (.slice (some ⟨w.heap.size, 0, none⟩) 0 n) :=
  ⟨World.ownsRow_made w z n (Nat.le_refl _) hn hz, World.ownsRow_nil _ _ _ _, .inl rfl, ⟨_, rfl⟩, (Below.refl _ _).alloc (Nat.le_refl _) _⟩

/-- What the rows hold. -/
theorem BS.at_ (h : BS w wr A n [] vo va) : ∃ ga ca, va = .slice (some ⟨ga, 0, none⟩) n ca ∧ ∀ i, i < n → wr.cell? ⟨ga, i * 7, none⟩ = some (.int .i64 ((i : Int) + 1)) ∧ wr.cell? ⟨ga, i * 7 + 1, none⟩ = some (.int .i64 ((A i).s : Nat)) ∧ wr.cell? ⟨ga, i * 7 + 2, none⟩ = some (.bool (A i).c) ∧ wr.cell? ⟨ga, i * 7 + 3, none⟩ = some (.bool false) ∧
    wr.cell? ⟨ga, i * 7 + 4, none⟩ = some (.int .u32 1) ∧ wr.cell? ⟨ga, i * 7 + 5, none⟩ = some (.int .u32 (os A i : Nat)) ∧ wr.cell? ⟨ga, i * 7 + 6, none⟩ = some (.int .u32 ((A i).o.length : Nat)) := by
  rcases h.oa.2 with ⟨rfl, _⟩ | ⟨ga, ca, _, rfl, _⟩
  · obtain ⟨k, hk⟩ := h.sa
    simp [Value.ownBlock] at hk
  · have C : ∀ i, i < n → ∀ k u, k < 7 → (attV A i)[k]? = some u → wr.cell? ⟨ga, i * 7 + k, none⟩ = some u := fun i hi k u hk hu => by
      have := h.oa.cells (g := ga) rfl (i * 7 + k) u (by rw [flatA_at A hi k hk]; exact hu)
      rw [Addr.add_lit, Nat.zero_add] at this
      exact this
    exact ⟨ga, ca, rfl, fun i hi => ⟨C i hi 0 _ (by omega) rfl, C i hi 1 _ (by omega) rfl, C i hi 2 _ (by omega) rfl, C i hi 3 _ (by omega) rfl, C i hi 4 _ (by omega) rfl, C i hi 5 _ (by omega) rfl, C i hi 6 _ (by omega) rfl⟩⟩
theorem BS.ops (h : BS w wr A n [] vo va) : ∃ ao co, vo = .slice ao (os A n) co ∧ os A n ≤ co ∧ ((ao = none ∧ co = 0) ∨ ∃ g, ao = some ⟨g, 0, none⟩ ∧ ∀ i, i < n → ∀ j (h : j < (A i).o.length), wr.cell? ⟨g, (os A i + j) * 5, none⟩ = some (.int .i64 ((A i).o[j].1 : Nat)) ∧ wr.cell? ⟨g, (os A i + j) * 5 + 1, none⟩ = some (.int .i64 0) ∧
    wr.cell? ⟨g, (os A i + j) * 5 + 2, none⟩ = some (.bool (A i).o[j].2) ∧ wr.cell? ⟨g, (os A i + j) * 5 + 3, none⟩ = some (.bool false) ∧ wr.cell? ⟨g, (os A i + j) * 5 + 4, none⟩ = some (.int .u32 0)) := by
  have ho := h.oo
  rw [List.append_nil, allO_len] at ho
  rcases ho.2 with ⟨rfl, h0⟩ | ⟨g, co, _, rfl, _, _, hc, _⟩
  · exact ⟨none, 0, by rw [h0], by omega, .inl ⟨rfl, rfl⟩⟩
  · refine ⟨_, co, rfl, hc, .inr ⟨g, rfl, fun i hi j hj => ?_⟩⟩
    have hlt : os A i + j < (allO A n).length := by
      rw [allO_len]
      have h1 := os_mono A (a := i + 1) (b := n) hi
      rw [os_succ] at h1
      omega
    have hat := allO_at A hi hj
    rw [List.getElem?_eq_getElem hlt] at hat
    have C : ∀ k u, k < 5 → (opV (A i).o[j])[k]? = some u → wr.cell? ⟨g, (os A i + j) * 5 + k, none⟩ = some u := fun k u hk hu => by
      have := ho.cells (g := g) rfl ((os A i + j) * 5 + k) u (by rw [flatO_at _ hlt k hk, Option.some.inj hat]; exact hu)
      rw [Addr.add_lit, Nat.zero_add] at this
      exact this
    exact ⟨C 0 _ (by omega) rfl, C 1 _ (by omega) rfl, C 2 _ (by omega) rfl, C 3 _ (by omega) rfl, C 4 _ (by omega) rfl⟩
/-- A variable's own block is none of the rows'. -/
theorem BS.far (h : BS w wr A n l vo va) {b : Nat} {cs : Array Value} {t : TypeId} {fr : Nat × Nat} (hb : wr.heap[b]? = some (.cells cs t fr)) (h1 : t ≠ 51) (h2 : t ≠ 54) : vo.ownBlock ≠ some b ∧ va.ownBlock ≠ some b := by
  constructor
  · intro e
    rcases h.oo.2 with ⟨rfl, _⟩ | ⟨g, _, cur, rfl, _, hg, _⟩
    · simp [Value.ownBlock] at e
    · simp only [Value.ownBlock, Option.some.injEq] at e
      subst e
      rw [hb] at hg
      injection hg with hg
      injection hg with _ ht _
      exact h2 ht
  · intro e
    rcases h.oa.2 with ⟨rfl, _⟩ | ⟨g, _, cur, rfl, _, hg, _⟩
    · simp [Value.ownBlock] at e
    · simp only [Value.ownBlock, Option.some.injEq] at e
      subst e
      rw [hb] at hg
      injection hg with hg
      injection hg with _ ht _
      exact h1 ht
theorem cells_at {w : World} {b i : Nat} {cs : Array Value} {t : TypeId} {v : Value} (hb : w.heap[b]? = some (.cells cs t (0, 0))) (hi : cs[i]? = some v) : w.cell? ⟨b, i, none⟩ = some v := by
  rw [cell_of_row w b i cs t (0, 0) hb]; exact hi
/-- The history that is built. -/
theorem hist_of {wc : World} {S K : Nat} {ao : Option Addr} {co ga ca bh gb gk gse : Nat} (h : BS w wr A n [] (.slice ao (os A n) co) (.slice (some ⟨ga, 0, none⟩) n ca)) (hb : Below wr.heap.size wr wc)
    (c0 : wc.cell? ⟨bh, 0, none⟩ = some (.slice (some ⟨ga, 0, none⟩) n ca)) (c1 : wc.cell? ⟨bh, 1, none⟩ = some (.slice (some ⟨gb, 0, none⟩) 2 2)) (b1 : wc.cell? ⟨gb, 1, none⟩ = some (.slice ao (os A n) co))
    (c4 : wc.cell? ⟨bh, 4, none⟩ = some (.slice (some ⟨gk, 0, none⟩) K K)) (c5 : wc.cell? ⟨bh, 5, none⟩ = some (.slice (some ⟨gse, 0, none⟩) S S))
    (hN : n ≤ 1024) (hO : os A n ≤ 8192) (hS : S ≤ 8) (hK : K ≤ 8) (hs : ∀ i, i < n → (A i).s < S) (hk : ∀ i, i < n → ∀ x, x ∈ (A i).o → x.1 < K) : Hist wc bh n S K A ga ca gb ao co gk gse := by
  have T : ∀ {a : Addr} {v : Value}, wr.cell? a = some v → wc.cell? a = some v := fun hc => (hb.cell (block_lt_of_cell hc)).trans hc
  obtain ⟨ga', ca', e, hat⟩ := h.at_
  injection e with e1 e2 e3
  injection e1 with e1
  injection e1 with e1 _ _
  subst e1
  obtain ⟨ao', co', e, hcap, hops⟩ := h.ops
  injection e with e1 e2 e3
  subst e1 e3
  refine ⟨c0, c1, b1, c4, c5, fun i hi => ?_, hcap, ?_, hN, hO, hS, hK, hs, hk⟩
  · obtain ⟨x0, x1, x2, x3, x4, x5, x6⟩ := hat i hi
    exact ⟨T x0, T x1, T x2, T x3, T x4, T x5, T x6⟩
  · rcases hops with h0 | ⟨g, e, ht⟩
    · exact .inl h0
    · refine .inr ⟨g, e, fun i hi j hj => ?_⟩
      obtain ⟨x0, x1, x2, x3, x4⟩ := ht i hi j hj
      exact ⟨T x0, T x1, T x2, T x3, T x4⟩
end

end Go.Proofs.Ybulkaebg

/-
  LawS1501BGraph: the plain mathematics: a counting sort (what 'reversed' does to lists of successors), with no Go in sight.
-/
import Derived.KernelRfl
namespace Go.Proofs.Ybulkaebg

/-- Sums of the first k. -/
def pre (f : Nat → Nat) : Nat → Nat
  | 0 => 0
  | k + 1 => pre f k + f k

theorem pre_mono (f : Nat → Nat) {a b : Nat} (h : a ≤ b) : pre f a ≤ pre f b := by
  induction b with
  | zero => have : a = 0 := by omega
            subst this; exact Nat.le_refl _
  | succ b ih =>
    by_cases e : a = b + 1
    · subst e; exact Nat.le_refl _
    · have := ih (by omega); simp only [pre]; omega

theorem pre_in (f : Nat → Nat) {v n t : Nat} (hv : v < n) (ht : t < f v) : pre f v + t < pre f n := by
  have : pre f (v + 1) ≤ pre f n := pre_mono f hv
  simp only [pre] at this
  omega

theorem pre_ne (f : Nat → Nat) {v v' t t' : Nat} (hne : v ≠ v') (ht : t < f v) (ht' : t' < f v') : pre f v + t ≠ pre f v' + t' := by
  rcases Nat.lt_or_gt_of_ne hne with h | h
  · have : pre f (v + 1) ≤ pre f v' := pre_mono f h
    simp only [pre] at this
    omega
  · have : pre f (v' + 1) ≤ pre f v := pre_mono f h
    simp only [pre] at this
    omega

theorem pre_congr {f g : Nat → Nat} {n : Nat} (h : ∀ v, v < n → f v = g v) : pre f n = pre g n := by
  induction n with
  | zero => rfl
  | succ n ih => simp only [pre]; rw [ih (fun v hv => h v (by omega)), h n (by omega)]

/-- Of the pairs whose second is v: the firsts, in order. -/
def seg (E : List (Nat × Nat)) (v : Nat) : List Nat := (E.filter (fun e => e.2 == v)).map (·.1)

theorem seg_append (P Q : List (Nat × Nat)) (v : Nat) : seg (P ++ Q) v = seg P v ++ seg Q v := by simp [seg]
theorem seg_one (u v x : Nat) : seg [(u, v)] x = if x = v then [u] else [] := by
  unfold seg
  by_cases h : x = v
  · subst h; simp
  · have : ¬ v = x := fun e => h e.symm
    simp [h, this]
theorem seg_snoc (P : List (Nat × Nat)) (u v x : Nat) : seg (P ++ [(u, v)]) x = if x = v then seg P x ++ [u] else seg P x := by
  rw [seg_append, seg_one]; split <;> simp
theorem seg_snoc_same (P : List (Nat × Nat)) (u v : Nat) : seg (P ++ [(u, v)]) v = seg P v ++ [u] := by rw [seg_snoc, if_pos rfl]
theorem seg_snoc_ne (P : List (Nat × Nat)) {u v x : Nat} (h : x ≠ v) : seg (P ++ [(u, v)]) x = seg P x := by rw [seg_snoc, if_neg h]

/-- Where v's segment begins. -/
def st (E : List (Nat × Nat)) (v : Nat) : Nat := pre (fun x => (seg E x).length) v

theorem pre_one (f : Nat → Nat) (v n : Nat) (hv : v < n) : pre (fun x => f x + if x = v then 1 else 0) n = pre f n + 1 := by
  induction n with
  | zero => omega
  | succ n ih =>
    simp only [pre]
    by_cases h : v = n
    · subst h
      have : pre (fun x => f x + if x = v then 1 else 0) v = pre f v := pre_congr fun x hx => by rw [if_neg (by omega)]; rfl
      rw [this, if_pos rfl]; omega
    · rw [ih (by omega), if_neg (fun e => h e.symm)]; omega

theorem st_total (E : List (Nat × Nat)) (n : Nat) (h : ∀ e, e ∈ E → e.2 < n) : st E n = E.length := by
  induction E with
  | nil =>
    have : ∀ k, pre (fun x => (seg [] x).length) k = 0 := fun k => by
      induction k with
      | zero => rfl
      | succ k ih => simp only [pre, ih]; rfl
    exact this n
  | cons e E ih =>
    have ih' := ih (fun x hx => h x (List.mem_cons_of_mem _ hx))
    have h1 := pre_one (fun x => (seg E x).length) e.2 n (h e (List.mem_cons_self ..))
    have : (fun x => (seg (e :: E) x).length) = fun x => (seg E x).length + if x = e.2 then 1 else 0 := by
      funext x
      have : e :: E = [(e.1, e.2)] ++ E := rfl
      rw [this, seg_append, seg_one]
      split <;> simp <;> omega
    unfold st at *
    rw [this, h1, ih']
    simp

/-- What lies in the new row when the pairs P, the first of E, have been taken. -/
def Filled (E P : List (Nat × Nat)) (T : Nat → Int) : Prop := ∀ v t (h : t < (seg P v).length), T (st E v + t) = ((seg P v)[t] : Nat)

theorem filled_nil (E : List (Nat × Nat)) (T : Nat → Int) : Filled E [] T := fun v t h => absurd h (by simp [seg])

theorem filled_snoc {E P Q : List (Nat × Nat)} {u v : Nat} {T : Nat → Int} (hE : E = P ++ (u, v) :: Q) (h : Filled E P T) :
    Filled E (P ++ [(u, v)]) (fun j => if j = st E v + (seg P v).length then (u : Int) else T j) := by
  have hle : ∀ x, (seg (P ++ [(u, v)]) x).length ≤ (seg E x).length := fun x => by
    rw [hE, show P ++ (u, v) :: Q = (P ++ [(u, v)]) ++ Q by simp, seg_append (P ++ [(u, v)])]
    simp
  have hlv : (seg P v).length < (seg E v).length := by
    have := hle v
    rw [seg_snoc_same] at this
    simp at this
    omega
  intro x t ht
  simp only
  by_cases hx : x = v
  · subst hx
    simp only [seg_snoc_same] at ht ⊢
    simp at ht
    by_cases he : t = (seg P x).length
    · subst he; simp
    · rw [if_neg (by omega), List.getElem_append_left (by omega)]
      exact h x t (by omega)
  · simp only [seg_snoc_ne P hx] at ht ⊢
    have hl := hle x
    rw [seg_snoc_ne P hx] at hl
    have hne : st E x + t ≠ st E v + (seg P v).length := pre_ne (fun x => (seg E x).length) hx (Nat.lt_of_lt_of_le ht hl) hlv
    rw [if_neg hne]
    exact h x t ht

/-! ### Lists of successors -/
/-- All successors, vertex by vertex. -/
def cat (A : Nat → List Nat) : Nat → List Nat
  | 0 => []
  | k + 1 => cat A k ++ A k
/-- The edges, vertex by vertex. -/
def edges (A : Nat → List Nat) : Nat → List (Nat × Nat)
  | 0 => []
  | k + 1 => edges A k ++ (A k).map (fun v => (k, v))

theorem cat_length (A : Nat → List Nat) (k : Nat) : (cat A k).length = pre (fun u => (A u).length) k := by
  induction k with
  | zero => rfl
  | succ k ih => simp [cat, pre, ih]
theorem edges_snd (A : Nat → List Nat) (k : Nat) : (edges A k).map (·.2) = cat A k := by
  induction k with
  | zero => rfl
  | succ k ih => simp [cat, edges, ih, Function.comp_def]
theorem edges_length (A : Nat → List Nat) (k : Nat) : (edges A k).length = (cat A k).length := by rw [← edges_snd, List.length_map]
theorem seg_count (E : List (Nat × Nat)) (v : Nat) : (seg E v).length = (E.map (·.2)).count v := by
  induction E with
  | nil => rfl
  | cons e E ih =>
    have : e :: E = [(e.1, e.2)] ++ E := rfl
    rw [this, seg_append, seg_one, List.length_append, ih]
    simp only [List.map_append, List.map_cons, List.map_nil, List.count_append, List.count_cons, List.count_nil]
    by_cases h : v = e.2
    · simp [h]
    · have h' : ¬ e.2 = v := fun x => h x.symm
      simp [h, h']
theorem seg_edges_count (A : Nat → List Nat) (k v : Nat) : (seg (edges A k) v).length = (cat A k).count v := by rw [seg_count, edges_snd]

/-- Vertex u's successors in the row of all. -/
theorem cat_at (A : Nat → List Nat) {u n j : Nat} (hu : u < n) (hj : j < (A u).length) : (cat A n)[pre (fun u => (A u).length) u + j]? = some ((A u)[j]) := by
  induction n with
  | zero => omega
  | succ n ih =>
    simp only [cat]
    by_cases h : u < n
    · rw [List.getElem?_append_left (by rw [cat_length]; exact pre_in _ h hj)]
      exact ih h
    · obtain rfl : u = n := by omega
      rw [List.getElem?_append_right (by rw [cat_length]; omega), cat_length]
      rw [show pre (fun u => (A u).length) u + j - pre (fun u => (A u).length) u = j by omega]
      exact List.getElem?_eq_getElem hj

theorem edges_split (A : Nat → List Nat) {u n j : Nat} (hu : u < n) (hj : j < (A u).length) :
    ∃ Q, edges A n = (edges A u ++ ((A u).take j).map (fun v => (u, v))) ++ (u, (A u)[j]) :: Q := by
  induction n with
  | zero => omega
  | succ n ih =>
    by_cases h : u < n
    · obtain ⟨Q, hQ⟩ := ih h
      exact ⟨Q ++ (A n).map (fun v => (n, v)), by simp only [edges]; rw [hQ]; simp⟩
    · obtain rfl : u = n := by omega
      refine ⟨((A u).drop (j + 1)).map (fun v => (u, v)), ?_⟩
      simp only [edges]
      have : (A u).map (fun v => (u, v)) = ((A u).take j ++ (A u)[j] :: (A u).drop (j + 1)).map (fun v => (u, v)) := by
        rw [← List.drop_eq_getElem_cons hj, List.take_append_drop]
      rw [this, List.map_append, List.map_cons, List.append_assoc]

theorem edges_lt {A : Nat → List Nat} {n k : Nat} (h : ∀ u, u < k → ∀ v, v ∈ A u → v < n) : ∀ e, e ∈ edges A k → e.2 < n := by
  induction k with
  | zero => intro e he; simp [edges] at he
  | succ k ih =>
    intro e he
    simp only [edges, List.mem_append, List.mem_map] at he
    rcases he with he | ⟨v, hv, rfl⟩
    · exact ih (fun u hu => h u (by omega)) e he
    · exact h k (by omega) v hv

/-- The lists turned round. -/
def rev (A : Nat → List Nat) (n : Nat) (v : Nat) : List Nat := seg (edges A n) v

/-- Where no list holds a vertex twice: who has v among his successors, ascending. -/
theorem rev_filter {A : Nat → List Nat} {n : Nat} {v : Nat} (h : ∀ u, u < n → (A u).count v ≤ 1) : rev A n v = (List.range n).filter (fun u => (A u).contains v) := by
  unfold rev
  induction n with
  | zero => rfl
  | succ n ih =>
    have hs : seg ((A n).map (fun x => (n, x))) v = List.replicate ((A n).count v) n := by
      generalize A n = l
      induction l with
      | nil => rfl
      | cons a l ih =>
        have : (a :: l).map (fun x => (n, x)) = [(n, a)] ++ l.map (fun x => (n, x)) := rfl
        rw [this, seg_append, seg_one, ih, List.count_cons]
        by_cases e : v = a
        · subst e; simp [List.replicate_succ]
        · have e' : ¬ a = v := fun x => e x.symm
          simp [e, e']
    simp only [edges]
    rw [seg_append, ih (fun u hu => h u (by omega)), hs, List.range_succ, List.filter_append]
    congr 1
    have h1 := h n (by omega)
    by_cases hm : v ∈ A n
    · have : (A n).count v = 1 := by have := List.count_pos_iff.2 hm; omega
      rw [this]
      simp [hm]
    · have : (A n).count v = 0 := List.count_eq_zero.2 hm
      rw [this]
      simp [hm]

theorem count_filter_range (p : Nat → Bool) (n v : Nat) : ((List.range n).filter p).count v ≤ 1 := by
  have := List.nodup_range (n := n)
  exact List.nodup_iff_count.1 (this.filter p) v

end Go.Proofs.Ybulkaebg

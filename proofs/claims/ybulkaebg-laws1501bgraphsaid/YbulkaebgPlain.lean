/-
  LawS1501BGraph over toys/ybulkaebg: what the lists are, turned round once and twice. No Go here.
-/
import Derived.Test.YbulkaebgMet
namespace Go.Proofs.Ybulkaebg

section
variable {A : Nat → Att} {N S K : Nat}
theorem sof_eq (hk : ∀ i, i < N → ∀ x, x ∈ (A i).o → x.1 < K) (n v : Nat) : rev (Mt A N S) n v = (List.range n).filter (fun u => (Mt A N S u).contains v) :=
  rev_filter (fun u _ => List.nodup_iff_count.1 (mt_good (S := S) hk u).1 v)
theorem sof_lt (hk : ∀ i, i < N → ∀ x, x ∈ (A i).o → x.1 < K) (n v : Nat) : ∀ u, u ∈ rev (Mt A N S) n v → u < n := by
  intro u hu
  rw [sof_eq hk] at hu
  simp at hu
  exact hu.1
theorem kof_eq (hk : ∀ i, i < N → ∀ x, x ∈ (A i).o → x.1 < K) (n s : Nat) : rev (rev (Mt A N S) n) n s = (List.range n).filter (fun v => decide (s < n) && (Mt A N S s).contains v) := by
  rw [rev_filter (fun u _ => by rw [sof_eq hk]; exact count_filter_range _ _ _)]
  refine List.filter_congr fun v _ => ?_
  rw [sof_eq hk, Bool.eq_iff_iff]
  simp

/-- The list that the law wants for session s, x keys on. -/
def wantK (A : Nat → Att) (N S s x : Nat) : List Nat := ((List.range x).filter (fun x => tch A N s x && wrt A N x)).map (S + ·)
/-- The list that the law wants for key x, s sessions on. -/
def wantS (A : Nat → Att) (N x s : Nat) : List Nat := (List.range s).filter (fun s => tch A N s x)

theorem wantK_zero (A : Nat → Att) (N S s : Nat) : wantK A N S s 0 = [] := rfl
theorem wantK_step (A : Nat → Att) (N S s x : Nat) : wantK A N S s (x + 1) = if tch A N s x && wrt A N x then wantK A N S s x ++ [S + x] else wantK A N S s x := by
  unfold wantK
  rw [List.range_succ, List.filter_append, List.map_append]
  by_cases h : (tch A N s x && wrt A N x) = true
  · simp [h]
  · simp [h]
theorem wantK_le (A : Nat → Att) (N S s x : Nat) : (wantK A N S s x).length ≤ x := by
  unfold wantK
  rw [List.length_map]
  exact Nat.le_trans (List.length_filter_le _ _) (by simp)
theorem wantS_zero (A : Nat → Att) (N x : Nat) : wantS A N x 0 = [] := rfl
theorem wantS_step (A : Nat → Att) (N x s : Nat) : wantS A N x (s + 1) = if tch A N s x then wantS A N x s ++ [s] else wantS A N x s := by
  unfold wantS
  rw [List.range_succ, List.filter_append]
  by_cases h : tch A N s x = true
  · simp [h]
  · simp [h]
theorem wantS_le (A : Nat → Att) (N x s : Nat) : (wantS A N x s).length ≤ s := Nat.le_trans (List.length_filter_le _ _) (by simp)

theorem kof_want (hk : ∀ i, i < N → ∀ x, x ∈ (A i).o → x.1 < K) {s : Nat} (hs : s < S) : rev (rev (Mt A N S) (S + K)) (S + K) s = wantK A N S s K := by
  rw [kof_eq hk, List.range_add, List.filter_append]
  have h1 : (List.range S).filter (fun v => decide (s < S + K) && (Mt A N S s).contains v) = [] := by
    rw [List.filter_eq_nil_iff]
    intro v hv h
    simp at hv h
    have := ((mt_good (S := S) hk s).2 v h.2).1
    omega
  rw [h1, List.nil_append, List.filter_map]
  unfold wantK
  congr 1
  refine List.filter_congr fun x _ => ?_
  rw [Bool.eq_iff_iff]
  simp only [Function.comp, Bool.and_eq_true, decide_eq_true_eq, List.contains_eq_mem, mt_mem]
  constructor
  · rintro ⟨_, _, y, e, h1, h2⟩
    obtain rfl : x = y := by omega
    exact ⟨h2, h1⟩
  · rintro ⟨h1, h2⟩
    exact ⟨by omega, hs, x, rfl, h2, h1⟩
theorem kof_none (hk : ∀ i, i < N → ∀ x, x ∈ (A i).o → x.1 < K) (x : Nat) : rev (rev (Mt A N S) (S + K)) (S + K) (S + x) = [] := by
  rw [kof_eq hk, List.filter_eq_nil_iff]
  intro v _ h
  rw [mt_out (by omega)] at h
  simp at h
theorem sof_none (hk : ∀ i, i < N → ∀ x, x ∈ (A i).o → x.1 < K) {s : Nat} (hs : s < S) : rev (Mt A N S) (S + K) s = [] := by
  rw [sof_eq hk, List.filter_eq_nil_iff]
  intro u _ h
  simp at h
  have := ((mt_good (S := S) hk u).2 s h).1
  omega
theorem sof_want (hk : ∀ i, i < N → ∀ x, x ∈ (A i).o → x.1 < K) (x : Nat) : rev (Mt A N S) (S + K) (S + x) = if wrt A N x then wantS A N x S else [] := by
  rw [sof_eq hk, List.range_add, List.filter_append]
  have h1 : ((List.range K).map (S + ·)).filter (fun u => (Mt A N S u).contains (S + x)) = [] := by
    rw [List.filter_eq_nil_iff]
    intro u hu h
    simp only [List.mem_map] at hu
    obtain ⟨y, _, rfl⟩ := hu
    rw [mt_out (by omega)] at h
    simp at h
  rw [h1, List.append_nil]
  have key : ∀ u, u ∈ List.range S → (Mt A N S u).contains (S + x) = (wrt A N x && tch A N u x) := by
    intro u hu
    simp at hu
    rw [Bool.eq_iff_iff]
    simp only [Bool.and_eq_true, List.contains_eq_mem, decide_eq_true_eq, mt_mem]
    constructor
    · rintro ⟨_, y, e, h1, h2⟩
      obtain rfl : x = y := by omega
      exact ⟨h1, h2⟩
    · rintro ⟨h1, h2⟩
      exact ⟨hu, x, rfl, h1, h2⟩
  rw [List.filter_congr key]
  by_cases h : wrt A N x = true
  · rw [if_pos h]
    simp only [h, Bool.true_and]
    rfl
  · rw [if_neg h]
    simp [h]
end

/-- Which keys are marked as touched, j operations into attempt i. -/
def tchj (A : Nat → Att) (i j s x : Nat) : Bool := tch A i s x || ((A i).s == s && ((A i).o.take j).any (fun p => p.1 == x))
theorem tchj_zero (A : Nat → Att) (i s x : Nat) : tchj A i 0 s x = tch A i s x := by simp [tchj]
theorem tchj_full (A : Nat → Att) (i s x : Nat) (hc : (A i).c = true) : tchj A i (A i).o.length s x = tch A (i + 1) s x := by simp [tchj, tch, hc]
theorem tchj_step (A : Nat → Att) (i j K : Nat) (h : j < (A i).o.length) (hk : (A i).o[j].1 < K) (t : Nat) : (if t = (A i).s * K + (A i).o[j].1 then true else tchj A i j (t / K) (t % K)) = tchj A i (j + 1) (t / K) (t % K) := by
  unfold tchj
  rw [List.take_succ_eq_append_getElem h, List.any_append]
  generalize (A i).o[j] = p at hk ⊢
  obtain ⟨y, b⟩ := p
  dsimp only at hk ⊢
  by_cases e : t = (A i).s * K + y
  · have e1 : t / K = (A i).s := by
      rw [e, Nat.mul_comm, Nat.mul_add_div (by omega), Nat.div_eq_of_lt hk, Nat.add_zero]
    have e2 : t % K = y := by
      rw [e, Nat.mul_comm, Nat.mul_add_mod, Nat.mod_eq_of_lt hk]
    rw [if_pos e, e1, e2]
    simp
  · rw [if_neg e]
    by_cases e1 : (A i).s = t / K
    · have e2 : ¬ y = t % K := by
        intro e2
        apply e
        have := Nat.div_add_mod t K
        rw [e1, e2, Nat.mul_comm]
        exact this.symm
      have e3 : (y == t % K) = false := by rw [beq_eq_false_iff_ne]; exact e2
      simp [e3]
    · have : ((A i).s == t / K) = false := by rw [beq_eq_false_iff_ne]; exact e1
      rw [this]
      simp

end Go.Proofs.Ybulkaebg

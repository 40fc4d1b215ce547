/-
  LawS1501BGraph over toys/ybulkaebg: successor lists in memory; of, wellformed, eq.
-/
import Derived.Test.YbulkaebgRows
import Derived.Test.YbulkaebgSort
import Derived.WalkKit
import Derived.WalkSpells
import Derived.WalkLawsBesides
import Derived.Deep.QuietTactic
import Derived.BigQuiet
import Derived.Deep.OwnRows
namespace Go.Proofs.Ybulkaebg
open Go.RowKit

/-- A slice of int32: what it holds. -/
def I32s (w : World) (a : Option Addr) (l : List Nat) : Prop :=
  l = [] ∨ ∃ g off, a = some ⟨g, off, none⟩ ∧ ∀ i (h : i < l.length), w.cell? ⟨g, off + i, none⟩ = some (.int .i32 (l[i] : Nat))

/-- How many successors lie ahead of u's. -/
def at0 (A : Nat → List Nat) (u : Nat) : Nat := pre (fun u => (A u).length) u

/-- The struct in block b holds the successor lists A of n vertices. -/
structure Succ (w : World) (b n : Nat) (A : Nat → List Nat) (gs cs : Nat) (ao : Option Addr) (m ct : Nat) : Prop where
  c0 : w.cell? ⟨b, 0, none⟩ = some (.slice (some ⟨gs, 0, none⟩) (n + 1) cs)
  c1 : w.cell? ⟨b, 1, none⟩ = some (.slice ao m ct)
  hm : m = at0 A n
  hct : m ≤ ct
  start : ∀ u, u ≤ n → w.cell? ⟨gs, u, none⟩ = some (.int .i64 (at0 A u))
  to : (ao = none ∧ ct = 0) ∨ ∃ gt, ao = some ⟨gt, 0, none⟩ ∧ ∀ u j (h : j < (A u).length), u < n → w.cell? ⟨gt, at0 A u + j, none⟩ = some (.int .i32 ((A u)[j] : Nat))

theorem at0_succ (A : Nat → List Nat) (u : Nat) : at0 A (u + 1) = at0 A u + (A u).length := rfl
theorem at0_mono (A : Nat → List Nat) {a b : Nat} (h : a ≤ b) : at0 A a ≤ at0 A b := pre_mono _ h

theorem locate (A : Nat → List Nat) (n i : Nat) (h : i < at0 A n) : ∃ u j, u < n ∧ j < (A u).length ∧ i = at0 A u + j := by
  induction n with
  | zero => simp [at0, pre] at h
  | succ n ih =>
    rw [at0_succ] at h
    by_cases h' : i < at0 A n
    · obtain ⟨u, j, hu, hj, e⟩ := ih h'
      exact ⟨u, j, by omega, hj, e⟩
    · exact ⟨n, i - at0 A n, by omega, by omega, by omega⟩

theorem cat_len (A : Nat → List Nat) (n : Nat) : (cat A n).length = at0 A n := cat_length A n

/-- The row of all successors, by its index. -/
theorem Succ.cat {w : World} {b n : Nat} {A : Nat → List Nat} {gs cs : Nat} {ao : Option Addr} {m ct : Nat} (h : Succ w b n A gs cs ao m ct) {i : Nat} (hi : i < (cat A n).length) :
    ∃ gt, ao = some ⟨gt, 0, none⟩ ∧ w.cell? ⟨gt, i, none⟩ = some (.int .i32 ((cat A n)[i] : Nat)) := by
  have hi' := hi
  rw [cat_len] at hi
  obtain ⟨u, j, hu, hj, e⟩ := locate A n i hi
  rcases h.to with ⟨_, hc⟩ | ⟨gt, he, ht⟩
  · have := h.hm; have := h.hct; omega
  · refine ⟨gt, he, ?_⟩
    have h1 := cat_at A hu hj
    have h2 : (Ybulkaebg.cat A n)[i]? = some (A u)[j] := by rw [e]; exact h1
    rw [List.getElem?_eq_getElem hi'] at h2
    rw [Option.some.inj h2, e]
    exact ht u j hj hu

theorem Succ.below {w w' : World} {b n : Nat} {A : Nat → List Nat} {gs cs : Nat} {ao : Option Addr} {m ct : Nat} (h : Succ w b n A gs cs ao m ct) (hb : Below w.heap.size w w') : Succ w' b n A gs cs ao m ct :=
  ⟨(hb.cell (block_lt_of_cell h.c0)).trans h.c0, (hb.cell (block_lt_of_cell h.c1)).trans h.c1, h.hm, h.hct, fun u hu => (hb.cell (block_lt_of_cell (h.start u hu))).trans (h.start u hu), by
    rcases h.to with h0 | ⟨gt, e, ht⟩
    · exact .inl h0
    · exact .inr ⟨gt, e, fun u j hj hu => (hb.cell (block_lt_of_cell (ht u j hj hu))).trans (ht u j hj hu)⟩⟩

theorem slice_nil59 (w : World) : (Instr.slice 59 (.slice none 0 0) (some (.int .i64 0)) (some (.int .i64 0)) none).run Yba.prog w = .ok (.slice none 0 0) w := by kernel_rfl

theorem ret_slice {a : Option Addr} {n n' c : Nat} (h : n = n') : Ending.returned (.slice a n c) = .returned (.slice a n' c) := by rw [h]

set_option maxHeartbeats 400000 in
theorem of_any (b n u : Nat) (A : Nat → List Nat) (gs cs : Nat) (ao : Option Addr) (m ct : Nat) (w : World) (hS : Succ w b n A gs cs ao m ct) (hu : u < n) (hn : n ≤ 1000) (hm : m ≤ 100000) :
    Calls Yba.prog 8 #[.pointer (some ⟨b, 0, none⟩), .int .i64 u] w fun e w' => ∃ a c, e = .returned (.slice a (A u).length c) ∧ (∀ w0, Succ w0 b n A gs cs ao m ct → I32s w0 a (A u)) ∧ ∃ d, w' = w.drewN d := by
  have c0 := hS.c0
  have c1 := hS.c1
  have s0 := hS.start u (by omega)
  have s1 := hS.start (u + 1) (by omega)
  have h1 := at0_mono A (a := u + 1) (b := n) hu
  have h2 := at0_succ A u
  have h3 := hS.hm
  have h4 := hS.hct
  have e1 : (0 : Int) ≤ (u : Int) := by omega
  have e2 : (u : Int) < (n : Int) + 1 := by omega
  have e3 : (u : Int) + 1 < (n : Int) + 1 := by omega
  rcases hS.to with ⟨rfl, rfl⟩ | ⟨gt, rfl, _⟩
  · have hz : at0 A u = 0 := by omega
    have hz1 : at0 A (u + 1) = 0 := by omega
    have hl : (A u).length = 0 := by omega
    obtain rfl : m = 0 := by omega
    rw [hz] at s0
    rw [hz1] at s1
    have HR : Hid ((A u).length = 0) := hl
    clear hS h1 h2 h3 hz hz1 hl h4
    have hsl := slice_nil59
    go_enter Yba.func8, Yba.ntmps8
    go_wp2
    go_quiet (fail)
    go_wp2
    go_ret
    exact ⟨none, 0, by rw [HR.out]; rfl, fun _ _ => .inl (List.length_eq_zero_iff.1 HR.out), _, rfl⟩
  · obtain ⟨lo, hlo⟩ : ∃ x, x = at0 A u := ⟨_, rfl⟩
    obtain ⟨k, hk⟩ : ∃ x, x = (A u).length := ⟨_, rfl⟩
    rw [h2, ← hlo, ← hk] at s1
    rw [← hlo] at s0
    have l1 : lo + k ≤ ct := by omega
    have l2 : lo ≤ 100000 := by omega
    have l3 : k ≤ 100000 := by omega
    have HR : Hid (k = (A u).length ∧ ∀ w0, Succ w0 b n A gs cs (some ⟨gt, 0, none⟩) m ct → ∀ j (h : j < (A u).length), w0.cell? ⟨gt, lo + j, none⟩ = some (.int .i32 ((A u)[j] : Nat))) :=
      ⟨hk, fun w0 h0 j h => by
        rcases h0.to with ⟨e, _⟩ | ⟨gt', e, ht'⟩
        · cases e
        · cases e
          rw [hlo]
          exact ht' u j h hu⟩
    clear hS h1 h2 h3 h4 hlo hk
    by_cases hc : ct = lo
    · obtain rfl : k = 0 := by omega
      have HC : Hid (ct = lo) := hc
      rw [hc] at c1
      have l4 : lo ≤ lo := Nat.le_refl _
      clear hc l1
      go_enter Yba.func8, Yba.ntmps8
      go_wp2
      go_quiet (fail)
      go_wp2
      go_ret
      exact ⟨_, _, ret_slice (by rw [← HR.out.1]), fun _ _ => .inl (List.length_eq_zero_iff.1 HR.out.1.symm), _, rfl⟩
    · go_enter Yba.func8, Yba.ntmps8
      go_wp2
      go_quiet (fail)
      go_wp2
      go_ret
      exact ⟨_, _, ret_slice (by rw [← HR.out.1]; omega), fun w0 h0 => .inr ⟨gt, lo, rfl, HR.out.2 w0 h0⟩, _, rfl⟩

set_option maxHeartbeats 400000 in
theorem eq_any (ao bo : Option Addr) (ca cb : Nat) (l : List Nat) (w : World) (hx : l.length ≤ 1024) (ha : I32s w ao l) (hb : I32s w bo l) :
    Calls Yba.prog 7 #[.slice ao l.length ca, .slice bo l.length cb] w fun e w' => e = .returned (.bool true) ∧ ∃ d, w' = w.drewN d := by
  have HA : Hid (I32s w ao l ∧ I32s w bo l) := ⟨ha, hb⟩
  clear ha hb
  go_enter Yba.func7, Yba.ntmps7
  go_wp2
  go_loopw [13] (fun i wr => ∃ k : Nat, k ≤ l.length ∧ i = .int .i64 k ∧ ∃ d, wr = w.drewN d) (fun i _ => l.length - (intOf i).toNat)
  case atStart => exact ⟨0, Nat.zero_le _, rfl, 0, rfl⟩
  case round =>
    obtain ⟨k, hk, rfl, d, rfl⟩ := hrel
    by_cases hlt : k < l.length
    · obtain ⟨b, off, rfl, hc⟩ := HA.out.1.resolve_left (fun e => by simp [e] at hlt)
      obtain ⟨b', off', rfl, hc'⟩ := HA.out.2.resolve_left (fun e => by simp [e] at hlt)
      have q := hc k hlt
      have q' := hc' k hlt
      obtain ⟨xk, hxk⟩ : ∃ y, y = l[k] := ⟨_, rfl⟩
      rw [← hxk] at q q'
      clear hxk hc hc'
      have e1 : (0 : Int) ≤ (k : Int) := by omega
      have e2 : (k : Int) < (l.length : Int) := by omega
      go_wp2_with fail
      go_quiet (fail)
      go_wp2
      go_roundw
      case rel => exact ⟨k + 1, by omega, by go_num, _, rfl⟩
      case measure => simp [intOf]; omega
    · obtain rfl : k = l.length := by omega
      go_wp2
      go_ret
      exact ⟨rfl, _, rfl⟩

set_option maxHeartbeats 1000000 in
theorem wellformed_any (b n : Nat) (A : Nat → List Nat) (gs cs : Nat) (ao : Option Addr) (m ct : Nat) (w : World) (hS : Succ w b n A gs cs ao m ct) (hn : n ≤ 1000) :
    Calls Yba.prog 6 #[.pointer (some ⟨b, 0, none⟩), .int .i64 n] w fun e w' => e = .returned (.bool true) ∧ ∃ d, w' = w.drewN d := by
  have c0 := hS.c0
  have c1 := hS.c1
  have s0 : w.cell? ⟨gs, 0, none⟩ = some (.int .i64 0) := hS.start 0 (by omega)
  have s1 := hS.start n (by omega)
  rw [← hS.hm] at s1
  have HS : Hid (∀ u, u ≤ n → w.cell? ⟨gs, u, none⟩ = some (.int .i64 (at0 A u))) := hS.start
  clear hS
  have d0 : (((n + 1 : Nat) : Int) != (n : Int) + 1) = false := by simp
  have d1 : ((m : Int) != (m : Int)) = false := by simp
  have e0 : (0 : Int) < (n : Int) + 1 := by omega
  have e1 : (n : Int) < (n : Int) + 1 := by omega
  have e2 : (0 : Int) ≤ (n : Int) := by omega
  go_enter Yba.func6, Yba.ntmps6
  go_wp2_with fail
  go_quiet (fail)
  go_wp2_with fail
  go_loopw [5] (fun i wr => ∃ k : Nat, k ≤ n ∧ i = .int .i64 k ∧ ∃ d, wr = w.drewN d) (fun i _ => n - (intOf i).toNat)
  case atStart => exact ⟨0, Nat.zero_le _, rfl, _, rfl⟩
  case round =>
    obtain ⟨k, hk, rfl, d, rfl⟩ := hrel
    by_cases hlt : k < n
    · have q0 := HS.out k (by omega)
      have q1 := HS.out (k + 1) (by omega)
      have hle := at0_mono A (a := k) (b := k + 1) (by omega)
      generalize at0 A k = p0 at *
      generalize at0 A (k + 1) = p1 at *
      have z1 : (0 : Int) ≤ (k : Int) := by omega
      have z2 : (k : Int) < (n : Int) + 1 := by omega
      have z3 : (k : Int) + 1 < (n : Int) + 1 := by omega
      have z4 : ¬ (p1 : Int) < (p0 : Int) := by omega
      go_wp2_with fail
      go_quiet (fail)
      go_wp2
      go_roundw
      case rel => exact ⟨k + 1, by omega, by go_num, _, rfl⟩
      case measure => simp [intOf]; omega
    · obtain rfl : k = n := by omega
      go_wp2_with fail
      go_ret
      exact ⟨rfl, _, rfl⟩

end Go.Proofs.Ybulkaebg

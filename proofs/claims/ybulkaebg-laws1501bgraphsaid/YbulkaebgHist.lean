/-
  LawS1501BGraph over toys/ybulkaebg: the history in memory; Sessions, opsOf.
-/
import Derived.Test.YbulkaebgRev
namespace Go.Proofs.Ybulkaebg
open Go.RowKit

/-- An attempt: its session, whether it is committed, its operations (key, write). -/
structure Att where
  s : Nat
  c : Bool
  o : List (Nat × Bool)

/-- How many operations lie ahead of attempt i's. -/
def os (A : Nat → Att) (i : Nat) : Nat := pre (fun i => (A i).o.length) i

/-- Operations in memory: five cells each. -/
def Ops (w : World) (a : Option Addr) (l : List (Nat × Bool)) : Prop :=
  l = [] ∨ ∃ g off, a = some ⟨g, off, none⟩ ∧ ∀ j (h : j < l.length), w.cell? ⟨g, off + j * 5, none⟩ = some (.int .i64 (l[j].1 : Nat)) ∧ w.cell? ⟨g, off + j * 5 + 1, none⟩ = some (.int .i64 0) ∧
    w.cell? ⟨g, off + j * 5 + 2, none⟩ = some (.bool l[j].2) ∧ w.cell? ⟨g, off + j * 5 + 3, none⟩ = some (.bool false) ∧ w.cell? ⟨g, off + j * 5 + 4, none⟩ = some (.int .u32 0)

/-- The history in block bh: N attempts A, S sessions, K keys. -/
structure Hist (w : World) (bh N S K : Nat) (A : Nat → Att) (ga ca gb : Nat) (ao : Option Addr) (co gk gse : Nat) : Prop where
  c0 : w.cell? ⟨bh, 0, none⟩ = some (.slice (some ⟨ga, 0, none⟩) N ca)
  c1 : w.cell? ⟨bh, 1, none⟩ = some (.slice (some ⟨gb, 0, none⟩) 2 2)
  b1 : w.cell? ⟨gb, 1, none⟩ = some (.slice ao (os A N) co)
  c4 : w.cell? ⟨bh, 4, none⟩ = some (.slice (some ⟨gk, 0, none⟩) K K)
  c5 : w.cell? ⟨bh, 5, none⟩ = some (.slice (some ⟨gse, 0, none⟩) S S)
  at_ : ∀ i, i < N → w.cell? ⟨ga, i * 7, none⟩ = some (.int .i64 ((i : Int) + 1)) ∧ w.cell? ⟨ga, i * 7 + 1, none⟩ = some (.int .i64 ((A i).s : Nat)) ∧ w.cell? ⟨ga, i * 7 + 2, none⟩ = some (.bool (A i).c) ∧ w.cell? ⟨ga, i * 7 + 3, none⟩ = some (.bool false) ∧
    w.cell? ⟨ga, i * 7 + 4, none⟩ = some (.int .u32 1) ∧ w.cell? ⟨ga, i * 7 + 5, none⟩ = some (.int .u32 (os A i : Nat)) ∧ w.cell? ⟨ga, i * 7 + 6, none⟩ = some (.int .u32 ((A i).o.length : Nat))
  cap : os A N ≤ co
  ops : (ao = none ∧ co = 0) ∨ ∃ g, ao = some ⟨g, 0, none⟩ ∧ ∀ i, i < N → ∀ j (h : j < (A i).o.length), w.cell? ⟨g, (os A i + j) * 5, none⟩ = some (.int .i64 ((A i).o[j].1 : Nat)) ∧ w.cell? ⟨g, (os A i + j) * 5 + 1, none⟩ = some (.int .i64 0) ∧
    w.cell? ⟨g, (os A i + j) * 5 + 2, none⟩ = some (.bool (A i).o[j].2) ∧ w.cell? ⟨g, (os A i + j) * 5 + 3, none⟩ = some (.bool false) ∧ w.cell? ⟨g, (os A i + j) * 5 + 4, none⟩ = some (.int .u32 0)
  hN : N ≤ 1024
  hO : os A N ≤ 8192
  hS : S ≤ 8
  hK : K ≤ 8
  hs : ∀ i, i < N → (A i).s < S
  hk : ∀ i, i < N → ∀ x, x ∈ (A i).o → x.1 < K

theorem os_succ (A : Nat → Att) (i : Nat) : os A (i + 1) = os A i + (A i).o.length := rfl
theorem os_mono (A : Nat → Att) {a b : Nat} (h : a ≤ b) : os A a ≤ os A b := pre_mono _ h

theorem Hist.below {w w' : World} {bh N S K : Nat} {A : Nat → Att} {ga ca gb : Nat} {ao : Option Addr} {co gk gse : Nat} (h : Hist w bh N S K A ga ca gb ao co gk gse) (hb : Below w.heap.size w w') : Hist w' bh N S K A ga ca gb ao co gk gse := by
  have T : ∀ {a : Addr} {v : Value}, w.cell? a = some v → w'.cell? a = some v := fun hc => (hb.cell (block_lt_of_cell hc)).trans hc
  refine ⟨T h.c0, T h.c1, T h.b1, T h.c4, T h.c5, fun i hi => ?_, h.cap, ?_, h.hN, h.hO, h.hS, h.hK, h.hs, h.hk⟩
  · obtain ⟨a, b, c, d, e, f, g⟩ := h.at_ i hi
    exact ⟨T a, T b, T c, T d, T e, T f, T g⟩
  · rcases h.ops with h0 | ⟨g, e, ht⟩
    · exact .inl h0
    · refine .inr ⟨g, e, fun i hi j hj => ?_⟩
      obtain ⟨a, b, c, d, e⟩ := ht i hi j hj
      exact ⟨T a, T b, T c, T d, T e⟩

theorem slice_nil52 (w : World) : (Instr.slice 52 (.slice none 0 0) (some (.int .u32 0)) (some (.int .u32 0)) (some (.int .u32 0))).run Yba.prog w = .ok (.slice none 0 0) w := by kernel_rfl

theorem sessions_any (bh S gse : Nat) (w : World) (c5 : w.cell? ⟨bh, 5, none⟩ = some (.slice (some ⟨gse, 0, none⟩) S S)) :
    Calls Yba.prog 9 #[.pointer (some ⟨bh, 0, none⟩)] w fun e w' => e = .returned (.int .i64 S) ∧ w' = w := by
  go_enter Yba.func9, Yba.ntmps9
  go_wp2
  go_ret
  exact ⟨rfl, rfl⟩

set_option maxHeartbeats 1000000 in
theorem opsOf_any (bh N S K : Nat) (A : Nat → Att) (ga ca gb : Nat) (ao : Option Addr) (co gk gse : Nat) (b off i : Nat) (w : World) (h : Hist w bh N S K A ga ca gb ao co gk gse) (hi : i < N)
    (a4 : w.cell? ⟨b, off + 4, none⟩ = some (.int .u32 1)) (a5 : w.cell? ⟨b, off + 5, none⟩ = some (.int .u32 (os A i : Nat))) (a6 : w.cell? ⟨b, off + 6, none⟩ = some (.int .u32 ((A i).o.length : Nat))) :
    Calls Yba.prog 10 #[.pointer (some ⟨bh, 0, none⟩), .pointer (some ⟨b, off, none⟩)] w fun e w' => ∃ a c, e = .returned (.slice a (A i).o.length c) ∧ (∀ w0, Hist w0 bh N S K A ga ca gb ao co gk gse → Ops w0 a (A i).o) ∧ ∃ d, w' = w.drewN d := by
  have c1 := h.c1
  have b1 := h.b1
  have h1 := os_mono A (a := i + 1) (b := N) hi
  have h2 := os_succ A i
  have h3 := h.cap
  have h4 := h.hO
  rcases h.ops with ⟨rfl, rfl⟩ | ⟨g, rfl, _⟩
  · have hl : (A i).o.length = 0 := by omega
    have hz : os A i = 0 := by omega
    have hzN : os A N = 0 := by omega
    rw [hz] at a5
    rw [hl] at a6
    rw [hzN] at b1
    have HR : Hid ((A i).o.length = 0) := hl
    clear h h1 h2 h3 h4 hl hz hzN
    have hsl := slice_nil52
    go_enter Yba.func10, Yba.ntmps10
    go_wp2
    go_quiet (fail)
    go_wp2
    go_ret
    exact ⟨none, 0, by rw [HR.out]; rfl, fun _ _ => .inl (List.length_eq_zero_iff.1 HR.out), _, rfl⟩
  · obtain ⟨lo, hlo⟩ : ∃ x, x = os A i := ⟨_, rfl⟩
    obtain ⟨k, hk⟩ : ∃ x, x = (A i).o.length := ⟨_, rfl⟩
    rw [← hlo] at a5
    rw [← hk] at a6
    have l1 : lo + k ≤ co := by omega
    have l2 : lo ≤ 8192 := by omega
    have l3 : k ≤ 8192 := by omega
    have HR : Hid (k = (A i).o.length ∧ ∀ w0, Hist w0 bh N S K A ga ca gb (some ⟨g, 0, none⟩) co gk gse → ∀ j (h : j < (A i).o.length), w0.cell? ⟨g, lo * 5 + j * 5, none⟩ = some (.int .i64 ((A i).o[j].1 : Nat)) ∧ w0.cell? ⟨g, lo * 5 + j * 5 + 1, none⟩ = some (.int .i64 0) ∧
        w0.cell? ⟨g, lo * 5 + j * 5 + 2, none⟩ = some (.bool (A i).o[j].2) ∧ w0.cell? ⟨g, lo * 5 + j * 5 + 3, none⟩ = some (.bool false) ∧ w0.cell? ⟨g, lo * 5 + j * 5 + 4, none⟩ = some (.int .u32 0)) :=
      ⟨hk, fun w0 h0 j hj => by
        rcases h0.ops with ⟨e, _⟩ | ⟨g', e, ht'⟩
        · cases e
        · cases e
          rw [hlo, ← Nat.add_mul]
          exact ht' i hi j hj⟩
    generalize os A N = tot at *
    clear h h1 h2 h3 h4 hlo hk
    by_cases hc : k = 0
    · subst hc
      go_enter Yba.func10, Yba.ntmps10
      go_wp2
      go_quiet (fail)
      go_wp2
      go_ret
      exact ⟨_, _, ret_slice (by rw [← HR.out.1]), fun _ _ => .inl (List.length_eq_zero_iff.1 HR.out.1.symm), _, rfl⟩
    · go_enter Yba.func10, Yba.ntmps10
      go_wp2
      go_quiet (fail)
      go_wp2
      go_ret
      exact ⟨_, _, ret_slice (by rw [← HR.out.1]; omega), fun w0 h0 => .inr ⟨g, lo * 5, rfl, HR.out.2 w0 h0⟩, _, rfl⟩

end Go.Proofs.Ybulkaebg

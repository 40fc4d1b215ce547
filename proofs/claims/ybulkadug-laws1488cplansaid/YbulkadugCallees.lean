/-
  LawS1488CPlan over toys/ybulkadug: the small callees: zzs1488cidx, chunks.len, chunks.at, serverID.
-/
import Derived.Test.YbulkadugParts
import Derived.WalkSpells
import Derived.WalkLawsBesides
import Derived.Deep.QuietTactic
import Derived.BigQuiet
namespace Go.Proofs.Ybulkadug
open Go.RowKit

set_option maxHeartbeats 400000 in
theorem idx_any (x : Int) (n : Nat) (hx : x ≤ 2147483647) (hn : n ≤ 1024) (w : World) :
    Calls Yba.prog 4 #[.int .i32 x, .int .i64 n] w fun e w' => e = .returned (.int .i32 (idx x n)) ∧ w' = w := by
  by_cases h1 : x < 0
  · go_enter Yba.func4, Yba.ntmps4
    go_wp2
    go_ret
    exact ⟨by simp [idx, h1], rfl⟩
  · by_cases h2 : n = 0
    · subst h2
      go_enter Yba.func4, Yba.ntmps4
      go_wp2
      go_ret
      exact ⟨by simp [idx], rfl⟩
    · have h3 : ((n : Int) == 0) = false := by simp; omega
      have h4 : 0 ≤ x := by omega
      go_enter Yba.func4, Yba.ntmps4
      have h5 : 0 ≤ x % (n : Int) := Int.emod_nonneg _ (by omega)
      have h6 : x % (n : Int) < n := Int.emod_lt_of_pos _ (by omega)
      go_wp2
      go_ret
      exact ⟨by rw [idx_in h4 h2]; rfl, rfl⟩

set_option maxHeartbeats 400000 in
theorem len_any (bc n cp : Nat) (ao : Option Addr) (hn : n ≤ 1024) (w : World) (h0 : w.cell? ⟨bc, 0, none⟩ = some (.slice none 0 0)) (h1 : w.cell? ⟨bc, 1, none⟩ = some (.slice ao n cp)) :
    Calls Yba.prog 6 #[.pointer (some ⟨bc, 0, none⟩)] w fun e w' => e = .returned (.int .i64 n) ∧ ∃ d, w' = w.drewN d := by
  go_enter Yba.func6, Yba.ntmps6
  go_wp2
  go_quiet (fail)
  go_wp2
  go_ret
  exact ⟨rfl, _, rfl⟩

/-- What is known of an id that an index stands for: the index says 'none', or the id lies in the row behind the address (five cells an element). -/
def IdAt (w : World) (ao : Option Addr) (x : Int) (s : ByteArray) : Prop :=
  (x < 0 ∧ s = ⟨#[]⟩) ∨ (0 ≤ x ∧ ∃ g, ao = some ⟨g, 0, none⟩ ∧ w.cell? ⟨g, x.toNat * 5, none⟩ = some (.string s))

set_option maxHeartbeats 400000 in
theorem serverID_none (bs : Nat) (x : Int) (hx : x < 0) (w : World) :
    Calls Yba.prog 8 #[.pointer (some ⟨bs, 0, none⟩), .int .i32 x] w fun e w' => e = .returned (.string ⟨#[]⟩) ∧ w' = w := by
  go_enter Yba.func8, Yba.ntmps8
  go_wp2
  go_ret
  exact ⟨rfl, rfl⟩

set_option maxHeartbeats 400000 in
theorem serverID_some (bs g n cp : Nat) (s : ByteArray) (x : Int) (hx : 0 ≤ x) (hn : x < n) (w : World)
    (h0 : w.cell? ⟨bs, 0, none⟩ = some (.slice (some ⟨g, 0, none⟩) n cp)) (h1 : w.cell? ⟨g, x.toNat * 5, none⟩ = some (.string s)) :
    Calls Yba.prog 8 #[.pointer (some ⟨bs, 0, none⟩), .int .i32 x] w fun e w' => e = .returned (.string s) ∧ w' = w := by
  go_enter Yba.func8, Yba.ntmps8
  go_wp2
  go_ret
  exact ⟨rfl, rfl⟩

theorem serverID_any (bs n cp : Nat) (ao : Option Addr) (s : ByteArray) (x : Int) (hn : x < n) (w : World)
    (h0 : w.cell? ⟨bs, 0, none⟩ = some (.slice ao n cp)) (h1 : IdAt w ao x s) :
    Calls Yba.prog 8 #[.pointer (some ⟨bs, 0, none⟩), .int .i32 x] w fun e w' => e = .returned (.string s) ∧ w' = w := by
  rcases h1 with ⟨hx, rfl⟩ | ⟨hx, g, rfl, hc⟩
  · exact serverID_none bs x hx w
  · exact serverID_some bs g n cp s x hx hn w h0 hc

set_option maxHeartbeats 400000 in
theorem at_any (bc g n cp i : Nat) (m : PM) (hn : n ≤ 1024) (hi : i < n) (w : World) (h0 : w.cell? ⟨bc, 0, none⟩ = some (.slice none 0 0)) (h1 : w.cell? ⟨bc, 1, none⟩ = some (.slice (some ⟨g, 0, none⟩) n cp))
    (c0 : w.cell? ⟨g, i * 6, none⟩ = some (.int .i64 m.c)) (c1 : w.cell? ⟨g, i * 6 + 1, none⟩ = some (.int .i32 m.g)) (c2 : w.cell? ⟨g, i * 6 + 2, none⟩ = some (.int .i32 m.f))
    (c3 : w.cell? ⟨g, i * 6 + 3, none⟩ = some (.int .i32 m.t)) (c4 : w.cell? ⟨g, i * 6 + 4, none⟩ = some (.int .u8 m.r)) (c5 : w.cell? ⟨g, i * 6 + 5, none⟩ = some (.bool m.j)) :
    Calls Yba.prog 7 #[.pointer (some ⟨bc, 0, none⟩), .int .i64 i] w fun e w' => e = .returned (.agg #[.int .i64 m.c, .int .i32 m.g, .int .i32 m.f, .int .i32 m.t, .int .u8 m.r, .bool m.j]) ∧
      w' = (w.alloc (.cells #[.int .i64 m.c, .int .i32 m.g, .int .i32 m.f, .int .i32 m.t, .int .u8 m.r, .bool m.j] 46)).drew := by
  have hb : bc < w.heap.size := block_lt_of_cell h0
  have hg : g < w.heap.size := block_lt_of_cell c0
  have e1 : (0 : Int) ≤ (i : Int) := by omega
  have e2 : (i : Int) < (n : Int) := by omega
  go_enter Yba.func7, Yba.ntmps7
  go_wp2
  go_region
  all_goals go_wp2
  all_goals exact bodyPost_ret (v := .agg #[.int .i64 m.c, .int .i32 m.g, .int .i32 m.f, .int .i32 m.t, .int .u8 m.r, .bool m.j]) (by simp [results, Yba.results7, go_sem]) rfl ⟨rfl, rfl⟩

end Go.Proofs.Ybulkadug

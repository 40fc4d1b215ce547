/-
  LawS1488CPlan over toys/ybulkadug: the plain functions (no Go in sight): what a raw move becomes, and which moves the plan holds.
-/
import Derived.Test.YbulkadugRows
import Derived.WalkKit
namespace Go.Proofs.Ybulkadug
open Go.RowKit

/-- zzs1488cidx. -/
def idx (x : Int) (n : Nat) : Int := if x < 0 then -1 else if n = 0 then -1 else x % n

theorem idx_lt (x : Int) (n : Nat) (h : ¬ idx x n < 0) : 0 ≤ idx x n ∧ idx x n < n := by
  unfold idx at *
  split at h
  · omega
  · rename_i hx
    split at h
    · omega
    · rename_i hn
      rw [if_neg hx, if_neg hn]
      exact ⟨by omega, Int.emod_lt_of_pos _ (by omega)⟩

theorem idx_in {x : Int} {n : Nat} (h : 0 ≤ x) (hn : ¬ n = 0) : idx x n = x % n := by
  unfold idx
  rw [if_neg (by omega), if_neg hn]

/-- A planned move. -/
structure PM where
  c : Int
  g : Int
  f : Int
  t : Int
  r : Int
  j : Bool

def PM.cells (m : PM) : List Value := [.int .i64 m.c, .int .i32 m.g, .int .i32 m.f, .int .i32 m.t, .int .u8 m.r, .bool m.j]

/-- The id that an index stands for. -/
def idOf (S : Nat → ByteArray) (x : Int) : ByteArray := if x < 0 then ⟨#[]⟩ else S x.toNat

/-- The cells of the Move that a planned move becomes. -/
def mv (S G : Nat → ByteArray) (m : PM) : List Value := [.string (G m.g.toNat), .int .i64 m.c, .string (idOf S m.f), .string (idOf S m.t), .int .i64 m.r]

/-- Which of the first k planned moves are kept, in order, as cells. -/
def kept (M : Nat → PM) : Nat → List PM
  | 0 => []
  | k + 1 => if (M k).g < 0 then kept M k else kept M k ++ [M k]

theorem kept_le (M : Nat → PM) (k : Nat) : (kept M k).length ≤ k := by
  induction k with
  | zero => simp [kept]
  | succ k ih =>
    simp only [kept]
    split
    · omega
    · simp; omega

def mvs (S G : Nat → ByteArray) (l : List PM) : List Value := l.flatMap (mv S G)

theorem mvs_length (S G : Nat → ByteArray) (l : List PM) : (mvs S G l).length = l.length * 5 := by
  induction l with
  | nil => rfl
  | cons m l ih => simp [mvs, mv] at *; omega

theorem mvs_snoc (S G : Nat → ByteArray) (l : List PM) (m : PM) : mvs S G (l ++ [m]) = mvs S G l ++ mv S G m := by simp [mvs]

end Go.Proofs.Ybulkadug

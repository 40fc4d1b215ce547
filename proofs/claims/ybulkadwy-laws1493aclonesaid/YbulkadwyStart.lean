/-
  Small facts that the three laws of package blocks share, over toys/ybulkadwy.
-/
import Derived.Test.YbulkadwyClone
namespace Go.Proofs.Ybulkadwy
open Go.RowKit

theorem IsInts.take {w : World} {ao : Option Addr} {xs : List Int} (h : IsInts w ao xs) (T : Nat) : IsInts w ao (xs.take T) := by
  rcases h with rfl | ⟨b, off, e, hc⟩
  · exact .inl (by simp)
  · exact .inr ⟨b, off, e, fun i hi => by rw [List.getElem_take]; exact hc i (by simp at hi; omega)⟩

theorem len_zero (bl : Nat) (w : World) (hc : Cell2 w bl (.slice none 0 0) (.slice none 0 0)) :
    Calls Yba.prog 9 #[.pointer (some ⟨bl, 0, none⟩)] w fun e w' => e = .returned (.int .i64 0) ∧ ∃ d, w' = w.drewN d := by
  refine (len_any bl none none 0 0 0 0 (by omega) (by omega) w hc.1 hc.2.1).mono ?_
  rintro e w' ⟨rfl, h⟩
  exact ⟨rfl, h⟩

/-- The list, the log and the box of the iterator's receiver, laid one behind the other. -/
theorem start3 (w1 : World) (vf vl : Value) :
    Below w1.heap.size w1 (((w1.alloc (.cells #[vf, vl] 25)).alloc (.cells #[.slice none 0 0] 22)).alloc (.cells #[.pointer (some ⟨w1.heap.size, 0, none⟩)] 38)) ∧
    Cell2 (((w1.alloc (.cells #[vf, vl] 25)).alloc (.cells #[.slice none 0 0] 22)).alloc (.cells #[.pointer (some ⟨w1.heap.size, 0, none⟩)] 38)) w1.heap.size vf vl ∧
    (((w1.alloc (.cells #[vf, vl] 25)).alloc (.cells #[.slice none 0 0] 22)).alloc (.cells #[.pointer (some ⟨w1.heap.size, 0, none⟩)] 38)).cell? ⟨w1.heap.size + 1, 0, none⟩ = some (.slice none 0 0) ∧
    (((w1.alloc (.cells #[vf, vl] 25)).alloc (.cells #[.slice none 0 0] 22)).alloc (.cells #[.pointer (some ⟨w1.heap.size, 0, none⟩)] 38)).frozen? ⟨w1.heap.size + 1, 0, none⟩ = false ∧
    (((w1.alloc (.cells #[vf, vl] 25)).alloc (.cells #[.slice none 0 0] 22)).alloc (.cells #[.pointer (some ⟨w1.heap.size, 0, none⟩)] 38)).cell? ⟨w1.heap.size + 1 + 1, 0, none⟩ = some (.pointer (some ⟨w1.heap.size, 0, none⟩)) ∧
    w1.heap.size + 3 ≤ (((w1.alloc (.cells #[vf, vl] 25)).alloc (.cells #[.slice none 0 0] 22)).alloc (.cells #[.pointer (some ⟨w1.heap.size, 0, none⟩)] 38)).heap.size :=
  ⟨(((Below.refl _ _).alloc (Nat.le_refl _) _).alloc (by simp) _).alloc (by simp; omega) _,
   Cell2.alloc (Cell2.alloc ⟨by simp, by simp, by simp, by simp⟩ _) _, by go_simp, by go_simp, by go_simp, by simp⟩

end Go.Proofs.Ybulkadwy

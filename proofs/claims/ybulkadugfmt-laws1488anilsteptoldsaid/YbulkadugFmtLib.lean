/-
  LawS1488ANilStep over toys/ybulkadugfmt: slices.Delete and slices.Clone, by the shelf's contracts.
-/
import Derived.Test.YbulkadugFmtSmall
import Derived.Shelf.SlicesE.Delete
import Derived.Shelf.SlicesE.Clone
import Derived.Ground.SlgnProg
namespace Go.Proofs
open Go.Shelf
shelf_lay_g SlLaysE.n45 Slgn 45 at Ybaf 34 as Ybaf.dl
shelf_lay_g SlLaysE0.n41 Slgn 41 at Ybaf 10 as Ybaf.cl
end Go.Proofs
namespace Go.Proofs.YbulkadugFmt
open Go.RowKit Go.Shelf

theorem Ybaf.info21 : (Ybaf.prog.info? 21).map (fun i => (i.zero, i.size, i.bytes)) = some (some (.int .i32 0), 1, 4) := by kernel_rfl

theorem putRow_own {w : World} {base rb cap q : Nat} {L : List Int} (h : w.ownsRow base 21 1 (.slice (some ⟨rb, 0, none⟩) L.length cap) L.length (L.map (.int .i32 ·))) (D : List Int) (d : Array Int) (hd : d.size = L.length) (hD : d.toList.take D.length = D) (hl : D.length ≤ L.length) :
    (Sort.putRow (Value.int .i32) (Sort.ahead w q) rb 0 d).ownsRow base 21 1 (.slice (some ⟨rb, 0, none⟩) D.length cap) D.length (D.map (.int .i32 ·)) ∧ Kp (· = rb) w (Sort.putRow (Value.int .i32) (Sort.ahead w q) rb 0 d) := by
  obtain ⟨_, h | ⟨g, cap', cur, e, hb, hh, hn, hm, hs, ht⟩⟩ := h
  · obtain ⟨e, _⟩ := h
    cases e
  · cases e
    have hlt : rb < w.heap.size := (Array.getElem?_eq_some_iff.1 hh).1
    refine ⟨⟨by simp, .inr ⟨rb, cap, Sort.putCells (Value.int .i32) 0 d cur, rfl, hb, ?_, by omega, hm, by simp [Sort.putCells, hs], ?_⟩⟩, rfl, rfl, rfl, by simp, fun k hk hne => ?_⟩
    · simp [Sort.putRow, Sort.mapBlock, Sort.ahead, Array.getElem?_modify, hh, Sort.onCells]
    · apply List.ext_getElem?
      intro j
      by_cases hj : j < D.length
      · rw [List.getElem?_take_of_lt (by omega)]
        rw [Array.getElem?_toList, Sort.putCells, Array.getElem?_mapIdx]
        have hjc : j < cur.size := by omega
        rw [Array.getElem?_eq_getElem hjc]
        simp only [Option.map_some]
        rw [if_pos (by omega), List.getElem?_map, Nat.sub_zero]
        have : D[j]? = d.toList[j]? := by
          have h2 := congrArg (fun l => l[j]?) hD
          simp only [List.getElem?_take_of_lt hj] at h2
          exact h2.symm
        rw [this, Array.getElem?_toList, Array.getElem?_eq_getElem (by omega)]
        simp [getElem!_pos d j (by omega)]
      · rw [List.getElem?_eq_none (by simp; omega), List.getElem?_eq_none (by simp; omega)]
    · have hne' : ¬ rb = k := fun e => hne e.symm
      simp [Sort.putRow, Sort.mapBlock, Sort.ahead, Array.getElem?_modify, hne']

theorem del_any (base rb cap i : Nat) (L : List Int) (w : World) (h : w.ownsRow base 21 1 (.slice (some ⟨rb, 0, none⟩) L.length cap) L.length (L.map (.int .i32 ·))) (hi : i < L.length) :
    Calls Ybaf.prog 34 #[.slice (some ⟨rb, 0, none⟩) L.length cap, .int .i64 i, .int .i64 ((i : Int) + 1)] w fun e w' => e = .returned (.slice (some ⟨rb, 0, none⟩) (L.length - 1) cap) ∧ w'.ownsRow base 21 1 (.slice (some ⟨rb, 0, none⟩) (L.length - 1) cap) (L.length - 1) ((L.eraseIdx i).map (.int .i32 ·)) ∧ Kp (· = rb) w w' := by
  obtain ⟨i1, hi1, hz0, hz1, hz2⟩ := info_parts Ybaf.info21
  have hcap : L.length ≤ cap ∧ cap ≤ maxLen := by
    obtain ⟨_, h | ⟨g, cap', cur, e, hb, hh, hn, hm, hs, ht⟩⟩ := h
    · obtain ⟨e, _⟩ := h; cases e
    · cases e; exact ⟨hn, hm⟩
  have hH : Sort.Holds (Value.int .i32) w rb 0 L.toArray := fun j hj => by
    have hj' : j < L.length := by simpa using hj
    refine ⟨?_, h.frozenAt (0 + j)⟩
    rw [h.cellAt (0 + j) (by omega), Nat.zero_add, List.getElem?_map, List.getElem?_eq_getElem hj']
    simp [hj']
  have hcon := AnyE.slices_Delete Ybaf.dl (Value.int .i32) (fun _ => rfl) 0 Ybaf.zeroValue21 i1 hi1 hz1 rb 0 cap i (i + 1) L.toArray w hH (by simpa using hcap.1) (by have := hcap.2; unfold maxLen at this; omega) (by omega) (by simp; omega)
  change Calls Ybaf.prog 34 _ _ _ at hcon
  simp only [List.size_toArray] at hcon
  refine Calls.mono hcon ?_
  rintro e w' ⟨rfl, q, rfl⟩
  have he : (L.eraseIdx i).length = L.length - 1 := List.length_eraseIdx_of_lt hi
  have h9 := putRow_own (q := q) h (L.eraseIdx i) (L.take i ++ L.drop (i + 1) ++ List.replicate (i + 1 - i) 0).toArray (by simp; omega) (by
    rw [List.toList_toArray, List.eraseIdx_eq_take_drop_succ, List.take_left' rfl]) (by omega)
  rw [he] at h9
  exact ⟨by rw [show i + 1 - i = 1 by omega], h9.1, h9.2⟩

theorem clone_any (b n c : Nat) (L : List Int) (w : World) (hl : L.length = n) (hn : n ≤ 2000) (hc : ∀ j (h : j < L.length), w.cell? ⟨b, j, none⟩ = some (.int .i32 L[j])) :
    Calls Ybaf.prog 10 #[.slice (some ⟨b, 0, none⟩) n c] w fun e w' => ∃ v, e = .returned v ∧ w'.ownsRow w.heap.size 21 1 v n (L.map (.int .i32 ·)) ∧ Below w.heap.size w w' := by
  obtain ⟨i1, hi1, hz0, hz1, hz2⟩ := info_parts Ybaf.info21
  have hcon := AnyE.slices_Clone Ybaf.cl i1 (.int .i32 0) 1 4 hi1 hz0 hz1 hz2 rfl (by omega) Ybaf.sizeOf21 b 0 n c (L.map (.int .i32 ·)) w (by simp [hl]) (by unfold maxLen; omega) (by omega) (fun j u hu => by
    rw [List.getElem?_map] at hu
    rw [Nat.zero_add]
    by_cases hj : j < L.length
    · rw [List.getElem?_eq_getElem hj] at hu
      rw [hc j hj]; simpa using hu
    · rw [List.getElem?_eq_none (by omega)] at hu
      cases hu) (by simp [Value.oneCell'])
  change Calls Ybaf.prog 10 _ _ _ at hcon
  refine Calls.mono hcon ?_
  rintro e w' ⟨v, rfl, h1, _, h2⟩
  exact ⟨v, rfl, h1, h2⟩

end Go.Proofs.YbulkadugFmt

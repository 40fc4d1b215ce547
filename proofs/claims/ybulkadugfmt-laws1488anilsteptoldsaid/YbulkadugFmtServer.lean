/-
  LawS1488ANilStep over toys/ybulkadugfmt: the map of the servers; (*applier).server.
-/
import Derived.Test.YbulkadugFmtLose
import Derived.StringKeys
namespace Go.Proofs.YbulkadugFmt
open Go.RowKit Go.Maps
attribute [local go_sem ↓] Go.wp_at_zero Go.wp_at_succ

theorem law9 : Keyed Ybaf.prog 9 := string_keyed Ybaf.underlying9
theorem zero21 (w : World) : (zeroValue 21).run Ybaf.prog w = .ok (.int .i32 0) w := by kernel_rfl

/-- The servers by their ids: the first k. -/
def Dk : Nat → DataW Unit
  | 0 => .map []
  | k + 1 => (Dk k).put (.string (idS k).data.toList) (.lit (.int .i32 (k : Nat)))

theorem dk_at (s : Nat) (h1 : 1 ≤ s) (h4 : s ≤ 4) : Maps.has (Dk 4) (.string (selS s).data.toList) = true ∧ (Dk 4).atKey (.string (selS s).data.toList) (.lit (.int .i32 0)) = .lit (.int .i32 (selI s)) := by
  rcases (by omega : s = 1 ∨ s = 2 ∨ s = 3 ∨ s = 4) with rfl | rfl | rfl | rfl
  all_goals exact ⟨by rfl, by rfl⟩
theorem dk_no : Maps.has (Dk 4) (.string (selS 5).data.toList) = false ∧ Maps.has (Dk 4) (.string (selS 0).data.toList) = false := ⟨by rfl, by rfl⟩

theorem selS_small (s : Nat) : (selS s).size ≤ maxLen := by
  unfold selS idS
  repeat' split
  all_goals decide

set_option maxRecDepth 100000 in
set_option maxHeartbeats 1000000 in
theorem server_any (ab mb s : Nat) (w : World) (hs : s ≤ 5) (a2 : w.cell? ⟨ab, 2, none⟩ = some (.map (some mb))) (hown : w.ownsMap Ybaf.prog 9 (plainElem Ybaf.prog 21) mb 4 (Dk 4)) :
    Calls Ybaf.prog 13 #[.pointer (some ⟨ab, 0, none⟩), .string (selS s)] w fun e w' => e = .returned (.int .i32 (selI s)) ∧ ∃ d, w' = w.drewN d := by
  have hkey : keyOf Ybaf.prog 9 (.string (selS s)) = some (.string (selS s).data.toList) := WideMaps.keyOf_string_mk Ybaf.underlying9 (selS_small s)
  by_cases h0 : s = 0
  · subst h0
    clear hkey
    show Calls Ybaf.prog 13 #[.pointer (some ⟨ab, 0, none⟩), .string ⟨#[]⟩] w _
    go_enter Ybaf.func13, Ybaf.ntmps13
    go_wp2_with fail
    go_ret
    exact ⟨rfl, 0, rfl⟩
  · have hne : (selS s).toList.isEmpty = false := by
      rw [Lib.toList_data]
      rcases (by omega : s = 1 ∨ s = 2 ∨ s = 3 ∨ s = 4 ∨ s = 5) with rfl | rfl | rfl | rfl | rfl
      all_goals decide
    by_cases h5 : s = 5
    · subst h5
      have hn := dk_no.1
      generalize selS 5 = sS at *
      go_enter Ybaf.func13, Ybaf.ntmps13
      go_wp2_with (at_lookup; refine wpList_lookup_own_ok_int _ rfl _ _ 71 rfl 9 21 .i32 law9 Ybaf.underlying71 Ybaf.underlying21 (zero21 _) mb 4 (Dk 4) rfl hown _ _ rfl hkey ?_; intro c hat hwc; rw [hn])
      go_ret
      exact ⟨rfl, 0, rfl⟩
    · obtain ⟨hy, hv⟩ := dk_at s (by omega) (by omega)
      generalize selS s = sS at *
      generalize selI s = sI at *
      go_enter Ybaf.func13, Ybaf.ntmps13
      go_wp2_with (at_lookup; refine wpList_lookup_own_ok_int _ rfl _ _ 71 rfl 9 21 .i32 law9 Ybaf.underlying71 Ybaf.underlying21 (zero21 _) mb 4 (Dk 4) rfl hown _ _ rfl hkey ?_; intro c hat hwc; rw [hy]; obtain rfl : sI = c := by (rw [hv] at hat; injection hat with hat; injection hat))
      go_ret
      exact ⟨rfl, 0, rfl⟩

end Go.Proofs.YbulkadugFmt

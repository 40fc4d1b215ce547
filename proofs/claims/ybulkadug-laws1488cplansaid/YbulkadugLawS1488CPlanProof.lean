/-
  A PROOF OF 'Rows.LawS1488CPlanSaid': the arguments opened, the walk, the row.
-/
import Derived.Test.YbulkadugLaw
import Derived.ProofKit
import Derived.OpenShut
import Derived.ShutString
import Derived.ChangeOld
import Derived.SliceStrings
import Derived.Deep.Slices
namespace Go.Proofs.Ybulkadug.lawS1488CPlan
open Go.ChangeShapes Go.WideShapes Go.ChangeAt Go.RowKit
open Go.Deep (open_slice choose_lt add_add)

theorem own : ownKnob Yba.prog.godebug = none := by kernel_rfl
theorem laidOut : laidOutB Yba.prog = true := by kernel_rfl
theorem cells9 : Yba.prog.cellsOf 9 = 1 := by kernel_rfl
theorem cells43 : Yba.prog.cellsOf 43 = 6 := by kernel_rfl
theorem cells21 : Yba.prog.cellsOf 21 = 1 := by kernel_rfl
theorem cells2 : Yba.prog.cellsOf 2 = 1 := by kernel_rfl
theorem cells5 : Yba.prog.cellsOf 5 = 1 := by kernel_rfl
theorem cells4 : Yba.prog.cellsOf 4 = 1 := by kernel_rfl

def rawZero : Raw := ⟨0, 0, 0, 0, 0, false⟩

theorem view_strs {H : Type} {enc : TypeId × Value → H} {W : World} {a0 : Option Addr} {len cap fuel : Nat} {x : DataW H × List MemPlace}
    (hf : DataW.trod enc Yba.prog W 0 (fun _ => true) true fuel 22 [.slice a0 len cap] = some x) : ∃ S, IsStrs W a0 len S := by
  rcases open_strings Yba.underlying22 Yba.underlying9 cells9 hf with ⟨hcs, _⟩ | ⟨a, l, c, ss, hcs, _, hl, hm, hz, _, hcell, _⟩
  · simp at hcs
    obtain ⟨rfl, rfl, rfl⟩ := hcs
    exact ⟨fun _ => ⟨#[]⟩, .inl rfl⟩
  · simp at hcs
    obtain ⟨rfl, rfl, rfl⟩ := hcs
    simp only [if_true] at hz
    by_cases h0 : len = 0
    · exact ⟨fun _ => ⟨#[]⟩, .inl h0⟩
    · obtain ⟨b, off, spot⟩ := a
      have hspot : spot = none := by simpa [Addr.add] using World.cell?_spot (hcell 0 (by omega))
      subst hspot
      exact ⟨fun i => ss.getD i ByteArray.empty, .inr ⟨b, off, rfl, fun i hi => by rw [← add_plain]; exact hcell i (by omega)⟩⟩

theorem view_raw {H : Type} {enc : TypeId × Value → H} {W : World} {a0 : Option Addr} {len cap fuel : Nat} {x : DataW H × List MemPlace}
    (hf : DataW.trod enc Yba.prog W 0 (fun _ => true) true fuel 23 [.slice a0 len cap] = some x) :
    ∃ R, IsRaw W a0 len R ∧ ∀ i, i < len → (R i).g ≤ 2147483647 ∧ (R i).f ≤ 2147483647 ∧ (R i).t ≤ 2147483647 ∧ 0 ≤ (R i).r ∧ (R i).r ≤ 255 := by
  rcases open_slice Yba.underlying23 hf with ⟨hcs, _⟩ | ⟨a, l, c, m, n, D, Pl, hcs, _, hl, hm, hmm, _, hx⟩
  · simp at hcs
    obtain ⟨rfl, rfl, rfl⟩ := hcs
    exact ⟨fun _ => rawZero, .inl rfl, fun i hi => absurd hi (by omega)⟩
  · simp at hcs
    obtain ⟨rfl, rfl, rfl⟩ := hcs
    simp only [if_true] at hmm
    subst hmm
    have each : ∀ i, i < len → ∃ q : Raw, (W.cell? (a.add (i * 6)) = some (.int .i32 q.g) ∧ W.cell? (a.add (i * 6 + 1)) = some (.int .i32 q.f) ∧ W.cell? (a.add (i * 6 + 2)) = some (.int .i32 q.t) ∧
        W.cell? (a.add (i * 6 + 3)) = some (.int .i64 q.c) ∧ W.cell? (a.add (i * 6 + 4)) = some (.int .u8 q.r) ∧ W.cell? (a.add (i * 6 + 5)) = some (.bool q.j)) ∧
        q.g ≤ 2147483647 ∧ q.f ≤ 2147483647 ∧ q.t ≤ 2147483647 ∧ 0 ≤ q.r ∧ q.r ≤ 255 := by
      intro i hi
      obtain ⟨cs', h1, h2⟩ := hx i (by omega)
      rw [cells43] at h1
      obtain ⟨_, hlen, hcell⟩ := World.cells?_some h1
      obtain ⟨xs, k, _, _, _, hxl, hfs⟩ := DataW.trod_struct Yba.underlying43 h2
      have g0 := hfs 0 _ rfl
      have g1 := hfs 1 _ rfl
      have g2 := hfs 2 _ rfl
      have g3 := hfs 3 _ rfl
      have g4 := hfs 4 _ rfl
      have g5 := hfs 5 _ rfl
      match xs, hxl, cs', hlen with
      | [y0, y1, y2, y3, y4, y5], _, [v0, v1, v2, v3, v4, v5], _ =>
        simp [cells21, cells2, cells5, cells4] at g0 g1 g2 g3 g4 g5
        obtain ⟨n0, e0, _, w0⟩ := DataW.trod_int Yba.underlying21 g0
        obtain ⟨n1, e1, _, w1⟩ := DataW.trod_int Yba.underlying21 g1
        obtain ⟨n2, e2, _, w2⟩ := DataW.trod_int Yba.underlying21 g2
        obtain ⟨n3, e3, _, _⟩ := DataW.trod_int Yba.underlying2 g3
        obtain ⟨n4, e4, _, w4⟩ := DataW.trod_int Yba.underlying5 g4
        obtain ⟨n5, e5, _⟩ := DataW.trod_bool Yba.underlying4 g5
        simp at e0 e1 e2 e3 e4 e5
        subst e0 e1 e2 e3 e4 e5
        have c0 := hcell 0 (by omega)
        have c1 := hcell 1 (by omega)
        have c2 := hcell 2 (by omega)
        have c3 := hcell 3 (by omega)
        have c4 := hcell 4 (by omega)
        have c5 := hcell 5 (by omega)
        rw [add_add] at c0 c1 c2 c3 c4 c5
        have b0 := bounds_i32 w0
        have b1 := bounds_i32 w1
        have b2 := bounds_i32 w2
        have b4 := bounds_u8 w4
        exact ⟨⟨n0, n1, n2, n3, n4, n5⟩, ⟨by simpa using c0, by simpa using c1, by simpa using c2, by simpa using c3, by simpa using c4, by simpa using c5⟩, b0.2, b1.2, b2.2, b4.1, b4.2⟩
    obtain ⟨R, hR⟩ := @choose_lt Raw ⟨rawZero⟩ _ _ each
    refine ⟨R, ?_, fun i hi => (hR i hi).2⟩
    by_cases h0 : len = 0
    · exact .inl h0
    · obtain ⟨b, off, spot⟩ := a
      have hspot : spot = none := by simpa [Addr.add] using World.cell?_spot (hR 0 (by omega)).1.1
      subst hspot
      refine .inr ⟨b, off, rfl, fun i hi => ?_⟩
      have h := (hR i hi).1
      simp only [add_plain, ← Nat.add_assoc] at h
      exact h

theorem walk (a0 a1 a2 : Option Addr) (n0 c0 n1 c1 n2 c2 : Nat) (S G : Nat → ByteArray) (R : Nat → Raw) (w : World)
    (hS : IsStrs w a0 n0 S) (hG : IsStrs w a1 n1 G) (hR : IsRaw w a2 n2 R) (hRb : ∀ i, i < n2 → (R i).g ≤ 2147483647 ∧ (R i).f ≤ 2147483647 ∧ (R i).t ≤ 2147483647 ∧ 0 ≤ (R i).r ∧ (R i).r ≤ 255) :
    Calls Yba.prog 3 #[.slice a0 n0 c0, .slice a1 n1 c1, .slice a2 n2 c2] w fun e w' => e = .returned (.bool true) ∧ Below w.heap.size w w' := by
  by_cases h : 1024 < n0 ∨ 1024 < n1 ∨ 1024 < n2
  · exact law_long a0 a1 a2 n0 c0 n1 c1 n2 c2 w h
  · exact law_walk a0 a1 a2 n0 c0 n1 c1 n2 c2 S G R w (by omega) (by omega) (by omega) hS hG hR hRb

set_option maxRecDepth 100000 in
theorem lifted (os : Os) (started : os.Started) (H : Type) (enc : TypeId × Value → H) :
    ReturnsInHanded {} Yba.checked os 3 .any (Rows.lawS1488CPlanSpec.pre6 enc Yba.prog Yba.f3 Rows.lawS1488CPlanRow.domain false) (Rows.lawS1488CPlanSpec.post enc Yba.prog Yba.f3 false true false false) := by
  refine returnsInHanded_of_change (C := Yba.checked) own started (by kernel_rfl) Yba.func3
    (ChangeSpec.witness6 (enc := enc) (C := Yba.checked) false ⟨#[], #[.slice none 0 0, .slice none 0 0, .slice none 0 0], []⟩ 8 (by kernel_rfl) (by kernel_rfl) (by kernel_rfl) (by kernel_rfl)) ?_
  intro W base args ds gs before hval0 hW hcnd _
  have hval : ∀ (j : Nat) t v, Yba.f3.params[j]? = some t → args[j]? = some v → Value.okWide Yba.prog W .any base t v := hval0
  have hW' := hW
  obtain ⟨p, q, hA0, hV, rfl, hfz, hnd⟩ := hW
  have hA : DataW.TrodAll enc Yba.prog W 0 (fun _ => true) true Yba.f3.params.toList args.toList ds p := hA0
  rw [Yba.params3] at hA hval
  obtain ⟨v0, vs0, d0, ds0, p0, q0, hargs, rfl, rfl, h0, r0⟩ := trodAll_cons hA
  obtain ⟨v1, vs1, d1, ds1, p1, q1, rfl, rfl, rfl, h1, r1⟩ := trodAll_cons r0
  obtain ⟨v2, vs2, d2, ds2, p2, q2, rfl, rfl, rfl, h2, r2⟩ := trodAll_cons r1
  obtain ⟨rfl, rfl, rfl⟩ := trodAll_nil r2
  obtain rfl : args = #[v0, v1, v2] := by cases args; simp_all
  obtain ⟨rfl, rfl⟩ := trodVars_none hV
  obtain ⟨a0, len0, cap0, rfl⟩ := okWide_slice Yba.underlying22 (hval 0 22 v0 rfl rfl)
  obtain ⟨a1, len1, cap1, rfl⟩ := okWide_slice Yba.underlying22 (hval 1 22 v1 rfl rfl)
  obtain ⟨a2, len2, cap2, rfl⟩ := okWide_slice Yba.underlying23 (hval 2 23 v2 rfl rfl)
  have k0 := h0
  have k1 := h1
  have k2 := h2
  have lt0 : ∀ x ∈ p0, x.block < W.heap.size := by obtain ⟨m, hm⟩ := k0; exact DataW.trod_lt m _ _ _ hm
  have lt1 : ∀ x ∈ p1, x.block < W.heap.size := by obtain ⟨m, hm⟩ := k1; exact DataW.trod_lt m _ _ _ hm
  have lt2 : ∀ x ∈ p2, x.block < W.heap.size := by obtain ⟨m, hm⟩ := k2; exact DataW.trod_lt m _ _ _ hm
  obtain ⟨S, hS⟩ : ∃ S, IsStrs W a0 len0 S := by obtain ⟨fuel, hf⟩ := h0; exact view_strs hf
  obtain ⟨G, hG⟩ : ∃ S, IsStrs W a1 len1 S := by obtain ⟨fuel, hf⟩ := h1; exact view_strs hf
  obtain ⟨R, hR, hRb⟩ : ∃ R, IsRaw W a2 len2 R ∧ ∀ i, i < len2 → (R i).g ≤ 2147483647 ∧ (R i).f ≤ 2147483647 ∧ (R i).t ≤ 2147483647 ∧ 0 ≤ (R i).r ∧ (R i).r ≤ 255 := by obtain ⟨fuel, hf⟩ := h2; exact view_raw hf
  clear hA0 hval0
  refine (walk a0 a1 a2 len0 cap0 len1 cap1 len2 cap2 S G R W hS hG hR hRb).mono fun e W' ⟨he, bel⟩ => ?_
  subst he
  exact ⟨_, rfl, _, _, _, [], _, [], hW', trodAll_mk1 (shut_bool Yba.underlying4 _), (trodAll_cons_mk (Below.trod laidOut (by kernel_rfl) (of_decide_eq_true (by kernel_rfl)) k0 bel lt0) (trodAll_cons_mk (Below.trod laidOut (by kernel_rfl) (of_decide_eq_true (by kernel_rfl)) k1 bel lt1) (trodAll_cons_mk (Below.trod laidOut (by kernel_rfl) (of_decide_eq_true (by kernel_rfl)) k2 bel lt2) trodAll_mk0))), rfl, bel.frame _, fun h => by cases h⟩

theorem over : Rows.lawS1488CPlanRow.holds Yba.pinned (OpenSpec.ofChange Rows.lawS1488CPlanSpec) :=
  OpenClaim.holds_of_wide 3 Yba.f3 rfl rfl rfl rfl rfl rfl rfl ⟨rfl, rfl, rfl, rfl, rfl⟩ rfl rfl rfl rfl rfl (by kernel_rfl) Yba.func3 (by kernel_rfl)
    (of_decide_eq_true (by kernel_rfl)) (by unfold Func.isWrapper; first | (rw [if_pos (by decide +kernel)]; kernel_rfl) | (rw [if_neg (by decide +kernel)]; exact ⟨rfl, rfl⟩))
    (fun os started H enc _ => lifted os started H enc)

end Go.Proofs.Ybulkadug.lawS1488CPlan
namespace Go.Proofs.Ybulkadug
/-- THE STATEMENT. -/
theorem lawS1488CPlan_proved : Rows.LawS1488CPlanSaid := lawS1488CPlan.over
end Go.Proofs.Ybulkadug

/-
  A PROOF OF 'Rows.LawS1488ANilStepToldSaid': the arguments opened, the walk, the told card.
-/
import Derived.Test.YbulkadugFmtLaw
import Derived.ProofKit
import Derived.OpenShut
import Derived.ChangeSame
import Derived.ChangeOld
import Derived.ChangeSlices
import Derived.Laws.IdiomArrays
import Derived.Deep.Slices
import Derived.Stop.JoinedAt
import Derived.Stop.JoinedTold
import Derived.SevenToldRow
namespace Go.Proofs.YbulkadugFmt.lawS1488ANilStep
open Go.ChangeShapes Go.WideShapes Go.ChangeAt Go.RowKit
open Go.Extern.Stop Go.Stop Go.Extern

theorem own : ownKnob Ybaf.prog.godebug = none := by kernel_rfl
theorem laidOut : laidOutB Ybaf.prog = true := by kernel_rfl
theorem cells5 : Ybaf.prog.cellsOf 5 = 1 := by kernel_rfl
theorem cells22 : Ybaf.prog.cellsOf 22 = 4 := by kernel_rfl
theorem list4 {α : Type} (l : List α) (h : (⟨l⟩ : Array α).size = 4) : ∃ a b c d, l = [a, b, c, d] := by
  match l, h with
  | [a, b, c, d], _ => exact ⟨a, b, c, d, rfl⟩
theorem nat_of {x : Int} (h : (Lit.int .u8 x).wf = true) : ∃ m : Nat, x = (m : Int) ∧ m < 256 := by
  have := bounds_u8 h
  exact ⟨x.toNat, by omega, by omega⟩

theorem view_u8s {H : Type} {enc : TypeId × Value → H} {W : World} {a0 : Option Addr} {len cap fuel : Nat} {x : DataW H × List MemPlace}
    (hf : DataW.trod enc Ybaf.prog W 0 (fun _ => true) true fuel 23 [.slice a0 len cap] = some x) : ∃ X, Rs W a0 len X := by
  rcases open_ints Ybaf.underlying23 Ybaf.underlying5 cells5 hf with ⟨hcs, _⟩ | ⟨a, l, c, zs, hcs, _, hl, hm, hz, _, hcell, hwf⟩
  · simp at hcs
    obtain ⟨rfl, rfl, rfl⟩ := hcs
    exact ⟨fun _ => 0, .inl rfl, fun i hi => absurd hi (by omega)⟩
  · simp at hcs
    obtain ⟨rfl, rfl, rfl⟩ := hcs
    simp only [if_true] at hz
    have hb : ∀ i, i < zs.length → 0 ≤ zs.getD i 0 ∧ zs.getD i 0 ≤ 255 := fun i hi => by
      have hm : zs.getD i 0 ∈ zs := by
        rw [List.getD_eq_getElem?_getD, List.getElem?_eq_getElem hi]
        exact List.getElem_mem hi
      exact bounds_u8 (hwf _ hm)
    by_cases h0 : len = 0
    · exact ⟨fun _ => 0, .inl h0, fun i hi => absurd hi (by omega)⟩
    · obtain ⟨b, off, spot⟩ := a
      have hspot : spot = none := by simpa [Addr.add] using World.cell?_spot (hcell 0 (by omega))
      subst hspot
      refine ⟨fun i => (zs.getD i 0).toNat, .inr ⟨b, off, rfl, fun i hi => ?_⟩, fun i hi => ?_⟩
      · have h := hcell i (by omega)
        rw [add_plain] at h
        rw [h, Int.toNat_of_nonneg (hb i (by omega)).1]
      · have := hb i (by omega)
        show (zs.getD i 0).toNat < 256
        omega

set_option maxRecDepth 100000 in
theorem lifted (os : Os) (started : os.Started) (H : Type) (enc : TypeId × Value → H) :
    ReturnsInTold none {} Ybaf.checked os 3 .any Input.okWide ((OpenSpec.ofChange Rows.lawS1488ANilStepSpec).preRow enc Ybaf.prog Ybaf.f3 [] false []) (fun F => ((OpenSpec.ofChange Rows.lawS1488ANilStepSpec).at F).post enc Ybaf.prog Ybaf.f3 false true false false) (aloneAtReturn Ybaf.prog) nothingAlways := by
  refine returnsInTold_of_row (C := Ybaf.checked) (s := OpenSpec.ofChange Rows.lawS1488ANilStepSpec) (by kernel_rfl) own started (by kernel_rfl) Ybaf.func3
    (OpenSpec.witness_stopped (enc := enc) (C := Ybaf.checked) false ⟨#[], #[.int .u8 0, .int .u8 0, .agg #[.int .u8 0, .int .u8 0, .int .u8 0, .int .u8 0], .slice none 0 0, .int .u8 0, .int .u8 0, .int .u8 0, .int .u8 0], []⟩ 8 (by kernel_rfl) (by kernel_rfl) (by kernel_rfl) (by kernel_rfl)) ?_
  intro F W base args ds gs before _ _ hval0 hW _ _ _ _ _
  have hval : ∀ (j : Nat) t v, Ybaf.f3.params[j]? = some t → args[j]? = some v → Value.okWide Ybaf.prog W .any base t v := hval0
  have hW' := hW
  obtain ⟨p, q, hA0, hV, rfl, _, _⟩ := hW
  have hA : DataW.TrodAll enc Ybaf.prog W 0 (fun _ => true) true Ybaf.f3.params.toList args.toList ds p := hA0
  rw [Ybaf.params3] at hA hval
  obtain ⟨v0, vs0, d0, ds0, p0, q0, hargs, rfl, rfl, h0, r0⟩ := trodAll_cons hA
  obtain ⟨v1, vs1, d1, ds1, p1, q1, rfl, rfl, rfl, h1, r1⟩ := trodAll_cons r0
  obtain ⟨v2, vs2, d2, ds2, p2, q2, rfl, rfl, rfl, h2, r2⟩ := trodAll_cons r1
  obtain ⟨v3, vs3, d3, ds3, p3, q3, rfl, rfl, rfl, h3, r3⟩ := trodAll_cons r2
  obtain ⟨v4, vs4, d4, ds4, p4, q4, rfl, rfl, rfl, h4, r4⟩ := trodAll_cons r3
  obtain ⟨v5, vs5, d5, ds5, p5, q5, rfl, rfl, rfl, h5, r5⟩ := trodAll_cons r4
  obtain ⟨v6, vs6, d6, ds6, p6, q6, rfl, rfl, rfl, h6, r6⟩ := trodAll_cons r5
  obtain ⟨v7, vs7, d7, ds7, p7, q7, rfl, rfl, rfl, h7, r7⟩ := trodAll_cons r6
  obtain ⟨rfl, rfl, rfl⟩ := trodAll_nil r7
  obtain rfl : args = #[v0, v1, v2, v3, v4, v5, v6, v7] := by cases args; simp_all
  obtain ⟨rfl, rfl⟩ := trodVars_none hV
  have lt0 : ∀ x ∈ p0, x.block < W.heap.size := by obtain ⟨m, hm⟩ := h0; exact DataW.trod_lt m _ _ _ hm
  have lt1 : ∀ x ∈ p1, x.block < W.heap.size := by obtain ⟨m, hm⟩ := h1; exact DataW.trod_lt m _ _ _ hm
  have lt2 : ∀ x ∈ p2, x.block < W.heap.size := by obtain ⟨m, hm⟩ := h2; exact DataW.trod_lt m _ _ _ hm
  have lt3 : ∀ x ∈ p3, x.block < W.heap.size := by obtain ⟨m, hm⟩ := h3; exact DataW.trod_lt m _ _ _ hm
  have lt4 : ∀ x ∈ p4, x.block < W.heap.size := by obtain ⟨m, hm⟩ := h4; exact DataW.trod_lt m _ _ _ hm
  have lt5 : ∀ x ∈ p5, x.block < W.heap.size := by obtain ⟨m, hm⟩ := h5; exact DataW.trod_lt m _ _ _ hm
  have lt6 : ∀ x ∈ p6, x.block < W.heap.size := by obtain ⟨m, hm⟩ := h6; exact DataW.trod_lt m _ _ _ hm
  have lt7 : ∀ x ∈ p7, x.block < W.heap.size := by obtain ⟨m, hm⟩ := h7; exact DataW.trod_lt m _ _ _ hm
  have k0 := h0
  have k1 := h1
  have k2 := h2
  have k3 := h3
  have k4 := h4
  have k5 := h5
  have k6 := h6
  have k7 := h7
  obtain ⟨rf, e0, hrf⟩ : ∃ m : Nat, v0 = .int .u8 m ∧ m < 256 := by
    obtain ⟨x, rfl, _, _, wx⟩ := open_int Ybaf.underlying5 (hval 0 5 v0 rfl rfl) h0
    obtain ⟨m, rfl, hm⟩ := nat_of wx
    exact ⟨m, rfl, hm⟩
  obtain ⟨cfg, e1, hcfg⟩ : ∃ m : Nat, v1 = .int .u8 m ∧ m < 256 := by
    obtain ⟨x, rfl, _, _, wx⟩ := open_int Ybaf.underlying5 (hval 1 5 v1 rfl rfl) h1
    obtain ⟨m, rfl, hm⟩ := nat_of wx
    exact ⟨m, rfl, hm⟩
  obtain ⟨b0, b1, b2, b3, e2, hb0, hb1, hb2, hb3⟩ : ∃ b0 b1 b2 b3 : Nat, v2 = .agg #[.int .u8 b0, .int .u8 b1, .int .u8 b2, .int .u8 b3] ∧ b0 < 256 ∧ b1 < 256 ∧ b2 < 256 ∧ b3 < 256 := by
    obtain ⟨cs, rfl, hsz, _⟩ : ∃ cs, v2 = .agg cs ∧ cs.size = Ybaf.prog.cellsOf 22 ∧ Row.okWide Ybaf.prog W .any base 22 cs := by
      have := hval 2 22 v2 rfl rfl
      simpa [Value.okWide, Ybaf.underlying22] using this
    rw [cells22] at hsz
    obtain ⟨l⟩ := cs
    obtain ⟨c0, c1, c2, c3, rfl⟩ := list4 l hsz
    obtain ⟨fuel, hf⟩ := h2
    obtain ⟨y0, y1, y2, y3, m, hx, hy0, hy1, hy2, hy3⟩ := trod_array4 Ybaf.underlying22 cells5 hf
    obtain ⟨x0, e0, rfl, w0⟩ := DataW.trod_int Ybaf.underlying5 hy0
    obtain ⟨x1, e1, rfl, w1⟩ := DataW.trod_int Ybaf.underlying5 hy1
    obtain ⟨x2, e2, rfl, w2⟩ := DataW.trod_int Ybaf.underlying5 hy2
    obtain ⟨x3, e3, rfl, w3⟩ := DataW.trod_int Ybaf.underlying5 hy3
    simp at e0 e1 e2 e3
    subst e0 e1 e2 e3
    obtain ⟨b0, rfl, g0⟩ := nat_of w0
    obtain ⟨b1, rfl, g1⟩ := nat_of w1
    obtain ⟨b2, rfl, g2⟩ := nat_of w2
    obtain ⟨b3, rfl, g3⟩ := nat_of w3
    exact ⟨b0, b1, b2, b3, rfl, g0, g1, g2, g3⟩
  obtain ⟨ad, n, cap, e3⟩ := okWide_slice Ybaf.underlying23 (hval 3 23 v3 rfl rfl)
  obtain ⟨X, hX⟩ : ∃ X, Rs W ad n X := by obtain ⟨fuel, hf⟩ := h3; rw [e3] at hf; exact view_u8s hf
  obtain ⟨gs, e4, _⟩ : ∃ m : Nat, v4 = .int .u8 m ∧ m < 256 := by
    obtain ⟨x, rfl, _, _, wx⟩ := open_int Ybaf.underlying5 (hval 4 5 v4 rfl rfl) h4
    obtain ⟨m, rfl, hm⟩ := nat_of wx
    exact ⟨m, rfl, hm⟩
  obtain ⟨fs, e5, hfs⟩ : ∃ m : Nat, v5 = .int .u8 m ∧ m < 256 := by
    obtain ⟨x, rfl, _, _, wx⟩ := open_int Ybaf.underlying5 (hval 5 5 v5 rfl rfl) h5
    obtain ⟨m, rfl, hm⟩ := nat_of wx
    exact ⟨m, rfl, hm⟩
  obtain ⟨ts, e6, hts⟩ : ∃ m : Nat, v6 = .int .u8 m ∧ m < 256 := by
    obtain ⟨x, rfl, _, _, wx⟩ := open_int Ybaf.underlying5 (hval 6 5 v6 rfl rfl) h6
    obtain ⟨m, rfl, hm⟩ := nat_of wx
    exact ⟨m, rfl, hm⟩
  obtain ⟨cs, e7, hcs⟩ : ∃ m : Nat, v7 = .int .u8 m ∧ m < 256 := by
    obtain ⟨x, rfl, _, _, wx⟩ := open_int Ybaf.underlying5 (hval 7 5 v7 rfl rfl) h7
    obtain ⟨m, rfl, hm⟩ := nat_of wx
    exact ⟨m, rfl, hm⟩
  subst e0 e1 e2 e3 e4 e5 e6 e7
  clear hA0 hval0 hval h0 h1 h2 h3 h4 h5 h6 h7
  refine (law_any rf cfg gs fs ts cs b0 b1 b2 b3 ad n cap W hrf hcfg hfs hts hcs hb0 hb1 hb2 hb3 X hX).mono fun e W' ⟨he, bel⟩ => ?_
  subst he
  exact ⟨_, rfl, _, _, _, [], _, [], hW', trodAll_mk1 (shut_bool Ybaf.underlying4 _), (trodAll_cons_mk (Below.trod laidOut (by kernel_rfl) (of_decide_eq_true (by kernel_rfl)) k0 bel lt0) (trodAll_cons_mk (Below.trod laidOut (by kernel_rfl) (of_decide_eq_true (by kernel_rfl)) k1 bel lt1) (trodAll_cons_mk (Below.trod laidOut (by kernel_rfl) (of_decide_eq_true (by kernel_rfl)) k2 bel lt2) (trodAll_cons_mk (Below.trod laidOut (by kernel_rfl) (of_decide_eq_true (by kernel_rfl)) k3 bel lt3) (trodAll_cons_mk (Below.trod laidOut (by kernel_rfl) (of_decide_eq_true (by kernel_rfl)) k4 bel lt4) (trodAll_cons_mk (Below.trod laidOut (by kernel_rfl) (of_decide_eq_true (by kernel_rfl)) k5 bel lt5) (trodAll_cons_mk (Below.trod laidOut (by kernel_rfl) (of_decide_eq_true (by kernel_rfl)) k6 bel lt6) (trodAll_cons_mk (Below.trod laidOut (by kernel_rfl) (of_decide_eq_true (by kernel_rfl)) k7 bel lt7) trodAll_mk0)))))))), rfl, bel.frame _, fun h => by cases h⟩

theorem stops : Ybaf.pinned.checked.prog.stops = ["fmt.Sprintf"] := by kernel_rfl
theorem stopKnobs : Ybaf.pinned.checked.prog.stopKnobs = [] := by kernel_rfl
theorem quiet (os : Os) : Stop.quiet Ybaf.pinned.checked.prog os := by
  intro k hk
  rw [stopKnobs] at hk
  cases hk

theorem over : Rows.LawS1488ANilStepToldSaid :=
  Claim7.holds_of_told_any 3 Ybaf.f3 "fmt.Sprintf" [] [] _ _ _ (by kernel_rfl) rfl rfl rfl laidOut (by kernel_rfl) rfl ⟨rfl, rfl, rfl, rfl, rfl, rfl, rfl⟩ rfl rfl (by kernel_rfl) (by kernel_rfl) Ybaf.func3 (by kernel_rfl)
    (of_decide_eq_true (by kernel_rfl)) (of_decide_eq_true (by kernel_rfl)) stops.symm rfl stopKnobs.symm (by kernel_rfl)
    (by kernel_rfl) (by kernel_rfl) (by kernel_rfl) (by kernel_rfl) (by kernel_rfl) (by kernel_rfl) (by kernel_rfl) (by kernel_rfl) (by kernel_rfl) rfl (by kernel_rfl) rfl rfl
    rfl rfl
    rfl (by kernel_rfl) (by kernel_rfl) (by kernel_rfl) (by decide) (by kernel_rfl)
    (OpenClaim.moreEntering_of (by kernel_rfl) (by kernel_rfl) (by kernel_rfl) (by kernel_rfl) (by kernel_rfl) (by kernel_rfl) (by kernel_rfl) (by kernel_rfl) (by kernel_rfl) (by kernel_rfl))
    ⟨_, WideRow.started_initial, quiet _⟩
    (fun os started _ H enc _ => lifted os started H enc)

end Go.Proofs.YbulkadugFmt.lawS1488ANilStep
namespace Go.Proofs.YbulkadugFmt
/-- THE STATEMENT. -/
theorem lawS1488ANilStep_proved : Rows.LawS1488ANilStepToldSaid := lawS1488ANilStep.over
end Go.Proofs.YbulkadugFmt

/-
  A PROOF OF 'Rows.LawS1501BGraphSaid': the arguments opened, the walk, the row.
-/
import Derived.Test.YbulkaebgLaw
import Derived.ProofKit
import Derived.OpenShut
import Derived.ShutString
import Derived.ChangeOld
import Derived.SizedLaws
import Derived.Deep.Slices
namespace Go.Proofs.Ybulkaebg.lawS1501BGraph
open Go.ChangeShapes Go.WideShapes Go.ChangeAt Go.RowKit
open Go.Deep (open_slice choose_lt add_add)

theorem own : ownKnob Yba.prog.godebug = none := by kernel_rfl
theorem laidOut : laidOutB Yba.prog = true := by kernel_rfl
theorem cells25 : Yba.prog.cellsOf 25 = 3 := by kernel_rfl
theorem cells64 : Yba.prog.cellsOf 64 = 2 := by kernel_rfl
theorem cells23 : Yba.prog.cellsOf 23 = 1 := by kernel_rfl
theorem cells5 : Yba.prog.cellsOf 5 = 1 := by kernel_rfl
theorem cells4 : Yba.prog.cellsOf 4 = 1 := by kernel_rfl
theorem bytes64 : Yba.prog.bytesOf 64 = 2 := by kernel_rfl

theorem weights_mem_all {H : Type} {P : Program} {e : TypeId} {n : Nat} {d : DataW H} : ∀ {l : List (DataW H)}, d ∈ l → n ∈ d.weights P e → n ∈ DataW.weightsAll P e l
  | x :: l, hd, hn => by
    simp only [DataW.weightsAll, List.mem_append]
    rcases List.mem_cons.1 hd with rfl | hd
    · exact .inl hn
    · exact .inr (weights_mem_all hd hn)

theorem view_ops {H : Type} {enc : TypeId × Value → H} {W : World} {v : Value} {fuel : Nat} {y : DataW H × List MemPlace}
    (hf : DataW.trod enc Yba.prog W 0 (fun _ => true) true fuel 23 [v] = some y) (hw : ∀ n, n ∈ y.1.weights Yba.prog 23 → n ≤ reachBytes) :
    ∃ (a : Option Addr) (l : List (Nat × Bool)) (cap : Nat), v = .slice a l.length cap ∧ XOps W a l ∧ (∀ p, p ∈ l → p.1 < 256) ∧ l.length ≤ 1000000000000000 := by
  rcases open_slice Yba.underlying23 hf with ⟨hcs, _⟩ | ⟨a, len, cap, m, n, D, Pl, hcs, _, hl, hm, hmm, hy, hx⟩
  · simp at hcs
    subst hcs
    exact ⟨none, [], 0, rfl, .inl rfl, fun p hp => by simp at hp, by simp⟩
  · simp at hcs
    subst hcs
    simp only [if_true] at hmm
    subst hmm
    have each : ∀ i, i < len → ∃ q : Nat × Bool, (W.cell? (a.add (i * 2)) = some (.int .u8 (q.1 : Nat)) ∧ W.cell? (a.add (i * 2 + 1)) = some (.bool q.2)) ∧ q.1 < 256 := by
      intro i hi
      obtain ⟨cs', h1, h2⟩ := hx i (by omega)
      rw [cells64] at h1
      obtain ⟨_, hlen, hcell⟩ := World.cells?_some h1
      obtain ⟨xs, k, _, _, _, hxl, hfs⟩ := DataW.trod_struct Yba.underlying64 h2
      have g0 := hfs 0 _ rfl
      have g1 := hfs 1 _ rfl
      match xs, hxl, cs', hlen with
      | [y0, y1], _, [v0, v1], _ =>
        simp [cells5, cells4] at g0 g1
        obtain ⟨n0, e0, _, w0⟩ := DataW.trod_int Yba.underlying5 g0
        obtain ⟨n1, e1, _⟩ := DataW.trod_bool Yba.underlying4 g1
        simp at e0 e1
        subst e0 e1
        have c0 := hcell 0 (by omega)
        have c1 := hcell 1 (by omega)
        rw [add_add] at c0 c1
        have b0 := bounds_u8 w0
        obtain ⟨k0, rfl⟩ : ∃ k : Nat, n0 = (k : Int) := ⟨n0.toNat, by omega⟩
        exact ⟨(k0, n1), ⟨by simpa using c0, by simpa using c1⟩, by omega⟩
    obtain ⟨R, hR⟩ := @choose_lt (Nat × Bool) ⟨(0, false)⟩ _ _ each
    refine ⟨some a, (List.range len).map R, m, by simp, ?_, ?_, ?_⟩
    · by_cases h0 : len = 0
      · exact .inl (by simp [h0])
      · obtain ⟨b, off, spot⟩ := a
        have hspot : spot = none := by simpa [Addr.add] using World.cell?_spot (hR 0 (by omega)).1.1
        subst hspot
        refine .inr ⟨b, off, rfl, fun j hj => ?_⟩
        simp only [List.length_map, List.length_range] at hj
        have h := (hR j hj).1
        simp only [add_plain, ← Nat.add_assoc] at h
        simpa using h
    · intro p hp
      simp only [List.mem_map, List.mem_range] at hp
      obtain ⟨j, hj, rfl⟩ := hp
      exact (hR j hj).2
    · have := hw ((len + (m - len)) * 2) (by rw [hy]; simp [DataW.weights, Yba.underlying23, bytes64])
      unfold reachBytes at this
      simp
      omega

theorem view_inp {H : Type} {enc : TypeId × Value → H} {W : World} {a0 : Option Addr} {len cap fuel : Nat} {x : DataW H × List MemPlace}
    (hf : DataW.trod enc Yba.prog W 0 (fun _ => true) true fuel 22 [.slice a0 len cap] = some x) (hw : ∀ n, n ∈ x.1.weights Yba.prog 22 → n ≤ reachBytes) :
    ∃ X, Inp W a0 len X ∧ ∀ i, i < len → (X i).l.length ≤ 1000000000000000 := by
  rcases open_slice Yba.underlying22 hf with ⟨hcs, _⟩ | ⟨a, l, c, m, n, D, Pl, hcs, _, hl, hm, hmm, hy, hx⟩
  · simp at hcs
    obtain ⟨rfl, rfl, rfl⟩ := hcs
    exact ⟨fun _ => ⟨0, false, [], none, 0⟩, ⟨.inl rfl, fun i hi => absurd hi (by omega), fun i hi => absurd hi (by omega)⟩, fun i hi => absurd hi (by omega)⟩
  · simp at hcs
    obtain ⟨rfl, rfl, rfl⟩ := hcs
    simp only [if_true] at hmm
    subst hmm
    have each : ∀ i, i < len → ∃ q : XAtt, (W.cell? (a.add (i * 3)) = some (.int .u8 (q.s : Nat)) ∧ W.cell? (a.add (i * 3 + 1)) = some (.bool q.c) ∧ W.cell? (a.add (i * 3 + 2)) = some (.slice q.a q.l.length q.cap)) ∧
        XOps W q.a q.l ∧ (q.s < 256 ∧ ∀ p, p ∈ q.l → p.1 < 256) ∧ q.l.length ≤ 1000000000000000 := by
      intro i hi
      obtain ⟨cs', h1, h2⟩ := hx i (by omega)
      rw [cells25] at h1
      obtain ⟨_, hlen, hcell⟩ := World.cells?_some h1
      obtain ⟨xs, k, _, hagg, _, hxl, hfs⟩ := DataW.trod_struct Yba.underlying25 h2
      have g0 := hfs 0 _ rfl
      have g1 := hfs 1 _ rfl
      have g2 := hfs 2 _ rfl
      match xs, hxl, cs', hlen with
      | [y0, y1, y2], _, [v0, v1, v2], _ =>
        simp [cells5, cells4, cells23] at g0 g1 g2
        obtain ⟨n0, e0, _, w0⟩ := DataW.trod_int Yba.underlying5 g0
        obtain ⟨n1, e1, _⟩ := DataW.trod_bool Yba.underlying4 g1
        simp at e0 e1
        subst e0 e1
        obtain ⟨ao, lo, co, rfl, hX, hr, hb⟩ := view_ops g2 (fun nn hn => hw nn (by
          rw [hy]
          simp only [DataW.weights, Yba.underlying22, List.mem_cons, List.mem_append]
          refine .inr (.inl (weights_mem_all (List.mem_map.2 ⟨i, List.mem_range.2 hi, rfl⟩) ?_))
          have hD : D i = .agg [y0.1, y1.1, y2.1] := by
            have := congrArg Prod.fst hagg
            simpa using this
          rw [hD]
          simp only [DataW.weights, Yba.underlying25]
          exact DataW.weights_mem_each (j := 2) rfl rfl nn hn))
        have c0 := hcell 0 (by omega)
        have c1 := hcell 1 (by omega)
        have c2 := hcell 2 (by omega)
        rw [add_add] at c0 c1 c2
        have b0 := bounds_u8 w0
        obtain ⟨k0, rfl⟩ : ∃ k : Nat, n0 = (k : Int) := ⟨n0.toNat, by omega⟩
        exact ⟨⟨k0, n1, lo, ao, co⟩, ⟨by simpa using c0, by simpa using c1, by simpa using c2⟩, hX, ⟨by show k0 < 256; omega, hr⟩, hb⟩
    obtain ⟨X, hX⟩ := @choose_lt XAtt ⟨⟨0, false, [], none, 0⟩⟩ _ _ each
    refine ⟨X, ⟨?_, fun i hi => (hX i hi).2.1, fun i hi => (hX i hi).2.2.1⟩, fun i hi => (hX i hi).2.2.2⟩
    by_cases h0 : len = 0
    · exact .inl h0
    · obtain ⟨b, off, spot⟩ := a
      have hspot : spot = none := by simpa [Addr.add] using World.cell?_spot (hX 0 (by omega)).1.1
      subst hspot
      refine .inr ⟨b, off, rfl, fun i hi => ?_⟩
      have h := (hX i hi).1
      simp only [add_plain, ← Nat.add_assoc] at h
      exact h

theorem walk (s k : Nat) (ad : Option Addr) (n cap : Nat) (X : Nat → XAtt) (w : World) (hI : Inp w ad n X) (hL : ∀ i, i < n → (X i).l.length ≤ 1000000000000000) (hs : s < 256) (hk : k < 256) :
    Calls Yba.prog 3 #[.int .u8 s, .int .u8 k, .slice ad n cap] w fun e w' => e = .returned (.bool true) ∧ Below w.heap.size w w' := by
  by_cases h : 1024 < n
  · exact law_long s k ad n cap w h
  · exact law_any s k ad n cap X w hI (by omega) hL hs hk

set_option maxRecDepth 100000 in
theorem lifted (os : Os) (started : os.Started) (H : Type) (enc : TypeId × Value → H) :
    ReturnsInHanded {} Yba.checked os 3 .any (Rows.lawS1501BGraphSpec.pre6 enc Yba.prog Yba.f3 Rows.lawS1501BGraphRow.domain false) (Rows.lawS1501BGraphSpec.post enc Yba.prog Yba.f3 false true false false) := by
  refine returnsInHanded_of_change_sized (C := Yba.checked) own started (by kernel_rfl) Yba.func3
    (ChangeSpec.witness6 (enc := enc) (C := Yba.checked) false ⟨#[], #[.int .u8 0, .int .u8 0, .slice none 0 0], []⟩ 8 (by kernel_rfl) (by kernel_rfl) (by kernel_rfl) (by kernel_rfl)) ?_
  intro W base args ds gs before hval0 hW hcnd hwt _
  have hval : ∀ (j : Nat) t v, Yba.f3.params[j]? = some t → args[j]? = some v → Value.okWide Yba.prog W .any base t v := hval0
  have hW' := hW
  obtain ⟨p, q, hA0, hV, rfl, hfz, hnd⟩ := hW
  have hA : DataW.TrodAll enc Yba.prog W 0 (fun _ => true) true Yba.f3.params.toList args.toList ds p := hA0
  rw [Yba.params3] at hA hval
  obtain ⟨v0, vs0, d0, ds0, p0, q0, hargs, rfl, rfl, h0, r0⟩ := trodAll_cons hA
  obtain ⟨v1, vs1, d1, ds1, p1, q1, rfl, rfl, rfl, h1, r1⟩ := trodAll_cons r0
  obtain ⟨v2, vs2, d2, ds2, p2, q2, rfl, rfl, rfl, h2, r2⟩ := trodAll_cons r1
  obtain ⟨rfl, rfl, rfl⟩ := trodAll_nil r2
  obtain rfl : args = #[v0, v1, v2] := by cases args; simp_all
  obtain ⟨rfl, rfl⟩ := trodVars_none hV
  obtain ⟨a2, len2, cap2, rfl⟩ := okWide_slice Yba.underlying22 (hval 2 22 v2 rfl rfl)
  have k0 := h0
  have k1 := h1
  have k2 := h2
  have lt0 : ∀ x ∈ p0, x.block < W.heap.size := by obtain ⟨m, hm⟩ := k0; exact DataW.trod_lt m _ _ _ hm
  have lt1 : ∀ x ∈ p1, x.block < W.heap.size := by obtain ⟨m, hm⟩ := k1; exact DataW.trod_lt m _ _ _ hm
  have lt2 : ∀ x ∈ p2, x.block < W.heap.size := by obtain ⟨m, hm⟩ := k2; exact DataW.trod_lt m _ _ _ hm
  obtain ⟨s, hs, rfl⟩ : ∃ s : Nat, s < 256 ∧ v0 = .int .u8 s := by
    obtain ⟨m0, rfl⟩ := okWide_int Yba.underlying5 (hval 0 5 v0 rfl rfl)
    obtain ⟨fuel, hf⟩ := h0
    obtain ⟨n0, e0, _, w0⟩ := DataW.trod_int Yba.underlying5 hf
    have b0 := bounds_u8 w0
    simp [Value.cells] at e0
    subst e0
    exact ⟨m0.toNat, by omega, by rw [Int.toNat_of_nonneg b0.1]⟩
  obtain ⟨k, hk, rfl⟩ : ∃ s : Nat, s < 256 ∧ v1 = .int .u8 s := by
    obtain ⟨m0, rfl⟩ := okWide_int Yba.underlying5 (hval 1 5 v1 rfl rfl)
    obtain ⟨fuel, hf⟩ := h1
    obtain ⟨n0, e0, _, w0⟩ := DataW.trod_int Yba.underlying5 hf
    have b0 := bounds_u8 w0
    simp [Value.cells] at e0
    subst e0
    exact ⟨m0.toNat, by omega, by rw [Int.toNat_of_nonneg b0.1]⟩
  have hwd : ∀ n, n ∈ d2.weights Yba.prog 22 → n ≤ reachBytes := fun n hn => by
    have := List.all_eq_true.1 hwt n (DataW.weights_mem_each (j := 2) (t := 22) (d := d2) (by rw [Yba.params3]; rfl) rfl n hn)
    simpa using this
  obtain ⟨X, hX, hL⟩ : ∃ X, Inp W a2 len2 X ∧ ∀ i, i < len2 → (X i).l.length ≤ 1000000000000000 := by obtain ⟨fuel, hf⟩ := h2; exact view_inp hf hwd
  clear hA0 hval0 hwt
  refine (walk s k a2 len2 cap2 X W hX hL hs hk).mono fun e W' ⟨he, bel⟩ => ?_
  subst he
  exact ⟨_, rfl, _, _, _, [], _, [], hW', trodAll_mk1 (shut_bool Yba.underlying4 _), (trodAll_cons_mk (Below.trod laidOut (by kernel_rfl) (of_decide_eq_true (by kernel_rfl)) k0 bel lt0) (trodAll_cons_mk (Below.trod laidOut (by kernel_rfl) (of_decide_eq_true (by kernel_rfl)) k1 bel lt1) (trodAll_cons_mk (Below.trod laidOut (by kernel_rfl) (of_decide_eq_true (by kernel_rfl)) k2 bel lt2) trodAll_mk0))), rfl, bel.frame _, fun h => by cases h⟩

theorem over : Rows.lawS1501BGraphRow.holds Yba.pinned (OpenSpec.ofChange Rows.lawS1501BGraphSpec) :=
  OpenClaim.holds_of_wide 3 Yba.f3 rfl rfl rfl rfl rfl rfl rfl ⟨rfl, rfl, rfl, rfl, rfl⟩ rfl rfl rfl rfl rfl (by kernel_rfl) Yba.func3 (by kernel_rfl)
    (of_decide_eq_true (by kernel_rfl)) (by unfold Func.isWrapper; first | (rw [if_pos (by decide +kernel)]; kernel_rfl) | (rw [if_neg (by decide +kernel)]; exact ⟨rfl, rfl⟩))
    (fun os started H enc _ => lifted os started H enc)

end Go.Proofs.Ybulkaebg.lawS1501BGraph
namespace Go.Proofs.Ybulkaebg
/-- THE STATEMENT. -/
theorem lawS1501BGraph_proved : Rows.LawS1501BGraphSaid := lawS1501BGraph.over
end Go.Proofs.Ybulkaebg

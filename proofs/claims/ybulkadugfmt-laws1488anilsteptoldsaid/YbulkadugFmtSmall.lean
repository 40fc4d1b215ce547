/-
  LawS1488ANilStep over toys/ybulkadugfmt: the small functions: slices.Index, Contains, Equal; listings; zzs1488aid, zzs1488asel.
-/
import Derived.Test.YbulkadugFmtBase
namespace Go.Proofs.YbulkadugFmt
open Go.RowKit
attribute [local go_sem ↓] Go.wp_at_zero Go.wp_at_succ

/-- Where x stands first; -1 for nowhere. -/
def ix (L : List Int) (x : Int) : Int := if x ∈ L then ((L.idxOf x : Nat) : Int) else -1

theorem ix_here {L : List Int} {x : Int} {k : Nat} (hk : k < L.length) (hn : x ∉ L.take k) (he : x = L[k]) : ix L x = k := by
  have hm : x ∈ L := he ▸ List.getElem_mem hk
  rw [ix, if_pos hm]
  have h1 : L.idxOf x < L.length := List.idxOf_lt_length_of_mem hm
  have h2 : L[L.idxOf x] = x := List.getElem_idxOf h1
  rcases Nat.lt_trichotomy (L.idxOf x) k with h | h | h
  · exact absurd (List.mem_take_iff_getElem.2 ⟨L.idxOf x, by omega, h2⟩) hn
  · rw [h]
  · exfalso
    have := List.not_of_lt_findIdx (p := (· == x)) (xs := L) (i := k) (by simpa [List.idxOf] using h)
    simp at this
    exact this he.symm

set_option maxHeartbeats 400000 in
theorem index_any (a : Option Addr) (c : Nat) (L : List Int) (x : Int) (w : World) (h : Ls w a L) (hl : L.length ≤ 2000) :
    Calls Ybaf.prog 26 #[.slice a L.length c, .int .i32 x] w fun e w' => e = .returned (.int .i64 (ix L x)) ∧ w' = w := by
  have HA : Hid (Ls w a L) := h
  clear h
  go_enter Ybaf.func26, Ybaf.ntmps26
  go_wp2_with fail
  go_loopw [8] (fun i wr => ∃ k : Nat, k ≤ L.length ∧ i = .int .i64 k ∧ x ∉ L.take k ∧ wr = w) (fun i _ => L.length - (intOf i).toNat)
  case atStart => exact ⟨0, Nat.zero_le _, rfl, by simp, rfl⟩
  case round =>
    obtain ⟨k, hk, rfl, hn, rfl⟩ := hrel
    by_cases hlt : k < L.length
    · obtain ⟨b, off, rfl, hc⟩ := HA.out.resolve_left (fun e => by simp [e] at hlt)
      have q := hc k hlt
      have e1 : (0 : Int) ≤ (k : Int) := by omega
      have e2 : (k : Int) < (L.length : Int) := by omega
      by_cases he : x = L[k]
      · have HX : Hid (ix L x = k) := ix_here hlt hn he
        rw [← he] at q
        clear hc hn he
        go_wp2_with fail
        go_ret
        exact ⟨by rw [HX.out]; rfl, rfl⟩
      · have HN : Hid (x ∉ L.take (k + 1)) := by
          show x ∉ L.take (k + 1)
          rw [List.take_succ_eq_append_getElem hlt]
          simp only [List.mem_append, List.mem_singleton, not_or]
          exact ⟨hn, he⟩
        generalize L[k] = y at q he
        clear hc hn
        go_wp2_with fail
        go_roundw
        case rel => exact ⟨k + 1, by omega, by go_num, HN.out, by trivial⟩
        case measure => simp [intOf]; omega
    · obtain rfl : k = L.length := by omega
      have HX : Hid (ix L x = -1) := by
        show ix L x = -1
        rw [List.take_length] at hn
        rw [ix, if_neg hn]
      clear hn
      go_wp2_with fail
      go_ret
      exact ⟨by rw [HX.out]; rfl, rfl⟩

theorem ix_nonneg (L : List Int) (x : Int) : decide (0 ≤ ix L x) = decide (x ∈ L) := by
  unfold ix
  by_cases h : x ∈ L
  · simp [h]
  · simp [h]

theorem contains_any (a : Option Addr) (c : Nat) (L : List Int) (x : Int) (w : World) (h : Ls w a L) (hl : L.length ≤ 2000) :
    Calls Ybaf.prog 19 #[.slice a L.length c, .int .i32 x] w fun e w' => e = .returned (.bool (decide (x ∈ L))) ∧ w' = w := by
  have HX : Hid (decide (0 ≤ ix L x) = decide (x ∈ L)) := ix_nonneg L x
  go_enter Ybaf.func19, Ybaf.ntmps19
  go_wp2_with fail
  refine (index_any a c L x w h hl).mono ?_
  rintro e w1 ⟨rfl, rfl⟩
  generalize ix L x = y at *
  go_wp2_with fail
  go_ret
  exact ⟨by rw [← HX.out]; rfl, rfl⟩

set_option maxHeartbeats 400000 in
theorem equal_any (a b : Option Addr) (ca cb : Nat) (L : List Int) (w : World) (ha : Ls w a L) (hb : Ls w b L) (hl : L.length ≤ 2000) :
    Calls Ybaf.prog 7 #[.slice a L.length ca, .slice b L.length cb] w fun e w' => e = .returned (.bool true) ∧ ∃ d, w' = w.drewN d := by
  have HA : Hid (Ls w a L ∧ Ls w b L) := ⟨ha, hb⟩
  clear ha hb
  go_enter Ybaf.func7, Ybaf.ntmps7
  go_wp2_with fail
  go_loopw [13] (fun i wr => ∃ k : Nat, k ≤ L.length ∧ i = .int .i64 k ∧ ∃ d, wr = w.drewN d) (fun i _ => L.length - (intOf i).toNat)
  case atStart => exact ⟨0, Nat.zero_le _, rfl, 0, rfl⟩
  case round =>
    obtain ⟨k, hk, rfl, d, rfl⟩ := hrel
    by_cases hlt : k < L.length
    · obtain ⟨b, off, rfl, hc⟩ := HA.out.1.resolve_left (fun e => by simp [e] at hlt)
      obtain ⟨b', off', rfl, hc'⟩ := HA.out.2.resolve_left (fun e => by simp [e] at hlt)
      have q := hc k hlt
      have q' := hc' k hlt
      generalize L[k] = xk at q q'
      clear hc hc'
      have e1 : (0 : Int) ≤ (k : Int) := by omega
      have e2 : (k : Int) < (L.length : Int) := by omega
      go_wp2_with fail
      go_quiet (fail)
      go_wp2_with fail
      go_roundw
      case rel => exact ⟨k + 1, by omega, by go_num, _, rfl⟩
      case measure => simp [intOf]; omega
    · obtain rfl : k = L.length := by omega
      go_wp2_with fail
      go_ret
      exact ⟨rfl, _, rfl⟩

theorem count_step {L : List Int} {x : Int} {k : Nat} (hk : k < L.length) : (L.take (k + 1)).count x = (L.take k).count x + if L[k] = x then 1 else 0 := by
  rw [List.take_succ_eq_append_getElem hk, List.count_append, List.count_singleton]
  simp

set_option maxHeartbeats 400000 in
theorem listings_any (a : Option Addr) (c : Nat) (L : List Int) (x : Int) (w : World) (h : Ls w a L) (hl : L.length ≤ 2000) :
    Calls Ybaf.prog 30 #[.slice a L.length c, .int .i32 x] w fun e w' => e = .returned (.int .i64 (L.count x : Nat)) ∧ w' = w := by
  have HA : Hid (Ls w a L) := h
  clear h
  go_enter Ybaf.func30, Ybaf.ntmps30
  go_wp2_with fail
  go_loopw [5, 10] (fun n i wr => ∃ k : Nat, k ≤ L.length ∧ i = .int .i64 k ∧ n = .int .i64 ((L.take k).count x : Nat) ∧ wr = w) (fun _ i _ => L.length - (intOf i).toNat)
  case atStart => exact ⟨0, Nat.zero_le _, rfl, rfl, rfl⟩
  case round =>
    obtain ⟨k, hk, rfl, rfl, rfl⟩ := hrel
    by_cases hlt : k < L.length
    · obtain ⟨b, off, rfl, hc⟩ := HA.out.resolve_left (fun e => by simp [e] at hlt)
      have q := hc k hlt
      have e1 : (0 : Int) ≤ (k : Int) := by omega
      have e2 : (k : Int) < (L.length : Int) := by omega
      have hb : (L.take k).count x ≤ 2000 := Nat.le_trans (List.count_le_length) (by simp; omega)
      have HS : Hid ((L.take (k + 1)).count x = (L.take k).count x + if L[k] = x then 1 else 0) := count_step hlt
      generalize (L.take k).count x = m at *
      generalize L[k] = y at q HS
      clear hc
      by_cases he : y = x
      · rw [he] at q
        have HS2 : Hid ((L.take (k + 1)).count x = m + 1) := by
          show (L.take (k + 1)).count x = m + 1
          rw [HS.out, if_pos he]
        clear HS he
        go_wp2_with fail
        go_roundw
        case rel => exact ⟨k + 1, by omega, by go_num, by rw [HS2.out]; go_num, by trivial⟩
        case measure => simp [intOf]; omega
      · have HS2 : Hid ((L.take (k + 1)).count x = m) := by
          show (L.take (k + 1)).count x = m
          rw [HS.out, if_neg he]; rfl
        clear HS
        go_wp2_with fail
        go_roundw
        case rel => exact ⟨k + 1, by omega, by go_num, by rw [HS2.out], by trivial⟩
        case measure => simp [intOf]; omega
    · obtain rfl : k = L.length := by omega
      rw [List.take_length]
      go_wp2_with fail
      go_ret
      exact ⟨rfl, rfl⟩

/-- The servers' ids. -/
def idS (k : Nat) : ByteArray := if k = 0 then ⟨#[115, 48]⟩ else if k = 1 then ⟨#[115, 49]⟩ else if k = 2 then ⟨#[115, 50]⟩ else ⟨#[115, 51]⟩
/-- What a selector stands for: the id, the index. -/
def selS (s : Nat) : ByteArray := if s = 0 then ⟨#[]⟩ else if s = 5 then ⟨#[122, 122]⟩ else idS (s - 1)
def selI (s : Nat) : Int := if s = 0 then -1 else if s = 5 then -2 else (s : Int) - 1

theorem id_any (k : Nat) (w : World) (hk : k < 4) : Calls Ybaf.prog 9 #[.int .i64 k] w fun e w' => e = .returned (.string (idS k)) ∧ w' = w := by
  rcases (by omega : k = 0 ∨ k = 1 ∨ k = 2 ∨ k = 3) with rfl | rfl | rfl | rfl
  all_goals
    go_enter Ybaf.func9, Ybaf.ntmps9
    go_wp2_with fail
    go_ret
    exact ⟨rfl, rfl⟩

theorem sel_any (x s : Nat) (w : World) (hx : x < 256) (hs : s = x % 6) : Calls Ybaf.prog 11 #[.int .u8 x] w fun e w' => e = .returned (.tuple #[.string (selS s), .int .i32 (selI s)]) ∧ w' = w := by
  rcases (by omega : s = 0 ∨ s = 1 ∨ s = 2 ∨ s = 3 ∨ s = 4 ∨ s = 5) with h | h | h | h | h | h
  · have e : (x : Int) % 6 = 0 := by omega
    rw [h]
    go_enter Ybaf.func11, Ybaf.ntmps11
    go_wp2_with fail
    go_ret2
    exact ⟨rfl, rfl⟩
  · have e : (x : Int) % 6 = 1 := by omega
    rw [h]
    go_enter Ybaf.func11, Ybaf.ntmps11
    go_wp2_with fail
    refine (id_any 0 w (by omega)).mono ?_
    rintro e w1 ⟨rfl, rfl⟩
    go_wp2_with fail
    go_ret2
    exact ⟨rfl, rfl⟩
  · have e : (x : Int) % 6 = 2 := by omega
    rw [h]
    go_enter Ybaf.func11, Ybaf.ntmps11
    go_wp2_with fail
    refine (id_any 1 w (by omega)).mono ?_
    rintro e w1 ⟨rfl, rfl⟩
    go_wp2_with fail
    go_ret2
    exact ⟨rfl, rfl⟩
  · have e : (x : Int) % 6 = 3 := by omega
    rw [h]
    go_enter Ybaf.func11, Ybaf.ntmps11
    go_wp2_with fail
    refine (id_any 2 w (by omega)).mono ?_
    rintro e w1 ⟨rfl, rfl⟩
    go_wp2_with fail
    go_ret2
    exact ⟨rfl, rfl⟩
  · have e : (x : Int) % 6 = 4 := by omega
    rw [h]
    go_enter Ybaf.func11, Ybaf.ntmps11
    go_wp2_with fail
    refine (id_any 3 w (by omega)).mono ?_
    rintro e w1 ⟨rfl, rfl⟩
    go_wp2_with fail
    go_ret2
    exact ⟨rfl, rfl⟩
  · have e : (x : Int) % 6 = 5 := by omega
    rw [h]
    go_enter Ybaf.func11, Ybaf.ntmps11
    go_wp2_with fail
    go_ret2
    exact ⟨rfl, rfl⟩

end Go.Proofs.YbulkadugFmt

/-
  The slices: zzBytes (7, 17), ascendingInts (8), findSite (9).
-/
import Derived.Test.Qxb6616362aProg
import Derived.Test.Qxb6616362aSums
import Derived.WalkKit
import Derived.WalkSpells
import Derived.BigQuiet
import Derived.Deep.QuietTactic
import Derived.WalkSmall
namespace Go.Proofs.Qxb6616362a
open Go.RowKit
set_option linter.unusedVariables false
set_option linter.unusedSimpArgs false

/-- A row of integers from block b's cell off on. -/
structure IntsAt (w : World) (b off : Nat) (zs : List Int) : Prop where
  lt : b < w.heap.size
  c : ∀ i, i < zs.length → w.cell? ⟨b, off + i, none⟩ = some (.int .i64 (zs.getD i 0))

/-- What the walks are told of a slice of integers. -/
structure Ints (w : World) (a : Option Addr) (zs : List Int) : Prop where
  len : zs.length ≤ maxLen
  wf : ∀ i, (Lit.int .i64 (zs.getD i 0)).wf = true
  at_ : 0 < zs.length → ∃ b off, a = some ⟨b, off, none⟩ ∧ IntsAt w b off zs

theorem IntsAt.below {w w' : World} {b off : Nat} {zs : List Int} (h : IntsAt w b off zs) (hb : Below w.heap.size w w') : IntsAt w' b off zs :=
  ⟨Nat.lt_of_lt_of_le h.lt hb.size, fun i hi => (hb.cell (p := ⟨b, off + i, none⟩) h.lt).trans (h.c i hi)⟩
theorem Ints.below {w w' : World} {a : Option Addr} {zs : List Int} (h : Ints w a zs) (hb : Below w.heap.size w w') : Ints w' a zs :=
  ⟨h.len, h.wf, fun h0 => by obtain ⟨b, off, ha, hi⟩ := h.at_ h0; exact ⟨b, off, ha, hi.below hb⟩⟩

set_option maxHeartbeats 2000000 in
theorem bytes7 (s : ByteArray) (r q : Int) (a3 a4 a5 : Option Addr) (n3 n4 n5 c3 c4 c5 : Nat) (x : Int) (w : World) (hs : s.size ≤ maxLen) (h3 : n3 ≤ maxLen) (h4 : n4 ≤ maxLen) (h5 : n5 ≤ maxLen) :
    Calls Try.prog 7 #[.string s, .int .i64 r, .int .i64 q, .slice a3 n3 c3, .slice a4 n4 c4, .slice a5 n5 c5, .int .i64 x] w fun e w' => (e = .returned (.bool true) ∨ e = .returned (.bool false)) ∧ w' = w := by
  unfold maxLen at hs h3 h4 h5
  go_enter Try.func7, Try.ntmps7
  go_wp2
  all_goals go_ret
  all_goals first
    | exact ⟨.inl rfl, rfl⟩
    | exact ⟨.inr rfl, rfl⟩

set_option maxHeartbeats 2000000 in
theorem bytes17 (s : ByteArray) (r q : Int) (a3 a4 a5 : Option Addr) (n3 n4 n5 c3 c4 c5 : Nat) (w : World) (hs : s.size ≤ maxLen) (h3 : n3 ≤ maxLen) (h4 : n4 ≤ maxLen) (h5 : n5 ≤ maxLen) :
    Calls Try.prog 17 #[.string s, .int .i64 r, .int .i64 q, .slice a3 n3 c3, .slice a4 n4 c4, .slice a5 n5 c5] w fun e w' => (e = .returned (.bool true) ∨ e = .returned (.bool false)) ∧ w' = w := by
  unfold maxLen at hs h3 h4 h5
  go_enter Try.func17, Try.ntmps17
  go_wp2
  all_goals go_ret
  all_goals first
    | exact ⟨.inl rfl, rfl⟩
    | exact ⟨.inr rfl, rfl⟩

/-- Ascending as far as k. -/
def AscTo (zs : List Int) (k : Nat) : Prop := ∀ i j, i < j → j < k → zs.getD i 0 < zs.getD j 0

theorem ascTo_step {zs : List Int} {k : Nat} (h : AscTo zs k) (hk : 0 < k) (hlt : zs.getD (k - 1) 0 < zs.getD k 0) : AscTo zs (k + 1) := fun i j hij hj => by
  by_cases e : j = k
  · subst e
    by_cases e2 : i = j - 1
    · subst e2; exact hlt
    · have := h i (j - 1) (by omega) (by omega)
      omega
  · exact h i j hij (by omega)

set_option maxHeartbeats 1000000 in
theorem ascending (a : Option Addr) (cap : Nat) (zs : List Int) (w : World) (hl : zs.length ≤ 32768) (h : Ints w a zs) :
    Calls Try.prog 8 #[.slice a zs.length cap] w fun e w' => (e = .returned (.bool true) ∧ Asc zs ∨ e = .returned (.bool false)) ∧ ∃ m, w' = w.drewN m := by
  go_enter Try.func8, Try.ntmps8
  go_wp2
  go_loopw [3] (fun i wr => ∃ k m : Nat, 1 ≤ k ∧ (k ≤ zs.length ∨ k = 1) ∧ i = .int .i64 k ∧ Hid (AscTo zs k) ∧ wr = w.drewN m) (fun i _ => zs.length - (intOf i).toNat)
  case atStart => exact ⟨1, 0, Nat.le_refl _, .inr rfl, rfl, fun i j hij hj => by omega, rfl⟩
  case round =>
    obtain ⟨k, m, hk, hk2, rfl, HA, rfl⟩ := hrel
    by_cases hkl : k < zs.length
    · obtain ⟨b, off, rfl, hI⟩ := h.at_ (by omega)
      have e1 := hI.c k hkl
      have e0 := hI.c (k - 1) (by omega)
      have i1 : (k : Int) < (zs.length : Int) := by omega
      have i2 : (0 : Int) ≤ (k : Int) := by omega
      have i3 : (0 : Int) ≤ (k : Int) - 1 := by omega
      have i4 : (k : Int) - 1 < (zs.length : Int) := by omega
      have i5 : ((k : Int) - 1).toNat = k - 1 := by omega
      have HS : Hid (zs.getD (k - 1) 0 < zs.getD k 0 → AscTo zs (k + 1)) := fun hlt => ascTo_step HA.out (by omega) hlt
      clear hI h
      generalize zs.getD k 0 = Z at *
      generalize zs.getD (k - 1) 0 = Y at *
      go_wp2_with fail
      go_quiet (fail)
      go_wp2
      · go_ret
        exact ⟨.inr rfl, _, World.drewN_drewN _ _ _⟩
      · have hlt : Y < Z := by
          have hq : (!decide (Y < Z)) = false := by assumption
          simpa using hq
        go_roundw
        case rel => exact ⟨k + 1, _, by omega, .inl (by omega), by go_num, HS.out hlt, rfl⟩
        case measure => simp [intOf]; omega
    · go_wp2
      go_ret
      exact ⟨.inl ⟨rfl, fun i j hij hj => HA.out i j hij (by omega)⟩, _, rfl⟩

theorem not_mem_of {zs : List Int} {x : Int} {lo : Nat} (ha : Asc zs) (h1 : ∀ i, i < lo → i < zs.length → zs.getD i 0 < x) (h2 : ∀ i, lo ≤ i → i < zs.length → x ≤ zs.getD i 0) (h3 : lo < zs.length → zs.getD lo 0 ≠ x) : x ∉ zs := fun hm => by
  obtain ⟨i, hi, e⟩ := List.getElem_of_mem hm
  have e' : zs.getD i 0 = x := by simp [List.getD, hi, e]
  rcases Nat.lt_trichotomy i lo with h | h | h
  · have := h1 i h hi
    omega
  · subst h
    exact h3 hi e'
  · have a := h2 lo (Nat.le_refl _) (by omega)
    have b := ha lo i h hi
    omega

set_option maxHeartbeats 2000000 in
theorem findSite (a : Option Addr) (cap : Nat) (zs : List Int) (x : Int) (w : World) (hl : zs.length ≤ 32768) (ha : Asc zs) (h : Ints w a zs) :
    Calls Try.prog 9 #[.slice a zs.length cap, .int .i64 x] w fun e w' => ((∃ j : Nat, j < zs.length ∧ zs.getD j 0 = x ∧ e = .returned (.int .i64 (j : Int))) ∨ (x ∉ zs ∧ e = .returned (.int .i64 (-1)))) ∧ w' = w := by
  have HAs : Hid (Asc zs) := ha
  clear ha
  go_enter Try.func9, Try.ntmps9
  go_wp2
  go_loop [5, 6] (fun l r => ∃ lo hi : Nat, lo ≤ hi ∧ hi ≤ zs.length ∧ l = .int .i64 lo ∧ r = .int .i64 hi ∧ Hid ((∀ i, i < lo → i < zs.length → zs.getD i 0 < x) ∧ (∀ i, hi ≤ i → i < zs.length → x ≤ zs.getD i 0))) (fun l r => (intOf r).toNat - (intOf l).toNat)
  case atStart => exact ⟨0, zs.length, Nat.zero_le _, Nat.le_refl _, rfl, rfl, fun i hi _ => by omega, fun i h1 h2 => by omega⟩
  case round =>
    obtain ⟨lo, hi, hle, hhi, rfl, rfl, HB⟩ := hrel
    by_cases hlt : lo < hi
    · obtain ⟨b, off, rfl, hI⟩ := h.at_ (by omega)
      obtain ⟨mid, hm1, hm2, hm3⟩ : ∃ mid : Nat, (lo : Int) + ((hi : Int) - (lo : Int)) / 2 = (mid : Int) ∧ lo ≤ mid ∧ mid < hi := ⟨lo + (hi - lo) / 2, by omega, by omega, by omega⟩
      have e1 := hI.c mid (by omega)
      have HL : Hid (zs.getD mid 0 < x → (∀ i, i < mid + 1 → i < zs.length → zs.getD i 0 < x) ∧ (∀ i, hi ≤ i → i < zs.length → x ≤ zs.getD i 0)) := fun hx => ⟨fun i h1 h2 => by
          by_cases e : i = mid
          · subst e; exact hx
          · have := HAs.out i mid (by omega) (by omega)
            omega, HB.out.2⟩
      have HR : Hid (x ≤ zs.getD mid 0 → (∀ i, i < lo → i < zs.length → zs.getD i 0 < x) ∧ (∀ i, mid ≤ i → i < zs.length → x ≤ zs.getD i 0)) := fun hx => ⟨HB.out.1, fun i h1 h2 => by
          by_cases e : i = mid
          · subst e; exact hx
          · have := HAs.out mid i (by omega) h2
            omega⟩
      clear hI h HB
      generalize zs.getD mid 0 = Z at *
      go_wp2_with fail
      · have hx : Z < x := by assumption
        go_round
        case rel => exact ⟨mid + 1, hi, by omega, by omega, by go_num, rfl, HL.out hx⟩
        case measure => simp [intOf]; omega
      · have hx : x ≤ Z := by first | assumption | (have hq : ¬ Z < x := by assumption; omega)
        go_round
        case rel => exact ⟨lo, mid, by omega, by omega, rfl, rfl, HR.out hx⟩
        case measure => simp [intOf]; omega
    · have e : lo = hi := by omega
      subst e
      by_cases hin : lo < zs.length
      · obtain ⟨b, off, rfl, hI⟩ := h.at_ (by omega)
        have e1 := hI.c lo hin
        by_cases hx : zs.getD lo 0 = x
        · have hb : (zs.getD lo 0 == x) = true := by simpa using hx
          have HX : Hid (zs[lo]?.getD 0 = x) := hx
          clear hx hI h
          generalize zs.getD lo 0 = Z at *
          go_wp2
          go_ret
          exact ⟨.inl ⟨lo, hin, HX.out, rfl⟩, rfl⟩
        · have hb : (zs.getD lo 0 == x) = false := by simpa using hx
          have HX : Hid (x ∉ zs) := not_mem_of HAs.out HB.out.1 HB.out.2 (fun _ => hx)
          clear hx hI h
          generalize zs.getD lo 0 = Z at *
          go_wp2
          go_ret
          exact ⟨.inr ⟨HX.out, rfl⟩, rfl⟩
      · have HX : Hid (x ∉ zs) := not_mem_of HAs.out HB.out.1 HB.out.2 (fun h => absurd h hin)
        have hin' : ¬ (lo : Int) < (zs.length : Int) := by omega
        go_wp2
        go_ret
        exact ⟨.inr ⟨HX.out, rfl⟩, rfl⟩

end Go.Proofs.Qxb6616362a

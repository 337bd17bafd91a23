/-
  The names: zzBytes (8), zzStringsTooBig (9), zzCloneStrings (10).
-/
import Derived.Test.Qxb6616313aParts
import Derived.Deep.OwnRows
import Derived.Deep.Heap
namespace Go.Proofs.Qxb6616313a
open Go.RowKit
set_option linter.unusedVariables false
set_option linter.unusedSimpArgs false

/-- A row of strings from block b's cell off on. -/
structure StrsAt (w : World) (b off : Nat) (ss : List ByteArray) : Prop where
  lt : b < w.heap.size
  c : ∀ i, i < ss.length → w.cell? ⟨b, off + i, none⟩ = some (.string (ss.getD i ByteArray.empty))
  s : ∀ i, i < ss.length → (ss.getD i ByteArray.empty).size ≤ maxLen

def Strs (w : World) (a : Option Addr) (ss : List ByteArray) : Prop :=
  ss.length ≤ maxLen ∧ (0 < ss.length → ∃ b off, a = some ⟨b, off, none⟩ ∧ StrsAt w b off ss)

set_option maxHeartbeats 2000000 in
theorem bytes8 (b off cap : Nat) (ss : List ByteArray) (m : Int) (w : World) (hl : ss.length ≤ maxLen) (hp : StrsAt w b off ss) :
    Calls Try.prog 8 #[.slice (some ⟨b, off, none⟩) ss.length cap, .int .i64 m] w fun e w' => (e = .returned (.bool true) ∨ e = .returned (.bool false)) ∧ w' = w := by
  unfold maxLen at hl
  by_cases h1 : 1048576 < ss.length
  · go_enter Try.func8, Try.ntmps8
    go_wp2
    go_ret
    exact ⟨.inr rfl, rfl⟩
  go_enter Try.func8, Try.ntmps8
  go_wp2_with fail
  go_loop [5, 6] (fun s i => ∃ (k : Nat) (z : Int), k ≤ ss.length ∧ i = .int .i64 k ∧ s = .int .i64 z ∧ 0 ≤ z ∧ z ≤ 1048576) (fun _ i => ss.length - (intOf i).toNat)
  case atStart => exact ⟨0, _, Nat.zero_le _, rfl, rfl, by omega, by omega⟩
  case round =>
    obtain ⟨k, z, hk, rfl, rfl, z0, z1⟩ := hrel
    by_cases hlt : k < ss.length
    · have e0 := hp.c k hlt
      have t0 := hp.s k hlt
      unfold maxLen at t0
      generalize ss.getD k ByteArray.empty = X at *
      go_wp2
      all_goals first
        | (go_ret
           exact ⟨.inr rfl, rfl⟩)
        | (go_round
           case rel => exact ⟨k + 1, _, by omega, by go_num, rfl, by omega, by omega⟩
           case measure => simp [intOf]; omega)
    · go_wp2
      go_ret
      exact ⟨.inl rfl, rfl⟩

set_option maxHeartbeats 400000 in
theorem bytes8_zero (a : Option Addr) (cap : Nat) (m : Int) (w : World) :
    Calls Try.prog 8 #[.slice a 0 cap, .int .i64 m] w fun e w' => e = .returned (.bool true) ∧ w' = w := by
  go_enter Try.func8, Try.ntmps8
  go_wp2
  refine wp_loop_rounds 1 ?_
  rw [rounds_succ]
  go_wp2
  go_ret
  exact ⟨rfl, rfl⟩

set_option maxHeartbeats 400000 in
theorem strsBig_zero (a : Option Addr) (cap : Nat) (w : World) :
    Calls Try.prog 9 #[.slice a 0 cap] w fun e w' => e = .returned (.bool false) ∧ w' = w := by
  go_enter Try.func9, Try.ntmps9
  go_wp2_with fail
  refine (addN16_yes _ _ (by omega) (by omega) (by omega)).mono ?_
  rintro e w1 ⟨rfl, rfl⟩
  go_wp2
  refine wp_loop_rounds 1 ?_
  rw [rounds_succ]
  go_wp2
  go_ret
  exact ⟨rfl, rfl⟩

set_option maxHeartbeats 400000 in
theorem strsBig_len (a : Option Addr) (n cap : Nat) (w : World) (h : 65536 < n) (hl : n ≤ maxLen) :
    Calls Try.prog 9 #[.slice a n cap] w fun e w' => e = .returned (.bool true) ∧ w' = w := by
  unfold maxLen at hl
  go_enter Try.func9, Try.ntmps9
  go_wp2_with fail
  refine (addN16_no _ _ (by omega) (by omega) (by omega)).mono ?_
  rintro e w1 ⟨rfl, rfl⟩
  go_wp2
  go_ret
  exact ⟨rfl, rfl⟩

set_option maxHeartbeats 2000000 in
theorem strsBig (b off cap : Nat) (ss : List ByteArray) (w : World) (hl : ss.length ≤ 65536) (hp : StrsAt w b off ss) :
    Calls Try.prog 9 #[.slice (some ⟨b, off, none⟩) ss.length cap] w fun e w' => (e = .returned (.bool true) ∨ e = .returned (.bool false)) ∧ w' = w := by
  go_enter Try.func9, Try.ntmps9
  go_wp2_with fail
  refine (addN16_yes _ _ (by omega) (by omega) (by omega)).mono ?_
  rintro e w1 ⟨rfl, rfl⟩
  go_wp2_with fail
  go_loop [3, 5] (fun s i => ∃ (k : Nat) (z : Int), k ≤ ss.length ∧ i = .int .i64 k ∧ s = .int .i64 z ∧ 0 ≤ z ∧ z ≤ 1048576) (fun _ i => ss.length - (intOf i).toNat)
  case atStart => exact ⟨0, _, Nat.zero_le _, rfl, rfl, by omega, by omega⟩
  case round =>
    obtain ⟨k, z, hk, rfl, rfl, z0, z1⟩ := hrel
    by_cases hlt : k < ss.length
    · have e0 := hp.c k hlt
      have t0 := hp.s k hlt
      unfold maxLen at t0
      generalize ss.getD k ByteArray.empty = X at *
      go_wp2_with fail
      by_cases q0 : (X.size : Int) ≤ 1048576 - z
      case neg =>
        refine (addN1_no _ _ _ (by omega) (by omega) (by omega) (by omega) (by omega)).mono ?_
        rintro e w2 ⟨rfl, rfl⟩
        go_wp2
        go_ret
        exact ⟨.inl rfl, rfl⟩
      refine (addN1_yes _ _ _ (by omega) (by omega) (by omega) (by omega) (by omega)).mono ?_
      rintro e w2 ⟨rfl, rfl⟩
      go_wp2
      go_round
      case rel => exact ⟨k + 1, _, by omega, by go_num, rfl, by omega, by omega⟩
      case measure => simp [intOf]; omega
    · go_wp2
      go_ret
      exact ⟨.inr rfl, rfl⟩

theorem info9 : (Try.prog.info? 9).map (fun i => (i.zero, i.size, i.bytes)) = some (some (.string ⟨#[]⟩), 1, 16) := by kernel_rfl
theorem nil22 (w : World) (a : Option Addr) (n c : Nat) : (binOp .eql 22 (.slice a n c) (.slice none 0 0)).run Try.prog w = .ok (.bool a.isNone) w := Lib.run_eql_slice_nil w _ _ a n c 0 0 Try.underlying22

/-- The row at g is there, whatever it holds. -/
def There (w : World) (g n : Nat) : Prop := ∃ f, w.rowIs g 9 n f ∧ ∀ i, ∃ s, f i = .string s

theorem There.cell {w : World} {g n : Nat} (h : There w g n) (i : Nat) (hi : i < n) : ∃ s, w.cell? ⟨g, i, none⟩ = some (.string s) := by
  obtain ⟨f, hr, hf⟩ := h
  obtain ⟨s, hs⟩ := hf i
  exact ⟨s, by rw [hr.cell hi, hs]⟩
theorem There.frozen {w : World} {g n : Nat} (h : There w g n) (i : Nat) : w.frozen? ⟨g, i, none⟩ = false := by
  obtain ⟨f, hr, _⟩ := h
  exact hr.frozen i
theorem There.set {w : World} {g n : Nat} (h : There w g n) (i : Nat) (s : ByteArray) : There (w.setCell ⟨g, i, none⟩ (.string s)) g n := by
  obtain ⟨f, hr, hf⟩ := h
  refine ⟨_, hr.set i _, fun j => ?_⟩
  by_cases e : j = i
  · exact ⟨s, by simp [e]⟩
  · obtain ⟨s', hs'⟩ := hf j
    exact ⟨s', by simp [e, hs']⟩

set_option maxHeartbeats 1000000 in
theorem cloneStrs (b off cap : Nat) (ss : List ByteArray) (w : World) (hl : ss.length ≤ 65536) (hp : StrsAt w b off ss) :
    Calls Try.prog 10 #[.slice (some ⟨b, off, none⟩) ss.length cap] w fun e w' => e = .returned (.slice (some ⟨w.heap.size, 0, none⟩) ss.length ss.length) ∧ Below w.heap.size w w' := by
  have hmk := run_make_row' (P := Try.prog) 22 9 (.string ⟨#[]⟩) 16 Try.underlying22 info9 rfl .i64 .i64 ss.length (by omega) (by omega)
  have hnil := nil22
  go_enter Try.func10, Try.ntmps10
  go_wp2
  go_loopw [4] (fun i wr => ∃ k : Nat, k ≤ ss.length ∧ i = .int .i64 k ∧ There wr w.heap.size ss.length ∧ Below w.heap.size w wr) (fun i _ => ss.length - (intOf i).toNat)
  case atStart => exact ⟨0, Nat.zero_le _, rfl, ⟨_, World.rowIs_made _ _ _ _, fun i => ⟨_, rfl⟩⟩, (Below.refl _ _).alloc (Nat.le_refl _) _⟩
  case round =>
    obtain ⟨k, hk, rfl, hrow, hbel⟩ := hrel
    clear hmk
    by_cases hkl : k < ss.length
    · have e1 := (hbel.cell (p := ⟨b, off + k, none⟩) hp.lt).trans (hp.c k hkl)
      obtain ⟨s, e2⟩ := hrow.cell k hkl
      have e3 := hrow.frozen k
      have HR : Hid (∀ t : ByteArray, There (wr.setCell ⟨w.heap.size, k, none⟩ (.string t)) w.heap.size ss.length ∧ Below w.heap.size w (wr.setCell ⟨w.heap.size, k, none⟩ (.string t))) := fun t => ⟨hrow.set k t, hbel.setCell (Nat.le_refl _) _⟩
      clear hrow hbel hp
      generalize ss.getD k ByteArray.empty = X at *
      go_wp2
      go_roundw
      case rel => exact ⟨k + 1, by omega, by go_num, (HR.out _).1, (HR.out _).2⟩
      case measure => simp [intOf]; omega
    · go_wp2
      go_ret
      exact ⟨rfl, hbel⟩

set_option maxHeartbeats 400000 in
theorem cloneStrs_none (cap : Nat) (w : World) : Calls Try.prog 10 #[.slice none 0 cap] w fun e w' => e = .returned (.slice none 0 0) ∧ w' = w := by
  have hnil := nil22
  go_enter Try.func10, Try.ntmps10
  go_wp2
  go_ret
  exact ⟨rfl, rfl⟩

set_option maxHeartbeats 400000 in
theorem cloneStrs_empty (x : Addr) (cap : Nat) (w : World) : Calls Try.prog 10 #[.slice (some x) 0 cap] w fun e w' => e = .returned (.slice (some ⟨w.heap.size, 0, none⟩) 0 0) ∧ Below w.heap.size w w' := by
  have hmk : ∀ w : World, (Instr.makeSlice 22 (.int .i64 0) (.int .i64 0)).run Try.prog w = .ok (.slice (some ⟨w.heap.size, 0, none⟩) 0 0) (w.alloc (.cells #[] 9)) := fun _ => by kernel_rfl
  have hnil := nil22
  go_enter Try.func10, Try.ntmps10
  go_wp2
  refine wp_loop_rounds 1 ?_
  rw [rounds_succ]
  go_wp2
  go_ret
  exact ⟨rfl, (Below.refl _ _).alloc (Nat.le_refl _) _⟩

/-- The three contracts, whatever the slice. -/
theorem bytes8_any (a : Option Addr) (cap : Nat) (ss : List ByteArray) (m : Int) (w : World) (h : Strs w a ss) :
    Calls Try.prog 8 #[.slice a ss.length cap, .int .i64 m] w fun e w' => (e = .returned (.bool true) ∨ e = .returned (.bool false)) ∧ w' = w := by
  by_cases h0 : 0 < ss.length
  · obtain ⟨b, off, rfl, hp⟩ := h.2 h0
    exact bytes8 b off cap ss m w h.1 hp
  · have e0 : ss.length = 0 := by omega
    rw [e0]
    exact (bytes8_zero a cap m w).mono fun e w' ⟨h1, h2⟩ => ⟨.inl h1, h2⟩

theorem strsBig_any (a : Option Addr) (cap : Nat) (ss : List ByteArray) (w : World) (h : Strs w a ss) :
    Calls Try.prog 9 #[.slice a ss.length cap] w fun e w' => (e = .returned (.bool true) ∨ e = .returned (.bool false) ∧ ss.length ≤ 65536) ∧ w' = w := by
  by_cases hb : 65536 < ss.length
  · exact (strsBig_len a ss.length cap w hb h.1).mono fun e w' ⟨h1, h2⟩ => ⟨.inl h1, h2⟩
  by_cases h0 : 0 < ss.length
  · obtain ⟨b, off, rfl, hp⟩ := h.2 h0
    exact (strsBig b off cap ss w (by omega) hp).mono fun e w' ⟨h1, h2⟩ => ⟨h1.elim .inl (fun h => .inr ⟨h, by omega⟩), h2⟩
  · have e0 : ss.length = 0 := by omega
    rw [e0]
    exact (strsBig_zero a cap w).mono fun e w' ⟨h1, h2⟩ => ⟨.inr ⟨h1, by omega⟩, h2⟩

theorem cloneStrs_any (a : Option Addr) (cap : Nat) (ss : List ByteArray) (w : World) (hl : ss.length ≤ 65536) (h : Strs w a ss) :
    Calls Try.prog 10 #[.slice a ss.length cap] w fun e w' => ∃ a' c', e = .returned (.slice a' ss.length c') ∧ Below w.heap.size w w' := by
  by_cases h0 : 0 < ss.length
  · obtain ⟨b, off, rfl, hp⟩ := h.2 h0
    exact (cloneStrs b off cap ss w hl hp).mono fun e w' ⟨h1, h2⟩ => ⟨_, _, h1, h2⟩
  · have e0 : ss.length = 0 := by omega
    rw [e0]
    cases a with
    | none => exact (cloneStrs_none cap w).mono fun e w' ⟨h1, h2⟩ => ⟨_, _, h1, by rw [h2]; exact Below.refl _ _⟩
    | some x => exact (cloneStrs_empty x cap w).mono fun e w' ⟨h1, h2⟩ => ⟨_, _, h1, h2⟩

end Go.Proofs.Qxb6616313a

/-
  zzCloneBytes (22), zzSameBytes (44).
-/
import Derived.Test.Qxb6616313aBytes
import Derived.Deep.OwnRows
import Derived.Deep.Heap
import Derived.BigQuiet
import Derived.Deep.QuietTactic
import Derived.WalkSmall
namespace Go.Proofs.Qxb6616313a
open Go.RowKit
set_option linter.unusedVariables false

theorem info5 : (Try.prog.info? 5).map (fun i => (i.zero, i.size, i.bytes)) = some (some (.int .u8 0), 1, 1) := by kernel_rfl
theorem nil38 (w : World) (a : Option Addr) (n c : Nat) : (binOp .eql 38 (.slice a n c) (.slice none 0 0)).run Try.prog w = .ok (.bool a.isNone) w := Lib.run_eql_slice_nil w _ _ a n c 0 0 Try.underlying38

theorem BytesAt.below {w w' : World} {v : Value} {zs : List Int} (h : BytesAt w v zs) (hb : Below w.heap.size w w') : BytesAt w' v zs := by
  obtain ⟨h1, h2, a, cap, hv, hc⟩ := h
  refine ⟨h1, h2, a, cap, hv, fun h0 => ?_⟩
  obtain ⟨b, off, ha, hlt, hcc⟩ := hc h0
  exact ⟨b, off, ha, Nat.lt_of_lt_of_le hlt hb.size, fun j hj => (hb.cell (p := ⟨b, off + j, none⟩) hlt).trans (hcc j hj)⟩

/-- What the first k of n cells hold behind k rounds of the copying. -/
def cl (zs : List Int) (k : Nat) : Nat → Value := fun j => if j < k then .int .u8 (zs.getD j 0) else .int .u8 0

theorem cl_step {w : World} {g n k : Nat} {zs : List Int} (h : w.rowIs g 5 n (cl zs k)) : (w.setCell ⟨g, k, none⟩ (.int .u8 (zs.getD k 0))).rowIs g 5 n (cl zs (k + 1)) := by
  refine (h.set k _).congr fun i _ => ?_
  unfold cl
  by_cases e : i = k
  · simp [e]
  · by_cases e2 : i < k
    · simp [e, e2, Nat.lt_succ_of_lt e2]
    · have e3 : ¬ i < k + 1 := by omega
      simp [e, e2, e3]

theorem cl_done {w : World} {g : Nat} {zs : List Int} (hz : ∀ j, 0 ≤ zs.getD j 0 ∧ zs.getD j 0 ≤ 255) (hl : zs.length ≤ maxLen) (h : w.rowIs g 5 zs.length (cl zs zs.length)) : BytesAt w (.slice (some ⟨g, 0, none⟩) zs.length zs.length) zs :=
  ⟨hz, hl, _, _, rfl, fun _ => ⟨g, 0, rfl, h.lt, fun j hj => by
    have := h.cell hj
    simp only [cl, hj, if_true] at this
    rw [Nat.zero_add]
    exact this⟩⟩

set_option maxHeartbeats 1000000 in
theorem clone_full (b off cap : Nat) (zs : List Int) (w : World) (hz : ∀ j, 0 ≤ zs.getD j 0 ∧ zs.getD j 0 ≤ 255) (hl : zs.length ≤ 1048576) (hlt : b < w.heap.size) (hc : ∀ j, j < zs.length → w.cell? ⟨b, off + j, none⟩ = some (.int .u8 (zs.getD j 0))) :
    Calls Try.prog 22 #[.slice (some ⟨b, off, none⟩) zs.length cap] w fun e w' => e = .returned (.slice (some ⟨w.heap.size, 0, none⟩) zs.length zs.length) ∧ w'.rowIs w.heap.size 5 zs.length (cl zs zs.length) ∧ Below w.heap.size w w' := by
  have hmk := run_make_row' (P := Try.prog) 38 5 (.int .u8 0) 1 Try.underlying38 info5 rfl .i64 .i64 zs.length (by omega) (by omega)
  have hnil := nil38
  go_enter Try.func22, Try.ntmps22
  go_wp2
  go_loopw [4] (fun i wr => ∃ k : Nat, k ≤ zs.length ∧ i = .int .i64 k ∧ wr.rowIs w.heap.size 5 zs.length (cl zs k) ∧ Below w.heap.size w wr) (fun i _ => zs.length - (intOf i).toNat)
  case atStart => exact ⟨0, Nat.zero_le _, rfl, (World.rowIs_made _ _ _ _).congr (fun i _ => by simp [cl]), (Below.refl _ _).alloc (Nat.le_refl _) _⟩
  case round =>
    obtain ⟨k, hk, rfl, hrow, hbel⟩ := hrel
    by_cases hkl : k < zs.length
    · have e1 : wr.cell? ⟨b, off + k, none⟩ = some (.int .u8 (zs.getD k 0)) := (hbel.cell (p := ⟨b, off + k, none⟩) hlt).trans (hc k hkl)
      have e2 : wr.cell? ⟨w.heap.size, k, none⟩ = some (.int .u8 0) := by rw [hrow.cell hkl]; simp [cl]
      have e3 := hrow.frozen k
      have HR : Hid ((wr.setCell ⟨w.heap.size, k, none⟩ (.int .u8 (zs.getD k 0))).rowIs w.heap.size 5 zs.length (cl zs (k + 1)) ∧ Below w.heap.size w (wr.setCell ⟨w.heap.size, k, none⟩ (.int .u8 (zs.getD k 0)))) := ⟨cl_step hrow, hbel.setCell (Nat.le_refl _) _⟩
      clear hrow hbel hmk
      generalize zs.getD k 0 = Z at *
      go_wp2
      go_roundw
      case rel => exact ⟨k + 1, by omega, by go_num, HR.out.1, HR.out.2⟩
      case measure => simp [intOf]; omega
    · clear hmk
      go_wp2
      go_ret
      have e : k = zs.length := by omega
      subst e
      exact ⟨rfl, hrow, hbel⟩

set_option maxHeartbeats 400000 in
theorem clone_nil (w : World) : Calls Try.prog 22 #[.slice none 0 0] w fun e w' => e = .returned (.slice none 0 0) ∧ w' = w := by
  have hnil := nil38
  go_enter Try.func22, Try.ntmps22
  go_wp2
  go_ret
  exact ⟨rfl, rfl⟩

set_option maxHeartbeats 400000 in
theorem clone_none (cap : Nat) (w : World) : Calls Try.prog 22 #[.slice none 0 cap] w fun e w' => e = .returned (.slice none 0 0) ∧ w' = w := by
  have hnil := nil38
  go_enter Try.func22, Try.ntmps22
  go_wp2
  go_ret
  exact ⟨rfl, rfl⟩

set_option maxHeartbeats 400000 in
theorem clone_empty (x : Addr) (cap : Nat) (w : World) : Calls Try.prog 22 #[.slice (some x) 0 cap] w fun e w' => e = .returned (.slice (some ⟨w.heap.size, 0, none⟩) 0 0) ∧ Below w.heap.size w w' := by
  have hmk : ∀ w : World, (Instr.makeSlice 38 (.int .i64 0) (.int .i64 0)).run Try.prog w = .ok (.slice (some ⟨w.heap.size, 0, none⟩) 0 0) (w.alloc (.cells #[] 5)) := fun _ => by kernel_rfl
  have hnil := nil38
  go_enter Try.func22, Try.ntmps22
  go_wp2
  refine wp_loop_rounds 1 ?_
  rw [rounds_succ]
  go_wp2
  go_ret
  exact ⟨rfl, (Below.refl _ _).alloc (Nat.le_refl _) _⟩

theorem clone (v : Value) (zs : List Int) (w : World) (hb : BytesAt w v zs) (hl : zs.length ≤ 1048576) :
    Calls Try.prog 22 #[v] w fun e w' => ∃ a n cap, e = .returned (.slice a n cap) ∧ BytesAt w' (.slice a n cap) zs ∧ Below w.heap.size w w' := by
  obtain ⟨h1, h2, a, cap, rfl, hc⟩ := hb
  by_cases h0 : 0 < zs.length
  · obtain ⟨b, off, rfl, hlt, hcc⟩ := hc h0
    refine (clone_full b off cap zs w h1 hl hlt hcc).mono fun e w' ⟨he, hr, hb⟩ => ?_
    exact ⟨_, _, _, he, cl_done h1 h2 hr, hb⟩
  · have e0 : zs.length = 0 := by omega
    have hz : zs = [] := List.eq_nil_of_length_eq_zero e0
    subst hz
    cases a with
    | none =>
      refine (clone_none cap w).mono fun e w' ⟨he, hw⟩ => ?_
      subst hw
      exact ⟨_, _, _, he, ⟨h1, h2, _, _, rfl, fun h => absurd h h0⟩, Below.refl _ _⟩
    | some x =>
      refine (clone_empty x cap w).mono fun e w' ⟨he, hb⟩ => ?_
      exact ⟨_, _, _, he, ⟨h1, h2, _, _, rfl, fun h => absurd h h0⟩, hb⟩

set_option maxHeartbeats 1000000 in
theorem same_full (b off cap b' off' cap' : Nat) (zs : List Int) (w : World) (hl : zs.length ≤ maxLen) (hc : ∀ j, j < zs.length → w.cell? ⟨b, off + j, none⟩ = some (.int .u8 (zs.getD j 0))) (hc' : ∀ j, j < zs.length → w.cell? ⟨b', off' + j, none⟩ = some (.int .u8 (zs.getD j 0))) :
    Calls Try.prog 44 #[.slice (some ⟨b, off, none⟩) zs.length cap, .slice (some ⟨b', off', none⟩) zs.length cap'] w fun e w' => e = .returned (.bool true) ∧ ∃ m, w' = w.drewN m := by
  unfold maxLen at hl
  go_enter Try.func44, Try.ntmps44
  go_wp2
  go_loopw [5] (fun i wr => ∃ k m : Nat, k ≤ zs.length ∧ i = .int .i64 k ∧ wr = w.drewN m) (fun i _ => zs.length - (intOf i).toNat)
  case atStart => exact ⟨0, 0, Nat.zero_le _, rfl, rfl⟩
  case round =>
    obtain ⟨k, m, hk, rfl, rfl⟩ := hrel
    by_cases hkl : k < zs.length
    · have e1 := hc k hkl
      have e2 := hc' k hkl
      have i1 : (k : Int) < (zs.length : Int) := by omega
      have i2 : (0 : Int) ≤ (k : Int) := by omega
      generalize zs.getD k 0 = Z at *
      go_wp2
      go_quiet (fail)
      go_wp2
      go_roundw
      case rel => exact ⟨k + 1, _, by omega, by go_num, rfl⟩
      case measure => simp [intOf]; omega
    · go_wp2
      go_ret
      exact ⟨rfl, _, rfl⟩

set_option maxHeartbeats 400000 in
theorem same_zero (a a' : Option Addr) (cap cap' : Nat) (w : World) :
    Calls Try.prog 44 #[.slice a 0 cap, .slice a' 0 cap'] w fun e w' => e = .returned (.bool true) ∧ ∃ m, w' = w.drewN m := by
  go_enter Try.func44, Try.ntmps44
  go_wp2
  refine wp_loop_rounds 1 ?_
  rw [rounds_succ]
  go_wp2
  go_ret
  exact ⟨rfl, 0, rfl⟩

theorem same (v v' : Value) (zs : List Int) (w : World) (hb : BytesAt w v zs) (hb' : BytesAt w v' zs) :
    Calls Try.prog 44 #[v, v'] w fun e w' => e = .returned (.bool true) ∧ ∃ m, w' = w.drewN m := by
  obtain ⟨h1, h2, a, cap, rfl, hc⟩ := hb
  obtain ⟨_, _, a', cap', rfl, hc'⟩ := hb'
  by_cases h0 : 0 < zs.length
  · obtain ⟨b, off, rfl, hlt, hcc⟩ := hc h0
    obtain ⟨b', off', rfl, hlt', hcc'⟩ := hc' h0
    exact same_full b off cap b' off' cap' zs w h2 hcc hcc'
  · have e0 : zs.length = 0 := by omega
    rw [e0]
    exact same_zero a a' cap cap' w

end Go.Proofs.Qxb6616313a

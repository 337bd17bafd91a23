/-
  The walk of FnTrieTableMadeOnceWithRoomPerRecord (3).
-/
import Derived.Test.Qxb6616313aTrie
import Derived.Test.Qxb6616313aStrs
import Derived.BigQuiet
import Derived.Deep.QuietTactic
import Derived.WalkSmall
import Derived.LaidEql
namespace Go.Proofs.Qxb6616313a
open Go.RowKit
set_option linter.unusedVariables false
set_option linter.unusedSimpArgs false

theorem eq28 (p : Addr) (w : World) : (binOp .eql 28 (.pointer (some p)) (.pointer none)).run Try.prog w = .ok (.bool false) w := by kernel_rfl
/-- A pointer is no other than itself. -/
theorem neq_ptr_same {P : Program} (w : World) {tp te : TypeId} {j : TypeInfo} (a : Addr) (hp : P.underlying tp = some (.pointer te)) (hte : P.info? te = some j) :
    (binOp .neq tp (.pointer (some a)) (.pointer (some a))).run P w = .ok (.bool false) w := by
  have h : ∀ d : Nat, (Op.equalIn (d + 1) tp (.pointer (some a)) (.pointer (some a))).run P w = .ok true w := fun d => by
    simp [Op.equalIn, run_underlying hp, typeInfo, sizeOf, run_sameAddr_same, hte]
  simp only [binOp]
  simp [Op.equal, Op.maxDepth, h 9999]
theorem some_info {P : Program} {t : TypeId} (h : (P.info? t).isSome = true) : ∃ j, P.info? t = some j := Option.isSome_iff_exists.1 h
theorem neq28 (a : Addr) (w : World) : (binOp .neq 28 (.pointer (some a)) (.pointer (some a))).run Try.prog w = .ok (.bool false) w := by
  obtain ⟨j, hj⟩ := some_info (P := Try.prog) (t := 124) (by kernel_rfl)
  exact neq_ptr_same w a Try.underlying28 hj
theorem neq32 (a : Addr) (w : World) : (binOp .neq 32 (.pointer (some a)) (.pointer (some a))).run Try.prog w = .ok (.bool false) w := by
  obtain ⟨j, hj⟩ := some_info (P := Try.prog) (t := 35) (by kernel_rfl)
  exact neq_ptr_same w a Try.underlying32 hj
theorem neq35 (w : World) : (binOp .neq 35 (.agg #[.pointer none]) (.agg #[.pointer none])).run Try.prog w = .ok (.bool false) w := by kernel_rfl

theorem Rd.below {w w' : World} {L : Nat} {a : Option Addr} {n c : Nat} {r : Option Addr} {m mc : Nat} {tv rv : Value} (h : Rd w L a n c r m mc tv rv) (hb : Below w.heap.size w w') : Rd w' L a n c r m mc tv rv :=
  ⟨Nat.lt_of_lt_of_le h.lt hb.size, (hb.cell (p := ⟨L, 2, none⟩) h.lt).trans h.c2, (hb.cell (p := ⟨L, 4, none⟩) h.lt).trans h.c4, (hb.cell (p := ⟨L, 14, none⟩) h.lt).trans h.c14, (hb.cell (p := ⟨L, 15, none⟩) h.lt).trans h.c15, (hb.frozen (p := ⟨L, 14, none⟩) h.lt).trans h.f14, (hb.frozen (p := ⟨L, 15, none⟩) h.lt).trans h.f15⟩

set_option maxRecDepth 100000 in
set_option maxHeartbeats 2000000 in
theorem law3_in (a : Option Addr) (cap : Nat) (ss : List ByteArray) (m : Nat) (w : World) (hm : m ≤ 16384) (hP : Strs w a ss) :
    Calls Try.prog 3 #[.slice a ss.length cap, .int .i64 (m : Int)] w fun e w' => e = .returned (.bool true) ∧ Below w.heap.size w w' := by
  have x28 := eq28
  have x35 := neq35
  have y28 := neq28
  have y32 := neq32
  go_enter Try.func3, Try.ntmps3
  go_wp2_with fail
  refine (bytes8_any a cap ss _ _ hP).mono ?_
  rintro e w1 ⟨he, hw⟩
  subst hw
  rcases he with rfl | rfl
  case inr =>
    go_wp2
    go_ret
    exact ⟨rfl, Below.refl _ _⟩
  go_wp2_with fail
  refine (strsBig_any a cap ss _ hP).mono ?_
  rintro e w2 ⟨he, hw⟩
  subst hw
  rcases he with rfl | ⟨rfl, hl⟩
  case inl =>
    go_wp2
    go_ret
    exact ⟨rfl, Below.refl _ _⟩
  go_wp2_with fail
  refine (cloneStrs_any a cap ss _ hl hP).mono ?_
  rintro e w3 ⟨a', c', rfl, hb3⟩
  go_wp2_with fail
  refine (newReading a' _ c' m _ hm).mono ?_
  rintro e w4 ⟨L, r, rfl, hL, hR4, hb4⟩
  have hW4 := hb3.trans (hb4.mono hb3.size)
  have hL2 : w2.heap.size ≤ L := Nat.le_trans hb3.size hL
  clear hb3 hb4 hL hP
  go_wp2_with fail
  refine (readTable_first L a' _ c' r m m _ hl hm (by exact hR4)).mono ?_
  rintro e w5 ⟨t, g, rfl, hR5, hg5, hb5⟩
  have hW5 := hW4.trans (hb5.mono hL2)
  clear hb5 hW4 hR4
  go_wp2_with fail
  refine (readTrie L _ _ (by exact hR5.c15)).mono ?_
  rintro e w6 ⟨rfl, rfl⟩
  go_wp2_with fail
  refine (readTable_again L a' _ c' r m m t _ _ (by exact hR5)).mono ?_
  rintro e w7 ⟨rfl, rfl⟩
  go_wp2_with fail
  refine (readTrie L _ _ (by exact hR5.c15)).mono ?_
  rintro e w8 ⟨rfl, rfl⟩
  go_wp2_with fail
  refine (readTries L _ _ (by exact hR5.c14)).mono ?_
  rintro e w9 ⟨rfl, rfl⟩
  clear hR5
  go_wp2_with fail
  have HG : Hid (∀ k, k < m → w9.cell? ⟨g, k, none⟩ = some (.pointer none)) := fun k hk => hg5.cell hk
  have HW : Hid (Below w2.heap.size w2 w9) := hW5
  clear hg5 hW5
  by_cases h0 : 0 < m
  · have i0 : decide ((0 : Int) < (m : Int)) = true := by simp; omega
    have i1 : (0 : Int) < (m : Int) := by omega
    go_quiet (fail)
    clear i0
    go_wp2_with fail
    go_loop [10] (fun i => ∃ k : Nat, k ≤ m ∧ i = .int .i64 k) (fun i => m - (intOf i).toNat)
    case atStart => exact ⟨0, Nat.zero_le _, rfl⟩
    case round =>
      obtain ⟨k, hk, rfl⟩ := hrel
      by_cases hkl : k < m
      · have e := HG.out k hkl
        go_wp2
        go_round
        case rel => exact ⟨k + 1, by omega, by go_num⟩
        case measure => simp [intOf]; omega
      · go_wp2
        go_ret
        exact ⟨rfl, below_drewN HW.out _⟩
  · have i0 : decide ((0 : Int) < (m : Int)) = false := by simp; omega
    go_quiet (fail)
    go_wp2_with fail
    go_loop [10] (fun i => i = .int .i64 0) (fun _ => 0)
    case atStart => exact rfl
    case round =>
      subst hrel
      have hm0 : ¬ (0 : Int) < (m : Int) := by omega
      clear i0
      go_wp2
      go_ret
      exact ⟨rfl, below_drewN HW.out _⟩

set_option maxHeartbeats 1000000 in
theorem law3_out (a : Option Addr) (cap : Nat) (ss : List ByteArray) (m : Int) (w : World) (hm : m < 0 ∨ 16384 < m) (hP : Strs w a ss) :
    Calls Try.prog 3 #[.slice a ss.length cap, .int .i64 m] w fun e w' => e = .returned (.bool true) ∧ Below w.heap.size w w' := by
  go_enter Try.func3, Try.ntmps3
  go_wp2_with fail
  refine (bytes8_any a cap ss _ _ hP).mono ?_
  rintro e w1 ⟨he, hw⟩
  subst hw
  rcases he with rfl | rfl
  case inr =>
    go_wp2
    go_ret
    exact ⟨rfl, Below.refl _ _⟩
  go_wp2_with fail
  refine (strsBig_any a cap ss _ hP).mono ?_
  rintro e w2 ⟨he, hw⟩
  subst hw
  rcases he with rfl | ⟨rfl, hl⟩
  case inl =>
    go_wp2
    go_ret
    exact ⟨rfl, Below.refl _ _⟩
  rcases hm with hm | hm
  · go_wp2
    go_ret
    exact ⟨rfl, Below.refl _ _⟩
  · have hm0 : ¬ m < 0 := by omega
    go_wp2
    go_ret
    exact ⟨rfl, Below.refl _ _⟩

theorem law3 (a : Option Addr) (cap : Nat) (ss : List ByteArray) (m : Int) (w : World) (hP : Strs w a ss) :
    Calls Try.prog 3 #[.slice a ss.length cap, .int .i64 m] w fun e w' => e = .returned (.bool true) ∧ Below w.heap.size w w' := by
  by_cases h : m < 0 ∨ 16384 < m
  · exact law3_out a cap ss m w h hP
  · obtain ⟨k, rfl⟩ := Int.eq_ofNat_of_zero_le (show 0 ≤ m by omega)
    exact law3_in a cap ss k w (by omega) hP

end Go.Proofs.Qxb6616313a

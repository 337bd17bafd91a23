/-
  The parts as the walks see them; zzAddN (40), zzPartsTooBig (34), zzBytes (33, 39).
-/
import Derived.Test.Qxb6616313aProg
import Derived.WalkKit
import Derived.WalkSpells
namespace Go.Proofs.Qxb6616313a
open Go.RowKit
set_option linter.unusedVariables false

/-- A slice of bytes that leads to the numbers zs. -/
def BytesAt (w : World) (v : Value) (zs : List Int) : Prop :=
  (∀ j, 0 ≤ zs.getD j 0 ∧ zs.getD j 0 ≤ 255) ∧ zs.length ≤ maxLen ∧ ∃ a cap, v = .slice a zs.length cap ∧ (0 < zs.length → ∃ b off, a = some ⟨b, off, none⟩ ∧ b < w.heap.size ∧ ∀ j, j < zs.length → w.cell? ⟨b, off + j, none⟩ = some (.int .u8 (zs.getD j 0)))

/-- One part as plain data, with the value of its text's slice. -/
structure Pt where
  nm : ByteArray
  inm : ByteArray
  dv : Value
  zs : List Int
  o : Int

def Pt.none : Pt := ⟨⟨#[]⟩, ⟨#[]⟩, .slice .none 0 0, [], 0⟩

/-- A slice of parts, four cells each, from block b's cell off on. -/
structure PartsAt (w : World) (b off : Nat) (xs : List Pt) : Prop where
  lt : b < w.heap.size
  c0 : ∀ i, i < xs.length → w.cell? ⟨b, off + i * 4, .none⟩ = some (.string (xs.getD i Pt.none).nm)
  c1 : ∀ i, i < xs.length → w.cell? ⟨b, off + i * 4 + 1, .none⟩ = some (.string (xs.getD i Pt.none).inm)
  c2 : ∀ i, i < xs.length → w.cell? ⟨b, off + i * 4 + 2, .none⟩ = some (xs.getD i Pt.none).dv
  c3 : ∀ i, i < xs.length → w.cell? ⟨b, off + i * 4 + 3, .none⟩ = some (.int .i64 (xs.getD i Pt.none).o)
  d : ∀ i, i < xs.length → BytesAt w (xs.getD i Pt.none).dv (xs.getD i Pt.none).zs
  s0 : ∀ i, i < xs.length → (xs.getD i Pt.none).nm.size ≤ maxLen
  s1 : ∀ i, i < xs.length → (xs.getD i Pt.none).inm.size ≤ maxLen

set_option maxHeartbeats 400000 in
theorem addN1_yes (s n : Int) (w : World) (h0 : 0 ≤ s) (h1 : s ≤ 1048576) (h2 : 0 ≤ n) (h3 : n ≤ 9223372036854775807) (h : n ≤ 1048576 - s) :
    Calls Try.prog 40 #[.int .i64 s, .int .i64 n, .int .i64 1] w fun e w' => e = .returned (.tuple #[.int .i64 (s + n), .bool true]) ∧ w' = w := by
  go_enter Try.func40, Try.ntmps40
  go_wp2
  go_ret2
  exact ⟨rfl, rfl⟩

set_option maxHeartbeats 400000 in
theorem addN1_no (s n : Int) (w : World) (h0 : 0 ≤ s) (h1 : s ≤ 1048576) (h2 : 0 ≤ n) (h3 : n ≤ 9223372036854775807) (h : 1048576 - s < n) :
    Calls Try.prog 40 #[.int .i64 s, .int .i64 n, .int .i64 1] w fun e w' => e = .returned (.tuple #[.int .i64 (s), .bool false]) ∧ w' = w := by
  go_enter Try.func40, Try.ntmps40
  go_wp2
  go_ret2
  exact ⟨rfl, rfl⟩

set_option maxHeartbeats 400000 in
theorem addN64_yes (n : Int) (w : World) (h2 : 0 ≤ n) (h3 : n ≤ 9223372036854775807) (h : n ≤ 16384) :
    Calls Try.prog 40 #[.int .i64 0, .int .i64 n, .int .i64 64] w fun e w' => e = .returned (.tuple #[.int .i64 (n * 64), .bool true]) ∧ w' = w := by
  go_enter Try.func40, Try.ntmps40
  go_wp2
  go_ret2
  exact ⟨rfl, rfl⟩

set_option maxHeartbeats 400000 in
theorem addN64_no (n : Int) (w : World) (h2 : 0 ≤ n) (h3 : n ≤ 9223372036854775807) (h : 16384 < n) :
    Calls Try.prog 40 #[.int .i64 0, .int .i64 n, .int .i64 64] w fun e w' => e = .returned (.tuple #[.int .i64 (0), .bool false]) ∧ w' = w := by
  go_enter Try.func40, Try.ntmps40
  go_wp2
  go_ret2
  exact ⟨rfl, rfl⟩

set_option maxHeartbeats 400000 in
theorem addN16_yes (n : Int) (w : World) (h2 : 0 ≤ n) (h3 : n ≤ 9223372036854775807) (h : n ≤ 65536) :
    Calls Try.prog 40 #[.int .i64 0, .int .i64 n, .int .i64 16] w fun e w' => e = .returned (.tuple #[.int .i64 (n * 16), .bool true]) ∧ w' = w := by
  go_enter Try.func40, Try.ntmps40
  go_wp2
  go_ret2
  exact ⟨rfl, rfl⟩

set_option maxHeartbeats 400000 in
theorem addN16_no (n : Int) (w : World) (h2 : 0 ≤ n) (h3 : n ≤ 9223372036854775807) (h : 65536 < n) :
    Calls Try.prog 40 #[.int .i64 0, .int .i64 n, .int .i64 16] w fun e w' => e = .returned (.tuple #[.int .i64 (0), .bool false]) ∧ w' = w := by
  go_enter Try.func40, Try.ntmps40
  go_wp2
  go_ret2
  exact ⟨rfl, rfl⟩

/-- What the walks are told of a slice of parts. -/
def Parts (w : World) (a : Option Addr) (cap : Nat) (xs : List Pt) : Prop :=
  xs.length ≤ maxLen ∧ (0 < xs.length → ∃ b off, a = some ⟨b, off, .none⟩ ∧ PartsAt w b off xs)

/-- What zzPartsTooBig's 'no' tells. -/
def Small (xs : List Pt) : Prop := xs.length ≤ 16384 ∧ ∀ i, i < xs.length → (xs.getD i Pt.none).inm.size ≤ 1048576 ∧ (xs.getD i Pt.none).zs.length ≤ 1048576

set_option maxHeartbeats 2000000 in
theorem tooBig (b off cap : Nat) (xs : List Pt) (w : World) (hl : xs.length ≤ 16384) (hp : PartsAt w b off xs) :
    Calls Try.prog 34 #[.slice (some ⟨b, off, .none⟩) xs.length cap] w fun e w' => w' = w ∧ (e = .returned (.bool true) ∨ (e = .returned (.bool false) ∧ Small xs)) := by
  go_enter Try.func34, Try.ntmps34
  go_wp2_with fail
  refine (addN64_yes _ _ (by omega) (by omega) (by omega)).mono ?_
  rintro e w1 ⟨rfl, rfl⟩
  go_wp2_with fail
  go_loop [3, 5] (fun s i => ∃ (k : Nat) (z : Int), k ≤ xs.length ∧ i = .int .i64 k ∧ s = .int .i64 z ∧ 0 ≤ z ∧ z ≤ 1048576 ∧ Hid (∀ i, i < k → (xs.getD i Pt.none).inm.size ≤ 1048576 ∧ (xs.getD i Pt.none).zs.length ≤ 1048576)) (fun _ i => xs.length - (intOf i).toNat)
  case atStart => exact ⟨0, _, Nat.zero_le _, rfl, rfl, by omega, by omega, fun i hi => by omega⟩
  case round =>
    obtain ⟨k, z, hk, rfl, rfl, z0, z1, HI⟩ := hrel
    by_cases hlt : k < xs.length
    · have e0 := hp.c0 k hlt
      have e1 := hp.c1 k hlt
      have e2 := hp.c2 k hlt
      obtain ⟨hz, hzl, da, dcap, hdv, _⟩ := hp.d k hlt
      rw [hdv] at e2
      have t0 := hp.s0 k hlt
      have t1 := hp.s1 k hlt
      unfold maxLen at t0 t1 hzl
      have HN : Hid (∀ i, i < k + 1 → ((xs.getD k Pt.none).inm.size ≤ 1048576 ∧ (xs.getD k Pt.none).zs.length ≤ 1048576) → (xs.getD i Pt.none).inm.size ≤ 1048576 ∧ (xs.getD i Pt.none).zs.length ≤ 1048576) := fun i hi h => by
        by_cases e : i = k
        · rw [e]; exact h
        · exact HI.out i (by omega)
      clear hz hdv HI
      generalize xs.getD k Pt.none = X at *
      go_wp2_with fail
      by_cases q0 : (X.nm.size : Int) ≤ 1048576 - z
      case neg =>
        refine (addN1_no _ _ _ (by omega) (by omega) (by omega) (by omega) (by omega)).mono ?_
        rintro e w2 ⟨rfl, rfl⟩
        go_wp2
        go_ret
        exact ⟨rfl, .inl rfl⟩
      refine (addN1_yes _ _ _ (by omega) (by omega) (by omega) (by omega) (by omega)).mono ?_
      rintro e w2 ⟨rfl, rfl⟩
      go_wp2_with fail
      by_cases q1 : (X.inm.size : Int) ≤ 1048576 - (z + (X.nm.size : Int))
      case neg =>
        refine (addN1_no _ _ _ (by omega) (by omega) (by omega) (by omega) (by omega)).mono ?_
        rintro e w3 ⟨rfl, rfl⟩
        go_wp2
        go_ret
        exact ⟨rfl, .inl rfl⟩
      refine (addN1_yes _ _ _ (by omega) (by omega) (by omega) (by omega) (by omega)).mono ?_
      rintro e w3 ⟨rfl, rfl⟩
      go_wp2_with fail
      by_cases q2 : (X.zs.length : Int) ≤ 1048576 - (z + (X.nm.size : Int) + (X.inm.size : Int))
      case neg =>
        refine (addN1_no _ _ _ (by omega) (by omega) (by omega) (by omega) (by omega)).mono ?_
        rintro e w4 ⟨rfl, rfl⟩
        go_wp2
        go_ret
        exact ⟨rfl, .inl rfl⟩
      refine (addN1_yes _ _ _ (by omega) (by omega) (by omega) (by omega) (by omega)).mono ?_
      rintro e w4 ⟨rfl, rfl⟩
      go_wp2
      go_round
      case rel => exact ⟨k + 1, _, by omega, by go_num, rfl, by omega, by omega, fun i hi => HN.out i hi ⟨by omega, by omega⟩⟩
      case measure => simp [intOf]; omega
    · go_wp2
      go_ret
      exact ⟨rfl, .inr ⟨rfl, hl, fun i hi => HI.out i (by omega)⟩⟩

end Go.Proofs.Qxb6616313a

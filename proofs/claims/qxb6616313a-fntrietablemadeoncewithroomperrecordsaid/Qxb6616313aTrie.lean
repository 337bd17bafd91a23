/-
  The reading that holds the tries: ZZnewTrieReading (11), trieTable (41), ZZreadingTrieTable (12), ZZreadingTrie (13), ZZreadingTries (14).
-/
import Derived.Test.Qxb6616313aBitLen
import Derived.Deep.OwnRows
import Derived.Deep.Heap
namespace Go.Proofs.Qxb6616313a
open Go.RowKit
set_option linter.unusedVariables false
set_option linter.unusedSimpArgs false

theorem info100 : (Try.prog.info? 100).map (fun i => (i.zero, i.size, i.bytes)) = some (some (.agg #[.int .i64 0, .int .u64 0, .int .i64 0, .int .i64 0]), 4, 32) := by kernel_rfl
theorem info35 : (Try.prog.info? 35).map (fun i => (i.zero, i.size, i.bytes)) = some (some (.agg #[.pointer none]), 1, 8) := by kernel_rfl

/-- A reading at block L: its names, its records, its table of tries, its room. -/
structure Rd (w : World) (L : Nat) (a : Option Addr) (n c : Nat) (r : Option Addr) (m mc : Nat) (tv rv : Value) : Prop where
  lt : L < w.heap.size
  c2 : w.cell? ⟨L, 2, none⟩ = some (.slice a n c)
  c4 : w.cell? ⟨L, 4, none⟩ = some (.slice r m mc)
  c14 : w.cell? ⟨L, 14, none⟩ = some tv
  c15 : w.cell? ⟨L, 15, none⟩ = some rv
  f14 : w.frozen? ⟨L, 14, none⟩ = false
  f15 : w.frozen? ⟨L, 15, none⟩ = false

/-- 'make([]T, n)' of whatever element. -/
theorem make_any {P : Program} (t e : TypeId) (z : Value) (zc : Array Value) (size bytes : Nat) (ht : P.underlying t = some (.slice e)) (hinfo : (P.info? e).map (fun i => (i.zero, i.size, i.bytes)) = some (some z, size, bytes)) (hz : z.cells = zc)
    (n : Nat) (hb : bytes * n ≤ 281474976710656) (hn : n ≤ 9223372036854775807) (w : World) :
    (Instr.makeSlice t (.int .i64 (n : Int)) (.int .i64 (n : Int))).run P w = .ok (.slice (some ⟨w.heap.size, 0, none⟩) n n) (w.alloc (.cells (madeCells zc (n * size)) e)) := by
  obtain ⟨i, hi, hzz⟩ := Option.map_eq_some_iff.1 hinfo
  simp only [Prod.mk.injEq] at hzz
  obtain ⟨hz0, hs, hbb⟩ := hzz
  have hb' : (i.bytes : Int) * (n : Int) ≤ 281474976710656 := by
    rw [hbb]
    have h : ((bytes * n : Nat) : Int) ≤ 281474976710656 := by omega
    rwa [Int.natCast_mul] at h
  have hr := run_make (P := P) w t e i z ht hi hz0 .i64 .i64 n n (by omega) (Int.le_refl _) hb' (by omega)
  simp only [Int.toNat_natCast, hs, hz] at hr
  exact hr

set_option maxRecDepth 100000 in
set_option maxHeartbeats 1000000 in
theorem newReading (a : Option Addr) (n c m : Nat) (w : World) (hm : m ≤ 16384) :
    Calls Try.prog 11 #[.slice a n c, .int .i64 (m : Int)] w fun e w' => ∃ L r, e = .returned (.pointer (some ⟨L, 0, none⟩)) ∧ w.heap.size ≤ L ∧ Rd w' L a n c r m m (.pointer none) (.slice none 0 0) ∧ Below w.heap.size w w' := by
  have hmk := make_any (P := Try.prog) 81 100 _ _ 4 32 Try.underlying81 info100 rfl m (by omega) (by omega)
  go_enter Try.func11, Try.ntmps11
  go_wp2
  go_ret
  refine ⟨w.heap.size + 1, some ⟨w.heap.size, 0, none⟩, rfl, by omega, ?_, ((Below.refl _ _).alloc (Nat.le_refl _) _).alloc (by simp) _⟩
  exact ⟨by simp, by go_simp, by go_simp, by go_simp, by go_simp, by go_simp, by go_simp⟩

set_option maxRecDepth 100000 in
set_option maxHeartbeats 1000000 in
theorem trieTable_first (L : Nat) (a : Option Addr) (n c : Nat) (r : Option Addr) (m mc : Nat) (w : World) (hn : n ≤ 65536) (hm : m ≤ 16384) (h : Rd w L a n c r m mc (.pointer none) (.slice none 0 0)) :
    Calls Try.prog 41 #[.pointer (some ⟨L, 0, none⟩)] w fun e w' => ∃ t g, e = .returned (.pointer (some ⟨t, 0, none⟩)) ∧ Rd w' L a n c r m mc (.pointer (some ⟨t, 0, none⟩)) (.slice (some ⟨g, 0, none⟩) m m) ∧ w'.rowIs g 35 m (fun _ => .pointer none) ∧ Below L w w' := by
  obtain ⟨hlt, c2, c4, c14, c15, f14, f15⟩ := h
  have hmk := make_any (P := Try.prog) 30 35 _ _ 1 8 Try.underlying30 info35 rfl m (by omega) (by omega)
  go_enter Try.func41, Try.ntmps41
  go_wp2_with fail
  refine (newTries n _ hn).mono ?_
  rintro e w1 ⟨⟨t, rfl, ht⟩, hb⟩
  have d2 := (hb.cell (p := ⟨L, 2, none⟩) hlt).trans c2
  have d4 := (hb.cell (p := ⟨L, 4, none⟩) hlt).trans c4
  have d14 := (hb.cell (p := ⟨L, 14, none⟩) hlt).trans c14
  have d15 := (hb.cell (p := ⟨L, 15, none⟩) hlt).trans c15
  have e14 := (hb.frozen (p := ⟨L, 14, none⟩) hlt).trans f14
  have e15 := (hb.frozen (p := ⟨L, 15, none⟩) hlt).trans f15
  have hlt1 : L < w1.heap.size := Nat.lt_of_lt_of_le hlt hb.size
  have HB : Hid (Below L w w1) := hb.mono (Nat.le_of_lt hlt)
  clear hb c2 c4 c14 c15 f14 f15
  go_wp2
  go_ret
  refine ⟨t, w1.heap.size, rfl, ?_, ?_, ?_⟩
  · exact ⟨by simp [Deep.nblk_setCell]; omega, by go_simp, by go_simp, by go_simp, by go_simp, by go_simp, by go_simp⟩
  · have hz : ((w1.setCell ⟨L, 14, none⟩ (.pointer (some ⟨t, 0, none⟩))).setCell ⟨L, 15, none⟩ (.slice (some ⟨w1.heap.size, 0, none⟩) m m)).heap.size = w1.heap.size := by rw [Deep.nblk_setCell, Deep.nblk_setCell]
    have := World.rowIs_made ((w1.setCell ⟨L, 14, none⟩ (.pointer (some ⟨t, 0, none⟩))).setCell ⟨L, 15, none⟩ (.slice (some ⟨w1.heap.size, 0, none⟩) m m)) (.pointer none) m 35
    rw [hz] at this
    exact this
  · have h1 := (HB.out.setCell (Nat.le_refl _) (.pointer (some ⟨t, 0, none⟩)) : Below L w (w1.setCell ⟨L, 14, none⟩ _))
    have h2 := (h1.setCell (Nat.le_refl _) (.slice (some ⟨w1.heap.size, 0, none⟩) m m) : Below L w ((w1.setCell ⟨L, 14, none⟩ _).setCell ⟨L, 15, none⟩ _))
    exact h2.alloc (by rw [Deep.nblk_setCell, Deep.nblk_setCell]; omega) _

set_option maxRecDepth 100000 in
set_option maxHeartbeats 1000000 in
theorem trieTable_again (L : Nat) (a : Option Addr) (n c : Nat) (r : Option Addr) (m mc : Nat) (t : Nat) (rv : Value) (w : World) (h : Rd w L a n c r m mc (.pointer (some ⟨t, 0, none⟩)) rv) :
    Calls Try.prog 41 #[.pointer (some ⟨L, 0, none⟩)] w fun e w' => e = .returned (.pointer (some ⟨t, 0, none⟩)) ∧ w' = w := by
  have c14 := h.c14
  clear h
  go_enter Try.func41, Try.ntmps41
  go_wp2
  go_ret
  exact ⟨rfl, rfl⟩

set_option maxHeartbeats 400000 in
theorem readTable_first (L : Nat) (a : Option Addr) (n c : Nat) (r : Option Addr) (m mc : Nat) (w : World) (hn : n ≤ 65536) (hm : m ≤ 16384) (h : Rd w L a n c r m mc (.pointer none) (.slice none 0 0)) :
    Calls Try.prog 12 #[.pointer (some ⟨L, 0, none⟩)] w fun e w' => ∃ t g, e = .returned (.pointer (some ⟨t, 0, none⟩)) ∧ Rd w' L a n c r m mc (.pointer (some ⟨t, 0, none⟩)) (.slice (some ⟨g, 0, none⟩) m m) ∧ w'.rowIs g 35 m (fun _ => .pointer none) ∧ Below L w w' := by
  go_enter Try.func12, Try.ntmps12
  go_wp2_with fail
  refine (trieTable_first L a n c r m mc _ hn hm (by exact h)).mono ?_
  rintro e w1 ⟨t, g, rfl, h1, h2, h3⟩
  go_wp2
  go_ret
  exact ⟨t, g, rfl, h1, h2, h3⟩

set_option maxHeartbeats 400000 in
theorem readTable_again (L : Nat) (a : Option Addr) (n c : Nat) (r : Option Addr) (m mc : Nat) (t : Nat) (rv : Value) (w : World) (h : Rd w L a n c r m mc (.pointer (some ⟨t, 0, none⟩)) rv) :
    Calls Try.prog 12 #[.pointer (some ⟨L, 0, none⟩)] w fun e w' => e = .returned (.pointer (some ⟨t, 0, none⟩)) ∧ w' = w := by
  go_enter Try.func12, Try.ntmps12
  go_wp2_with fail
  refine (trieTable_again L a n c r m mc t rv _ (by exact h)).mono ?_
  rintro e w1 ⟨rfl, rfl⟩
  go_wp2
  go_ret
  exact ⟨rfl, rfl⟩

set_option maxHeartbeats 400000 in
theorem readTrie (L : Nat) (v : Value) (w : World) (h : w.cell? ⟨L, 15, none⟩ = some v) :
    Calls Try.prog 13 #[.pointer (some ⟨L, 0, none⟩)] w fun e w' => e = .returned v ∧ w' = w := by
  go_enter Try.func13, Try.ntmps13
  go_wp2
  go_ret
  exact ⟨rfl, rfl⟩

set_option maxHeartbeats 400000 in
theorem readTries (L : Nat) (v : Value) (w : World) (h : w.cell? ⟨L, 14, none⟩ = some v) :
    Calls Try.prog 14 #[.pointer (some ⟨L, 0, none⟩)] w fun e w' => e = .returned v ∧ w' = w := by
  go_enter Try.func14, Try.ntmps14
  go_wp2
  go_ret
  exact ⟨rfl, rfl⟩

end Go.Proofs.Qxb6616313a

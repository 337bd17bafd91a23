/-
  (document).result (15) where both names are good.
-/
import Derived.Test.Qxb6616284aFmtDoc
namespace Go.Proofs.Qxb6616284aFmt
open Go.RowKit Go.Extern.Stop Go.Stop Go.Extern
set_option linter.unusedVariables false
set_option linter.unusedSimpArgs false

set_option maxHeartbeats 1000000 in
theorem result_yy (F : Interp) (b : Nat) (k nm : ByteArray) (ev : Value) (hev : IsErr ev) (n : Int) (w : World) (hF : F.answers w.tape) (hb : b < w.heap.size) (hk : k.size ≤ 524288) (hn : nm.size ≤ 524288)
    (c2 : w.cell? ⟨b, 2, none⟩ = some (.string k)) (c3 : w.cell? ⟨b, 3, none⟩ = some (.string nm)) (c4 : w.cell? ⟨b, 4, none⟩ = some .nilIface) (c5 : w.cell? ⟨b, 5, none⟩ = some ev)
    (h1 : nameOk k = true) (h2 : nameOk nm = true) :
    Calls Tryf.prog 15 #[.pointer (some ⟨b, 0, none⟩), .int .i64 n] w fun e w' =>
      e = .returned (.agg #[.string (label F k nm n), .nilIface, ev]) ∧ Below w.heap.size w w' := by
  have hF' := answers_open hF
  have HL : Hid (label F k nm n = k ++ ⟨#[47]⟩ ++ nm) := lbl_yes h1 h2
  have HN : Hid (nameOk k = true) := h1
  clear h1
  have HM : Hid (nameOk nm = true) := h2
  clear h2
  rcases hev with rfl | ⟨a, rfl⟩
  all_goals
    rw [HL.out]
    go_enter Tryf.func15, Tryf.ntmps15
    go_wp2
    apply rows_value Tryf.nextTurns
    case hr =>
      go_simp
      exact ⟨rfl, rfl⟩
    case h =>
      go_wp2_with fail
      refine (validName k _ (by unfold maxLen; omega)).mono ?_
      rintro e w1 ⟨rfl, hb1⟩
      rw [HN.out]
      have d2 : w1.cell? ⟨b, 2, none⟩ = some (.string k) := (hb1.cell (p := ⟨b, 2, none⟩) (by simp; omega)).trans (by simp [World.cell?_alloc_lt, hb, Nat.lt_succ_of_lt, c2])
      have d3 : w1.cell? ⟨b, 3, none⟩ = some (.string nm) := (hb1.cell (p := ⟨b, 3, none⟩) (by simp; omega)).trans (by simp [World.cell?_alloc_lt, hb, Nat.lt_succ_of_lt, c3])
      have d4 : w1.cell? ⟨b, 4, none⟩ = some .nilIface := (hb1.cell (p := ⟨b, 4, none⟩) (by simp; omega)).trans (by simp [World.cell?_alloc_lt, hb, Nat.lt_succ_of_lt, c4])
      have d5 : w1.cell? ⟨b, 5, none⟩ = some _ := (hb1.cell (p := ⟨b, 5, none⟩) (by simp; omega)).trans (by simp [World.cell?_alloc_lt, hb, Nat.lt_succ_of_lt, c5]; rfl)
      have r0 : w1.cell? ⟨w.heap.size, 0, none⟩ = some (.string ⟨#[]⟩) := (hb1.cell (p := ⟨w.heap.size, 0, none⟩) (by simp; omega)).trans (by go_simp)
      have r1 : w1.cell? ⟨w.heap.size, 1, none⟩ = some .nilIface := (hb1.cell (p := ⟨w.heap.size, 1, none⟩) (by simp; omega)).trans (by go_simp)
      have r2 : w1.cell? ⟨w.heap.size, 2, none⟩ = some .nilIface := (hb1.cell (p := ⟨w.heap.size, 2, none⟩) (by simp; omega)).trans (by go_simp)
      have f0 : w1.frozen? ⟨w.heap.size, 0, none⟩ = false := (hb1.frozen (p := ⟨w.heap.size, 0, none⟩) (by simp; omega)).trans (by go_simp)
      have f1 : w1.frozen? ⟨w.heap.size, 1, none⟩ = false := (hb1.frozen (p := ⟨w.heap.size, 1, none⟩) (by simp; omega)).trans (by go_simp)
      have f2 : w1.frozen? ⟨w.heap.size, 2, none⟩ = false := (hb1.frozen (p := ⟨w.heap.size, 2, none⟩) (by simp; omega)).trans (by go_simp)
      have hz : w.heap.size + 1 < w1.heap.size := by have := hb1.size; simp at this; omega
      have HB : Hid (Below w.heap.size w w1) := ((((Below.refl _ _).alloc (Nat.le_refl _) _).alloc (by simp) _).drew).trans (hb1.mono (by simp; omega))
      clear hb1
      go_wp2_with fail
      refine (validName nm _ (by unfold maxLen; omega)).mono ?_
      rintro e w2 ⟨rfl, hb2⟩
      rw [HM.out]
      have hbz : b < w1.heap.size := by omega
      have hwz : w.heap.size < w1.heap.size := by omega
      have g2 := (hb2.cell (p := ⟨b, 2, none⟩) hbz).trans d2
      have g3 := (hb2.cell (p := ⟨b, 3, none⟩) hbz).trans d3
      have g4 := (hb2.cell (p := ⟨b, 4, none⟩) hbz).trans d4
      have g5 := (hb2.cell (p := ⟨b, 5, none⟩) hbz).trans d5
      have s0 := (hb2.cell (p := ⟨w.heap.size, 0, none⟩) hwz).trans r0
      have s1 := (hb2.cell (p := ⟨w.heap.size, 1, none⟩) hwz).trans r1
      have s2 := (hb2.cell (p := ⟨w.heap.size, 2, none⟩) hwz).trans r2
      have u0 := (hb2.frozen (p := ⟨w.heap.size, 0, none⟩) hwz).trans f0
      have u1 := (hb2.frozen (p := ⟨w.heap.size, 1, none⟩) hwz).trans f1
      have u2 := (hb2.frozen (p := ⟨w.heap.size, 2, none⟩) hwz).trans f2
      have hz2 : w.heap.size + 1 < w2.heap.size := by have := hb2.size; omega
      have HB2 : Hid (Below w.heap.size w w2) := HB.out.trans (hb2.mono (by omega))
      have hbz2 : b < w2.heap.size := by omega
      have hwz2 : w.heap.size < w2.heap.size := by omega
      clear hb2 d2 d3 d4 d5 r0 r1 r2 f0 f1 f2 hz HB hbz hwz
      go_wp2_with fail
      go_region_with (go_at_call 21; refine (refString k nm _ hk hn).mono ?_; rintro e w3 ⟨rfl, rfl⟩)
      all_goals (try go_wp2)
      all_goals go_region
      all_goals (try go_wp2)
      all_goals
        refine bodyPost_ret (v := .agg #[.string (k ++ ⟨#[47]⟩ ++ nm), .nilIface, _]) (by simp [results, Tryf.results15, go_sem, s0, s1, s2, hwz2]) rfl ⟨rfl, ?_⟩
        repeat (first | exact HB2.out | refine Below.drew ?_ | refine Below.setCell ?_ (by exact Nat.le_refl _) _ | refine Below.alloc ?_ (by simp; omega) _)

end Go.Proofs.Qxb6616284aFmt

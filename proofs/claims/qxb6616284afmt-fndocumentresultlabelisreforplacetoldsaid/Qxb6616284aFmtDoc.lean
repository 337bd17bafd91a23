/-
  The document's result: (Ref).String (21), (document).result (15), ZZdocumentResult (10).
-/
import Derived.Test.Qxb6616284aFmtFacts
import Derived.Test.Qxb6616284aFmtName
import Derived.WalkKit
import Derived.WalkSpells
import Derived.BigQuiet
import Derived.Deep.QuietTactic
import Derived.Deep.RegionWith
namespace Go.Proofs.Qxb6616284aFmt
open Go.RowKit Go.Extern.Stop Go.Stop Go.Extern
set_option linter.unusedVariables false
set_option linter.unusedSimpArgs false

set_option maxHeartbeats 400000 in
theorem refString (k n : ByteArray) (w : World) (hk : k.size ≤ 524288) (hn : n.size ≤ 524288) :
    Calls Tryf.prog 21 #[.agg #[.string k, .string n]] w fun e w' => e = .returned (.string (k ++ ⟨#[47]⟩ ++ n)) ∧ w' = w.alloc (.cells #[.string k, .string n] 64) := by
  go_enter Tryf.func21, Tryf.ntmps21
  go_wp2
  go_ret
  exact ⟨rfl, rfl⟩

/-- What fmt is asked for a place: the format 'document %d', the operand an int. -/
def docReading (n : Int) : List (List UInt8) :=
  [[100, 111, 99, 117, 109, 101, 110, 116, 32, 37, 100], Tryf.shape3, digits 8 (n % 18446744073709551616).toNat]

/-- The label. -/
def label (F : Interp) (k nm : ByteArray) (n : Int) : ByteArray :=
  if nameOk k && nameOk nm then k ++ ⟨#[47]⟩ ++ nm else FmtStop.textOf (F "fmt.Sprintf" (docReading n) 0)

theorem bcell {W w1 : World} (hb : Below W.heap.size W w1) : (∀ b o, b < W.heap.size → w1.cell? ⟨b, o, none⟩ = W.cell? ⟨b, o, none⟩) ∧ (∀ b o, b < W.heap.size → w1.frozen? ⟨b, o, none⟩ = W.frozen? ⟨b, o, none⟩) :=
  ⟨fun b o h => hb.cell (p := ⟨b, o, none⟩) h, fun b o h => hb.frozen (p := ⟨b, o, none⟩) h⟩

/-- What an error's interface value can be here: nil, or a pointer of errors.New's make. -/
def IsErr (ev : Value) : Prop := ev = .nilIface ∨ ∃ a, ev = .iface 66 (.pointer (some a))

theorem lbl_yes {F : Interp} {k nm : ByteArray} {n : Int} (h1 : nameOk k = true) (h2 : nameOk nm = true) : label F k nm n = k ++ ⟨#[47]⟩ ++ nm := by simp [label, h1, h2]
theorem lbl_no1 {F : Interp} {k nm : ByteArray} {n : Int} (h1 : nameOk k = false) : label F k nm n = FmtStop.textOf (F "fmt.Sprintf" (docReading n) 0) := by simp [label, h1]
theorem lbl_no2 {F : Interp} {k nm : ByteArray} {n : Int} (h2 : nameOk nm = false) : label F k nm n = FmtStop.textOf (F "fmt.Sprintf" (docReading n) 0) := by simp [label, h2]

set_option maxHeartbeats 1000000 in
theorem result_no (F : Interp) (b : Nat) (k nm : ByteArray) (ev : Value) (hev : IsErr ev) (n : Int) (w : World) (hF : F.answers w.tape) (hb : b < w.heap.size) (hk : k.size ≤ 524288) (hn : nm.size ≤ 524288)
    (c2 : w.cell? ⟨b, 2, none⟩ = some (.string k)) (c3 : w.cell? ⟨b, 3, none⟩ = some (.string nm)) (c4 : w.cell? ⟨b, 4, none⟩ = some .nilIface) (c5 : w.cell? ⟨b, 5, none⟩ = some ev)
    (h1 : nameOk k = false) :
    Calls Tryf.prog 15 #[.pointer (some ⟨b, 0, none⟩), .int .i64 n] w fun e w' =>
      e = .returned (.agg #[.string (label F k nm n), .nilIface, ev]) ∧ Below w.heap.size w w' := by
  have hF' := answers_open hF
  have HL : Hid (label F k nm n = FmtStop.textOf (F "fmt.Sprintf" (docReading n) 0)) := lbl_no1 h1
  have HN : Hid (nameOk k = false) := h1
  clear h1
  rcases hev with rfl | ⟨a, rfl⟩
  all_goals
    rw [HL.out]
    go_enter Tryf.func15, Tryf.ntmps15
    go_wp2
    apply rows_value Tryf.nextTurns
    case hr =>
      go_simp
      exact ⟨rfl, rfl⟩
    case h =>
      go_wp2_with fail
      refine (validName k _ (by unfold maxLen; omega)).mono ?_
      rintro e w1 ⟨rfl, hb1⟩
      rw [HN.out]
      have d4 : w1.cell? ⟨b, 4, none⟩ = some .nilIface := (hb1.cell (p := ⟨b, 4, none⟩) (by simp; omega)).trans (by simp [World.cell?_alloc_lt, hb, Nat.lt_succ_of_lt, c4])
      have d5 : w1.cell? ⟨b, 5, none⟩ = some _ := (hb1.cell (p := ⟨b, 5, none⟩) (by simp; omega)).trans (by simp [World.cell?_alloc_lt, hb, Nat.lt_succ_of_lt, c5]; rfl)
      have r0 : w1.cell? ⟨w.heap.size, 0, none⟩ = some (.string ⟨#[]⟩) := (hb1.cell (p := ⟨w.heap.size, 0, none⟩) (by simp; omega)).trans (by go_simp)
      have r1 : w1.cell? ⟨w.heap.size, 1, none⟩ = some .nilIface := (hb1.cell (p := ⟨w.heap.size, 1, none⟩) (by simp; omega)).trans (by go_simp)
      have r2 : w1.cell? ⟨w.heap.size, 2, none⟩ = some .nilIface := (hb1.cell (p := ⟨w.heap.size, 2, none⟩) (by simp; omega)).trans (by go_simp)
      have f0 : w1.frozen? ⟨w.heap.size, 0, none⟩ = false := (hb1.frozen (p := ⟨w.heap.size, 0, none⟩) (by simp; omega)).trans (by go_simp)
      have f1 : w1.frozen? ⟨w.heap.size, 1, none⟩ = false := (hb1.frozen (p := ⟨w.heap.size, 1, none⟩) (by simp; omega)).trans (by go_simp)
      have f2 : w1.frozen? ⟨w.heap.size, 2, none⟩ = false := (hb1.frozen (p := ⟨w.heap.size, 2, none⟩) (by simp; omega)).trans (by go_simp)
      have hz : w.heap.size + 1 < w1.heap.size := by have := hb1.size; simp at this; omega
      have HB : Hid (Below w.heap.size w w1) := ((((Below.refl _ _).alloc (Nat.le_refl _) _).alloc (by simp) _).drew).trans (hb1.mono (by simp; omega))
      clear hb1
      go_wp2
      go_region
      all_goals (try go_wp2)
      all_goals
        refine bodyPost_ret (v := .agg #[.string (FmtStop.textOf (F "fmt.Sprintf" (docReading n) 0)), .nilIface, _]) (by simp [results, Tryf.results15, go_sem, r0, r1, r2, hz]; rfl) rfl ⟨rfl, ?_⟩
        exact (((HB.out.setCell (Nat.le_refl _) _).setCell (Nat.le_refl _) _).setCell (Nat.le_refl _) _).drew

set_option maxHeartbeats 1000000 in
theorem result_yn (F : Interp) (b : Nat) (k nm : ByteArray) (ev : Value) (hev : IsErr ev) (n : Int) (w : World) (hF : F.answers w.tape) (hb : b < w.heap.size) (hk : k.size ≤ 524288) (hn : nm.size ≤ 524288)
    (c2 : w.cell? ⟨b, 2, none⟩ = some (.string k)) (c3 : w.cell? ⟨b, 3, none⟩ = some (.string nm)) (c4 : w.cell? ⟨b, 4, none⟩ = some .nilIface) (c5 : w.cell? ⟨b, 5, none⟩ = some ev)
    (h1 : nameOk k = true) (h2 : nameOk nm = false) :
    Calls Tryf.prog 15 #[.pointer (some ⟨b, 0, none⟩), .int .i64 n] w fun e w' =>
      e = .returned (.agg #[.string (label F k nm n), .nilIface, ev]) ∧ Below w.heap.size w w' := by
  have hF' := answers_open hF
  have HL : Hid (label F k nm n = FmtStop.textOf (F "fmt.Sprintf" (docReading n) 0)) := lbl_no2 h2
  have HN : Hid (nameOk k = true) := h1
  clear h1
  have HM : Hid (nameOk nm = false) := h2
  clear h2
  rcases hev with rfl | ⟨a, rfl⟩
  all_goals
    rw [HL.out]
    go_enter Tryf.func15, Tryf.ntmps15
    go_wp2
    apply rows_value Tryf.nextTurns
    case hr =>
      go_simp
      exact ⟨rfl, rfl⟩
    case h =>
      go_wp2_with fail
      refine (validName k _ (by unfold maxLen; omega)).mono ?_
      rintro e w1 ⟨rfl, hb1⟩
      rw [HN.out]
      have d2 : w1.cell? ⟨b, 2, none⟩ = some (.string k) := (hb1.cell (p := ⟨b, 2, none⟩) (by simp; omega)).trans (by simp [World.cell?_alloc_lt, hb, Nat.lt_succ_of_lt, c2])
      have d3 : w1.cell? ⟨b, 3, none⟩ = some (.string nm) := (hb1.cell (p := ⟨b, 3, none⟩) (by simp; omega)).trans (by simp [World.cell?_alloc_lt, hb, Nat.lt_succ_of_lt, c3])
      have d4 : w1.cell? ⟨b, 4, none⟩ = some .nilIface := (hb1.cell (p := ⟨b, 4, none⟩) (by simp; omega)).trans (by simp [World.cell?_alloc_lt, hb, Nat.lt_succ_of_lt, c4])
      have d5 : w1.cell? ⟨b, 5, none⟩ = some _ := (hb1.cell (p := ⟨b, 5, none⟩) (by simp; omega)).trans (by simp [World.cell?_alloc_lt, hb, Nat.lt_succ_of_lt, c5]; rfl)
      have r0 : w1.cell? ⟨w.heap.size, 0, none⟩ = some (.string ⟨#[]⟩) := (hb1.cell (p := ⟨w.heap.size, 0, none⟩) (by simp; omega)).trans (by go_simp)
      have r1 : w1.cell? ⟨w.heap.size, 1, none⟩ = some .nilIface := (hb1.cell (p := ⟨w.heap.size, 1, none⟩) (by simp; omega)).trans (by go_simp)
      have r2 : w1.cell? ⟨w.heap.size, 2, none⟩ = some .nilIface := (hb1.cell (p := ⟨w.heap.size, 2, none⟩) (by simp; omega)).trans (by go_simp)
      have f0 : w1.frozen? ⟨w.heap.size, 0, none⟩ = false := (hb1.frozen (p := ⟨w.heap.size, 0, none⟩) (by simp; omega)).trans (by go_simp)
      have f1 : w1.frozen? ⟨w.heap.size, 1, none⟩ = false := (hb1.frozen (p := ⟨w.heap.size, 1, none⟩) (by simp; omega)).trans (by go_simp)
      have f2 : w1.frozen? ⟨w.heap.size, 2, none⟩ = false := (hb1.frozen (p := ⟨w.heap.size, 2, none⟩) (by simp; omega)).trans (by go_simp)
      have hz : w.heap.size + 1 < w1.heap.size := by have := hb1.size; simp at this; omega
      have HB : Hid (Below w.heap.size w w1) := ((((Below.refl _ _).alloc (Nat.le_refl _) _).alloc (by simp) _).drew).trans (hb1.mono (by simp; omega))
      clear hb1
      go_wp2_with fail
      refine (validName nm _ (by unfold maxLen; omega)).mono ?_
      rintro e w2 ⟨rfl, hb2⟩
      rw [HM.out]
      have hbz : b < w1.heap.size := by omega
      have hwz : w.heap.size < w1.heap.size := by omega
      have g2 := (hb2.cell (p := ⟨b, 2, none⟩) hbz).trans d2
      have g3 := (hb2.cell (p := ⟨b, 3, none⟩) hbz).trans d3
      have g4 := (hb2.cell (p := ⟨b, 4, none⟩) hbz).trans d4
      have g5 := (hb2.cell (p := ⟨b, 5, none⟩) hbz).trans d5
      have s0 := (hb2.cell (p := ⟨w.heap.size, 0, none⟩) hwz).trans r0
      have s1 := (hb2.cell (p := ⟨w.heap.size, 1, none⟩) hwz).trans r1
      have s2 := (hb2.cell (p := ⟨w.heap.size, 2, none⟩) hwz).trans r2
      have u0 := (hb2.frozen (p := ⟨w.heap.size, 0, none⟩) hwz).trans f0
      have u1 := (hb2.frozen (p := ⟨w.heap.size, 1, none⟩) hwz).trans f1
      have u2 := (hb2.frozen (p := ⟨w.heap.size, 2, none⟩) hwz).trans f2
      have hz2 : w.heap.size + 1 < w2.heap.size := by have := hb2.size; omega
      have HB2 : Hid (Below w.heap.size w w2) := HB.out.trans (hb2.mono (by omega))
      have hbz2 : b < w2.heap.size := by omega
      have hwz2 : w.heap.size < w2.heap.size := by omega
      clear hb2 d2 d3 d4 d5 r0 r1 r2 f0 f1 f2 hz HB hbz hwz
      go_wp2
      go_region
      all_goals (try go_wp2)
      all_goals
        refine bodyPost_ret (v := .agg #[.string (FmtStop.textOf (F "fmt.Sprintf" (docReading n) 0)), .nilIface, _]) (by simp [results, Tryf.results15, go_sem, s0, s1, s2, hz2]; rfl) rfl ⟨rfl, ?_⟩
        exact (((HB2.out.setCell (Nat.le_refl _) _).setCell (Nat.le_refl _) _).setCell (Nat.le_refl _) _).drew


end Go.Proofs.Qxb6616284aFmt

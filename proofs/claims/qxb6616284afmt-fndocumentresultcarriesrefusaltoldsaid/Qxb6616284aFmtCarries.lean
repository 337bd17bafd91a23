/-
  The walk of FnDocumentResultCarriesRefusal (function 5).
-/
import Derived.Test.Qxb6616284aFmtLabel
namespace Go.Proofs.Qxb6616284aFmt
open Go.RowKit Go.Extern.Stop Go.Stop Go.Extern
set_option linter.unusedVariables false

set_option maxHeartbeats 400000 in
theorem bytes12 (k nm : ByteArray) (n : Int) (b : Bool) (w : World) (hk : k.size ≤ 524288) (hn : nm.size ≤ 524288) :
    Calls Tryf.prog 12 #[.string k, .string nm, .int .i64 n, .bool b] w fun e w' => e = .returned (.bool true) ∧ w' = w := by
  go_enter Tryf.func12, Tryf.ntmps12
  go_wp2
  go_ret
  exact ⟨rfl, rfl⟩

set_option maxHeartbeats 400000 in
theorem new13 (k nm : ByteArray) (b : Bool) (w : World) :
    Calls Tryf.prog 13 #[.string k, .string nm, .bool b] w fun e w' => ∃ d a, e = .returned (.pointer (some ⟨d, 0, none⟩)) ∧ Doc w' d k nm (.iface 66 (.pointer (some a))) ∧ Below w.heap.size w w' := by
  go_enter Tryf.func13, Tryf.ntmps13
  go_wp2
  go_ret
  refine ⟨w.heap.size + 1, ⟨w.heap.size, 0, none⟩, rfl, ?_, ?_⟩
  · exact ⟨by simp, by go_simp, by go_simp, by go_simp, by go_simp⟩
  · exact ((Below.refl _ _).alloc (Nat.le_refl _) _).alloc (by simp) _

set_option maxHeartbeats 400000 in
theorem carries_big (k nm : ByteArray) (n : Int) (b : Bool) (w : World) (hk : k.size ≤ maxLen) (hn : nm.size ≤ maxLen) (h : 524288 < k.size ∨ 524288 < nm.size) :
    Calls Tryf.prog 5 #[.string k, .string nm, .int .i64 n, .bool b] w fun e w' => e = .returned (.bool true) ∧ Below w.heap.size w w' := by
  unfold maxLen at hk hn
  by_cases a1 : 1048576 < k.size
  · clear h
    go_enter Tryf.func5, Tryf.ntmps5
    go_wp2
    go_ret
    exact ⟨rfl, Below.refl _ _⟩
  by_cases a2 : 1048576 < nm.size
  · clear h
    go_enter Tryf.func5, Tryf.ntmps5
    go_wp2
    go_ret
    exact ⟨rfl, Below.refl _ _⟩
  by_cases a3 : 1048576 < k.size + nm.size
  · clear h
    go_enter Tryf.func5, Tryf.ntmps5
    go_wp2
    go_ret
    exact ⟨rfl, Below.refl _ _⟩
  by_cases a4 : 524288 < k.size
  · clear h
    go_enter Tryf.func5, Tryf.ntmps5
    go_wp2
    go_ret
    exact ⟨rfl, Below.refl _ _⟩
  have a5 : 524288 < nm.size := by omega
  clear h
  go_enter Tryf.func5, Tryf.ntmps5
  go_wp2
  go_ret
  exact ⟨rfl, Below.refl _ _⟩

set_option maxHeartbeats 2000000 in
theorem carries_in (F : Interp) (k nm : ByteArray) (n : Int) (b : Bool) (w : World) (hF : F.answers w.tape) (hk : k.size ≤ 524288) (hn : nm.size ≤ 524288) :
    Calls Tryf.prog 5 #[.string k, .string nm, .int .i64 n, .bool b] w fun e w' => e = .returned (.bool true) ∧ Below w.heap.size w w' := by
  obtain ⟨L, HL⟩ : ∃ L, Hid (label F k nm n = L) := ⟨_, rfl⟩
  have HY : Hid (nameOk k = true → nameOk nm = true → L = k ++ ⟨#[47]⟩ ++ nm) := fun h1 h2 => by rw [← HL.out, lbl_yes h1 h2]
  go_enter Tryf.func5, Tryf.ntmps5
  go_wp2_with fail
  refine (bytes12 k nm n b _ hk hn).mono ?_
  rintro e w1 ⟨rfl, rfl⟩
  go_wp2_with fail
  refine (new9 k nm b _).mono ?_
  rintro e w2 ⟨rfl, hw2⟩
  have hd2 : Doc w2 w1.heap.size k nm .nilIface := by rw [← hw2]; exact doc_new _ _ _ _ _
  have hB2 : Below w1.heap.size w1 w2 := by rw [← hw2]; exact (Below.refl _ _).alloc (Nat.le_refl _) _
  clear hw2
  obtain ⟨p0, hp0⟩ : ∃ p0, p0 = w1.heap.size := ⟨_, rfl⟩
  rw [← hp0] at hd2 ⊢
  clear hp0
  go_wp2_with fail
  refine (new13 k nm b _).mono ?_
  rintro e w3 ⟨p1, q1, rfl, he3, hb3⟩
  have hd3 := hd2.below hb3
  have hB3 := hB2.trans (hb3.mono hB2.size)
  clear hd2 hb3 hB2
  go_wp2_with fail
  refine (new13 k nm (!b) _).mono ?_
  rintro e w4 ⟨p2, q2, rfl, hg4, hb4⟩
  have hd4 := hd3.below hb4
  have he4 := he3.below hb4
  have hB4 := hB3.trans (hb4.mono hB3.size)
  have hF4 : F.answers w4.tape := by rw [hB4.tape]; exact hF
  clear hd3 he3 hb4 hB3
  go_wp2_with fail
  refine (doc_good F p0 k nm n _ (by exact hF4) hk hn (by exact hd4)).mono ?_
  rintro e w5 ⟨rfl, hb5⟩
  rw [HL.out]
  have he5 := he4.below hb5
  have hg5 := hg4.below hb5
  have hF5 : F.answers w5.tape := by rw [hb5.tape]; exact hF4
  have hB5 := hB4.trans (hb5.mono hB4.size)
  clear hd4 he4 hg4 hF4 hb5 hB4
  go_wp2_with fail
  refine (doc_bad F p1 k nm q1 n _ (by exact hF5) hk hn (by exact he5)).mono ?_
  rintro e w6 ⟨rfl, hb6⟩
  rw [HL.out]
  have hg6 := hg5.below hb6
  have hF6 : F.answers w6.tape := by rw [hb6.tape]; exact hF5
  have hB6 := hB5.trans (hb6.mono hB5.size)
  clear he5 hg5 hF5 hb6 hB5
  go_wp2_with fail
  refine (doc_bad F p2 k nm q2 n _ (by exact hF6) hk hn (by exact hg6)).mono ?_
  rintro e w7 ⟨rfl, hb7⟩
  rw [HL.out]
  have hB7 := hB6.trans (hb7.mono hB6.size)
  clear hg6 hF6 hb7 hB6
  go_wp2_with fail
  refine (printable k _ (by unfold maxLen; omega)).mono ?_
  rintro e w8 ⟨rfl, rfl⟩
  cases h1 : nameOk k with
  | false =>
    go_wp2
    go_ret
    exact ⟨rfl, hB7⟩
  | true =>
    have H1 : Hid (nameOk k = true) := h1
    clear h1
    go_wp2_with fail
    refine (printable nm _ (by unfold maxLen; omega)).mono ?_
    rintro e w8 ⟨rfl, rfl⟩
    cases h2 : nameOk nm with
    | false =>
      go_wp2
      go_ret
      exact ⟨rfl, hB7⟩
    | true =>
      have e := HY.out H1.out h2
      rw [e]
      clear h2 e
      go_wp2
      go_ret
      exact ⟨rfl, hB7⟩

theorem carries_any (F : Interp) (k nm : ByteArray) (n : Int) (b : Bool) (w : World) (hF : F.answers w.tape) (hk : k.size ≤ maxLen) (hn : nm.size ≤ maxLen) :
    Calls Tryf.prog 5 #[.string k, .string nm, .int .i64 n, .bool b] w fun e w' => e = .returned (.bool true) ∧ Below w.heap.size w w' := by
  by_cases a1 : 524288 < k.size
  · exact carries_big k nm n b w hk hn (.inl a1)
  by_cases a2 : 524288 < nm.size
  · exact carries_big k nm n b w hk hn (.inr a2)
  exact carries_in F k nm n b w hF (by omega) (by omega)

end Go.Proofs.Qxb6616284aFmt

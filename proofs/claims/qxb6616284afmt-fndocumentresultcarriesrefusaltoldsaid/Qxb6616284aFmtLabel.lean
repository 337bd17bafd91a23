/-
  The walk of FnDocumentResultLabelIsRefOrPlace (function 4).
-/
import Derived.Test.Qxb6616284aFmtDocRes
namespace Go.Proofs.Qxb6616284aFmt
open Go.RowKit Go.Extern.Stop Go.Stop Go.Extern
set_option linter.unusedVariables false

set_option maxHeartbeats 400000 in
theorem bytes8 (k nm : ByteArray) (n m : Int) (b : Bool) (w : World) (hk : k.size ≤ 524288) (hn : nm.size ≤ 524288) :
    Calls Tryf.prog 8 #[.string k, .string nm, .int .i64 n, .int .i64 m, .bool b] w fun e w' => e = .returned (.bool true) ∧ w' = w := by
  go_enter Tryf.func8, Tryf.ntmps8
  go_wp2
  go_ret
  exact ⟨rfl, rfl⟩

theorem nameOk_empty : nameOk ⟨#[]⟩ = false := by simp [nameOk]

/-- The block that ZZnewDocument lays. -/
def docObj (b : Bool) (k nm : ByteArray) (ev : Value) : Obj := .cells #[.nilFunc, .bool b, .string k, .string nm, .nilIface, ev] 42

set_option maxHeartbeats 400000 in
theorem new9 (k nm : ByteArray) (b : Bool) (w : World) :
    Calls Tryf.prog 9 #[.string k, .string nm, .bool b] w fun e w' => e = .returned (.pointer (some ⟨w.heap.size, 0, none⟩)) ∧ w.alloc (docObj b k nm .nilIface) = w' := by
  go_enter Tryf.func9, Tryf.ntmps9
  go_wp2
  go_ret
  exact ⟨rfl, rfl⟩

theorem doc_new (w : World) (b : Bool) (k nm : ByteArray) (ev : Value) : Doc (w.alloc (docObj b k nm ev)) w.heap.size k nm ev :=
  ⟨by simp, by unfold docObj; go_simp, by unfold docObj; go_simp, by unfold docObj; go_simp, by unfold docObj; go_simp⟩

set_option maxHeartbeats 400000 in
theorem label_big (k nm : ByteArray) (n m : Int) (b : Bool) (w : World) (hk : k.size ≤ maxLen) (hn : nm.size ≤ maxLen) (h : 524288 < k.size ∨ 524288 < nm.size) :
    Calls Tryf.prog 4 #[.string k, .string nm, .int .i64 n, .int .i64 m, .bool b] w fun e w' => e = .returned (.bool true) ∧ Below w.heap.size w w' := by
  unfold maxLen at hk hn
  by_cases a1 : 1048576 < k.size
  · clear h
    go_enter Tryf.func4, Tryf.ntmps4
    go_wp2
    go_ret
    exact ⟨rfl, Below.refl _ _⟩
  by_cases a2 : 1048576 < nm.size
  · clear h
    go_enter Tryf.func4, Tryf.ntmps4
    go_wp2
    go_ret
    exact ⟨rfl, Below.refl _ _⟩
  by_cases a3 : 1048576 < k.size + nm.size
  · clear h
    go_enter Tryf.func4, Tryf.ntmps4
    go_wp2
    go_ret
    exact ⟨rfl, Below.refl _ _⟩
  by_cases a4 : 524288 < k.size
  · clear h
    go_enter Tryf.func4, Tryf.ntmps4
    go_wp2
    go_ret
    exact ⟨rfl, Below.refl _ _⟩
  have a5 : 524288 < nm.size := by omega
  clear h
  go_enter Tryf.func4, Tryf.ntmps4
  go_wp2
  go_ret
  exact ⟨rfl, Below.refl _ _⟩

set_option maxHeartbeats 1000000 in
theorem label_yes (F : Interp) (k nm : ByteArray) (n m : Int) (b : Bool) (w : World) (hF : F.answers w.tape) (hk : k.size ≤ 524288) (hn : nm.size ≤ 524288) (h1 : nameOk k = true) (h2 : nameOk nm = true) :
    Calls Tryf.prog 4 #[.string k, .string nm, .int .i64 n, .int .i64 m, .bool b] w fun e w' => e = .returned (.bool true) ∧ Below w.heap.size w w' := by
  have HY : Hid (∀ n, label F k nm n = k ++ ⟨#[47]⟩ ++ nm) := fun n => lbl_yes h1 h2
  have H1 : Hid (nameOk k = true) := h1
  have H2 : Hid (nameOk nm = true) := h2
  clear h1 h2
  go_enter Tryf.func4, Tryf.ntmps4
  go_wp2_with fail
  refine (bytes8 k nm n m b _ hk hn).mono ?_
  rintro e w1 ⟨rfl, rfl⟩
  go_wp2_with fail
  refine (new9 k nm b _).mono ?_
  rintro e w2 ⟨rfl, hw2⟩
  have hd2 : Doc w2 w1.heap.size k nm .nilIface := by rw [← hw2]; exact doc_new _ _ _ _ _
  have hB2 : Below w1.heap.size w1 w2 := by rw [← hw2]; exact (Below.refl _ _).alloc (Nat.le_refl _) _
  have hF2 : F.answers w2.tape := by rw [hB2.tape]; exact hF
  clear hw2
  go_wp2_with fail
  refine (doc_good F w1.heap.size k nm n _ (by exact hF2) hk hn (by exact hd2)).mono ?_
  rintro e w3 ⟨rfl, hb3⟩
  rw [HY.out]
  have hd3 := hd2.below hb3
  have hF3 : F.answers w3.tape := by rw [hb3.tape]; exact hF2
  have hB3 := hB2.trans (hb3.mono hB2.size)
  clear hd2 hF2 hb3 hB2
  go_wp2_with fail
  refine (doc_good F w1.heap.size k nm m _ (by exact hF3) hk hn (by exact hd3)).mono ?_
  rintro e w4 ⟨rfl, hb4⟩
  rw [HY.out]
  have hB4 := hB3.trans (hb4.mono hB3.size)
  clear hd3 hF3 hb4 hB3
  go_wp2_with fail
  refine (printable k _ (by unfold maxLen; omega)).mono ?_
  rintro e w5 ⟨rfl, rfl⟩
  rw [H1.out]
  go_wp2_with fail
  refine (printable nm _ (by unfold maxLen; omega)).mono ?_
  rintro e w5 ⟨rfl, rfl⟩
  rw [H2.out]
  go_wp2
  go_ret
  exact ⟨rfl, hB4⟩

set_option maxHeartbeats 1000000 in
theorem label_no1 (F : Interp) (k nm : ByteArray) (n m : Int) (b : Bool) (w : World) (hF : F.answers w.tape) (hk : k.size ≤ 524288) (hn : nm.size ≤ 524288) (h1 : nameOk k = false) :
    Calls Tryf.prog 4 #[.string k, .string nm, .int .i64 n, .int .i64 m, .bool b] w fun e w' => e = .returned (.bool true) ∧ Below w.heap.size w w' := by
  have HY : Hid (∀ n, label F k nm n = FmtStop.textOf (F "fmt.Sprintf" (docReading n) 0)) := fun n => lbl_no1 h1
  have HZ : Hid (∀ n, label F ⟨#[]⟩ ⟨#[]⟩ n = FmtStop.textOf (F "fmt.Sprintf" (docReading n) 0)) := fun n => lbl_no1 nameOk_empty
  have H1 : Hid (nameOk k = false) := h1
  clear h1
  go_enter Tryf.func4, Tryf.ntmps4
  go_wp2_with fail
  refine (bytes8 k nm n m b _ hk hn).mono ?_
  rintro e w1 ⟨rfl, rfl⟩
  go_wp2_with fail
  refine (new9 k nm b _).mono ?_
  rintro e w2 ⟨rfl, hw2⟩
  have hd2 : Doc w2 w1.heap.size k nm .nilIface := by rw [← hw2]; exact doc_new _ _ _ _ _
  have hB2 : Below w1.heap.size w1 w2 := by rw [← hw2]; exact (Below.refl _ _).alloc (Nat.le_refl _) _
  have hF2 : F.answers w2.tape := by rw [hB2.tape]; exact hF
  clear hw2
  go_wp2_with fail
  refine (doc_good F w1.heap.size k nm n _ (by exact hF2) hk hn (by exact hd2)).mono ?_
  rintro e w3 ⟨rfl, hb3⟩
  rw [HY.out]
  have hd3 := hd2.below hb3
  have hF3 : F.answers w3.tape := by rw [hb3.tape]; exact hF2
  have hB3 := hB2.trans (hb3.mono hB2.size)
  clear hd2 hF2 hb3 hB2
  go_wp2_with fail
  refine (doc_good F w1.heap.size k nm m _ (by exact hF3) hk hn (by exact hd3)).mono ?_
  rintro e w4 ⟨rfl, hb4⟩
  rw [HY.out]
  have hF4 : F.answers w4.tape := by rw [hb4.tape]; exact hF3
  have hB4 := hB3.trans (hb4.mono hB3.size)
  clear hd3 hF3 hb4 hB3
  go_wp2_with fail
  refine (printable k _ (by unfold maxLen; omega)).mono ?_
  rintro e w5 ⟨rfl, rfl⟩
  rw [H1.out]
  go_wp2_with fail
  refine (new9 ⟨#[]⟩ ⟨#[]⟩ b _).mono ?_
  rintro e w6 ⟨rfl, hw6⟩
  have hd6 : Doc w6 w5.heap.size ⟨#[]⟩ ⟨#[]⟩ .nilIface := by rw [← hw6]; exact doc_new _ _ _ _ _
  have hB6 : Below w1.heap.size w1 w6 := by rw [← hw6]; exact hB4.alloc hB4.size _
  have hF6 : F.answers w6.tape := by rw [← hw6]; exact hF4
  clear hw6 hF4 hB4
  go_wp2_with fail
  refine (doc_good F w5.heap.size ⟨#[]⟩ ⟨#[]⟩ n _ (by exact hF6) (by decide) (by decide) (by exact hd6)).mono ?_
  rintro e w7 ⟨rfl, hb7⟩
  rw [HZ.out]
  have hd7 := hd6.below hb7
  have hF7 : F.answers w7.tape := by rw [hb7.tape]; exact hF6
  have hB7 := hB6.trans (hb7.mono hB6.size)
  clear hd6 hF6 hb7 hB6
  go_wp2_with fail
  refine (doc_good F w5.heap.size ⟨#[]⟩ ⟨#[]⟩ m _ (by exact hF7) (by decide) (by decide) (by exact hd7)).mono ?_
  rintro e w8 ⟨rfl, hb8⟩
  rw [HZ.out]
  have hB8 := hB7.trans (hb8.mono hB7.size)
  clear hd7 hF7 hb8 hB7
  go_wp2
  go_ret
  exact ⟨rfl, hB8⟩

set_option maxHeartbeats 1000000 in
theorem label_no2 (F : Interp) (k nm : ByteArray) (n m : Int) (b : Bool) (w : World) (hF : F.answers w.tape) (hk : k.size ≤ 524288) (hn : nm.size ≤ 524288) (h1 : nameOk k = true) (h2 : nameOk nm = false) :
    Calls Tryf.prog 4 #[.string k, .string nm, .int .i64 n, .int .i64 m, .bool b] w fun e w' => e = .returned (.bool true) ∧ Below w.heap.size w w' := by
  have HY : Hid (∀ n, label F k nm n = FmtStop.textOf (F "fmt.Sprintf" (docReading n) 0)) := fun n => lbl_no2 h2
  have HZ : Hid (∀ n, label F ⟨#[]⟩ ⟨#[]⟩ n = FmtStop.textOf (F "fmt.Sprintf" (docReading n) 0)) := fun n => lbl_no1 nameOk_empty
  have H1 : Hid (nameOk k = true) := h1
  have H2 : Hid (nameOk nm = false) := h2
  clear h2
  clear h1
  go_enter Tryf.func4, Tryf.ntmps4
  go_wp2_with fail
  refine (bytes8 k nm n m b _ hk hn).mono ?_
  rintro e w1 ⟨rfl, rfl⟩
  go_wp2_with fail
  refine (new9 k nm b _).mono ?_
  rintro e w2 ⟨rfl, hw2⟩
  have hd2 : Doc w2 w1.heap.size k nm .nilIface := by rw [← hw2]; exact doc_new _ _ _ _ _
  have hB2 : Below w1.heap.size w1 w2 := by rw [← hw2]; exact (Below.refl _ _).alloc (Nat.le_refl _) _
  have hF2 : F.answers w2.tape := by rw [hB2.tape]; exact hF
  clear hw2
  go_wp2_with fail
  refine (doc_good F w1.heap.size k nm n _ (by exact hF2) hk hn (by exact hd2)).mono ?_
  rintro e w3 ⟨rfl, hb3⟩
  rw [HY.out]
  have hd3 := hd2.below hb3
  have hF3 : F.answers w3.tape := by rw [hb3.tape]; exact hF2
  have hB3 := hB2.trans (hb3.mono hB2.size)
  clear hd2 hF2 hb3 hB2
  go_wp2_with fail
  refine (doc_good F w1.heap.size k nm m _ (by exact hF3) hk hn (by exact hd3)).mono ?_
  rintro e w4 ⟨rfl, hb4⟩
  rw [HY.out]
  have hF4 : F.answers w4.tape := by rw [hb4.tape]; exact hF3
  have hB4 := hB3.trans (hb4.mono hB3.size)
  clear hd3 hF3 hb4 hB3
  go_wp2_with fail
  refine (printable k _ (by unfold maxLen; omega)).mono ?_
  rintro e w5 ⟨rfl, rfl⟩
  rw [H1.out]
  go_wp2_with fail
  refine (printable nm _ (by unfold maxLen; omega)).mono ?_
  rintro e w5 ⟨rfl, rfl⟩
  rw [H2.out]
  go_wp2_with fail
  refine (new9 ⟨#[]⟩ ⟨#[]⟩ b _).mono ?_
  rintro e w6 ⟨rfl, hw6⟩
  have hd6 : Doc w6 w5.heap.size ⟨#[]⟩ ⟨#[]⟩ .nilIface := by rw [← hw6]; exact doc_new _ _ _ _ _
  have hB6 : Below w1.heap.size w1 w6 := by rw [← hw6]; exact hB4.alloc hB4.size _
  have hF6 : F.answers w6.tape := by rw [← hw6]; exact hF4
  clear hw6 hF4 hB4
  go_wp2_with fail
  refine (doc_good F w5.heap.size ⟨#[]⟩ ⟨#[]⟩ n _ (by exact hF6) (by decide) (by decide) (by exact hd6)).mono ?_
  rintro e w7 ⟨rfl, hb7⟩
  rw [HZ.out]
  have hd7 := hd6.below hb7
  have hF7 : F.answers w7.tape := by rw [hb7.tape]; exact hF6
  have hB7 := hB6.trans (hb7.mono hB6.size)
  clear hd6 hF6 hb7 hB6
  go_wp2_with fail
  refine (doc_good F w5.heap.size ⟨#[]⟩ ⟨#[]⟩ m _ (by exact hF7) (by decide) (by decide) (by exact hd7)).mono ?_
  rintro e w8 ⟨rfl, hb8⟩
  rw [HZ.out]
  have hB8 := hB7.trans (hb8.mono hB7.size)
  clear hd7 hF7 hb8 hB7
  go_wp2
  go_ret
  exact ⟨rfl, hB8⟩

theorem label_any (F : Interp) (k nm : ByteArray) (n m : Int) (b : Bool) (w : World) (hF : F.answers w.tape) (hk : k.size ≤ maxLen) (hn : nm.size ≤ maxLen) :
    Calls Tryf.prog 4 #[.string k, .string nm, .int .i64 n, .int .i64 m, .bool b] w fun e w' => e = .returned (.bool true) ∧ Below w.heap.size w w' := by
  by_cases a1 : 524288 < k.size
  · exact label_big k nm n m b w hk hn (.inl a1)
  by_cases a2 : 524288 < nm.size
  · exact label_big k nm n m b w hk hn (.inr a2)
  have b1 : k.size ≤ 524288 := by omega
  have b2 : nm.size ≤ 524288 := by omega
  cases h1 : nameOk k with
  | false => exact label_no1 F k nm n m b w hF b1 b2 h1
  | true =>
    cases h2 : nameOk nm with
    | false => exact label_no2 F k nm n m b w hF b1 b2 h1 h2
    | true => exact label_yes F k nm n m b w hF b1 b2 h1 h2

end Go.Proofs.Qxb6616284aFmt

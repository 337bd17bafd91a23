/-
  zzPrintable (function 11) and validName (function 20): both answer 'nameOk'.
-/
import Derived.Test.Qxb6616284aFmtProg
import Derived.WalkKit
import Derived.WalkSpells
import Derived.Laws.RangeAny
namespace Go.Proofs.Qxb6616284aFmt
open Go.RowKit

/-- One of a-z, 0-9, '-', '_', '.'. -/
def okc (c : Int) : Bool := decide (97 ≤ c ∧ c ≤ 122) || decide (48 ≤ c ∧ c ≤ 57) || decide (c = 45) || decide (c = 95) || decide (c = 46)
def okTo (s : ByteArray) (k : Nat) : Bool := (s.data.toList.take k).all fun b => okc (b.toNat : Int)
def nameOk (s : ByteArray) : Bool := !(s.toList.isEmpty) && decide (s.size ≤ 253) && !(s.toList == [46]) && !(s.toList == [46, 46]) && okTo s s.size

theorem okTo_succ (s : ByteArray) (k : Nat) (h : k < s.size) : okTo s (k + 1) = (okTo s k && okc ((s[k]'h).toNat : Int)) := by
  unfold okTo
  rw [List.take_succ_eq_append_getElem (by simpa using h)]
  simp [List.all_append]
  rfl
theorem okTo_le (s : ByteArray) (k : Nat) (h : okTo s k = false) : okTo s s.size = false := by
  unfold okTo at *
  rw [List.all_eq_false] at *
  obtain ⟨x, hx, h2⟩ := h
  exact ⟨x, by rw [List.take_of_length_le (by simp)]; exact List.mem_of_mem_take hx, h2⟩
theorem bad_at (s : ByteArray) (k : Nat) (h : k < s.size) (hb : okc ((s[k]'h).toNat : Int) = false) : nameOk s = false := by
  have := okTo_le s (k + 1) (by rw [okTo_succ s k h, hb]; simp)
  simp [nameOk, this]
theorem good_all (s : ByteArray) (h0 : s.toList.isEmpty = false) (h1 : s.size ≤ 253) (h2 : (s.toList == [46]) = false) (h3 : (s.toList == [46, 46]) = false) (h : okTo s s.size = true) : nameOk s = true := by
  simp [nameOk, h0, h1, h2, h3, h]
theorem empty_iff (s : ByteArray) : s.toList.isEmpty = (s.size == 0) := by
  rw [ByteArray.toList_eq]
  have e : s.size = s.data.toList.length := Array.length_toList.symm
  rw [e]
  cases s.data.toList with
  | nil => rfl
  | cons a l => rfl

def Split (c : Int) : Prop :=
  (okc c = true ∧ 97 ≤ c ∧ c ≤ 122) ∨ (okc c = true ∧ 48 ≤ c ∧ c ≤ 57) ∨ (okc c = true ∧ c < 48 ∧ (c == 45) = true)
  ∨ (okc c = true ∧ 57 < c ∧ c < 97 ∧ (c == 45) = false ∧ (c == 95) = true)
  ∨ (okc c = true ∧ c < 48 ∧ (c == 45) = false ∧ (c == 95) = false ∧ (c == 46) = true)
  ∨ (okc c = false ∧ c < 48 ∧ (c == 45) = false ∧ (c == 95) = false ∧ (c == 46) = false)
  ∨ (okc c = false ∧ 57 < c ∧ c < 97 ∧ decide (c ≤ 57) = false ∧ (c == 45) = false ∧ (c == 95) = false ∧ (c == 46) = false)
  ∨ (okc c = false ∧ 122 < c ∧ decide (c ≤ 122) = false ∧ decide (c ≤ 57) = false ∧ (c == 45) = false ∧ (c == 95) = false ∧ (c == 46) = false)
theorem split_fin : ∀ n : Fin 256, (okc (n.val : Int) = true ∧ 97 ≤ (n.val : Int) ∧ (n.val : Int) ≤ 122) ∨ (okc (n.val : Int) = true ∧ 48 ≤ (n.val : Int) ∧ (n.val : Int) ≤ 57) ∨ (okc (n.val : Int) = true ∧ (n.val : Int) < 48 ∧ ((n.val : Int) == 45) = true)
  ∨ (okc (n.val : Int) = true ∧ 57 < (n.val : Int) ∧ (n.val : Int) < 97 ∧ ((n.val : Int) == 45) = false ∧ ((n.val : Int) == 95) = true)
  ∨ (okc (n.val : Int) = true ∧ (n.val : Int) < 48 ∧ ((n.val : Int) == 45) = false ∧ ((n.val : Int) == 95) = false ∧ ((n.val : Int) == 46) = true)
  ∨ (okc (n.val : Int) = false ∧ (n.val : Int) < 48 ∧ ((n.val : Int) == 45) = false ∧ ((n.val : Int) == 95) = false ∧ ((n.val : Int) == 46) = false)
  ∨ (okc (n.val : Int) = false ∧ 57 < (n.val : Int) ∧ (n.val : Int) < 97 ∧ decide ((n.val : Int) ≤ 57) = false ∧ ((n.val : Int) == 45) = false ∧ ((n.val : Int) == 95) = false ∧ ((n.val : Int) == 46) = false)
  ∨ (okc (n.val : Int) = false ∧ 122 < (n.val : Int) ∧ decide ((n.val : Int) ≤ 122) = false ∧ decide ((n.val : Int) ≤ 57) = false ∧ ((n.val : Int) == 45) = false ∧ ((n.val : Int) == 95) = false ∧ ((n.val : Int) == 46) = false) := by decide +kernel
theorem splitc (c : Nat) (h : c < 256) : Split (c : Int) := split_fin ⟨c, h⟩

set_option maxHeartbeats 1000000 in
theorem printable (s : ByteArray) (w : World) (hs : s.size ≤ maxLen) :
    Calls Tryf.prog 11 #[.string s] w fun e w' => e = .returned (.bool (nameOk s)) ∧ w' = w := by
  unfold maxLen at hs
  cases h0 : s.toList.isEmpty with
  | true =>
    have hn : Hid (nameOk s = false) := by show nameOk s = false; simp [nameOk, h0]
    have h0' : ((s.size : Int) == 0) = true := by rw [empty_iff] at h0; simpa using h0
    clear h0
    go_enter Tryf.func11, Tryf.ntmps11
    go_wp2
    go_ret
    exact ⟨by rw [hn.out]; rfl, rfl⟩
  | false =>
    have h0' : ((s.size : Int) == 0) = false := by rw [empty_iff] at h0; simpa using h0
    by_cases h1 : s.size ≤ 253
    · have h1' : ¬ (253 : Int) < (s.size : Int) := by omega
      cases h2 : (s.toList == [46]) with
      | true =>
        have hn : Hid (nameOk s = false) := by show nameOk s = false; simp [nameOk, h2]
        clear h0 h1
        go_enter Tryf.func11, Tryf.ntmps11
        go_wp2
        go_ret
        exact ⟨by rw [hn.out]; rfl, rfl⟩
      | false =>
        cases h3 : (s.toList == [46, 46]) with
        | true =>
          have hn : Hid (nameOk s = false) := by show nameOk s = false; simp [nameOk, h3]
          clear h0 h1
          go_enter Tryf.func11, Tryf.ntmps11
          go_wp2
          go_ret
          exact ⟨by rw [hn.out]; rfl, rfl⟩
        | false =>
          have HG : Hid (okTo s s.size = true → nameOk s = true) := good_all s h0 h1 h2 h3
          clear h0
          go_enter Tryf.func11, Tryf.ntmps11
          go_wp2
          go_loop [3] (fun i => ∃ k : Nat, k ≤ s.size ∧ i = .int .i64 k ∧ Hid (okTo s k = true)) (fun i => s.size - (intOf i).toNat)
          case atStart => exact ⟨0, Nat.zero_le _, rfl, rfl⟩
          case round =>
            obtain ⟨k, hk, rfl, hok⟩ := hrel
            by_cases hlt : k < s.size
            · have hsn := okTo_succ s k hlt
              have hbd := bad_at s k hlt
              have hc := (s[k]'hlt).toNat_lt
              have HS : Hid (okc ((s[k]'hlt).toNat : Int) = true → okTo s (k + 1) = true) := fun h => by rw [hsn, hok.out, h]; rfl
              have HB : Hid (okc ((s[k]'hlt).toNat : Int) = false → nameOk s = false) := hbd
              clear hsn hbd
              rcases splitc (s[k]'hlt).toNat hc with ⟨ho, a1, a2⟩ | ⟨ho, a1, a2⟩ | ⟨ho, a1, a2⟩ | ⟨ho, a1, a2, a3, a4⟩ | ⟨ho, a1, a2, a3, a4⟩ | ⟨ho, a1, a2, a3, a4⟩ | ⟨ho, a1, a2, a3, a4, a5, a6⟩ | ⟨ho, a1, a2, a3, a4, a5, a6⟩
              iterate 5
                · have HO : Hid (okc ((s[k]'hlt).toNat : Int) = true) := ho
                  clear ho
                  go_wp2
                  go_round
                  case rel => exact ⟨k + 1, by omega, by go_num, HS.out HO.out⟩
                  case measure => simp [intOf]; omega
              all_goals
                have HO : Hid (okc ((s[k]'hlt).toNat : Int) = false) := ho
                clear ho
                go_wp2
                go_ret
                exact ⟨by rw [HB.out HO.out]; rfl, rfl⟩
            · go_wp2
              go_ret
              have e : k = s.size := by omega
              exact ⟨by rw [HG.out (by rw [← e]; exact hok.out)]; rfl, rfl⟩
    · have h1' : (253 : Int) < (s.size : Int) := by omega
      have hn : Hid (nameOk s = false) := by show nameOk s = false; simp [nameOk, h1]
      clear h0 h1
      go_enter Tryf.func11, Tryf.ntmps11
      go_wp2
      go_ret
      exact ⟨by rw [hn.out]; rfl, rfl⟩

theorem okc_high (c : Int) (h : 128 ≤ c) : okc c = false := by simp [okc]; omega

set_option maxRecDepth 1000000 in
set_option maxHeartbeats 1000000 in
theorem validName (s : ByteArray) (w : World) (hs : s.size ≤ maxLen) :
    Calls Tryf.prog 20 #[.string s] w fun e w' => e = .returned (.bool (nameOk s)) ∧ Below w.heap.size w w' := by
  unfold maxLen at hs
  cases h0 : s.toList.isEmpty with
  | true =>
    have hn : Hid (nameOk s = false) := by show nameOk s = false; simp [nameOk, h0]
    go_enter Tryf.func20, Tryf.ntmps20
    go_wp2
    go_ret
    exact ⟨by rw [hn.out]; rfl, Below.refl _ _⟩
  | false =>
    by_cases h1 : s.size ≤ 253
    · have h1' : ¬ (253 : Int) < (s.size : Int) := by omega
      cases h2 : (s.toList == [46]) with
      | true =>
        have hn : Hid (nameOk s = false) := by show nameOk s = false; simp [nameOk, h2]
        clear h1
        go_enter Tryf.func20, Tryf.ntmps20
        go_wp2
        go_ret
        exact ⟨by rw [hn.out]; rfl, Below.refl _ _⟩
      | false =>
        cases h3 : (s.toList == [46, 46]) with
        | true =>
          have hn : Hid (nameOk s = false) := by show nameOk s = false; simp [nameOk, h3]
          clear h1
          go_enter Tryf.func20, Tryf.ntmps20
          go_wp2
          go_ret
          exact ⟨by rw [hn.out]; rfl, Below.refl _ _⟩
        | false =>
          have HG : Hid (okTo s s.size = true → nameOk s = true) := good_all s h0 h1 h2 h3
          go_enter Tryf.func20, Tryf.ntmps20
          go_wp2
          go_loopw [4] (fun _ wr => ∃ k : Nat, k ≤ s.size ∧ wr = w.iter s k ∧ Hid (okTo s k = true)) (fun _ wr => s.size - wr.iterPos w.heap.size)
          case atStart => exact ⟨0, Nat.zero_le _, rfl, rfl⟩
          case round =>
            obtain ⟨k, hk, rfl, hok⟩ := hrel
            have HE : Hid (∀ j, Below w.heap.size w (w.iter s j)) := fun j => (Below.refl _ _).alloc (Nat.le_refl _) _
            by_cases hlt : k < s.size
            · have hsn := okTo_succ s k hlt
              have hbd := bad_at s k hlt
              have HS : Hid (okc ((s[k]'hlt).toNat : Int) = true → okTo s (k + 1) = true) := fun h => by rw [hsn, hok.out, h]; rfl
              have HB : Hid (okc ((s[k]'hlt).toNat : Int) = false → nameOk s = false) := hbd
              clear hsn hbd
              by_cases ha : (s[k]'hlt).toNat < 128
              · have hnx : ∀ ty, (Instr.next (.pointer (some ⟨w.heap.size, 0, none⟩)) true ty).run Tryf.prog (w.iter s k) = _ := fun ty => run_next_ascii w s k ty hlt ha
                rcases splitc (s[k]'hlt).toNat (by omega) with ⟨ho, a1, a2⟩ | ⟨ho, a1, a2⟩ | ⟨ho, a1, a2⟩ | ⟨ho, a1, a2, a3, a4⟩ | ⟨ho, a1, a2, a3, a4⟩ | ⟨ho, a1, a2, a3, a4⟩ | ⟨ho, a1, a2, a3, a4, a5, a6⟩ | ⟨ho, a1, a2, a3, a4, a5, a6⟩
                iterate 5
                  · have HO : Hid (okc ((s[k]'hlt).toNat : Int) = true) := ho
                    clear ho
                    go_wp2
                    go_roundw
                    case rel => exact ⟨k + 1, by omega, rfl, HS.out HO.out⟩
                    case measure => simp; omega
                all_goals
                  have HO : Hid (okc ((s[k]'hlt).toNat : Int) = false) := ho
                  clear ho
                  go_wp2
                  go_ret
                  exact ⟨by rw [HB.out HO.out]; rfl, HE.out _⟩
              · have hnx : ∀ ty, (Instr.next (.pointer (some ⟨w.heap.size, 0, none⟩)) true ty).run Tryf.prog (w.iter s k) = _ := fun ty => run_next_any w s k ty hlt
                have hh := (decode_high s k hlt (by omega)).1
                have a0 : (122 : Int) < ((Utf8.decode s k).1 : Int) := by omega
                have a1 : decide (((Utf8.decode s k).1 : Int) ≤ 122) = false := by simp; omega
                have a2 : decide (((Utf8.decode s k).1 : Int) ≤ 57) = false := by simp; omega
                have a3 : (((Utf8.decode s k).1 : Int) == 45) = false := by rw [beq_eq_false_iff_ne]; omega
                have a4 : (((Utf8.decode s k).1 : Int) == 95) = false := by rw [beq_eq_false_iff_ne]; omega
                have a5 : (((Utf8.decode s k).1 : Int) == 46) = false := by rw [beq_eq_false_iff_ne]; omega
                have HO : Hid (okc ((s[k]'hlt).toNat : Int) = false) := okc_high _ (by omega)
                go_wp2
                go_ret
                exact ⟨by rw [HB.out HO.out]; rfl, HE.out _⟩
            · have hnx : ∀ ty, (Instr.next (.pointer (some ⟨w.heap.size, 0, none⟩)) true ty).run Tryf.prog (w.iter s k) = _ := fun ty => run_next_end w s k ty hlt
              go_wp2
              go_ret
              have e : k = s.size := by omega
              exact ⟨by rw [HG.out (by rw [← e]; exact hok.out)]; rfl, HE.out _⟩
    · have h1' : (253 : Int) < (s.size : Int) := by omega
      have hn : Hid (nameOk s = false) := by show nameOk s = false; simp [nameOk, h1]
      clear h1
      go_enter Tryf.func20, Tryf.ntmps20
      go_wp2
      go_ret
      exact ⟨by rw [hn.out]; rfl, Below.refl _ _⟩

end Go.Proofs.Qxb6616284aFmt

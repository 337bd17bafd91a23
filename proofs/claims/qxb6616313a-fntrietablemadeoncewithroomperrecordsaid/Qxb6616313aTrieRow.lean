/-
  The row of FnTrieTableMadeOnceWithRoomPerRecord.
-/
import Derived.Test.Qxb6616313aRows
import Derived.Test.Qxb6616313aTrieLaw
import Derived.ProofKit
import Derived.OpenShut
import Derived.SliceStrings
import Derived.ShutString
import Derived.ChangeOld
import Derived.Below
import Derived.Carry
namespace Go.Proofs.Qxb6616313a
open Go.ChangeShapes Go.WideShapes Go.ChangeAt Go.RowKit

theorem trie_own : ownKnob Try.prog.godebug = none := by kernel_rfl
theorem trie_laidOut : laidOutB Try.prog = true := by kernel_rfl
theorem trie_cells9 : Try.prog.cellsOf 9 = 1 := by kernel_rfl

theorem getD_take_str (l : List ByteArray) (n j : Nat) (h : j < n) : (l.take n).getD j ByteArray.empty = l.getD j ByteArray.empty := by
  simp [List.getD, h]

theorem mem_getD {l : List ByteArray} {i : Nat} (h : i < l.length) : l.getD i ByteArray.empty ∈ l := by
  simp only [List.getD, List.getElem?_eq_getElem h, Option.getD_some]
  exact List.getElem_mem h

theorem open_strs22 {H : Type} {enc : TypeId × Value → H} {W : World} {fuel : Nat} {a : Option Addr} {len cap : Nat} {x : DataW H × List MemPlace} (h : DataW.trod enc Try.prog W 0 (fun _ => true) true fuel 22 [.slice a len cap] = some x) : ∃ ss, ss.length = len ∧ Strs W a ss := by
  rcases open_strings Try.underlying22 Try.underlying9 trie_cells9 h with ⟨hcs, _⟩ | ⟨a', len', cap', ss, hcs, _, hl, hm, hz, _, hcell, hws⟩
  · simp at hcs
    obtain ⟨rfl, rfl, rfl⟩ := hcs
    exact ⟨[], rfl, by simp, fun h => by simp at h⟩
  · simp at hcs
    obtain ⟨rfl, rfl, rfl⟩ := hcs
    simp only [if_true] at hz
    have hlen : (ss.take len).length = len := by simp; omega
    refine ⟨ss.take len, hlen, by rw [hlen]; omega, fun h0 => ?_⟩
    rw [hlen] at h0
    have hc0 := hcell 0 (by omega)
    obtain ⟨b, off, spot⟩ := a'
    have hspot : spot = none := by simpa [Addr.add] using World.cell?_spot hc0
    subst hspot
    have hc : ∀ i, i < len → W.cell? ⟨b, off + i, none⟩ = some (.string (ss.getD i ByteArray.empty)) := fun i hi => by
      rw [← Go.WideShapes.add_plain]
      exact hcell i (by omega)
    refine ⟨b, off, rfl, World.block_lt_of_cell? W _ (hc 0 h0), fun i hi => ?_, fun i hi => ?_⟩
    · rw [hlen] at hi
      rw [getD_take_str _ _ _ hi]
      exact hc i hi
    · rw [hlen] at hi
      rw [getD_take_str _ _ _ hi]
      exact hws _ (mem_getD (by omega))

set_option maxRecDepth 100000 in
theorem trie_lifted (os : Os) (started : os.Started) (H : Type) (enc : TypeId × Value → H) :
    ReturnsInHanded {} Try.checked os 3 .any (Rows.fnTrieTableMadeOnceWithRoomPerRecordSpec.pre6 enc Try.prog Try.f3 Rows.fnTrieTableMadeOnceWithRoomPerRecordRow.domain false) (Rows.fnTrieTableMadeOnceWithRoomPerRecordSpec.post enc Try.prog Try.f3 false true false false) := by
  refine returnsInHanded_of_change (C := Try.checked) trie_own started (by kernel_rfl) Try.func3
    (ChangeSpec.witness6 (enc := enc) (C := Try.checked) false ⟨#[], #[.slice none 0 0, .int .i64 0], []⟩ 8 (by kernel_rfl) (by kernel_rfl) (by kernel_rfl) (by kernel_rfl)) ?_
  intro W base args ds gs before hval0 hW hcnd _
  have hval : ∀ (j : Nat) t v, Try.f3.params[j]? = some t → args[j]? = some v → Value.okWide Try.prog W .any base t v := hval0
  have hW' := hW
  obtain ⟨p, q, hA0, hV, rfl, hfz, hnd⟩ := hW
  have hA : DataW.TrodAll enc Try.prog W 0 (fun _ => true) true Try.f3.params.toList args.toList ds p := hA0
  rw [Try.params3] at hA hval
  obtain ⟨v0, v1, d0, d1, p0, p1, rfl, rfl, rfl, h0, h1⟩ := trodAll_two hA
  obtain ⟨rfl, rfl⟩ := trodVars_none hV
  obtain ⟨a0, len0, cap0, rfl⟩ := okWide_slice Try.underlying22 (hval 0 22 v0 rfl rfl)
  obtain ⟨m1, rfl, rfl, rfl, w1⟩ := open_int Try.underlying3 (hval 1 3 v1 rfl rfl) h1
  have k0 := h0
  have lt0 : ∀ x ∈ p0, x.block < W.heap.size := by obtain ⟨m, hm⟩ := k0; exact DataW.trod_lt m _ _ _ hm
  obtain ⟨ss, hlen, hP⟩ : ∃ ss, ss.length = len0 ∧ Strs W a0 ss := by
    obtain ⟨fuel, hf⟩ := h0
    exact open_strs22 (by simpa [Value.cells] using hf)
  clear hA0 hval0
  subst hlen
  refine (law3 a0 cap0 ss m1 W hP).mono fun e W' ⟨he, bel⟩ => ?_
  subst he
  exact ⟨_, rfl, _, _, _, [], p0 ++ [], [], hW', trodAll_mk1 (shut_bool Try.underlying4 _), trodAll_mk2 (Below.trod trie_laidOut (by kernel_rfl) (of_decide_eq_true (by kernel_rfl)) k0 bel lt0) (shut_int Try.underlying3 w1), rfl, bel.frame _, fun h => by cases h⟩

theorem trie_over : Rows.fnTrieTableMadeOnceWithRoomPerRecordRow.holds Try.pinned (OpenSpec.ofChange Rows.fnTrieTableMadeOnceWithRoomPerRecordSpec) :=
  OpenClaim.holds_of_wide 3 Try.f3 rfl rfl rfl rfl rfl rfl rfl ⟨rfl, rfl, rfl, rfl, rfl⟩ rfl rfl rfl rfl rfl (by kernel_rfl) Try.func3 (by kernel_rfl)
    (of_decide_eq_true (by kernel_rfl)) (by unfold Func.isWrapper; first | (rw [if_pos (by decide +kernel)]; kernel_rfl) | (rw [if_neg (by decide +kernel)]; exact ⟨rfl, rfl⟩))
    (fun os started H enc _ => trie_lifted os started H enc)

/-- THE STATEMENT. -/
theorem trie_holds : Rows.FnTrieTableMadeOnceWithRoomPerRecordSaid := trie_over
end Go.Proofs.Qxb6616313a

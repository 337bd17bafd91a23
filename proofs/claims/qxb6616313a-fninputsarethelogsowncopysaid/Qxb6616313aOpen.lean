/-
  A slice of parts that came in, opened.
-/
import Derived.Test.Qxb6616313aParts
import Derived.ProofKit
import Derived.OpenShut
import Derived.Deep.Slices
namespace Go.Proofs.Qxb6616313a
open Go.ChangeShapes Go.WideShapes Go.ChangeAt Go.RowKit Go.Deep

theorem cells106 : Try.prog.cellsOf 106 = 4 := by kernel_rfl
theorem cells9 : Try.prog.cellsOf 9 = 1 := by kernel_rfl
theorem cells38 : Try.prog.cellsOf 38 = 1 := by kernel_rfl
theorem cells3 : Try.prog.cellsOf 3 = 1 := by kernel_rfl
theorem cells5 : Try.prog.cellsOf 5 = 1 := by kernel_rfl

theorem getD_take (l : List Int) (n j : Nat) (h : j < n) : (l.take n).getD j 0 = l.getD j 0 := by
  simp [List.getD, h]

theorem byte_range {zs : List Int} (h : ∀ n ∈ zs, (Lit.int .u8 n).wf = true) (j : Nat) : 0 ≤ zs.getD j 0 ∧ zs.getD j 0 ≤ 255 := by
  by_cases hj : j < zs.length
  · have hm : zs.getD j 0 ∈ zs := by
      simp only [List.getD, List.getElem?_eq_getElem hj, Option.getD_some]
      exact List.getElem_mem hj
    have hw := h _ hm
    generalize zs.getD j 0 = y at hw ⊢
    simp [Lit.wf, IntKind.min, IntKind.max, IntKind.signed, IntKind.bits] at hw
    omega
  · simp [List.getD, List.getElem?_eq_none (by omega : zs.length ≤ j)]

theorem four {α : Type} (l : List α) (h : l.length = 4) : ∃ a b c d, l = [a, b, c, d] := by
  match l, h with
  | [a, b, c, d], _ => exact ⟨a, b, c, d, rfl⟩

section
variable {H : Type} {enc : TypeId × Value → H} {W : World}

theorem open_bytes {fuel : Nat} {v : Value} {x : DataW H × List MemPlace} (h : DataW.trod enc Try.prog W 0 (fun _ => true) true fuel 38 [v] = some x) : ∃ zs, BytesAt W v zs := by
  rcases open_ints Try.underlying38 Try.underlying5 cells5 h with ⟨hcs, _⟩ | ⟨a, len, cap, zs, hcs, _, hl, hm, hz, _, hcell, hwz⟩
  · simp at hcs
    exact ⟨[], fun j => by simp, by simp, none, 0, by simpa using hcs, fun h => by simp at h⟩
  · simp at hcs
    simp only [if_true] at hz
    have hlen : (zs.take len).length = len := by simp; omega
    refine ⟨zs.take len, fun j => byte_range (fun n hn => hwz n (List.mem_of_mem_take hn)) j, by rw [hlen]; omega, some a, cap, by rw [hlen]; exact hcs, fun h0 => ?_⟩
    rw [hlen] at h0
    obtain ⟨b, off, rfl, hc⟩ := ints_at hcell (by omega)
    refine ⟨b, off, rfl, World.block_lt_of_cell? W _ (hc 0 (by omega)), fun j hj => ?_⟩
    rw [hlen] at hj
    rw [getD_take _ _ _ hj]
    exact hc j (by omega)

theorem open_part {n : Nat} {cs : List Value} {x : DataW H × List MemPlace} (hl : cs.length = 4) (h : DataW.trod enc Try.prog W 0 (fun _ => true) true n 106 cs = some x) :
    ∃ X : Pt, cs = [.string X.nm, .string X.inm, X.dv, .int .i64 X.o] ∧ BytesAt W X.dv X.zs ∧ X.nm.size ≤ maxLen ∧ X.inm.size ≤ maxLen := by
  obtain ⟨xs, k, _, _, _, hxl, hf⟩ := DataW.trod_struct Try.underlying106 h
  obtain ⟨v0, v1, v2, v3, rfl⟩ := four cs hl
  have g0 := hf 0 _ rfl
  have g1 := hf 1 _ rfl
  have g2 := hf 2 _ rfl
  have g3 := hf 3 _ rfl
  simp [cells9, cells38, cells3] at g0 g1 g2 g3
  have hx : xs.length = 4 := hxl
  have r0 : ∃ y, DataW.trod enc Try.prog W 0 (fun _ => true) true k 9 [v0] = some y := ⟨_, g0.trans (List.getElem?_eq_getElem (by omega))⟩
  have r1 : ∃ y, DataW.trod enc Try.prog W 0 (fun _ => true) true k 9 [v1] = some y := ⟨_, g1.trans (List.getElem?_eq_getElem (by omega))⟩
  have r2 : ∃ y, DataW.trod enc Try.prog W 0 (fun _ => true) true k 38 [v2] = some y := ⟨_, g2.trans (List.getElem?_eq_getElem (by omega))⟩
  have r3 : ∃ y, DataW.trod enc Try.prog W 0 (fun _ => true) true k 3 [v3] = some y := ⟨_, g3.trans (List.getElem?_eq_getElem (by omega))⟩
  obtain ⟨y0, h0⟩ := r0
  obtain ⟨y1, h1⟩ := r1
  obtain ⟨y2, h2⟩ := r2
  obtain ⟨y3, h3⟩ := r3
  obtain ⟨s0, e0, _, t0⟩ := DataW.trod_string Try.underlying9 h0
  obtain ⟨s1, e1, _, t1⟩ := DataW.trod_string Try.underlying9 h1
  obtain ⟨zs, hz⟩ := open_bytes h2
  obtain ⟨o, e3, _, _⟩ := DataW.trod_int Try.underlying3 h3
  simp at e0 e1 e3
  subst e0 e1 e3
  exact ⟨⟨s0, s1, v2, zs, o⟩, rfl, hz, t0, t1⟩

theorem open_parts {fuel : Nat} {a : Option Addr} {len cap : Nat} {x : DataW H × List MemPlace} (h : DataW.trod enc Try.prog W 0 (fun _ => true) true fuel 65 [.slice a len cap] = some x) : ∃ xs, xs.length = len ∧ Parts W a cap xs := by
  rcases open_slice Try.underlying65 h with ⟨hcs, _⟩ | ⟨a', len', cap', m, n, D, Pl, hcs, hb, hl, hm, hmm, _, hel⟩
  · simp at hcs
    obtain ⟨rfl, rfl, rfl⟩ := hcs
    exact ⟨[], rfl, by simp, fun h => by simp at h⟩
  · simp at hcs
    obtain ⟨rfl, rfl, rfl⟩ := hcs
    simp only [if_true] at hmm
    have each : ∀ i, i < len → ∃ X : Pt, (∀ j, j < 4 → W.cell? (a'.add (i * 4 + j)) = [Value.string X.nm, .string X.inm, X.dv, .int .i64 X.o][j]?) ∧ BytesAt W X.dv X.zs ∧ X.nm.size ≤ maxLen ∧ X.inm.size ≤ maxLen := fun i hi => by
      obtain ⟨cs', h1, h2⟩ := hel i (by omega)
      rw [cells106] at h1
      obtain ⟨_, hlen, hcell⟩ := World.cells?_some h1
      obtain ⟨X, hX, hd, t0, t1⟩ := open_part hlen h2
      refine ⟨X, fun j hj => ?_, hd, t0, t1⟩
      rw [← Deep.add_add, hcell j hj, hX]
    obtain ⟨q, hq⟩ := @choose_lt Pt ⟨Pt.none⟩ _ _ each
    have hget : ∀ i, i < len → ((List.range len).map q).getD i Pt.none = q i := fun i hi => by simp [hi]
    refine ⟨(List.range len).map q, by simp, by simp; omega, fun h0 => ?_⟩
    have h0' : 0 < len := by simpa using h0
    have hc0 := (hq 0 h0').1 0 (by omega)
    obtain ⟨b, off, spot⟩ := a'
    have hspot : spot = none := by simpa [Addr.add] using World.cell?_spot (hc0.trans rfl)
    subst hspot
    have hc : ∀ i, i < len → ∀ j, j < 4 → W.cell? ⟨b, off + i * 4 + j, none⟩ = [Value.string (q i).nm, .string (q i).inm, (q i).dv, .int .i64 (q i).o][j]? := fun i hi j hj => by
      have := (hq i hi).1 j hj
      rw [Go.WideShapes.add_plain] at this
      rw [Nat.add_assoc]
      exact this
    refine ⟨b, off, rfl, World.block_lt_of_cell? W ⟨b, off + 0 * 4 + 0, none⟩ ((hc 0 h0' 0 (by omega)).trans rfl), ?_, ?_, ?_, ?_, ?_, ?_, ?_⟩
    all_goals intro i hi
    all_goals simp only [List.length_map, List.length_range] at hi
    all_goals rw [hget i hi]
    · exact hc i hi 0 (by omega)
    · exact hc i hi 1 (by omega)
    · exact hc i hi 2 (by omega)
    · exact hc i hi 3 (by omega)
    · exact (hq i hi).2.1
    · exact (hq i hi).2.2.1
    · exact (hq i hi).2.2.2
end
end Go.Proofs.Qxb6616313a

/-
  The maps: votesMap (10), siteSet (11), the two predicates (20, 21).
-/
import Derived.Test.Qxb6616362aLists
import Derived.Maps.RangeWalk
namespace Go.Proofs.Qxb6616362a
open Go.RowKit Go.Maps
set_option linter.unusedVariables false
set_option linter.unusedSimpArgs false

theorem law32 : Keyed Try.prog 32 := int_keyed Try.underlying32
theorem zero4 (w : World) : (zeroValue 4).run Try.prog w = .ok (.bool false) w := by kernel_rfl

theorem run_makeMap_hint {P : Program} {t k e : TypeId} (ht : P.underlying t = some (.map k e)) (n : Int) (w : World) :
    (Instr.makeMap t (some (.int .i64 n))).run P w = .ok (.map (some w.heap.size)) (w.alloc (.map #[] 0)) := by
  simp [Instr.makeMap, run_underlying ht, asInt, asIntOf]

theorem nil22 (w : World) (a : Option Addr) (n c : Nat) : (binOp .eql 22 (.slice a n c) (.slice none 0 0)).run Try.prog w = .ok (.bool a.isNone) w := Lib.run_eql_slice_nil w _ _ a n c 0 0 Try.underlying22

theorem plainElem_bool_inv {H : Type} {P : Program} {e : TypeId} (he : P.underlying e = some .bool) {v : Value} {z : DataW H × List MemPlace} (h : plainElem P e v = some z) : ∃ x, v = .bool x ∧ z = (.lit (.bool x), []) := by
  unfold plainElem at h
  rw [he] at h
  cases v <;> simp at h
  exact ⟨_, rfl, h.symm⟩

/-- The look-up in a set. -/
theorem look_set {w : World} {t b n : Nat} {k : TypeId} {D : DataW Unit} {xs : List Int} (K : Keyed Try.prog k) (hk : Try.prog.underlying k = some (.int .i64)) (ht : Try.prog.underlying t = some (.map k 4)) (hown : w.ownsMap Try.prog k (plainElem Try.prog 4) b n D) (hs : SetIs D xs) (x : Int) (hx : (Lit.int .i64 x).wf = true) :
    (Instr.lookup t (.map (some b)) (.int .i64 x) false).run Try.prog w = .ok (.bool (decide (x ∈ xs))) w := by
  obtain ⟨v, ps, hrun, hv⟩ := hown.lookup K ht (zero4 w) (plainElem_bool Try.underlying4 false) (keyOf_int_mk hk hx)
  rw [hs.here x] at hv
  obtain ⟨y, rfl, hy⟩ := plainElem_bool_inv Try.underlying4 hv
  simp at hy
  rw [hrun, ← hy.1]

/-- A set of sites that lies in block B. -/
def SetAt (w : World) (B : Nat) (xs : List Int) : Prop := ∃ (n : Nat) (D : DataW Unit), w.ownsMap Try.prog 32 (plainElem Try.prog 4) B n D ∧ SetIs D xs

/-- .. with at most 32768 entries. -/
def SetNew (w : World) (B : Nat) (xs : List Int) : Prop := ∃ (n : Nat) (D : DataW Unit), w.ownsMap Try.prog 32 (plainElem Try.prog 4) B n D ∧ SetIs D xs ∧ n ≤ 32768
theorem SetNew.set {w : World} {B : Nat} {xs : List Int} (h : SetNew w B xs) : SetAt w B xs := by obtain ⟨n, D, h1, h2, _⟩ := h; exact ⟨n, D, h1, h2⟩

theorem SetAt.lt {w : World} {B : Nat} {xs : List Int} (h : SetAt w B xs) : B < w.heap.size := by obtain ⟨n, D, h1, _⟩ := h; exact h1.lt
theorem SetAt.below {w w' : World} {B : Nat} {xs : List Int} (h : SetAt w B xs) (hb : Below w.heap.size w w') : SetAt w' B xs := by
  have hlt := h.lt
  obtain ⟨n, D, ⟨es, clock, h1, h2⟩, h3⟩ := h
  exact ⟨n, D, ⟨es, clock, (hb.block _ hlt).trans h1, h2⟩, h3⟩

set_option maxRecDepth 100000 in
set_option maxHeartbeats 1000000 in
theorem siteSet (a : Option Addr) (cap : Nat) (xs : List Int) (w : World) (hl : xs.length ≤ 32768) (h : Ints w a xs) :
    Calls Try.prog 11 #[.slice a xs.length cap] w fun e w' => e = .returned (.map (some w.heap.size)) ∧ SetNew w' w.heap.size xs ∧ Below w.heap.size w w' := by
  have hmm := fun n w => run_makeMap_hint (P := Try.prog) Try.underlying30 n w
  go_enter Try.func11, Try.ntmps11
  go_wp2
  go_loopw [4] (fun i wr => ∃ (k : Nat) (D : DataW Unit), k ≤ xs.length ∧ i = .int .i64 k ∧ wr.ownsMap Try.prog 32 (plainElem Try.prog 4) w.heap.size k D ∧ SetIs D (xs.take k) ∧ Below w.heap.size w wr) (fun i _ => xs.length - (intOf i).toNat)
  case atStart => exact ⟨0, .map [], Nat.zero_le _, rfl, World.ownsMap_made _ _ _ _, by simpa using setIs_start, (Below.refl _ _).alloc (Nat.le_refl _) _⟩
  case round =>
    obtain ⟨k, D, hk, rfl, hown, hset, hbel⟩ := hrel
    clear hmm
    by_cases hkl : k < xs.length
    · obtain ⟨b, off, rfl, hI⟩ := h.at_ (by omega)
      have e1 := (hbel.cell (p := ⟨b, off + k, none⟩) hI.lt).trans (hI.c k hkl)
      have hwf := h.wf k
      obtain ⟨w2, hrun, hown2, hg2⟩ := hown.update law32 Try.underlying30 (by unfold maxLen; omega) (keyOf_int_mk Try.underlying32 hwf) (plainElem_bool (H := Unit) Try.underlying4 true)
      have hset2 := setIs_step hset (xs.getD k 0)
      rw [← take_snoc xs k hkl] at hset2
      have HR : Hid (w2.ownsMap Try.prog 32 (plainElem Try.prog 4) w.heap.size (k + 1) (D.put (.int .i64 (xs.getD k 0)) (.lit (.bool true))) ∧ SetIs (D.put (.int .i64 (xs.getD k 0)) (.lit (.bool true))) (xs.take (k + 1)) ∧ Below w.heap.size w w2) := ⟨hown2, hset2, hbel.grown hg2 hbel.size (fun j hj => by cases hj; exact Nat.le_refl _)⟩
      obtain ⟨D2, HR2⟩ : ∃ D2 : DataW Unit, Hid (w2.ownsMap Try.prog 32 (plainElem Try.prog 4) w.heap.size (k + 1) D2 ∧ SetIs D2 (xs.take (k + 1)) ∧ Below w.heap.size w w2) := ⟨_, HR⟩
      clear hown hset hbel hI h hown2 hg2 hset2 HR hwf
      generalize xs.getD k 0 = Z at *
      go_wp2
      go_roundw
      case rel => exact ⟨k + 1, D2, by omega, by go_num, HR2.out.1, HR2.out.2.1, HR2.out.2.2⟩
      case measure => simp [intOf]; omega
    · go_wp2
      go_ret
      have e : k = xs.length := by omega
      subst e
      rw [List.take_length] at hset
      exact ⟨rfl, ⟨_, D, hown, hset, by omega⟩, hbel⟩

set_option maxHeartbeats 400000 in
theorem pred20 (x : Int) (c B : Nat) (xs : List Int) (w : World) (hx : (Lit.int .i64 x).wf = true) (hc : w.cell? ⟨c, 0, none⟩ = some (.map (some B))) (hs : SetAt w B xs) :
    Calls Try.prog 20 #[.int .i64 x, .pointer (some ⟨c, 0, none⟩)] w fun e w' => e = .returned (.bool (decide (x ∈ xs))) ∧ w' = w := by
  obtain ⟨n, D, hown, hset⟩ := hs
  have hlk := look_set law32 Try.underlying32 Try.underlying30 hown hset x hx
  clear hown hset
  go_enter Try.func20, Try.ntmps20
  go_wp2
  go_ret
  exact ⟨rfl, rfl⟩

set_option maxHeartbeats 400000 in
theorem pred21 (x : Int) (c B : Nat) (xs : List Int) (w : World) (hx : (Lit.int .i64 x).wf = true) (hc : w.cell? ⟨c, 0, none⟩ = some (.map (some B))) (hs : SetAt w B xs) :
    Calls Try.prog 21 #[.int .i64 x, .pointer (some ⟨c, 0, none⟩)] w fun e w' => e = .returned (.bool (!decide (x ∈ xs))) ∧ w' = w := by
  obtain ⟨n, D, hown, hset⟩ := hs
  have hlk := look_set law32 Try.underlying32 Try.underlying30 hown hset x hx
  clear hown hset
  generalize decide (x ∈ xs) = bb at *
  go_enter Try.func21, Try.ntmps21
  go_wp2
  go_ret
  exact ⟨rfl, rfl⟩

/-- The map of the copies, as a value. -/
def CopAt (w : World) (mv : Value) (zs vs : List Int) : Prop :=
  (mv = .map none ∧ zs = []) ∨ ∃ (B n : Nat) (D : DataW Unit), mv = .map (some B) ∧ w.ownsMap Try.prog 32 (plainElem Try.prog 3) B n D ∧ MapIs D zs vs

theorem CopAt.below {w w' : World} {mv : Value} {zs vs : List Int} (h : CopAt w mv zs vs) (hb : Below w.heap.size w w') : CopAt w' mv zs vs := by
  rcases h with h | ⟨B, n, D, h0, h1, h3⟩
  · exact .inl h
  · have hlt := h1.lt
    obtain ⟨es, clock, g1, g2⟩ := h1
    exact .inr ⟨B, n, D, h0, ⟨es, clock, (hb.block _ hlt).trans g1, g2⟩, h3⟩

set_option maxRecDepth 100000 in
set_option maxHeartbeats 1000000 in
theorem votesMap_some (x : Addr) (a4 : Option Addr) (cap cap4 : Nat) (zs vs : List Int) (w : World) (hl : zs.length ≤ 32768) (hlen : zs.length = vs.length) (ha : Asc zs) (h : Ints w (some x) zs) (h4 : Ints w a4 vs) :
    Calls Try.prog 10 #[.slice (some x) zs.length cap, .slice a4 vs.length cap4] w fun e w' => ∃ mv, e = .returned mv ∧ CopAt w' mv zs vs ∧ Below w.heap.size w w' := by
  have hmm := fun n w => run_makeMap_hint (P := Try.prog) Try.underlying26 n w
  have hnil := nil22
  have HAs : Hid (Asc zs) := ha
  have HLen : Hid (zs.length = vs.length) := hlen
  clear ha
  go_enter Try.func10, Try.ntmps10
  go_wp2
  go_loopw [6] (fun i wr => ∃ (k : Nat) (D : DataW Unit), k ≤ zs.length ∧ i = .int .i64 k ∧ wr.ownsMap Try.prog 32 (plainElem Try.prog 3) w.heap.size k D ∧ MapIs D (zs.take k) (vs.take k) ∧ Below w.heap.size w wr) (fun i _ => zs.length - (intOf i).toNat)
  case atStart => exact ⟨0, .map [], Nat.zero_le _, rfl, World.ownsMap_made _ _ _ _, by simpa using mapIs_start, (Below.refl _ _).alloc (Nat.le_refl _) _⟩
  case round =>
    obtain ⟨k, D, hk, rfl, hown, hset, hbel⟩ := hrel
    clear hmm hnil hlen
    by_cases hkl : k < zs.length
    · obtain ⟨b, off, hxb, hI⟩ := h.at_ (by omega)
      cases hxb
      have hl2 := HLen.out
      obtain ⟨b4, off4, rfl, hI4⟩ := h4.at_ (by omega)
      have e1 := (hbel.cell (p := ⟨b, off + k, none⟩) hI.lt).trans (hI.c k hkl)
      have e2 := (hbel.cell (p := ⟨b4, off4 + k, none⟩) hI4.lt).trans (hI4.c k (by omega))
      have i1 : (k : Int) < (zs.length : Int) := by omega
      have i2 : (0 : Int) ≤ (k : Int) := by omega
      have i3 : (k : Int) < (vs.length : Int) := by omega
      obtain ⟨w2, hrun, hown2, hg2⟩ := hown.drew.update law32 Try.underlying26 (by unfold maxLen; omega) (keyOf_int_mk Try.underlying32 (h.wf k)) (plainElem_int (H := Unit) Try.underlying3 (h4.wf k))
      have hset2 := mapIs_step hset (by simp; omega) (zs.getD k 0) (vs.getD k 0) (asc_new HAs.out k hkl)
      rw [← take_snoc zs k hkl, ← take_snoc vs k (by omega)] at hset2
      obtain ⟨D2, HR2⟩ : ∃ D2 : DataW Unit, Hid (w2.ownsMap Try.prog 32 (plainElem Try.prog 3) w.heap.size (k + 1) D2 ∧ MapIs D2 (zs.take (k + 1)) (vs.take (k + 1)) ∧ Below w.heap.size w w2) := ⟨_, hown2, hset2, hbel.drew.grown hg2 hbel.size (fun j hj => by cases hj; exact Nat.le_refl _)⟩
      clear hown hset hbel hI hI4 h h4 hown2 hg2 hset2 hl2
      generalize zs.getD k 0 = Z at *
      generalize vs.getD k 0 = V at *
      go_wp2_with fail
      go_region
      all_goals (try go_wp2)
      go_roundw
      case rel => exact ⟨k + 1, D2, by omega, by go_num, HR2.out.1, HR2.out.2.1, HR2.out.2.2⟩
      case measure => simp [intOf]; omega
    · go_wp2
      go_ret
      have e : k = zs.length := by omega
      subst e
      rw [List.take_length, HLen.out, List.take_length] at hset
      exact ⟨_, rfl, .inr ⟨_, _, D, rfl, hown, hset⟩, hbel⟩

set_option maxHeartbeats 400000 in
theorem votesMap_none (a4 : Option Addr) (cap n4 cap4 : Nat) (w : World) : Calls Try.prog 10 #[.slice none 0 cap, .slice a4 n4 cap4] w fun e w' => e = .returned (.map none) ∧ w' = w := by
  have hnil := nil22
  go_enter Try.func10, Try.ntmps10
  go_wp2
  go_ret
  exact ⟨rfl, rfl⟩

theorem votesMap (a a4 : Option Addr) (cap cap4 : Nat) (zs vs : List Int) (w : World) (hl : zs.length ≤ 32768) (hlen : zs.length = vs.length) (ha : Asc zs) (h : Ints w a zs) (h4 : Ints w a4 vs) :
    Calls Try.prog 10 #[.slice a zs.length cap, .slice a4 vs.length cap4] w fun e w' => ∃ mv, e = .returned mv ∧ CopAt w' mv zs vs ∧ Below w.heap.size w w' := by
  cases a with
  | some x => exact votesMap_some x a4 cap cap4 zs vs w hl hlen ha h h4
  | none =>
    have e0 : zs.length = 0 := by
      by_cases h0 : 0 < zs.length
      · obtain ⟨b, off, hh, _⟩ := h.at_ h0
        cases hh
      · omega
    have hz : zs = [] := List.eq_nil_of_length_eq_zero e0
    rw [e0]
    refine (votesMap_none a4 cap _ cap4 w).mono fun e w' ⟨he, hw⟩ => ?_
    subst hw
    exact ⟨_, he, .inl ⟨rfl, hz⟩, Below.refl _ _⟩

end Go.Proofs.Qxb6616362a

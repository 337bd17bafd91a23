/-
  The walk of FnVotesAmongSetAndRestShareOutAllVotes (6).
-/
import Derived.Test.Qxb6616362aMore
namespace Go.Proofs.Qxb6616362a
open Go.RowKit Go.Maps
set_option linter.unusedVariables false
set_option linter.unusedSimpArgs false

theorem law3 : Keyed Try.prog 3 := int_keyed Try.underlying3

theorem setIs_in {D : DataW Unit} {xs : List Int} (h : SetIs D xs) {x : Int} (hx : x ∈ xs) : SetIs D (xs ++ [x]) :=
  ⟨h.isMap, fun y => by
    rw [h.here y]
    by_cases e : y = x
    · subst e; simp [hx]
    · simp [e]⟩

/-- The law in plain words. -/
theorem shares {xs zs vs : List Int} (hl : zs.length = vs.length) : (wrap64 (wrap64 (sumP (fun y => decide (y ∈ xs)) zs vs) + wrap64 (sumP (fun y => !decide (y ∈ xs)) zs vs)) == wrap64 (tot vs vs.length)) = true := by
  rw [wrap_add', sumP_split (fun y => decide (y ∈ xs)), sumP_true zs vs hl]
  simp [tot]

/-- The votes so far. -/
def amongTo (xs zs vs : List Int) (k : Nat) : Int := wrap64 (sumP (fun y => decide (y ∈ xs.take k)) zs vs)
theorem amongTo_zero (xs zs vs : List Int) : amongTo xs zs vs 0 = 0 := by
  unfold amongTo
  rw [sumP_zero zs vs (fun y _ => by simp), wrap_zero]
theorem amongTo_end (xs zs vs : List Int) : amongTo xs zs vs xs.length = wrap64 (sumP (fun y => decide (y ∈ xs)) zs vs) := by
  unfold amongTo
  rw [List.take_length]
theorem amongTo_in {xs zs vs : List Int} {k : Nat} (hk : k < xs.length) (h : xs.getD k 0 ∈ xs.take k) : amongTo xs zs vs (k + 1) = amongTo xs zs vs k := by
  unfold amongTo
  rw [take_snoc xs k hk, more_in h]
theorem amongTo_none {xs zs vs : List Int} {k : Nat} (hk : k < xs.length) (h : xs.getD k 0 ∉ zs) : amongTo xs zs vs (k + 1) = amongTo xs zs vs k := by
  by_cases hin : xs.getD k 0 ∈ xs.take k
  · exact amongTo_in hk hin
  · unfold amongTo
    rw [take_snoc xs k hk, more_out hin, sumP_not_mem zs vs h, Int.add_zero]
theorem amongTo_some {xs zs vs : List Int} {k j : Nat} (hk : k < xs.length) (h : xs.getD k 0 ∉ xs.take k) (ha : Asc zs) (hl : zs.length = vs.length) (hj : j < zs.length) (hx : zs.getD j 0 = xs.getD k 0) : amongTo xs zs vs (k + 1) = wrap64 (amongTo xs zs vs k + vs.getD j 0) := by
  unfold amongTo
  rw [take_snoc xs k hk, more_out h, sumP_at ha hl j hj hx, wrap_add]

set_option maxRecDepth 100000 in
set_option maxHeartbeats 4000000 in
theorem share_main (s : ByteArray) (r q : Int) (a3 a4 a5 : Option Addr) (c3 c4 c5 : Nat) (zs vs xs : List Int) (w : World) (hs : s.size ≤ 65536) (l3 : zs.length ≤ 32768) (l5 : xs.length ≤ 32768) (hlen : vs.length = zs.length)
    (h3 : Ints w a3 zs) (h4 : Ints w a4 vs) (h5 : Ints w a5 xs) :
    Calls Try.prog 6 #[.string s, .int .i64 r, .int .i64 q, .slice a3 zs.length c3, .slice a4 vs.length c4, .slice a5 xs.length c5] w fun e w' => e = .returned (.bool true) ∧ Below w.heap.size w w' := by
  have l4 : vs.length ≤ 32768 := by omega
  have HLen : Hid (vs.length = zs.length) := hlen
  have hne : ((vs.length : Int) != (zs.length : Int)) = false := by simp; omega
  have hmm := fun n w => run_makeMap_hint (P := Try.prog) Try.underlying45 n w
  clear hlen
  go_enter Try.func6, Try.ntmps6
  go_wp2_with fail
  refine (bytes17 s r q a3 a4 a5 _ _ _ c3 c4 c5 _ (by unfold maxLen; omega) h3.len h4.len h5.len).mono ?_
  rintro e w1 ⟨he, hw⟩
  subst hw
  rcases he with rfl | rfl
  case inr =>
    go_wp2
    go_ret
    exact ⟨rfl, Below.refl _ _⟩
  go_wp2_with fail
  refine (ascending a3 c3 zs _ l3 h3).mono ?_
  rintro e w2 ⟨he, m, hw2⟩
  have hW1 : Below w1.heap.size w1 w2 := by rw [hw2]; exact below_drewN (Below.refl _ _) m
  clear hw2
  rcases he with ⟨rfl, ha⟩ | rfl
  case inr =>
    go_wp2
    go_ret
    exact ⟨rfl, hW1⟩
  have HAs : Hid (Asc zs) := ha
  clear ha
  have h4' := h4.below hW1
  go_wp2_with fail
  go_loop [13, 14] (fun t i => ∃ k : Nat, k ≤ vs.length ∧ i = .int .i64 k ∧ t = .int .i64 (wrap64 (tot vs k))) (fun _ i => vs.length - (intOf i).toNat)
  case atStart => exact ⟨0, Nat.zero_le _, rfl, by simp [tot, wrap_zero]⟩
  case round =>
    obtain ⟨k, hk, rfl, rfl⟩ := hrel
    clear hmm
    by_cases hkl : k < vs.length
    · obtain ⟨b4, o4, rfl, hI⟩ := h4'.at_ (by omega)
      have e1 := hI.c k hkl
      have i1 : (k : Int) < (vs.length : Int) := by omega
      have HT : Hid (wrap64 (wrap64 (tot vs k) + vs.getD k 0) = wrap64 (tot vs (k + 1))) := by
        show _ = _
        rw [wrap_add, tot_succ vs k hkl]
      clear hI
      generalize vs.getD k 0 = Z at *
      generalize wrap64 (tot vs k) = T at *
      go_wp2
      go_round
      case rel => exact ⟨k + 1, by omega, by go_num, congrArg (Value.int IntKind.i64) HT.out⟩
      case measure => simp [intOf]; omega
    · have ek : k = vs.length := by omega
      subst ek
      have HF : Hid ((wrap64 (wrap64 (sumP (fun y => decide (y ∈ xs)) zs vs) + wrap64 (sumP (fun y => !decide (y ∈ xs)) zs vs)) == wrap64 (tot vs vs.length)) = true) := shares HLen.out.symm
      generalize wrap64 (tot vs vs.length) = T at *
      clear h4'
      have hmm := fun n w => run_makeMap_hint (P := Try.prog) Try.underlying45 n w
      have hW2 : Below w1.heap.size w1 (w2.alloc (.map #[] 0)) := hW1.alloc hW1.size _
      have hown0 : (w2.alloc (.map #[] 0)).ownsMap Try.prog 3 (plainElem (H := Unit) Try.prog 4) w2.heap.size 0 (.map []) := World.ownsMap_made _ _ _ _
      have hB2 := hW1.size
      go_wp2_with fail
      generalize w2.alloc (.map #[] 0) = w3 at *
      generalize w2.heap.size = B at *
      clear hmm
      go_loopw [15, 17] (fun am i wr => ∃ (k n : Nat) (D : DataW Unit), k ≤ xs.length ∧ n ≤ k ∧ i = .int .i64 k ∧ am = .int .i64 (amongTo xs zs vs k) ∧ wr.ownsMap Try.prog 3 (plainElem Try.prog 4) B n D ∧ SetIs D (xs.take k) ∧ Below w1.heap.size w1 wr) (fun _ i _ => xs.length - (intOf i).toNat)
      case atStart => exact ⟨0, 0, .map [], Nat.zero_le _, Nat.le_refl _, rfl, by rw [amongTo_zero], hown0, by simpa using setIs_start, hW2⟩
      case round =>
        obtain ⟨k, n, D, hk, hn, rfl, rfl, hown, hset, hbel⟩ := hrel
        clear hown0
        by_cases hkl : k < xs.length
        · obtain ⟨b5, o5, rfl, hI⟩ := h5.at_ (by omega)
          have e1 := (hbel.cell (p := ⟨b5, o5 + k, none⟩) hI.lt).trans (hI.c k hkl)
          have hlk := look_set law3 Try.underlying3 Try.underlying45 hown hset (xs.getD k 0) (h5.wf k)
          by_cases hin : xs.getD k 0 ∈ xs.take k
          · have hN : decide (xs.getD k 0 ∈ xs.take k) = true := by simpa using hin
            rw [hN] at hlk
            have hset2 := setIs_in hset hin
            rw [← take_snoc xs k hkl] at hset2
            have HS : Hid (amongTo xs zs vs k = amongTo xs zs vs (k + 1)) := (amongTo_in hkl hin).symm
            have HR : Hid (wr.ownsMap Try.prog 3 (plainElem Try.prog 4) B n D ∧ SetIs D (xs.take (k + 1)) ∧ Below w1.heap.size w1 wr) := ⟨hown, hset2, hbel⟩
            clear hI hset hset2 hown hbel hin hN
            generalize xs.getD k 0 = Z at *
            generalize amongTo xs zs vs k = A at *
            go_wp2
            go_roundw
            case rel => exact ⟨k + 1, n, D, by omega, by omega, by go_num, congrArg (Value.int IntKind.i64) HS.out, HR.out.1, HR.out.2.1, HR.out.2.2⟩
            case measure => simp [intOf]; omega
          · have hN : decide (xs.getD k 0 ∈ xs.take k) = false := by simpa using hin
            rw [hN] at hlk
            obtain ⟨w4, hrun, hown2, hg2⟩ := hown.update law3 Try.underlying45 (by unfold maxLen; omega) (keyOf_int_mk Try.underlying3 (h5.wf k)) (plainElem_bool (H := Unit) Try.underlying4 true)
            have hset2 := setIs_step hset (xs.getD k 0)
            rw [← take_snoc xs k hkl] at hset2
            have hbel2 := hbel.grown hg2 hbel.size (fun j hj => by cases hj; exact hB2)
            have e2 := (hbel2.cell (p := ⟨b5, o5 + k, none⟩) hI.lt).trans (hI.c k hkl)
            obtain ⟨D2, HR⟩ : ∃ D2 : DataW Unit, Hid (w4.ownsMap Try.prog 3 (plainElem Try.prog 4) B (n + 1) D2 ∧ SetIs D2 (xs.take (k + 1)) ∧ Below w1.heap.size w1 w4) := ⟨_, hown2, hset2, hbel2⟩
            have HSN : Hid (xs.getD k 0 ∉ zs → amongTo xs zs vs k = amongTo xs zs vs (k + 1)) := fun h => (amongTo_none hkl h).symm
            have HSS : Hid (∀ j, j < zs.length → zs.getD j 0 = xs.getD k 0 → wrap64 (amongTo xs zs vs k + vs.getD j 0) = amongTo xs zs vs (k + 1)) := fun j hj hx => (amongTo_some hkl hin HAs.out HLen.out.symm hj hx).symm
            have hbel3 := hbel2
            clear hI hset hset2 hown hown2 hg2 hbel hbel2 hin hN
            generalize xs.getD k 0 = Z at *
            generalize amongTo xs zs vs k = A at *
            go_wp2_with fail
            clear hrun hlk
            refine (findSite a3 c3 zs Z _ l3 HAs.out (by exact h3.below hbel3)).mono ?_
            rintro e w5 ⟨he, hw5⟩
            subst hw5
            rcases he with ⟨j, hj, hjx, rfl⟩ | ⟨hxz, rfl⟩
            · have HS : Hid (wrap64 (A + vs.getD j 0) = amongTo xs zs vs (k + 1)) := HSS.out j hj hjx
              have hlen' := HLen.out
              obtain ⟨b4, o4, rfl, hI4⟩ := (h4.below hbel3).at_ (by omega)
              have ej := hI4.c j (by omega)
              have hj4 : (j : Int) < (vs.length : Int) := by omega
              clear hI4 hlen' hjx HSS HSN
              generalize vs.getD j 0 = V at *
              go_wp2
              go_roundw
              case rel => exact ⟨k + 1, n + 1, D2, by omega, by omega, by go_num, congrArg (Value.int IntKind.i64) HS.out, HR.out.1, HR.out.2.1, HR.out.2.2⟩
              case measure => simp [intOf]; omega
            · have HS : Hid (A = amongTo xs zs vs (k + 1)) := HSN.out hxz
              clear HSS HSN
              go_wp2
              go_roundw
              case rel => exact ⟨k + 1, n + 1, D2, by omega, by omega, by go_num, congrArg (Value.int IntKind.i64) HS.out, HR.out.1, HR.out.2.1, HR.out.2.2⟩
              case measure => simp [intOf]; omega
        · have ek : k = xs.length := by omega
          subst ek
          rw [amongTo_end]
          have hW3' := hbel
          clear hown hset hbel hW2 hW1
          go_wp2_with fail
          refine (votesMap a3 a4 c3 c4 zs vs _ (by omega) (by have := HLen.out; omega) HAs.out (by exact h3.below hW3') (by exact h4.below hW3')).mono ?_
          rintro e w3' ⟨mv, rfl, hC3, hb3⟩
          have hW3 := hW3'.trans (hb3.mono hW3'.size)
          obtain ⟨rm, hrm⟩ : ∃ rm, mv = .map rm := by
            rcases hC3 with ⟨h, _⟩ | ⟨B, _, _, h, _⟩
            · exact ⟨_, h⟩
            · exact ⟨_, h⟩
          rw [hrm] at hC3 ⊢
          clear hrm hb3 hW3'
          obtain ⟨O, hO⟩ : ∃ O : Obj, O = .cells #[.string s, .int .i64 r, .int .i64 q, .map rm] 29 := ⟨_, rfl⟩
          have hW4 : Below w1.heap.size w1 (w3'.alloc O) := hW3.alloc hW3.size _
          have hC4 : CopAt (w3'.alloc O) (.map rm) zs vs := hC3.below ((Below.refl _ _).alloc (Nat.le_refl _) _)
          have c40 : (w3'.alloc O).cell? ⟨w3'.heap.size, 0, none⟩ = some (.string s) := by rw [hO]; go_simp
          have c41 : (w3'.alloc O).cell? ⟨w3'.heap.size, 1, none⟩ = some (.int .i64 r) := by rw [hO]; go_simp
          have c42 : (w3'.alloc O).cell? ⟨w3'.heap.size, 2, none⟩ = some (.int .i64 q) := by rw [hO]; go_simp
          have c43 : (w3'.alloc O).cell? ⟨w3'.heap.size, 3, none⟩ = some (.map rm) := by rw [hO]; go_simp
          have hI4 : w3'.heap.size < (w3'.alloc O).heap.size := by simp
          go_wp2_with fail
          rw [← hO]
          generalize w3'.alloc O = w4 at *
          clear hO hC3 hW3
          generalize w3'.heap.size = I at *
          refine (siteSet a5 c5 xs _ (by omega) (by exact h5.below hW4)).mono ?_
          rintro e w5 ⟨rfl, hS5n, hb5⟩
          have hS5 := hS5n.set
          clear hS5n
          have hW5 := hW4.trans (hb5.mono hW4.size)
          have hC5 := hC4.below hb5
          have hi5 : I < w5.heap.size := Nat.lt_of_lt_of_le hI4 hb5.size
          have c50 := (hb5.cell (p := ⟨I, 0, none⟩) hI4).trans c40
          have c51 := (hb5.cell (p := ⟨I, 1, none⟩) hI4).trans c41
          have c52 := (hb5.cell (p := ⟨I, 2, none⟩) hI4).trans c42
          have c53 := (hb5.cell (p := ⟨I, 3, none⟩) hI4).trans c43
          clear hb5 hW4 hC4 c40 c41 c42 c43 hI4
          generalize w4.heap.size = M1 at *
          generalize hA1 : wrap64 (sumP (fun y => decide (y ∈ xs)) zs vs) = A1 at *
          go_wp2_with fail
          refine (zz12 s r q M1 _ xs zs vs _ (by exact hS5) (by exact hC5)).mono ?_
          rw [hA1]
          clear hA1
          rintro e w8 ⟨rfl, hb8⟩
          have hW8 := hW5.trans (hb8.mono hW5.size)
          have hC8 := hC5.below hb8
          have hS8 := hS5.below hb8
          have c80 := (hb8.cell (p := ⟨I, 0, none⟩) hi5).trans c50
          have c81 := (hb8.cell (p := ⟨I, 1, none⟩) hi5).trans c51
          have c82 := (hb8.cell (p := ⟨I, 2, none⟩) hi5).trans c52
          have c83 := (hb8.cell (p := ⟨I, 3, none⟩) hi5).trans c53
          clear hb8 hW5 hC5 hS5 c50 c51 c52 c53 hi5
          go_wp2_with fail
          refine (zz18 s r q M1 _ xs zs vs _ (by exact hS8) (by exact hC8)).mono ?_
          rintro e w9 ⟨rfl, hb9⟩
          have hW9 := hW8.trans (hb9.mono hW8.size)
          clear hb9 hW8 hC8 hS8 c80 c81 c82 c83
          generalize wrap64 (sumP (fun y => !decide (y ∈ xs)) zs vs) = A2 at *
          have hF := HF.out
          go_wp2
          go_ret
          exact ⟨rfl, hW9⟩

end Go.Proofs.Qxb6616362a

/-
  The walk of FnVotesAmongOneSiteMoreAddsJustItsVotes (3).
-/
import Derived.Test.Qxb6616362aAmong
namespace Go.Proofs.Qxb6616362a
open Go.RowKit Go.Maps
set_option linter.unusedVariables false
set_option linter.unusedSimpArgs false

theorem more_in {xs zs vs : List Int} {x : Int} (h : x ∈ xs) : sumP (fun y => decide (y ∈ xs ++ [x])) zs vs = sumP (fun y => decide (y ∈ xs)) zs vs :=
  sumP_congr zs vs fun y _ => by
    by_cases e : y = x
    · subst e; simp [h]
    · simp [e]
theorem more_out {xs zs vs : List Int} {x : Int} (h : x ∉ xs) : sumP (fun y => decide (y ∈ xs ++ [x])) zs vs = sumP (fun y => decide (y ∈ xs)) zs vs + sumP (fun y => y == x) zs vs := by
  rw [← sumP_or (by simpa using h) zs vs]
  exact sumP_congr zs vs fun y _ => by
    by_cases e : y = x
    · subst e; simp
    · simp [e]

theorem in_hit {xs : List Int} {k : Nat} {x : Int} (hk : k < xs.length) (h : xs.getD k 0 = x) : decide (x ∈ xs.take (k + 1)) = true := by
  rw [take_snoc xs k hk, h]
  simp
theorem in_miss {xs : List Int} {k : Nat} {x : Int} (hk : k < xs.length) (h : ¬ xs.getD k 0 = x) : decide (x ∈ xs.take (k + 1)) = decide (x ∈ xs.take k) := by
  rw [take_snoc xs k hk]
  generalize xs.getD k 0 = z at h
  have h' : ¬ x = z := fun e => h e.symm
  simp [h']

/-- The law in plain words. -/
theorem gain_in {xs zs vs : List Int} {x : Int} (h : x ∈ xs) : (wrap64 (wrap64 (sumP (fun y => decide (y ∈ xs ++ [x])) zs vs) - wrap64 (sumP (fun y => decide (y ∈ xs)) zs vs)) == 0) = true := by
  rw [more_in h, wrap_sub, Int.sub_self, wrap_zero]
  rfl
theorem gain_none {xs zs vs : List Int} {x : Int} (h : x ∉ zs) : (wrap64 (wrap64 (sumP (fun y => decide (y ∈ xs ++ [x])) zs vs) - wrap64 (sumP (fun y => decide (y ∈ xs)) zs vs)) == 0) = true := by
  by_cases hx : x ∈ xs
  · exact gain_in hx
  · rw [more_out hx, sumP_not_mem zs vs h, Int.add_zero, wrap_sub, Int.sub_self, wrap_zero]
    rfl
theorem gain_some {xs zs vs : List Int} {x : Int} {j : Nat} (h : x ∉ xs) (ha : Asc zs) (hl : zs.length = vs.length) (hj : j < zs.length) (hx : zs.getD j 0 = x) (hw : (Lit.int .i64 (vs.getD j 0)).wf = true) :
    (wrap64 (wrap64 (sumP (fun y => decide (y ∈ xs ++ [x])) zs vs) - wrap64 (sumP (fun y => decide (y ∈ xs)) zs vs)) == vs.getD j 0) = true := by
  rw [more_out h, sumP_at ha hl j hj hx, wrap_sub]
  have e : sumP (fun y => decide (y ∈ xs)) zs vs + vs.getD j 0 - sumP (fun y => decide (y ∈ xs)) zs vs = vs.getD j 0 := by omega
  rw [e, wrap_wf hw]
  simp

set_option maxRecDepth 100000 in
set_option maxHeartbeats 4000000 in
theorem more_main (s : ByteArray) (r q : Int) (a3 a4 a5 : Option Addr) (c3 c4 c5 : Nat) (zs vs xs : List Int) (x : Int) (w : World) (hs : s.size ≤ 65536) (l3 : zs.length ≤ 32768) (l5 : xs.length ≤ 32768) (hlen : vs.length = zs.length) (hx : (Lit.int .i64 x).wf = true)
    (h3 : Ints w a3 zs) (h4 : Ints w a4 vs) (h5 : Ints w a5 xs) :
    Calls Try.prog 3 #[.string s, .int .i64 r, .int .i64 q, .slice a3 zs.length c3, .slice a4 vs.length c4, .slice a5 xs.length c5, .int .i64 x] w fun e w' => e = .returned (.bool true) ∧ Below w.heap.size w w' := by
  have l4 : vs.length ≤ 32768 := by omega
  have HLen : Hid (vs.length = zs.length) := hlen
  have hne : ((vs.length : Int) != (zs.length : Int)) = false := by simp; omega
  clear hlen
  go_enter Try.func3, Try.ntmps3
  go_wp2_with fail
  refine (bytes7 s r q a3 a4 a5 _ _ _ c3 c4 c5 x _ (by unfold maxLen; omega) h3.len h4.len h5.len).mono ?_
  rintro e w1 ⟨he, hw⟩
  subst hw
  rcases he with rfl | rfl
  case inr =>
    go_wp2
    go_ret
    exact ⟨rfl, Below.refl _ _⟩
  go_wp2_with fail
  refine (ascending a3 c3 zs _ l3 h3).mono ?_
  rintro e w2 ⟨he, m, hw2⟩
  have hW1 : Below w1.heap.size w1 w2 := by rw [hw2]; exact below_drewN (Below.refl _ _) m
  clear hw2
  rcases he with ⟨rfl, ha⟩ | rfl
  case inr =>
    go_wp2
    go_ret
    exact ⟨rfl, hW1⟩
  have HAs : Hid (Asc zs) := ha
  clear ha
  have h5' := h5.below hW1
  go_wp2_with fail
  go_loop [15, 16] (fun b i => ∃ k : Nat, k ≤ xs.length ∧ i = .int .i64 k ∧ b = .bool (decide (x ∈ xs.take k))) (fun _ i => xs.length - (intOf i).toNat)
  case atStart => exact ⟨0, Nat.zero_le _, rfl, by simp⟩
  case round =>
    obtain ⟨k, hk, rfl, rfl⟩ := hrel
    by_cases hkl : k < xs.length
    · obtain ⟨b5, o5, rfl, hI⟩ := h5'.at_ (by omega)
      have e1 := hI.c k hkl
      by_cases hxk : xs.getD k 0 = x
      · have hb : (xs.getD k 0 == x) = true := by simpa using hxk
        have HT : Hid (decide (x ∈ xs.take (k + 1)) = true) := in_hit hkl hxk
        clear hI hxk
        generalize xs.getD k 0 = Z at *
        generalize decide (x ∈ xs.take k) = bb at *
        go_wp2
        go_round
        case rel => exact ⟨k + 1, by omega, by go_num, by rw [HT.out]⟩
        case measure => simp [intOf]; omega
      · have hb : (xs.getD k 0 == x) = false := by simpa using hxk
        have HT : Hid (decide (x ∈ xs.take (k + 1)) = decide (x ∈ xs.take k)) := in_miss hkl hxk
        clear hI hxk
        generalize xs.getD k 0 = Z at *
        generalize decide (x ∈ xs.take k) = bb at *
        go_wp2
        go_round
        case rel => exact ⟨k + 1, by omega, by go_num, by rw [HT.out]⟩
        case measure => simp [intOf]; omega
    · have ek : k = xs.length := by omega
      subst ek
      rw [List.take_length]
      go_wp2_with fail
      refine (findSite a3 c3 zs x _ l3 HAs.out (by exact h3.below hW1)).mono ?_
      rintro e w2' ⟨he, hw2⟩
      subst hw2
      clear h5'
      rcases he with ⟨j, hj, hjx, rfl⟩ | ⟨hxz, rfl⟩
      · by_cases hin : x ∈ xs
        · have HF : Hid ((wrap64 (wrap64 (sumP (fun y => decide (y ∈ xs ++ [x])) zs vs) - wrap64 (sumP (fun y => decide (y ∈ xs)) zs vs)) == 0) = true) := gain_in hin
          have hN : decide (x ∈ xs) = true := by simpa using hin
          rw [hN]
          clear hin hjx hN
          go_wp2_with fail
          refine (votesMap a3 a4 c3 c4 zs vs _ (by omega) (by have := HLen.out; omega) HAs.out (by exact h3.below hW1) (by exact h4.below hW1)).mono ?_
          rintro e w3 ⟨mv, rfl, hC3, hb3⟩
          have hW3 := hW1.trans (hb3.mono hW1.size)
          obtain ⟨rm, hrm⟩ : ∃ rm, mv = .map rm := by
            rcases hC3 with ⟨h, _⟩ | ⟨B, _, _, h, _⟩
            · exact ⟨_, h⟩
            · exact ⟨_, h⟩
          rw [hrm] at hC3 ⊢
          clear hrm hb3 hW1
          obtain ⟨O, hO⟩ : ∃ O : Obj, O = .cells #[.string s, .int .i64 r, .int .i64 q, .map rm] 29 := ⟨_, rfl⟩
          have hW4 : Below w1.heap.size w1 (w3.alloc O) := hW3.alloc hW3.size _
          have hC4 : CopAt (w3.alloc O) (.map rm) zs vs := hC3.below ((Below.refl _ _).alloc (Nat.le_refl _) _)
          have c40 : (w3.alloc O).cell? ⟨w3.heap.size, 0, none⟩ = some (.string s) := by rw [hO]; go_simp
          have c41 : (w3.alloc O).cell? ⟨w3.heap.size, 1, none⟩ = some (.int .i64 r) := by rw [hO]; go_simp
          have c42 : (w3.alloc O).cell? ⟨w3.heap.size, 2, none⟩ = some (.int .i64 q) := by rw [hO]; go_simp
          have c43 : (w3.alloc O).cell? ⟨w3.heap.size, 3, none⟩ = some (.map rm) := by rw [hO]; go_simp
          have hI4 : w3.heap.size < (w3.alloc O).heap.size := by simp
          go_wp2_with fail
          rw [← hO]
          generalize w3.alloc O = w4 at *
          clear hO hC3 hW3
          generalize w3.heap.size = I at *
          refine (siteSet a5 c5 xs _ (by omega) (by exact h5.below hW4)).mono ?_
          rintro e w5 ⟨rfl, hS5n, hb5⟩
          have hS5 := hS5n.set
          clear hS5n
          have hW5 := hW4.trans (hb5.mono hW4.size)
          have hC5 := hC4.below hb5
          have hi5 : I < w5.heap.size := Nat.lt_of_lt_of_le hI4 hb5.size
          have c50 := (hb5.cell (p := ⟨I, 0, none⟩) hI4).trans c40
          have c51 := (hb5.cell (p := ⟨I, 1, none⟩) hI4).trans c41
          have c52 := (hb5.cell (p := ⟨I, 2, none⟩) hI4).trans c42
          have c53 := (hb5.cell (p := ⟨I, 3, none⟩) hI4).trans c43
          clear hb5 hW4 hC4 c40 c41 c42 c43 hI4
          generalize w4.heap.size = M1 at *
          go_wp2_with fail
          refine (siteSet a5 c5 xs _ (by omega) (by exact h5.below hW5)).mono ?_
          rintro e w6 ⟨rfl, hS6, hb6⟩
          have hlt6 := hS6.set.lt
          have hM1 := hS5.lt
          obtain ⟨n6, D6, hown6, hset6, hn6⟩ := hS6
          obtain ⟨w7, hrun, hown7, hg7⟩ := hown6.update law32 Try.underlying30 (by unfold maxLen; omega) (keyOf_int_mk Try.underlying32 hx) (plainElem_bool (H := Unit) Try.underlying4 true)
          have hset7 := setIs_step hset6 x
          have hS7 : SetAt w7 w5.heap.size (xs ++ [x]) := ⟨_, _, hown7, hset7⟩
          have hb7 : Below w5.heap.size w5 w7 := hb6.grown hg7 hb6.size (fun j hj => by cases hj; exact Nat.le_refl _)
          have hW7 := hW5.trans (hb7.mono hW5.size)
          have hC7 := hC5.below hb7
          have hS57 := hS5.below hb7
          have hi7 : I < w7.heap.size := Nat.lt_of_lt_of_le hi5 hb7.size
          have c70 := (hb7.cell (p := ⟨I, 0, none⟩) hi5).trans c50
          have c71 := (hb7.cell (p := ⟨I, 1, none⟩) hi5).trans c51
          have c72 := (hb7.cell (p := ⟨I, 2, none⟩) hi5).trans c52
          have c73 := (hb7.cell (p := ⟨I, 3, none⟩) hi5).trans c53
          clear hb6 hb7 hown6 hset6 hown7 hg7 hset7 hW5 hC5 hS5 c50 c51 c52 c53 hi5 hM1 hlt6 hn6
          generalize w5.heap.size = M2 at *
          go_wp2_with fail
          clear hrun
          refine (zz12 s r q M1 _ xs zs vs _ (by exact hS57) (by exact hC7)).mono ?_
          rintro e w8 ⟨rfl, hb8⟩
          have hW8 := hW7.trans (hb8.mono hW7.size)
          have hC8 := hC7.below hb8
          have hS8 := hS7.below hb8
          have c80 := (hb8.cell (p := ⟨I, 0, none⟩) hi7).trans c70
          have c81 := (hb8.cell (p := ⟨I, 1, none⟩) hi7).trans c71
          have c82 := (hb8.cell (p := ⟨I, 2, none⟩) hi7).trans c72
          have c83 := (hb8.cell (p := ⟨I, 3, none⟩) hi7).trans c73
          clear hb8 hW7 hC7 hS7 hS57 c70 c71 c72 c73 hi7
          generalize wrap64 (sumP (fun y => decide (y ∈ xs)) zs vs) = A1 at *
          go_wp2_with fail
          refine (zz12 s r q M2 _ (xs ++ [x]) zs vs _ (by exact hS8) (by exact hC8)).mono ?_
          rintro e w9 ⟨rfl, hb9⟩
          have hW9 := hW8.trans (hb9.mono hW8.size)
          clear hb9 hW8 hC8 hS8 c80 c81 c82 c83
          generalize wrap64 (sumP (fun y => decide (y ∈ xs ++ [x])) zs vs) = A2 at *
          have hF := HF.out
          go_wp2
          go_ret
          exact ⟨rfl, hW9⟩
        · have HF : Hid ((wrap64 (wrap64 (sumP (fun y => decide (y ∈ xs ++ [x])) zs vs) - wrap64 (sumP (fun y => decide (y ∈ xs)) zs vs)) == vs.getD j 0) = true) := gain_some hin HAs.out (by have := HLen.out; omega) hj hjx (h4.wf j)
          have hN : decide (x ∈ xs) = false := by simpa using hin
          rw [hN]
          clear hN
          have hlen' := HLen.out
          obtain ⟨b4, o4, rfl, hI4'⟩ := (h4.below hW1).at_ (by omega)
          have ej := hI4'.c j (by omega)
          have hj4 : (j : Int) < (vs.length : Int) := by omega
          clear hin hjx hI4' hlen'
          generalize vs.getD j 0 = V at *
          go_wp2_with fail
          refine (votesMap a3 _ c3 c4 zs vs _ (by omega) (by have := HLen.out; omega) HAs.out (by exact h3.below hW1) (by exact h4.below hW1)).mono ?_
          rintro e w3 ⟨mv, rfl, hC3, hb3⟩
          have hW3 := hW1.trans (hb3.mono hW1.size)
          obtain ⟨rm, hrm⟩ : ∃ rm, mv = .map rm := by
            rcases hC3 with ⟨h, _⟩ | ⟨B, _, _, h, _⟩
            · exact ⟨_, h⟩
            · exact ⟨_, h⟩
          rw [hrm] at hC3 ⊢
          clear hrm hb3 hW1
          obtain ⟨O, hO⟩ : ∃ O : Obj, O = .cells #[.string s, .int .i64 r, .int .i64 q, .map rm] 29 := ⟨_, rfl⟩
          have hW4 : Below w1.heap.size w1 (w3.alloc O) := hW3.alloc hW3.size _
          have hC4 : CopAt (w3.alloc O) (.map rm) zs vs := hC3.below ((Below.refl _ _).alloc (Nat.le_refl _) _)
          have c40 : (w3.alloc O).cell? ⟨w3.heap.size, 0, none⟩ = some (.string s) := by rw [hO]; go_simp
          have c41 : (w3.alloc O).cell? ⟨w3.heap.size, 1, none⟩ = some (.int .i64 r) := by rw [hO]; go_simp
          have c42 : (w3.alloc O).cell? ⟨w3.heap.size, 2, none⟩ = some (.int .i64 q) := by rw [hO]; go_simp
          have c43 : (w3.alloc O).cell? ⟨w3.heap.size, 3, none⟩ = some (.map rm) := by rw [hO]; go_simp
          have hI4 : w3.heap.size < (w3.alloc O).heap.size := by simp
          go_wp2_with fail
          rw [← hO]
          generalize w3.alloc O = w4 at *
          clear hO hC3 hW3
          generalize w3.heap.size = I at *
          refine (siteSet a5 c5 xs _ (by omega) (by exact h5.below hW4)).mono ?_
          rintro e w5 ⟨rfl, hS5n, hb5⟩
          have hS5 := hS5n.set
          clear hS5n
          have hW5 := hW4.trans (hb5.mono hW4.size)
          have hC5 := hC4.below hb5
          have hi5 : I < w5.heap.size := Nat.lt_of_lt_of_le hI4 hb5.size
          have c50 := (hb5.cell (p := ⟨I, 0, none⟩) hI4).trans c40
          have c51 := (hb5.cell (p := ⟨I, 1, none⟩) hI4).trans c41
          have c52 := (hb5.cell (p := ⟨I, 2, none⟩) hI4).trans c42
          have c53 := (hb5.cell (p := ⟨I, 3, none⟩) hI4).trans c43
          clear hb5 hW4 hC4 c40 c41 c42 c43 hI4
          generalize w4.heap.size = M1 at *
          go_wp2_with fail
          refine (siteSet a5 c5 xs _ (by omega) (by exact h5.below hW5)).mono ?_
          rintro e w6 ⟨rfl, hS6, hb6⟩
          have hlt6 := hS6.set.lt
          have hM1 := hS5.lt
          obtain ⟨n6, D6, hown6, hset6, hn6⟩ := hS6
          obtain ⟨w7, hrun, hown7, hg7⟩ := hown6.update law32 Try.underlying30 (by unfold maxLen; omega) (keyOf_int_mk Try.underlying32 hx) (plainElem_bool (H := Unit) Try.underlying4 true)
          have hset7 := setIs_step hset6 x
          have hS7 : SetAt w7 w5.heap.size (xs ++ [x]) := ⟨_, _, hown7, hset7⟩
          have hb7 : Below w5.heap.size w5 w7 := hb6.grown hg7 hb6.size (fun j hj => by cases hj; exact Nat.le_refl _)
          have hW7 := hW5.trans (hb7.mono hW5.size)
          have hC7 := hC5.below hb7
          have hS57 := hS5.below hb7
          have hi7 : I < w7.heap.size := Nat.lt_of_lt_of_le hi5 hb7.size
          have c70 := (hb7.cell (p := ⟨I, 0, none⟩) hi5).trans c50
          have c71 := (hb7.cell (p := ⟨I, 1, none⟩) hi5).trans c51
          have c72 := (hb7.cell (p := ⟨I, 2, none⟩) hi5).trans c52
          have c73 := (hb7.cell (p := ⟨I, 3, none⟩) hi5).trans c53
          clear hb6 hb7 hown6 hset6 hown7 hg7 hset7 hW5 hC5 hS5 c50 c51 c52 c53 hi5 hM1 hlt6 hn6
          generalize w5.heap.size = M2 at *
          go_wp2_with fail
          clear hrun
          refine (zz12 s r q M1 _ xs zs vs _ (by exact hS57) (by exact hC7)).mono ?_
          rintro e w8 ⟨rfl, hb8⟩
          have hW8 := hW7.trans (hb8.mono hW7.size)
          have hC8 := hC7.below hb8
          have hS8 := hS7.below hb8
          have c80 := (hb8.cell (p := ⟨I, 0, none⟩) hi7).trans c70
          have c81 := (hb8.cell (p := ⟨I, 1, none⟩) hi7).trans c71
          have c82 := (hb8.cell (p := ⟨I, 2, none⟩) hi7).trans c72
          have c83 := (hb8.cell (p := ⟨I, 3, none⟩) hi7).trans c73
          clear hb8 hW7 hC7 hS7 hS57 c70 c71 c72 c73 hi7
          generalize wrap64 (sumP (fun y => decide (y ∈ xs)) zs vs) = A1 at *
          go_wp2_with fail
          refine (zz12 s r q M2 _ (xs ++ [x]) zs vs _ (by exact hS8) (by exact hC8)).mono ?_
          rintro e w9 ⟨rfl, hb9⟩
          have hW9 := hW8.trans (hb9.mono hW8.size)
          clear hb9 hW8 hC8 hS8 c80 c81 c82 c83
          generalize wrap64 (sumP (fun y => decide (y ∈ xs ++ [x])) zs vs) = A2 at *
          have hF := HF.out
          go_wp2
          go_ret
          exact ⟨rfl, hW9⟩
      · have HF : Hid ((wrap64 (wrap64 (sumP (fun y => decide (y ∈ xs ++ [x])) zs vs) - wrap64 (sumP (fun y => decide (y ∈ xs)) zs vs)) == 0) = true) := gain_none hxz
        generalize decide (x ∈ xs) = bb at *
        go_wp2_with fail
        refine (votesMap a3 a4 c3 c4 zs vs _ (by omega) (by have := HLen.out; omega) HAs.out (by exact h3.below hW1) (by exact h4.below hW1)).mono ?_
        rintro e w3 ⟨mv, rfl, hC3, hb3⟩
        have hW3 := hW1.trans (hb3.mono hW1.size)
        obtain ⟨rm, hrm⟩ : ∃ rm, mv = .map rm := by
          rcases hC3 with ⟨h, _⟩ | ⟨B, _, _, h, _⟩
          · exact ⟨_, h⟩
          · exact ⟨_, h⟩
        rw [hrm] at hC3 ⊢
        clear hrm hb3 hW1
        obtain ⟨O, hO⟩ : ∃ O : Obj, O = .cells #[.string s, .int .i64 r, .int .i64 q, .map rm] 29 := ⟨_, rfl⟩
        have hW4 : Below w1.heap.size w1 (w3.alloc O) := hW3.alloc hW3.size _
        have hC4 : CopAt (w3.alloc O) (.map rm) zs vs := hC3.below ((Below.refl _ _).alloc (Nat.le_refl _) _)
        have c40 : (w3.alloc O).cell? ⟨w3.heap.size, 0, none⟩ = some (.string s) := by rw [hO]; go_simp
        have c41 : (w3.alloc O).cell? ⟨w3.heap.size, 1, none⟩ = some (.int .i64 r) := by rw [hO]; go_simp
        have c42 : (w3.alloc O).cell? ⟨w3.heap.size, 2, none⟩ = some (.int .i64 q) := by rw [hO]; go_simp
        have c43 : (w3.alloc O).cell? ⟨w3.heap.size, 3, none⟩ = some (.map rm) := by rw [hO]; go_simp
        have hI4 : w3.heap.size < (w3.alloc O).heap.size := by simp
        go_wp2_with fail
        rw [← hO]
        generalize w3.alloc O = w4 at *
        clear hO hC3 hW3
        generalize w3.heap.size = I at *
        refine (siteSet a5 c5 xs _ (by omega) (by exact h5.below hW4)).mono ?_
        rintro e w5 ⟨rfl, hS5n, hb5⟩
        have hS5 := hS5n.set
        clear hS5n
        have hW5 := hW4.trans (hb5.mono hW4.size)
        have hC5 := hC4.below hb5
        have hi5 : I < w5.heap.size := Nat.lt_of_lt_of_le hI4 hb5.size
        have c50 := (hb5.cell (p := ⟨I, 0, none⟩) hI4).trans c40
        have c51 := (hb5.cell (p := ⟨I, 1, none⟩) hI4).trans c41
        have c52 := (hb5.cell (p := ⟨I, 2, none⟩) hI4).trans c42
        have c53 := (hb5.cell (p := ⟨I, 3, none⟩) hI4).trans c43
        clear hb5 hW4 hC4 c40 c41 c42 c43 hI4
        generalize w4.heap.size = M1 at *
        go_wp2_with fail
        refine (siteSet a5 c5 xs _ (by omega) (by exact h5.below hW5)).mono ?_
        rintro e w6 ⟨rfl, hS6, hb6⟩
        have hlt6 := hS6.set.lt
        have hM1 := hS5.lt
        obtain ⟨n6, D6, hown6, hset6, hn6⟩ := hS6
        obtain ⟨w7, hrun, hown7, hg7⟩ := hown6.update law32 Try.underlying30 (by unfold maxLen; omega) (keyOf_int_mk Try.underlying32 hx) (plainElem_bool (H := Unit) Try.underlying4 true)
        have hset7 := setIs_step hset6 x
        have hS7 : SetAt w7 w5.heap.size (xs ++ [x]) := ⟨_, _, hown7, hset7⟩
        have hb7 : Below w5.heap.size w5 w7 := hb6.grown hg7 hb6.size (fun j hj => by cases hj; exact Nat.le_refl _)
        have hW7 := hW5.trans (hb7.mono hW5.size)
        have hC7 := hC5.below hb7
        have hS57 := hS5.below hb7
        have hi7 : I < w7.heap.size := Nat.lt_of_lt_of_le hi5 hb7.size
        have c70 := (hb7.cell (p := ⟨I, 0, none⟩) hi5).trans c50
        have c71 := (hb7.cell (p := ⟨I, 1, none⟩) hi5).trans c51
        have c72 := (hb7.cell (p := ⟨I, 2, none⟩) hi5).trans c52
        have c73 := (hb7.cell (p := ⟨I, 3, none⟩) hi5).trans c53
        clear hb6 hb7 hown6 hset6 hown7 hg7 hset7 hW5 hC5 hS5 c50 c51 c52 c53 hi5 hM1 hlt6 hn6
        generalize w5.heap.size = M2 at *
        go_wp2_with fail
        clear hrun
        refine (zz12 s r q M1 _ xs zs vs _ (by exact hS57) (by exact hC7)).mono ?_
        rintro e w8 ⟨rfl, hb8⟩
        have hW8 := hW7.trans (hb8.mono hW7.size)
        have hC8 := hC7.below hb8
        have hS8 := hS7.below hb8
        have c80 := (hb8.cell (p := ⟨I, 0, none⟩) hi7).trans c70
        have c81 := (hb8.cell (p := ⟨I, 1, none⟩) hi7).trans c71
        have c82 := (hb8.cell (p := ⟨I, 2, none⟩) hi7).trans c72
        have c83 := (hb8.cell (p := ⟨I, 3, none⟩) hi7).trans c73
        clear hb8 hW7 hC7 hS7 hS57 c70 c71 c72 c73 hi7
        generalize wrap64 (sumP (fun y => decide (y ∈ xs)) zs vs) = A1 at *
        go_wp2_with fail
        refine (zz12 s r q M2 _ (xs ++ [x]) zs vs _ (by exact hS8) (by exact hC8)).mono ?_
        rintro e w9 ⟨rfl, hb9⟩
        have hW9 := hW8.trans (hb9.mono hW8.size)
        clear hb9 hW8 hC8 hS8 c80 c81 c82 c83
        generalize wrap64 (sumP (fun y => decide (y ∈ xs ++ [x])) zs vs) = A2 at *
        have hF := HF.out
        go_wp2
        go_ret
        exact ⟨rfl, hW9⟩


end Go.Proofs.Qxb6616362a

/-
  VotesAmong (19), ZZvotesAmongIn (12), ZZvotesAmongNotIn (18).
-/
import Derived.Test.Qxb6616362aMaps
import Derived.FnLit
import Derived.Laws.IdiomRangeMap
namespace Go.Proofs.Qxb6616362a
open Go.RowKit Go.Maps
set_option linter.unusedVariables false
set_option linter.unusedSimpArgs false

theorem ret_int {a b : Int} (h : a = b) : Ending.returned (.int .i64 a) = .returned (.int .i64 b) := by rw [h]
theorem wrap_zero : wrap64 0 = 0 := by unfold wrap64; omega

set_option maxRecDepth 100000 in
set_option maxHeartbeats 1000000 in
theorem among20_some (s : ByteArray) (r q : Int) (c B M n : Nat) (D : DataW Unit) (xs zs vs : List Int) (w : World) (hcl : c < w.heap.size) (hc : w.cell? ⟨c, 0, none⟩ = some (.map (some M))) (hs : SetAt w M xs) (hown : w.ownsMap Try.prog 32 (plainElem Try.prog 3) B n D) (hm : MapIs D zs vs) :
    Calls Try.prog 19 #[.agg #[.string s, .int .i64 r, .int .i64 q, .map (some B)], .func (.func 20) #[] #[.pointer (some ⟨c, 0, none⟩)]] w fun e w' => e = .returned (.int .i64 (wrap64 (sumP (fun y => decide (y ∈ xs)) zs vs))) ∧ Below w.heap.size w w' := by
  have e1 : (w.alloc (.cells #[.string s, .int .i64 r, .int .i64 q, .map (some B)] 29)).heap.size = w.heap.size + 1 := by simp
  have HP : Hid (∀ (W : World) (x : Int), (Lit.int .i64 x).wf = true → Below w.heap.size w W → Calls Try.prog 20 #[.int .i64 x, .pointer (some ⟨c, 0, none⟩)] W fun e w' => e = .returned (.bool (decide (x ∈ xs))) ∧ w' = W) := fun W x hx hW => pred20 x c M xs W hx ((hW.cell (p := ⟨c, 0, none⟩) hcl).trans hc) (hs.below hW)
  have HM : Hid (MapIs D zs vs) := hm
  clear hs hc hm
  go_enter Try.func19, Try.ntmps19
  go_wp2_with (first
    | (at_range; refine wpList_range_own _ rfl _ 26 rfl 32 3 law32 Try.underlying26 _ B n _ rfl (hown.alloc _) ?_; intro w0 hrg0 hg0 hs0)
    | go_in)
  go_frame
  rw [e1] at hrg0 hs0 ⊢
  go_loopw [5] (fun v wr => ∃ (left : Lit → Bool) (cnt : Nat), wr.ranges Try.prog 32 (plainElem Try.prog 3) B (w.heap.size + 1) n D left cnt ∧ v = .int .i64 (wrap64 (sumP (doneP left (fun y => decide (y ∈ xs))) zs vs)) ∧ Below w.heap.size w wr)
    (fun _ wr => wr.rangeLeft B (w.heap.size + 1))
  case atStart => exact ⟨_, _, hrg0, by rw [doneP_start HM.out, wrap_zero], ((Below.refl _ _).alloc (Nat.le_refl _) _).grown hg0 (by simp) (fun j hj => by cases hj)⟩
  case round =>
    obtain ⟨left, cnt, hrg, rfl, hnx⟩ := hrel
    clear hrg0 hg0 hs0 hown
    go_wp2_with (first
      | (at_next; refine wpList_next_ranges_ii _ rfl _ rfl 32 3 .i64 .i64 law32 Try.underlying32 Try.underlying3 B (w.heap.size + 1) n _ _ _ rfl hrg ?_ ?_)
      | go_in)
    · intro hc0 hl0
      go_wp2
      go_ret
      exact ⟨ret_int (congrArg wrap64 (doneP_end _ hl0 zs vs)), hnx⟩
    · intro x v w1 cnt1 hwx hwc hlx hat hrg1 hlt hg1 hs1 hen
      have hnx1 := hnx.grown hg1 hnx.size (fun j hj => by cases hj; exact Nat.le_succ _)
      have hst := doneP_step HM.out (fun y => decide (y ∈ xs)) hlx hat
      have hmeas : w1.rangeLeft B (w.heap.size + 1) < wr.rangeLeft B (w.heap.size + 1) := by rw [hrg1.left_eq, hrg.left_eq]; exact hlt
      have HR : Hid (w1.ranges Try.prog 32 (plainElem Try.prog 3) B (w.heap.size + 1) n D (fun z => left z && !z.sameKey (.int .i64 x)) cnt1 ∧ Below w.heap.size w w1 ∧ w1.rangeLeft B (w.heap.size + 1) < wr.rangeLeft B (w.heap.size + 1)) := ⟨hrg1, hnx1, hmeas⟩
      have HS : Hid (sumP (doneP (fun z => left z && !z.sameKey (.int .i64 x)) (fun y => decide (y ∈ xs))) zs vs = sumP (doneP left (fun y => decide (y ∈ xs))) zs vs + (if (decide (x ∈ xs)) = true then v else 0)) := hst
      clear hat hrg1 hrg hg1 hs1 hnx1 hst hmeas hlt hlx
      go_wp2_with fail
      refine (HP.out _ x hwx ?_).mono ?_
      · exact HR.out.2.1
      rintro e w2 ⟨rfl, rfl⟩
      obtain ⟨S, hS⟩ : ∃ S, S = sumP (doneP left (fun y => decide (y ∈ xs))) zs vs := ⟨_, rfl⟩
      obtain ⟨S', hS'⟩ : ∃ S', S' = sumP (doneP (fun z => left z && !z.sameKey (.int .i64 x)) (fun y => decide (y ∈ xs))) zs vs := ⟨_, rfl⟩
      rw [← hS]
      cases hpx : (decide (x ∈ xs)) with
      | true =>
        have HE : Hid (wrap64 (wrap64 S + v) = wrap64 (sumP (doneP (fun z => left z && !z.sameKey (.int .i64 x)) (fun y => decide (y ∈ xs))) zs vs)) := by
          show _ = _
          rw [HS.out, hpx, ← hS, wrap_add]
          simp
        clear hS hS' hpx
        go_wp2
        go_roundw
        case rel => exact ⟨_, cnt1, HR.out.1, congrArg (Value.int IntKind.i64) HE.out, HR.out.2.1⟩
        case measure => exact HR.out.2.2
      | false =>
        have HE : Hid (wrap64 S = wrap64 (sumP (doneP (fun z => left z && !z.sameKey (.int .i64 x)) (fun y => decide (y ∈ xs))) zs vs)) := by
          show _ = _
          rw [HS.out, hpx, ← hS]
          simp
        clear hS hS' hpx
        go_wp2
        go_roundw
        case rel => exact ⟨_, cnt1, HR.out.1, congrArg (Value.int IntKind.i64) HE.out, HR.out.2.1⟩
        case measure => exact HR.out.2.2

set_option maxHeartbeats 400000 in
theorem among20_none (s : ByteArray) (r q : Int) (c : Nat) (w : World) :
    Calls Try.prog 19 #[.agg #[.string s, .int .i64 r, .int .i64 q, .map none], .func (.func 20) #[] #[.pointer (some ⟨c, 0, none⟩)]] w fun e w' => e = .returned (.int .i64 0) ∧ Below w.heap.size w w' := by
  have e1 : (w.alloc (.cells #[.string s, .int .i64 r, .int .i64 q, .map none] 29)).heap.size = w.heap.size + 1 := by simp
  have hrg := run_range_nilMap (P := Try.prog) (w.alloc (.cells #[.string s, .int .i64 r, .int .i64 q, .map none] 29)) 26 32 3 Try.underlying26
  have hnx : ∀ ty, (Instr.next (.pointer (some ⟨(w.alloc (.cells #[.string s, .int .i64 r, .int .i64 q, .map none] 29)).heap.size, 0, none⟩)) false ty).run Try.prog ((w.alloc (.cells #[.string s, .int .i64 r, .int .i64 q, .map none] 29)).alloc (.mapIter none 0 #[] 0)) = _ := fun ty => run_next_nilMap _ ty 0 0 #[]
  rw [e1] at hrg hnx
  go_enter Try.func19, Try.ntmps19
  go_wp2
  refine wp_loop_rounds 1 ?_
  rw [rounds_succ]
  go_wp2
  go_ret
  exact ⟨rfl, ((Below.refl _ _).alloc (Nat.le_refl _) _).alloc (by simp) _⟩

theorem among20 (s : ByteArray) (r q : Int) (c M : Nat) (mv : Value) (xs zs vs : List Int) (w : World) (hcl : c < w.heap.size) (hc : w.cell? ⟨c, 0, none⟩ = some (.map (some M))) (hs : SetAt w M xs) (hm : CopAt w mv zs vs) :
    Calls Try.prog 19 #[.agg #[.string s, .int .i64 r, .int .i64 q, mv], .func (.func 20) #[] #[.pointer (some ⟨c, 0, none⟩)]] w fun e w' => e = .returned (.int .i64 (wrap64 (sumP (fun y => decide (y ∈ xs)) zs vs))) ∧ Below w.heap.size w w' := by
  rcases hm with ⟨rfl, rfl⟩ | ⟨B, n, D, rfl, hown, hm⟩
  · rw [sumP_nil, wrap_zero]
    exact among20_none s r q c w
  · exact among20_some s r q c B M n D xs zs vs w hcl hc hs hown hm

set_option maxHeartbeats 400000 in
theorem zz12 (s : ByteArray) (r q : Int) (M : Nat) (mv : Value) (xs zs vs : List Int) (w : World) (hs : SetAt w M xs) (hm : CopAt w mv zs vs) :
    Calls Try.prog 12 #[.agg #[.string s, .int .i64 r, .int .i64 q, mv], .map (some M)] w fun e w' => e = .returned (.int .i64 (wrap64 (sumP (fun y => decide (y ∈ xs)) zs vs))) ∧ Below w.heap.size w w' := by
  go_enter Try.func12, Try.ntmps12
  go_wp2_with fail
  have hb1 : ∀ o, Below w.heap.size w (w.alloc o) := fun o => (Below.refl _ _).alloc (Nat.le_refl _) _
  have hb2 : ∀ o o', Below w.heap.size w ((w.alloc o).alloc o') := fun o o' => (hb1 o).alloc (by simp) _
  refine (among20 s r q (w.heap.size + 1) M mv xs zs vs _ ?_ ?_ ?_ ?_).mono ?_
  · simp
  · go_simp
  · exact hs.below (hb2 _ _)
  · exact hm.below (hb2 _ _)
  rintro e w1 ⟨rfl, hb⟩
  have hB := (hb2 _ _).trans (hb.mono (by simp; omega))
  clear hb hb1 hb2
  go_wp2
  go_ret
  exact ⟨rfl, hB⟩

set_option maxRecDepth 100000 in
set_option maxHeartbeats 1000000 in
theorem among21_some (s : ByteArray) (r q : Int) (c B M n : Nat) (D : DataW Unit) (xs zs vs : List Int) (w : World) (hcl : c < w.heap.size) (hc : w.cell? ⟨c, 0, none⟩ = some (.map (some M))) (hs : SetAt w M xs) (hown : w.ownsMap Try.prog 32 (plainElem Try.prog 3) B n D) (hm : MapIs D zs vs) :
    Calls Try.prog 19 #[.agg #[.string s, .int .i64 r, .int .i64 q, .map (some B)], .func (.func 21) #[] #[.pointer (some ⟨c, 0, none⟩)]] w fun e w' => e = .returned (.int .i64 (wrap64 (sumP (fun y => !decide (y ∈ xs)) zs vs))) ∧ Below w.heap.size w w' := by
  have e1 : (w.alloc (.cells #[.string s, .int .i64 r, .int .i64 q, .map (some B)] 29)).heap.size = w.heap.size + 1 := by simp
  have HP : Hid (∀ (W : World) (x : Int), (Lit.int .i64 x).wf = true → Below w.heap.size w W → Calls Try.prog 21 #[.int .i64 x, .pointer (some ⟨c, 0, none⟩)] W fun e w' => e = .returned (.bool (!decide (x ∈ xs))) ∧ w' = W) := fun W x hx hW => pred21 x c M xs W hx ((hW.cell (p := ⟨c, 0, none⟩) hcl).trans hc) (hs.below hW)
  have HM : Hid (MapIs D zs vs) := hm
  clear hs hc hm
  go_enter Try.func19, Try.ntmps19
  go_wp2_with (first
    | (at_range; refine wpList_range_own _ rfl _ 26 rfl 32 3 law32 Try.underlying26 _ B n _ rfl (hown.alloc _) ?_; intro w0 hrg0 hg0 hs0)
    | go_in)
  go_frame
  rw [e1] at hrg0 hs0 ⊢
  go_loopw [5] (fun v wr => ∃ (left : Lit → Bool) (cnt : Nat), wr.ranges Try.prog 32 (plainElem Try.prog 3) B (w.heap.size + 1) n D left cnt ∧ v = .int .i64 (wrap64 (sumP (doneP left (fun y => !decide (y ∈ xs))) zs vs)) ∧ Below w.heap.size w wr)
    (fun _ wr => wr.rangeLeft B (w.heap.size + 1))
  case atStart => exact ⟨_, _, hrg0, by rw [doneP_start HM.out, wrap_zero], ((Below.refl _ _).alloc (Nat.le_refl _) _).grown hg0 (by simp) (fun j hj => by cases hj)⟩
  case round =>
    obtain ⟨left, cnt, hrg, rfl, hnx⟩ := hrel
    clear hrg0 hg0 hs0 hown
    go_wp2_with (first
      | (at_next; refine wpList_next_ranges_ii _ rfl _ rfl 32 3 .i64 .i64 law32 Try.underlying32 Try.underlying3 B (w.heap.size + 1) n _ _ _ rfl hrg ?_ ?_)
      | go_in)
    · intro hc0 hl0
      go_wp2
      go_ret
      exact ⟨ret_int (congrArg wrap64 (doneP_end _ hl0 zs vs)), hnx⟩
    · intro x v w1 cnt1 hwx hwc hlx hat hrg1 hlt hg1 hs1 hen
      have hnx1 := hnx.grown hg1 hnx.size (fun j hj => by cases hj; exact Nat.le_succ _)
      have hst := doneP_step HM.out (fun y => !decide (y ∈ xs)) hlx hat
      have hmeas : w1.rangeLeft B (w.heap.size + 1) < wr.rangeLeft B (w.heap.size + 1) := by rw [hrg1.left_eq, hrg.left_eq]; exact hlt
      have HR : Hid (w1.ranges Try.prog 32 (plainElem Try.prog 3) B (w.heap.size + 1) n D (fun z => left z && !z.sameKey (.int .i64 x)) cnt1 ∧ Below w.heap.size w w1 ∧ w1.rangeLeft B (w.heap.size + 1) < wr.rangeLeft B (w.heap.size + 1)) := ⟨hrg1, hnx1, hmeas⟩
      have HS : Hid (sumP (doneP (fun z => left z && !z.sameKey (.int .i64 x)) (fun y => !decide (y ∈ xs))) zs vs = sumP (doneP left (fun y => !decide (y ∈ xs))) zs vs + (if (!decide (x ∈ xs)) = true then v else 0)) := hst
      clear hat hrg1 hrg hg1 hs1 hnx1 hst hmeas hlt hlx
      go_wp2_with fail
      refine (HP.out _ x hwx ?_).mono ?_
      · exact HR.out.2.1
      rintro e w2 ⟨rfl, rfl⟩
      obtain ⟨S, hS⟩ : ∃ S, S = sumP (doneP left (fun y => !decide (y ∈ xs))) zs vs := ⟨_, rfl⟩
      obtain ⟨S', hS'⟩ : ∃ S', S' = sumP (doneP (fun z => left z && !z.sameKey (.int .i64 x)) (fun y => !decide (y ∈ xs))) zs vs := ⟨_, rfl⟩
      rw [← hS]
      cases hpx : (!decide (x ∈ xs)) with
      | true =>
        have HE : Hid (wrap64 (wrap64 S + v) = wrap64 (sumP (doneP (fun z => left z && !z.sameKey (.int .i64 x)) (fun y => !decide (y ∈ xs))) zs vs)) := by
          show _ = _
          rw [HS.out, hpx, ← hS, wrap_add]
          simp
        clear hS hS' hpx
        go_wp2
        go_roundw
        case rel => exact ⟨_, cnt1, HR.out.1, congrArg (Value.int IntKind.i64) HE.out, HR.out.2.1⟩
        case measure => exact HR.out.2.2
      | false =>
        have HE : Hid (wrap64 S = wrap64 (sumP (doneP (fun z => left z && !z.sameKey (.int .i64 x)) (fun y => !decide (y ∈ xs))) zs vs)) := by
          show _ = _
          rw [HS.out, hpx, ← hS]
          simp
        clear hS hS' hpx
        go_wp2
        go_roundw
        case rel => exact ⟨_, cnt1, HR.out.1, congrArg (Value.int IntKind.i64) HE.out, HR.out.2.1⟩
        case measure => exact HR.out.2.2

set_option maxHeartbeats 400000 in
theorem among21_none (s : ByteArray) (r q : Int) (c : Nat) (w : World) :
    Calls Try.prog 19 #[.agg #[.string s, .int .i64 r, .int .i64 q, .map none], .func (.func 21) #[] #[.pointer (some ⟨c, 0, none⟩)]] w fun e w' => e = .returned (.int .i64 0) ∧ Below w.heap.size w w' := by
  have e1 : (w.alloc (.cells #[.string s, .int .i64 r, .int .i64 q, .map none] 29)).heap.size = w.heap.size + 1 := by simp
  have hrg := run_range_nilMap (P := Try.prog) (w.alloc (.cells #[.string s, .int .i64 r, .int .i64 q, .map none] 29)) 26 32 3 Try.underlying26
  have hnx : ∀ ty, (Instr.next (.pointer (some ⟨(w.alloc (.cells #[.string s, .int .i64 r, .int .i64 q, .map none] 29)).heap.size, 0, none⟩)) false ty).run Try.prog ((w.alloc (.cells #[.string s, .int .i64 r, .int .i64 q, .map none] 29)).alloc (.mapIter none 0 #[] 0)) = _ := fun ty => run_next_nilMap _ ty 0 0 #[]
  rw [e1] at hrg hnx
  go_enter Try.func19, Try.ntmps19
  go_wp2
  refine wp_loop_rounds 1 ?_
  rw [rounds_succ]
  go_wp2
  go_ret
  exact ⟨rfl, ((Below.refl _ _).alloc (Nat.le_refl _) _).alloc (by simp) _⟩

theorem among21 (s : ByteArray) (r q : Int) (c M : Nat) (mv : Value) (xs zs vs : List Int) (w : World) (hcl : c < w.heap.size) (hc : w.cell? ⟨c, 0, none⟩ = some (.map (some M))) (hs : SetAt w M xs) (hm : CopAt w mv zs vs) :
    Calls Try.prog 19 #[.agg #[.string s, .int .i64 r, .int .i64 q, mv], .func (.func 21) #[] #[.pointer (some ⟨c, 0, none⟩)]] w fun e w' => e = .returned (.int .i64 (wrap64 (sumP (fun y => !decide (y ∈ xs)) zs vs))) ∧ Below w.heap.size w w' := by
  rcases hm with ⟨rfl, rfl⟩ | ⟨B, n, D, rfl, hown, hm⟩
  · rw [sumP_nil, wrap_zero]
    exact among21_none s r q c w
  · exact among21_some s r q c B M n D xs zs vs w hcl hc hs hown hm

set_option maxHeartbeats 400000 in
theorem zz18 (s : ByteArray) (r q : Int) (M : Nat) (mv : Value) (xs zs vs : List Int) (w : World) (hs : SetAt w M xs) (hm : CopAt w mv zs vs) :
    Calls Try.prog 18 #[.agg #[.string s, .int .i64 r, .int .i64 q, mv], .map (some M)] w fun e w' => e = .returned (.int .i64 (wrap64 (sumP (fun y => !decide (y ∈ xs)) zs vs))) ∧ Below w.heap.size w w' := by
  go_enter Try.func18, Try.ntmps18
  go_wp2_with fail
  have hb1 : ∀ o, Below w.heap.size w (w.alloc o) := fun o => (Below.refl _ _).alloc (Nat.le_refl _) _
  have hb2 : ∀ o o', Below w.heap.size w ((w.alloc o).alloc o') := fun o o' => (hb1 o).alloc (by simp) _
  refine (among21 s r q (w.heap.size + 1) M mv xs zs vs _ ?_ ?_ ?_ ?_).mono ?_
  · simp
  · go_simp
  · exact hs.below (hb2 _ _)
  · exact hm.below (hb2 _ _)
  rintro e w1 ⟨rfl, hb⟩
  have hB := (hb2 _ _).trans (hb.mono (by simp; omega))
  clear hb hb1 hb2
  go_wp2
  go_ret
  exact ⟨rfl, hB⟩

end Go.Proofs.Qxb6616362a

/-
  (document).result (15) whole; ZZdocumentResult (10).
-/
import Derived.Test.Qxb6616284aFmtDocYy
import Derived.WalkSmall
namespace Go.Proofs.Qxb6616284aFmt
open Go.RowKit Go.Extern.Stop Go.Stop Go.Extern

/-- A document lies at block b: its kind, its name, no resource, its error. -/
structure Doc (w : World) (b : Nat) (k nm : ByteArray) (ev : Value) : Prop where
  lt : b < w.heap.size
  c2 : w.cell? ⟨b, 2, none⟩ = some (.string k)
  c3 : w.cell? ⟨b, 3, none⟩ = some (.string nm)
  c4 : w.cell? ⟨b, 4, none⟩ = some .nilIface
  c5 : w.cell? ⟨b, 5, none⟩ = some ev

theorem Doc.below {w w' : World} {b : Nat} {k nm : ByteArray} {ev : Value} (h : Doc w b k nm ev) (hb : Below w.heap.size w w') : Doc w' b k nm ev :=
  ⟨Nat.lt_of_lt_of_le h.lt hb.size, (hb.cell (p := ⟨b, 2, none⟩) h.lt).trans h.c2, (hb.cell (p := ⟨b, 3, none⟩) h.lt).trans h.c3, (hb.cell (p := ⟨b, 4, none⟩) h.lt).trans h.c4, (hb.cell (p := ⟨b, 5, none⟩) h.lt).trans h.c5⟩

theorem result_any (F : Interp) (b : Nat) (k nm : ByteArray) (ev : Value) (hev : IsErr ev) (n : Int) (w : World) (hF : F.answers w.tape) (hk : k.size ≤ 524288) (hn : nm.size ≤ 524288) (hd : Doc w b k nm ev) :
    Calls Tryf.prog 15 #[.pointer (some ⟨b, 0, none⟩), .int .i64 n] w fun e w' =>
      e = .returned (.agg #[.string (label F k nm n), .nilIface, ev]) ∧ Below w.heap.size w w' := by
  cases h1 : nameOk k with
  | false => exact result_no F b k nm ev hev n w hF hd.lt hk hn hd.c2 hd.c3 hd.c4 hd.c5 h1
  | true =>
    cases h2 : nameOk nm with
    | false => exact result_yn F b k nm ev hev n w hF hd.lt hk hn hd.c2 hd.c3 hd.c4 hd.c5 h1 h2
    | true => exact result_yy F b k nm ev hev n w hF hd.lt hk hn hd.c2 hd.c3 hd.c4 hd.c5 h1 h2

theorem neq38 (w : World) : (binOp .neq 38 .nilIface .nilIface).run Tryf.prog w = .ok (.bool false) w := by kernel_rfl
theorem neq40 (w : World) : (binOp .neq 40 .nilIface .nilIface).run Tryf.prog w = .ok (.bool false) w := by kernel_rfl
theorem neq40e (a : Addr) (w : World) : (binOp .neq 40 (.iface 66 (.pointer (some a))) .nilIface).run Tryf.prog w = .ok (.bool true) w := by kernel_rfl

set_option maxHeartbeats 400000 in
theorem doc_good (F : Interp) (b : Nat) (k nm : ByteArray) (n : Int) (w : World) (hF : F.answers w.tape) (hk : k.size ≤ 524288) (hn : nm.size ≤ 524288) (hd : Doc w b k nm .nilIface) :
    Calls Tryf.prog 10 #[.pointer (some ⟨b, 0, none⟩), .int .i64 n] w fun e w' =>
      e = .returned (.tuple #[.string (label F k nm n), .bool false, .bool false]) ∧ Below w.heap.size w w' := by
  have e1 := neq38
  have e2 := neq40
  go_enter Tryf.func10, Tryf.ntmps10
  go_wp2_with fail
  refine (result_any F b k nm _ (.inl rfl) n _ (by exact hF) hk hn (by exact hd)).mono ?_
  rintro e w1 ⟨rfl, hb⟩
  go_wp2
  go_quiet (fail)
  go_wp2
  go_ret3
  exact ⟨rfl, below_drewN (hb.alloc hb.size _) _⟩

set_option maxHeartbeats 400000 in
theorem doc_bad (F : Interp) (b : Nat) (k nm : ByteArray) (a : Addr) (n : Int) (w : World) (hF : F.answers w.tape) (hk : k.size ≤ 524288) (hn : nm.size ≤ 524288) (hd : Doc w b k nm (.iface 66 (.pointer (some a)))) :
    Calls Tryf.prog 10 #[.pointer (some ⟨b, 0, none⟩), .int .i64 n] w fun e w' =>
      e = .returned (.tuple #[.string (label F k nm n), .bool false, .bool true]) ∧ Below w.heap.size w w' := by
  have e1 := neq38
  have e2 := neq40e
  go_enter Tryf.func10, Tryf.ntmps10
  go_wp2_with fail
  refine (result_any F b k nm _ (.inr ⟨a, rfl⟩) n _ (by exact hF) hk hn (by exact hd)).mono ?_
  rintro e w1 ⟨rfl, hb⟩
  go_wp2
  go_quiet (fail)
  go_wp2
  go_ret3
  exact ⟨rfl, below_drewN (hb.alloc hb.size _) _⟩

end Go.Proofs.Qxb6616284aFmt

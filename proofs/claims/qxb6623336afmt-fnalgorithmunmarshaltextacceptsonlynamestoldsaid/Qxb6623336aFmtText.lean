/- Seat b6623336aF: (Algorithm).String and (*Algorithm).UnmarshalText, walked. -/
import Derived.Test.Qxb6623336aFmtFmt
import Derived.Test.Qxb6623336aFmtShelf
import Derived.Deep.QuietTactic
import Derived.BigQuiet
import Derived.LoopN
import Derived.WalkSmall
namespace Go.Proofs.Qxb6623336aFmt
open Go.RowKit Go.Extern.Stop Go.Stop Go.Extern

/-- The names' bytes. -/
def rsB : ByteArray := ⟨#[82, 83, 50, 53, 54]⟩
def esB : ByteArray := ⟨#[69, 83, 50, 53, 54]⟩

set_option maxHeartbeats 400000 in
theorem string_one (w : World) :
    Calls Tryf.prog 5 #[.int .i64 1] w fun e w' => e = .returned (.string ⟨#[82, 83, 50, 53, 54]⟩) ∧ w' = w := by
  go_enter Tryf.func5, Tryf.ntmps5
  go_wp2
  go_ret
  exact ⟨rfl, rfl⟩

set_option maxHeartbeats 400000 in
theorem string_two (w : World) :
    Calls Tryf.prog 5 #[.int .i64 2] w fun e w' => e = .returned (.string ⟨#[69, 83, 50, 53, 54]⟩) ∧ w' = w := by
  go_enter Tryf.func5, Tryf.ntmps5
  go_wp2
  go_ret
  exact ⟨rfl, rfl⟩

attribute [local go_sem] call11 guard_ok fmt_one fmt_one_run ptr38 elem38 isError38

set_option maxHeartbeats 400000 in
theorem errorf_any (F : Interp) (blk : Nat) (v : Value) (xs : List Int) (w : World) (hF : F.answers w.tape) (hv : BytesIs w v xs)
    (hc : w.cell? ⟨blk, 0, none⟩ = some (.iface 23 v)) :
    Calls Tryf.prog 9 #[.string ⟨#[116, 104, 101, 32, 97, 108, 103, 111, 114, 105, 116, 104, 109, 32, 37, 113, 32, 105, 115, 32, 110, 101, 105, 116, 104, 101, 114, 32, 82, 83, 50, 53, 54, 32, 110, 111, 114, 32, 69, 83, 50, 53, 54]⟩, .slice (some ⟨blk, 0, none⟩) 1 1] w fun e w' =>
      ∃ p, e = .returned (.iface 38 (.pointer (some p))) ∧ Below w.heap.size w w' := by
  have hF' := answers_open hF
  obtain ⟨val, hop⟩ := hv.op "fmt.errorf"
  go_enter Tryf.func9, Tryf.ntmps9
  go_wp2
  go_ret
  exact ⟨_, rfl, ((Below.refl _ w).alloc (Nat.le_refl _) _).drew⟩

set_option maxHeartbeats 800000 in
theorem unmarshal_bad (F : Interp) (ptr : Addr) (v : Value) (xs : List Int) (w : World) (hF : F.answers w.tape) (hv : BytesIs w v xs)
    (h1 : ((strOfNums xs).toList == [82, 83, 50, 53, 54]) = false) (h2 : ((strOfNums xs).toList == [69, 83, 50, 53, 54]) = false) :
    Calls Tryf.prog 6 #[.pointer (some ptr), v] w fun e w' =>
      ∃ p, e = .returned (.iface 38 (.pointer (some p))) ∧ Below w.heap.size w w' := by
  go_enter Tryf.func6, Tryf.ntmps6
  go_wp2
  have bel : ∀ n, Below w.heap.size w ((w.alloc (.cells #[.int .i64 1, .int .i64 2] 22)).drewN n) := fun n => below_drewN ((Below.refl _ w).alloc (Nat.le_refl _) _) n
  have hconv : ∀ n, (convert 23 9 v).run Tryf.prog ((w.alloc (.cells #[.int .i64 1, .int .i64 2] 22)).drewN n) = .ok (.string (strOfNums xs)) ((w.alloc (.cells #[.int .i64 1, .int .i64 2] 22)).drewN n) := fun n => (hv.later (bel n)).conv
  refine wp_loop_rounds 3 ?_
  rw [rounds_succ]
  go_wp2
  go_quiet ((go_at_call 5; refine Calls.quiet_of_same (string_one _)))
  go_wp2
  rw [rounds_succ]
  go_wp2
  have belX := bel nq
  generalize (w.alloc (Obj.cells #[Value.int IntKind.i64 1, Value.int IntKind.i64 2] 22)).drewN nq = X at belX
  clear bel hconv
  have hconv : ∀ n, (convert 23 9 v).run Tryf.prog (X.drewN n) = .ok (.string (strOfNums xs)) (X.drewN n) := fun n => (hv.later (below_drewN belX n)).conv
  go_quiet ((go_at_call 5; refine Calls.quiet_of_same (string_two _)))
  go_wp2
  rw [rounds_succ]
  go_wp2_with fail
  refine (errorf_any F _ v xs _ ?_ (hv.later ((below_drewN belX _).alloc belX.size _)) ?_).mono ?_
  · show F.answers X.tape
    rw [belX.tape]; exact hF
  · show ((X.drewN nq).alloc (.cells #[.iface 23 v] 20)).cell? ⟨(X.drewN nq).heap.size, 0, none⟩ = some (.iface 23 v)
    generalize X.drewN nq = Y
    go_simp
  rintro e w1 ⟨p, rfl, hb1⟩
  go_wp2
  go_ret
  exact ⟨_, rfl, ((below_drewN belX _).alloc belX.size _).trans (hb1.mono (by simp; exact Nat.le_succ_of_le belX.size))⟩

set_option maxHeartbeats 800000 in
theorem unmarshal_rs (base blk : Nat) (old : Value) (v : Value) (xs : List Int) (w : World) (hv : BytesIs w v xs) (hbase : base ≤ blk) (hblk : blk < w.heap.size)
    (hc : w.cell? ⟨blk, 0, none⟩ = some old) (hf : w.frozen? ⟨blk, 0, none⟩ = false)
    (h1 : ((strOfNums xs).toList == [82, 83, 50, 53, 54]) = true) :
    Calls Tryf.prog 6 #[.pointer (some ⟨blk, 0, none⟩), v] w fun e w' =>
      e = .returned .nilIface ∧ Below base w w' ∧ w'.cell? ⟨blk, 0, none⟩ = some (.int .i64 1) := by
  go_enter Tryf.func6, Tryf.ntmps6
  go_wp2
  have bel : ∀ n, Below w.heap.size w ((w.alloc (.cells #[.int .i64 1, .int .i64 2] 22)).drewN n) := fun n => below_drewN ((Below.refl _ w).alloc (Nat.le_refl _) _) n
  have hconv : ∀ n, (convert 23 9 v).run Tryf.prog ((w.alloc (.cells #[.int .i64 1, .int .i64 2] 22)).drewN n) = .ok (.string (strOfNums xs)) ((w.alloc (.cells #[.int .i64 1, .int .i64 2] 22)).drewN n) := fun n => (hv.later (bel n)).conv
  refine wp_loop_rounds 3 ?_
  rw [rounds_succ]
  go_wp2
  go_quiet ((go_at_call 5; refine Calls.quiet_of_same (string_one _)))
  have belX := bel nq
  generalize (w.alloc (Obj.cells #[Value.int IntKind.i64 1, Value.int IntKind.i64 2] 22)).drewN nq = X at belX
  clear bel hconv hv
  have hcX : X.cell? ⟨blk, 0, none⟩ = some old := by rw [belX.cell hblk]; exact hc
  have hfX : X.frozen? ⟨blk, 0, none⟩ = false := by rw [belX.frozen hblk]; exact hf
  clear hc hf
  go_wp2
  go_ret
  refine ⟨rfl, (belX.mono (by omega)).setCell hbase _, ?_⟩
  go_simp

set_option maxHeartbeats 800000 in
theorem unmarshal_es (base blk : Nat) (old : Value) (v : Value) (xs : List Int) (w : World) (hv : BytesIs w v xs) (hbase : base ≤ blk) (hblk : blk < w.heap.size)
    (hc : w.cell? ⟨blk, 0, none⟩ = some old) (hf : w.frozen? ⟨blk, 0, none⟩ = false)
    (h1 : ((strOfNums xs).toList == [82, 83, 50, 53, 54]) = false) (h2 : ((strOfNums xs).toList == [69, 83, 50, 53, 54]) = true) :
    Calls Tryf.prog 6 #[.pointer (some ⟨blk, 0, none⟩), v] w fun e w' =>
      e = .returned .nilIface ∧ Below base w w' ∧ w'.cell? ⟨blk, 0, none⟩ = some (.int .i64 2) := by
  go_enter Tryf.func6, Tryf.ntmps6
  go_wp2
  have bel : ∀ n, Below w.heap.size w ((w.alloc (.cells #[.int .i64 1, .int .i64 2] 22)).drewN n) := fun n => below_drewN ((Below.refl _ w).alloc (Nat.le_refl _) _) n
  have hconv : ∀ n, (convert 23 9 v).run Tryf.prog ((w.alloc (.cells #[.int .i64 1, .int .i64 2] 22)).drewN n) = .ok (.string (strOfNums xs)) ((w.alloc (.cells #[.int .i64 1, .int .i64 2] 22)).drewN n) := fun n => (hv.later (bel n)).conv
  refine wp_loop_rounds 3 ?_
  rw [rounds_succ]
  go_wp2
  go_quiet ((go_at_call 5; refine Calls.quiet_of_same (string_one _)))
  go_wp2
  rw [rounds_succ]
  go_wp2
  have belX := bel nq
  generalize (w.alloc (Obj.cells #[Value.int IntKind.i64 1, Value.int IntKind.i64 2] 22)).drewN nq = X at belX
  clear bel hconv
  have hconv : ∀ n, (convert 23 9 v).run Tryf.prog (X.drewN n) = .ok (.string (strOfNums xs)) (X.drewN n) := fun n => (hv.later (below_drewN belX n)).conv
  go_quiet ((go_at_call 5; refine Calls.quiet_of_same (string_two _)))
  have belY := below_drewN belX nq
  generalize X.drewN nq = Y at belY
  clear hconv hv
  have hcX : Y.cell? ⟨blk, 0, none⟩ = some old := by rw [belY.cell hblk]; exact hc
  have hfX : Y.frozen? ⟨blk, 0, none⟩ = false := by rw [belY.frozen hblk]; exact hf
  clear hc hf
  go_wp2
  go_ret
  refine ⟨rfl, (belY.mono (by omega)).setCell hbase _, ?_⟩
  go_simp

end Go.Proofs.Qxb6623336aFmt

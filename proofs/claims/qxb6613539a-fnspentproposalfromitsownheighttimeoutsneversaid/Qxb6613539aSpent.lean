/- The contracts of ZZnewReplicaCommitted, spent, ZZspentProposal, ZZspentTimeout (shared by both laws of this seat). -/
import Derived.Test.Qxb6613539aRows
import Derived.WalkKit
import Derived.ProofKit
import Derived.BigQuiet
import Derived.Deep.QuietTactic
namespace Go.Proofs.Qxb6613539a.spent
open Go.ChangeShapes Go.WideShapes Go.ChangeAt Go.RowKit

theorem ret_bool {a b : Bool} (h : a = b) : Ending.returned (.bool a) = .returned (.bool b) := by rw [h]

theorem grown_trans {a b c : World} (h : Grown a b) (g : Grown b c) : Grown a c :=
  ⟨World.keptBut_trans h.1 g.1, fun x => (g.2.1 x).trans (h.2.1 x), Nat.le_trans h.2.2 g.2.2⟩

theorem grown_drewN {a b : World} (n : Nat) (h : Grown a b) : Grown a (b.drewN n) := h

/-- the cells of a type's zero value -/
def zeroC (o : Option TypeInfo) : Array Value := match o with
  | some i => (match i.zero with | some z => z.cells | none => #[])
  | none => #[]

/-- 'zero' with 'part' laid at the offset -/
def laidAt (zero part : Array Value) (off : Nat) : Array Value := part.zipIdx.foldl (fun cs (c, j) => cs.setIfInBounds (off + j) c) zero

theorem build95 (c : Int) : ∃ Z : Array Value, Z.size = 284 ∧ Z[154]? = some (.int .u64 c) ∧
    ∀ w, (Instr.build 95 #[(38, .int .u64 c)]).run Try.prog w = .ok (.agg Z) w :=
  ⟨(zeroC (Try.prog.info? 95)).setIfInBounds 154 (.int .u64 c), by kernel_rfl, by kernel_rfl, fun w => by kernel_rfl⟩

theorem build51 (h : Int) : ∃ B Z : Array Value, Z.size = 78 ∧ Z[1]? = some (.int .u64 h) ∧
    (∀ w, (Instr.build 35 #[(1, .int .u64 h)]).run Try.prog w = .ok (.agg B) w) ∧
    ∀ w, (Instr.build 51 #[(2, .agg B)]).run Try.prog w = .ok (.agg Z) w :=
  ⟨(zeroC (Try.prog.info? 35)).setIfInBounds 0 (.int .u64 h), laidAt (zeroC (Try.prog.info? 51)) ((zeroC (Try.prog.info? 35)).setIfInBounds 0 (.int .u64 h)) 1,
    by kernel_rfl, by kernel_rfl, fun w => by kernel_rfl, fun w => by kernel_rfl⟩

theorem build98 (v : Int) : ∃ Z : Array Value,
    ∀ w, (Instr.build 98 #[(1, .int .u64 v)]).run Try.prog w = .ok (.agg Z) w :=
  ⟨(zeroC (Try.prog.info? 98)).setIfInBounds 0 (.int .u64 v), fun w => by kernel_rfl⟩

theorem assert_prop (v : Value) (w : World) : (Instr.typeAssert (.iface 29 v) 100 29 true).run Try.prog w = .ok (.tuple #[v, .bool true]) w := by
  kernel_rfl

theorem assert_time (v : Value) (w : World) : (Instr.typeAssert (.iface 72 v) 100 29 true).run Try.prog w = .ok (.tuple #[.pointer none, .bool false]) w := by
  kernel_rfl

theorem assert_time2 (v : Value) (w : World) : (Instr.typeAssert (.iface 72 v) 100 71 true).run Try.prog w = .ok (.tuple #[.pointer none, .bool false]) w := by
  kernel_rfl

/-- a struct literal with one part named, the whole of it by a law on its run -/
theorem wpList_build1 {P : Program} (w : World) {ops : Array Oper} {rest : List Oper} {o : Oper} {a : Act} {Q : Exit → Act → World → Prop}
    (hg : o.guard = none) (t : TypeId) (i : Nat) (x : Operand) (hop : o.op = Op.build t #[(i, x)]) (v : Value) (hx : a.eval x = v) (Z : Array Value)
    (hrun : (Instr.build t #[(i, v)]).run P w = .ok (.agg Z) w)
    (hK : wpList P ops Q rest (a.put o.dst (.agg Z)) w) : wpList P ops Q (o :: rest) a w := by
  refine wpList_plain hg fun K hK' => ?_
  unfold Oper.wp
  simp [execOp, hop, hx, hrun, Result.andThen]
  exact hK' _ _ hK

set_option maxHeartbeats 1000000 in
theorem new_any (c : Int) (w : World) :
    Calls Try.prog 6 #[.int .u64 c] w
      fun e w' => ∃ Z : Array Value, e = .returned (.pointer (some ⟨w.heap.size, 0, none⟩)) ∧ Z.size = 284 ∧ Z[154]? = some (.int .u64 c) ∧ w' = w.alloc (.cells Z 95) := by
  obtain ⟨Z, z1, z2, hb⟩ := build95 c
  have z1' : Hid (Z.size = 284) := z1
  have z2' : Hid (Z[154]? = some (.int .u64 c)) := z2
  have hb' : Hid (∀ w, (Instr.build 95 #[(38, .int .u64 c)]).run Try.prog w = .ok (.agg Z) w) := hb
  clear z1 z2 hb
  go_enter Try.func6, Try.ntmps6
  go_wp2_with (guard_target =~ wpList _ _ _ (Oper.mk _ (Op.build 95 _) _ _ _ _ :: _) _ _; refine wpList_build1 _ rfl 95 38 (.tmp 3) rfl _ rfl Z (hb'.out _) ?_)
  go_ret
  exact ⟨Z, rfl, z1'.out, z2'.out, rfl⟩

set_option maxHeartbeats 1000000 in
theorem spent_prop (r p : Nat) (h c : Int) (w : World) (hr : w.cell? ⟨r, 154, none⟩ = some (.int .u64 c)) (hp : w.cell? ⟨p, 1, none⟩ = some (.int .u64 h)) :
    Calls Try.prog 8 #[.pointer (some ⟨r, 0, none⟩), .iface 29 (.pointer (some ⟨p, 0, none⟩))] w
      fun e w' => e = .returned (.bool (decide (h ≤ c))) ∧ ∃ n, w' = w.drewN n := by
  have ha := assert_prop (.pointer (some ⟨p, 0, none⟩))
  go_enter Try.func8, Try.ntmps8
  go_wp2
  go_quiet (fail)
  go_wp2
  go_ret
  exact ⟨rfl, nq, rfl⟩

set_option maxHeartbeats 1000000 in
theorem spent_time (r p : Nat) (w : World) :
    Calls Try.prog 8 #[.pointer (some ⟨r, 0, none⟩), .iface 72 (.pointer (some ⟨p, 0, none⟩))] w
      fun e w' => e = .returned (.bool false) ∧ w' = w := by
  have ha := assert_time (.pointer (some ⟨p, 0, none⟩))
  have hb := assert_time2 (.pointer (some ⟨p, 0, none⟩))
  go_enter Try.func8, Try.ntmps8
  go_wp2
  go_ret
  exact ⟨rfl, rfl⟩

set_option maxHeartbeats 1000000 in
theorem zz_time (r : Nat) (v : Int) (w : World) :
    Calls Try.prog 7 #[.pointer (some ⟨r, 0, none⟩), .int .u64 v] w
      fun e w' => e = .returned (.bool false) ∧ Grown w w' := by
  obtain ⟨Z, hb⟩ := build98 v
  have hb' : Hid (∀ w, (Instr.build 98 #[(1, .int .u64 v)]).run Try.prog w = .ok (.agg Z) w) := hb
  clear hb
  go_enter Try.func7, Try.ntmps7
  go_wp2_with (first
    | (guard_target =~ wpList _ _ _ (Oper.mk _ (Op.build 98 _) _ _ _ _ :: _) _ _; refine wpList_build1 _ rfl 98 1 (.tmp 6) rfl _ rfl Z (hb'.out _) ?_)
    | (go_at_call 8; refine (spent_time _ _ _).mono ?_; rintro e w' ⟨rfl, rfl⟩))
  go_ret
  exact ⟨rfl, (Grown.refl _).alloc _ _⟩

set_option maxHeartbeats 1000000 in
theorem zz_prop (r : Nat) (h c : Int) (w : World) (hr : w.cell? ⟨r, 154, none⟩ = some (.int .u64 c)) (hlt : r < w.heap.size) :
    Calls Try.prog 5 #[.pointer (some ⟨r, 0, none⟩), .int .u64 h] w
      fun e w' => e = .returned (.bool (decide (h ≤ c))) ∧ Grown w w' := by
  obtain ⟨B, Z, z1, z2, hb1, hb2⟩ := build51 h
  have z2' : Hid (Z[1]? = some (.int .u64 h)) := z2
  have hb1' : Hid (∀ w, (Instr.build 35 #[(1, .int .u64 h)]).run Try.prog w = .ok (.agg B) w) := hb1
  have hb2' : Hid (∀ w, (Instr.build 51 #[(2, .agg B)]).run Try.prog w = .ok (.agg Z) w) := hb2
  clear hb1 hb2 z1 z2
  go_enter Try.func5, Try.ntmps5
  go_wp2_with (first
    | (guard_target =~ wpList _ _ _ (Oper.mk _ (Op.build 35 _) _ _ _ _ :: _) _ _; refine wpList_build1 _ rfl 35 1 (.tmp 6) rfl _ rfl B (hb1'.out _) ?_)
    | (guard_target =~ wpList _ _ _ (Oper.mk _ (Op.build 51 _) _ _ _ _ :: _) _ _; refine wpList_build1 _ rfl 51 2 (.tmp 7) rfl _ rfl Z (hb2'.out _) ?_))
  refine (spent_prop r w.heap.size h c _ ((World.cell?_alloc_past _ r 154 hlt).trans hr) ((World.cell?_alloc_at _ _ _ 1 rfl).trans z2'.out)).mono ?_
  rintro e w' ⟨rfl, n, rfl⟩
  go_wp2
  go_ret
  exact ⟨rfl, grown_drewN n ((Grown.refl _).alloc _ _)⟩

/-- a new replica with committed height c: what the walk of a law needs of the new block -/
theorem new_cell (c : Int) (w : World) :
    Calls Try.prog 6 #[.int .u64 c] w
      fun e w' => e = .returned (.pointer (some ⟨w.heap.size, 0, none⟩)) ∧ Grown w w' ∧
        Hid (w'.cell? ⟨w.heap.size, 154, none⟩ = some (.int .u64 c) ∧ w.heap.size < w'.heap.size) := by
  refine (new_any c w).mono ?_
  rintro e w' ⟨Z, rfl, -, h, rfl⟩
  exact ⟨rfl, (Grown.refl _).alloc _ _, (World.cell?_alloc_at _ _ _ 154 rfl).trans h, by show w.heap.size < (w.heap.push _).size; simp⟩

end Go.Proofs.Qxb6613539a.spent

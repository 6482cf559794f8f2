/- (*strings.Builder).copyCheck, WriteString, String over this dump: the shelf's walks, turned to this program's numbers. -/
import Derived.Test.Qxb6613449aExpBase
import Derived.Lib.Builder
import Derived.Lib.AppendStr
import Derived.Lib.Walk
import Derived.Lib.Strings
import Derived.Shelf.Strings.Builder1
import GoSem.Claims
set_option linter.unusedVariables false
namespace Go.Proofs.Qxb6613449a.ex
open Go.RowKit

theorem sizeBuilder : (Try.prog.info? 44).map (·.size) = some 2 := by kernel_rfl
theorem liesBuilder : liesAt Try.prog Try.prog.depth 44 (2 / Try.prog.cellsOf 44) 0 44 1 = true := by kernel_rfl
theorem infoByte : (Try.prog.info? 5).map (fun i => (i.zero, i.size, i.bytes)) = some (some (.int .u8 0), 1, 1) := by kernel_rfl

set_option maxHeartbeats 1000000 in
set_option maxRecDepth 100000 in
theorem copyCheck_used (b : Nat) (w : World) (h0 : w.cell? ⟨b, 0, none⟩ = some (.pointer (some ⟨b, 0, none⟩))) :
    Calls Try.prog 21 #[.pointer (some ⟨b, 0, none⟩)] w fun e w' => e = .returned (.tuple #[]) ∧ w' = w := by
  obtain ⟨j, hj, _⟩ := Option.map_eq_some_iff.1 sizeBuilder
  go_enter Try.func21, Try.ntmps21
  go_wp2
  rw [Lib.run_neq_ptr_same w _ Try.underlying42 hj]
  go_wp2
  go_end0
  exact ⟨rfl, rfl⟩

/-- a builder's address, seen as a bare address -/
theorem conv_out (b : Nat) (w : World) (hsh : w.shape? b = some (44, 2)) : (convert 42 51 (.pointer (some ⟨b, 0, none⟩))).run Try.prog w = .ok (.pointer (some ⟨b, 0, none⟩)) w := by
  obtain ⟨j, hj, hjs⟩ := Option.map_eq_some_iff.1 sizeBuilder
  simp only [convert, Sem.run_bind, run_underlying Try.underlying42, run_underlying Try.underlying51, Result.andThen]
  refine Eq.trans (Sem.run_bind Try.prog w (underlying 42) _) ?_
  simp [run_underlying Try.underlying42, run_underlying Try.underlying51, Conv.seenAt, viewAt, cellsIn, hsh, sizeOf, typeInfo, hj, hjs]

/-- .. and back -/
theorem conv_back (b : Nat) (w : World) (hsh : w.shape? b = some (44, 2)) : (convert 51 42 (.pointer (some ⟨b, 0, none⟩))).run Try.prog w = .ok (.pointer (some ⟨b, 0, none⟩)) w := by
  obtain ⟨j, hj, hjs⟩ := Option.map_eq_some_iff.1 sizeBuilder
  simp only [convert, Sem.run_bind, run_underlying Try.underlying42, run_underlying Try.underlying51, Result.andThen]
  refine Eq.trans (Sem.run_bind Try.prog w (underlying 51) _) ?_
  simp [run_underlying Try.underlying42, run_underlying Try.underlying51, Conv.seenAt, viewAt, cellsIn, hsh, sizeOf, typeInfo, hj, hjs, variablesAt, liesBuilder]

theorem noEsc (x : Value) (w : World) : (callFunc 22 #[x]).run Try.prog w = .ok (.value x) w := by kernel_rfl

set_option maxHeartbeats 1000000 in
set_option maxRecDepth 100000 in
theorem copyCheck_fresh (b : Nat) (w : World) (h0 : w.cell? ⟨b, 0, none⟩ = some (.pointer none)) (hsh : w.shape? b = some (44, 2)) (hfz : w.frozen? ⟨b, 0, none⟩ = false) :
    Calls Try.prog 21 #[.pointer (some ⟨b, 0, none⟩)] w fun e w' => e = .returned (.tuple #[]) ∧ w' = w.setCell ⟨b, 0, none⟩ (.pointer (some ⟨b, 0, none⟩)) := by
  go_enter Try.func21, Try.ntmps21
  go_wp2
  rw [conv_out b w hsh]
  simp only [Result.andThen]
  rw [Oper.upon_value]
  go_wp2
  rw [noEsc]
  rw [Oper.upon_value]
  go_wp2
  rw [conv_back b w hsh]
  simp only [Result.andThen]
  rw [Oper.upon_value]
  go_wp2
  go_end0
  exact ⟨rfl, rfl⟩

theorem copyCheck_any (B b : Nat) (bs : List Value) (w : World) (h : Lib.IsBuilder 44 5 B b bs w) :
    Calls Try.prog 21 #[.pointer (some ⟨b, 0, none⟩)] w fun e w' => e = .returned (.tuple #[]) ∧ (Lib.BuilderAt 44 5 B b (.pointer (some ⟨b, 0, none⟩)) bs w' ∧ Below B w w') := by
  rcases h with h | h
  · refine (copyCheck_fresh b w h.cell0 h.shape h.frozen0).mono ?_
    rintro e w' ⟨rfl, rfl⟩
    exact ⟨rfl, h.used _, (Below.refl B w).setCell (p := ⟨b, 0, none⟩) h.1 _⟩
  · refine (copyCheck_used b w h.cell0).mono ?_
    rintro e w' ⟨rfl, rfl⟩
    exact ⟨rfl, h, Below.refl B _⟩

set_option maxHeartbeats 2000000 in
set_option maxRecDepth 100000 in
theorem writeString_any (B b : Nat) (bs : List Value) (s : ByteArray) (w : World) (h : Lib.IsBuilder 44 5 B b bs w) (hlen : bs.length + s.size ≤ 140737488355328) (hBw : B ≤ w.heap.size) :
    Calls Try.prog 19 #[.pointer (some ⟨b, 0, none⟩), .string s] w fun e w' => e = .returned (.tuple #[.int .i64 s.size, .nilIface]) ∧ (Lib.BuilderAt 44 5 B b (.pointer (some ⟨b, 0, none⟩)) (bs ++ Lib.strCells s) w' ∧ Below B w w') := by
  obtain ⟨i0, hi, hz0, hz1, hz2⟩ := info_parts infoByte
  go_enter Try.func19, Try.ntmps19
  go_wp2_with (go_at_call 21; refine (copyCheck_any B b bs _ h).mono ?_)
  rintro e w1 ⟨rfl, h1, hb1⟩
  obtain ⟨hB, v, hbk, hown, hne⟩ := h1
  have c0 : w1.cell? ⟨b, 0, none⟩ = some (.pointer (some ⟨b, 0, none⟩)) := by rw [Lib.cell_of_heap hbk]; rfl
  have c1 : w1.cell? ⟨b, 1, none⟩ = some v := by rw [Lib.cell_of_heap hbk]; rfl
  go_wp2_with (at_builtin; refine Lib.wpList_append_own_string _ rfl _ _ 41 9 rfl B 5 i0 Try.underlying41 Try.underlying9 hi hz0 hz1 hz2 _ _ _ rfl hown s rfl ?c3 ?c4 ?c5 ?_)
  case c3 => unfold maxLen; omega
  case c4 => omega
  case c5 => have := hb1.size; omega
  intro v' w2 hown' hgrow _
  have hlt : b < w1.heap.size := by
    rcases Nat.lt_or_ge b w1.heap.size with h' | h'
    · exact h'
    · simp [Array.getElem?_eq_none h'] at hbk
  have hb2 : w2.heap[b]? = some (.cells #[.pointer (some ⟨b, 0, none⟩), v] 44 (0, 0)) := by
    rw [hgrow.block b hlt (fun e => hne e.symm)]
    exact hbk
  have d0 : w2.cell? ⟨b, 0, none⟩ = some (.pointer (some ⟨b, 0, none⟩)) := by rw [Lib.cell_of_heap hb2]; rfl
  have d1 : w2.cell? ⟨b, 1, none⟩ = some v := by rw [Lib.cell_of_heap hb2]; rfl
  have f1 : w2.frozen? ⟨b, 1, none⟩ = false := Lib.frozen_of_heap hb2 1
  obtain ⟨ao, n', cap, rfl⟩ : ∃ ao n' cap, v' = .slice ao n' cap := by
    rcases hown'.2 with ⟨hv, _⟩ | ⟨g, cap, cur, hv, _⟩
    · exact ⟨_, _, _, hv⟩
    · exact ⟨_, _, _, hv⟩
  go_wp2
  go_ret2
  refine ⟨rfl, ?_, ?_⟩
  · exact Lib.BuilderAt.put (T := 44) (e := 5) hB hb2 (bs' := bs ++ Lib.strCells s) (by simpa [Lib.strCells_length] using hown') (by decide)
  · exact (hb1.grown hgrow (by have := hb1.size; omega) (fun k hk => (hown.lt k hk).1)).setCell (p := ⟨b, 1, none⟩) hB _

/-- the shelf's numbers, told in this program's -/
def bren : Shelf.Ren := ⟨fun n => if n = 169 then 20 else n, fun n => if n = 37 then 41 else if n = 70 then 42 else if n = 72 then 44 else if n = 127 then 50 else n, fun n => n⟩

theorem blays : Lays.n169 Try.prog bren where
  mixed := by kernel_rfl
  f169 := Try.func20.trans (by kernel_rfl)
  t0 := Try.underlying0
  a0 := Try.isAgg0
  z0 := Try.sizeOf0
  v0 := Try.zeroValue0
  t3 := Try.underlying3
  a3 := Try.isAgg3
  z3 := Try.sizeOf3
  v3 := Try.zeroValue3
  t9 := Try.underlying9
  a9 := Try.isAgg9
  z9 := Try.sizeOf9
  v9 := Try.zeroValue9
  t37 := Try.underlying41
  a37 := Try.isAgg41
  z37 := Try.sizeOf41
  v37 := Try.zeroValue41
  t70 := Try.underlying42
  a70 := Try.isAgg42
  z70 := Try.sizeOf42
  v70 := Try.zeroValue42
  t72 := Try.underlying44
  a72 := Try.isAgg44
  z72 := Try.sizeOf44
  v72 := Try.zeroValue44
  t127 := Try.underlying50
  a127 := Try.isAgg50
  z127 := Try.sizeOf50
  v127 := Try.zeroValue50

theorem bextra : Builder.Extra Try.prog bren where
  sizeBuilder := by kernel_rfl
  liesBuilder := by kernel_rfl
  t5 := Try.underlying5
  a5 := Try.isAgg5
  z5 := Try.sizeOf5
  v5 := Try.zeroValue5
  infoByte := by kernel_rfl
  cellsByte := by kernel_rfl
  sizeByte := by kernel_rfl
  neB5 := by decide

theorem string_any (B b : Nat) (l : List UInt8) (w : World) (h : Lib.IsBuilder 44 5 B b (Lib.byteCells l) w) (hBw : B ≤ w.heap.size) :
    Calls Try.prog 20 #[.pointer (some ⟨b, 0, none⟩)] w fun e w' => e = .returned (.string ⟨l.toArray⟩) ∧ Below B w w' :=
  Any.Builder_String_any blays bextra B b l w h hBw
end Go.Proofs.Qxb6613449a.ex

/- What the flattening loop has laid after k rounds; what the later steps keep; the plain law of references. -/
import Derived.Test.Qxb6613449aExpCopy
import Derived.Test.Qxb6613449aExpLook
import Derived.Laws.OwnMore
namespace Go.Proofs.Qxb6613449a.ex
open Go.ChangeShapes Go.WideShapes Go.ChangeAt Go.RowKit

theorem nil_test (a : Option Addr) (n c : Nat) (w : World) : (binOp .neq 23 (.slice a n c) (.slice none 0 0)).run Try.prog w = .ok (.bool a.isSome) w := by
  cases a <;> kernel_rfl

def noStr (_ : Nat) : ByteArray := ⟨#[]⟩

/-- after k rounds: g is flatL's block, h is flatV's -/
structure Fill (wd wr : World) (n g h : Nat) (F : Nat → ByteArray) (k : Nat) : Prop where
  below : Below wd.heap.size wd wr
  mine : wd.heap.size ≤ g
  row : ∃ xs : Array Value, wr.heap[g]? = some (.cells xs 9 (0, 0)) ∧ xs.size = n ∧ ∀ j, j < k → xs[j]? = some (.string (F j))
  empt : IsStrs wr (some ⟨h, 0, none⟩) n noStr
  apart : h ≠ g

theorem made_strs {w : World} {base g n : Nat} (h : w.ownsRow base 9 1 (.slice (some ⟨g, 0, none⟩) n n) n (madeCells (Value.string ⟨#[]⟩).cells (n * 1)).toList) : IsStrs w (some ⟨g, 0, none⟩) n noStr := by
  refine owned_strs h (fun j hj => ?_)
  rw [show (Value.string ⟨#[]⟩).cells = #[Value.string ⟨#[]⟩] from rfl, toList_madeCells_one]
  simp [hj, noStr]

theorem Fill.start {wd w1 w2 : World} {B n : Nat} {F : Nat → ByteArray}
    (o1 : w1.ownsRow B 9 1 (.slice (some ⟨wd.heap.size, 0, none⟩) n n) n (madeCells (Value.string ⟨#[]⟩).cells (n * 1)).toList) (b1 : Below wd.heap.size wd w1)
    (o2 : w2.ownsRow w1.heap.size 9 1 (.slice (some ⟨w1.heap.size, 0, none⟩) n n) n (madeCells (Value.string ⟨#[]⟩).cells (n * 1)).toList) (b2 : Below w1.heap.size w1 w2) : Fill wd w2 n wd.heap.size w1.heap.size F 0 := by
  obtain ⟨_, h1, h2⟩ := made_row o1
  have hl := lt_of_block h1
  refine ⟨b1.trans (b2.mono b1.size), Nat.le_refl _, ⟨_, (b2.block _ hl).trans h1, ?_, fun j hj => absurd hj (by omega)⟩, made_strs o2, by omega⟩
  simpa using h2

theorem Fill.drew {wd wr : World} {n g h k : Nat} {F : Nat → ByteArray} (f : Fill wd wr n g h F k) : Fill wd wr.drew n g h F k :=
  ⟨f.below.drew, f.mine, f.row, f.empt.below (Below.refl _ _).drew, f.apart⟩

theorem Fill.spot {wd wr : World} {n g h k : Nat} {F : Nat → ByteArray} (f : Fill wd wr n g h F k) (hk : k < n) : ∃ v, wr.cell? ⟨g, k, none⟩ = some v ∧ wr.frozen? ⟨g, k, none⟩ = false := by
  obtain ⟨xs, h1, h2, h3⟩ := f.row
  refine ⟨xs[k]'(by omega), ?_, frozen_of_row wr g k _ _ h1⟩
  rw [cell_of_row wr g k _ _ _ h1]
  exact Array.getElem?_eq_getElem (by omega)

theorem Fill.step {wd wr : World} {n g h k : Nat} {F : Nat → ByteArray} (f : Fill wd wr n g h F k) (hk : k < n) : Fill wd (wr.setCell ⟨g, k, none⟩ (.string (F k))) n g h F (k + 1) := by
  obtain ⟨xs, h1, h2, h3⟩ := f.row
  refine ⟨f.below.setCell (p := ⟨g, k, none⟩) f.mine _, f.mine, ⟨_, heap_setCell_same wr g k xs 9 _ h1, by simpa using h2, fun j hj => ?_⟩, ?_, f.apart⟩
  · by_cases e : j = k
    · rw [e]
      exact Array.getElem?_setIfInBounds_self_of_lt (by omega)
    · rw [Array.getElem?_setIfInBounds_ne (fun h => e h.symm)]
      exact h3 j (by omega)
  · intro hn
    obtain ⟨b, off, e, hb, hc⟩ := f.empt hn
    cases e
    refine ⟨_, _, rfl, by simpa using hb, fun j hj => ?_⟩
    exact (World.cell?_setCell_other _ ⟨g, k, none⟩ ⟨h, 0 + j, none⟩ _ (fun e => f.apart (congrArg Addr.block e).symm)).trans (hc j hj)

theorem Fill.strs {wd wr : World} {n g h : Nat} {F : Nat → ByteArray} (f : Fill wd wr n g h F n) : IsStrs wr (some ⟨g, 0, none⟩) n F := by
  intro _
  obtain ⟨xs, h1, h2, h3⟩ := f.row
  refine ⟨g, 0, rfl, lt_of_block h1, fun j hj => ?_⟩
  rw [Nat.zero_add, cell_of_row wr g j _ _ _ h1]
  exact h3 j hj

/-- what every later step keeps -/
structure Rt (w wx : World) (la lb : Option Addr) (g h n : Nat) (S0 S1 F : Nat → ByteArray) : Prop where
  below : Below w.heap.size w wx
  lits : IsStrs wx la n S0
  vars : IsStrs wx lb n S1
  fl : IsStrs wx (some ⟨g, 0, none⟩) n F
  fv : IsStrs wx (some ⟨h, 0, none⟩) n noStr

theorem Rt.step {w wx wy : World} {la lb : Option Addr} {g h n : Nat} {S0 S1 F : Nat → ByteArray} (r : Rt w wx la lb g h n S0 S1 F) (hb : Below wx.heap.size wx wy) : Rt w wy la lb g h n S0 S1 F :=
  ⟨r.below.trans (hb.mono r.below.size), r.lits.below hb, r.vars.below hb, r.fl.below hb, r.fv.below hb⟩

theorem Rt.drew {w wx : World} {la lb : Option Addr} {g h n : Nat} {S0 S1 F : Nat → ByteArray} (r : Rt w wx la lb g h n S0 S1 F) : Rt w wx.drew la lb g h n S0 S1 F :=
  r.step (Below.refl _ wx).drew

/-- the flat text's own expansion is its join -/
theorem outN_flat (E : ByteArray → ByteArray) (F : Nat → ByteArray) (n : Nat) : outN E F noStr n = outP F n := by
  rw [outN_outP]
  exact outP_congr (fun j _ => pick_empty E (F j))

/-- the first expansion is the join too -/
theorem outN_pick (E : ByteArray → ByteArray) (L V : Nat → ByteArray) (n : Nat) (F : Nat → ByteArray) (hF : F = fun j => pick E (L j) (V j)) : outN E L V n = outP F n := by
  rw [hF]
  exact outN_outP E L V n
end Go.Proofs.Qxb6613449a.ex

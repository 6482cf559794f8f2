/- Frames and rows, with no Go function in sight: what the walks of this seat say of memory. -/
import Derived.Test.Qxb6613494aRows
import Derived.WalkKit
import Derived.ProofKit
import Derived.OneCell
import Derived.BigQuiet
import Derived.Deep.QuietTactic
import Derived.Deep.AppendLies
import Derived.Laws.AppendOwnNone
namespace Go.Proofs.Qxb6613494a.nq
open Go.ChangeShapes Go.WideShapes Go.ChangeAt Go.RowKit

theorem hide {p : Prop} (h : p) : Hid p := h

/-- w' is w but for new blocks and for the old blocks of which S speaks. -/
structure Fr (S : Nat → Prop) (w w' : World) : Prop where
  os : w'.os = w.os
  tape : w'.tape = w.tape
  output : w'.output = w.output
  size : w.heap.size ≤ w'.heap.size
  block : ∀ k, k < w.heap.size → ¬ S k → w'.heap[k]? = w.heap[k]?

theorem Fr.refl (S : Nat → Prop) (w : World) : Fr S w w := ⟨rfl, rfl, rfl, Nat.le_refl _, fun _ _ _ => rfl⟩

theorem Fr.trans {S : Nat → Prop} {a b c : World} (h : Fr S a b) (k : Fr S b c) : Fr S a c :=
  ⟨k.os.trans h.os, k.tape.trans h.tape, k.output.trans h.output, Nat.le_trans h.size k.size,
    fun i hi hs => (k.block i (Nat.lt_of_lt_of_le hi h.size) hs).trans (h.block i hi hs)⟩

theorem Fr.mono {S S' : Nat → Prop} {a b : World} (h : Fr S a b) (hS : ∀ k, k < a.heap.size → S k → S' k) : Fr S' a b :=
  ⟨h.os, h.tape, h.output, h.size, fun k hk hs => h.block k hk (fun e => hs (hS k hk e))⟩

/-- the second step may turn what is new since a, too -/
theorem Fr.then {S S' : Nat → Prop} {a b c : World} (h : Fr S a b) (k : Fr S' b c) (hS : ∀ i, i < a.heap.size → S' i → S i) : Fr S a c :=
  ⟨k.os.trans h.os, k.tape.trans h.tape, k.output.trans h.output, Nat.le_trans h.size k.size,
    fun i hi hs => (k.block i (Nat.lt_of_lt_of_le hi h.size) (fun e => hs (hS i hi e))).trans (h.block i hi hs)⟩

theorem Fr.drew {S : Nat → Prop} {a w : World} (h : Fr S a w) : Fr S a w.drew := ⟨h.os, h.tape, h.output, h.size, h.block⟩

theorem Fr.drewN {S : Nat → Prop} {a w : World} (h : Fr S a w) (n : Nat) : Fr S a (w.drewN n) := ⟨h.os, h.tape, h.output, h.size, h.block⟩

theorem Fr.alloc {S : Nat → Prop} {a w : World} (h : Fr S a w) (o : Obj) : Fr S a (w.alloc o) :=
  h.trans ⟨rfl, rfl, rfl, by simp, fun k hk _ => Below.heap_alloc _ _ _ hk⟩

theorem Fr.setCell {S : Nat → Prop} {a w : World} (h : Fr S a w) {p : Addr} (hp : a.heap.size ≤ p.block ∨ S p.block) (u : Value) : Fr S a (w.setCell p u) :=
  ⟨h.os, h.tape, h.output, by simpa [World.setCell] using h.size, fun k hk hs => (Below.heap_setCell _ _ _ _ (by
    rintro rfl
    rcases hp with hp | hp
    · omega
    · exact hs hp)).trans (h.block k hk hs)⟩

theorem Fr.grown {S : Nat → Prop} {a w w' : World} {row : Option Nat} (h : Fr S a w) (hg : w.grownBy w' row) (hr : ∀ k, row = some k → a.heap.size ≤ k ∨ S k) : Fr S a w' :=
  ⟨hg.os.trans h.os, hg.tape.trans h.tape, hg.output.trans h.output, Nat.le_trans h.size hg.size, fun k hk hs => (hg.block k (Nat.lt_of_lt_of_le hk h.size) (fun e => by
    rcases hr k e.symm with hp | hp
    · omega
    · exact hs hp)).trans (h.block k hk hs)⟩

theorem Fr.below {S : Nat → Prop} {B : Nat} {a w : World} (h : Fr S a w) (hB : B ≤ a.heap.size) (hS : ∀ k, k < B → ¬ S k) : Below B a w :=
  ⟨h.os, h.tape, h.output, h.size, fun k hk => h.block k (Nat.lt_of_lt_of_le hk hB) (hS k hk)⟩

theorem owns_of_block {w w' : World} {base : Nat} {e : TypeId} {size : Nat} {v : Value} {n : Nat} {xs : List Value} (h : w.ownsRow base e size v n xs)
    (hk : ∀ g, v.ownBlock = some g → w'.heap[g]? = w.heap[g]?) : w'.ownsRow base e size v n xs := by
  rcases h with ⟨h1, h2 | ⟨g, cap, cur, hv, hb, hg, h3⟩⟩
  · exact ⟨h1, .inl h2⟩
  · exact ⟨h1, .inr ⟨g, cap, cur, hv, hb, (hk g (by rw [hv]; rfl)).trans hg, h3⟩⟩

/-- what an owned row's block is -/
theorem owns_block {w : World} {base : Nat} {e : TypeId} {size : Nat} {v : Value} {n : Nat} {xs : List Value} (h : w.ownsRow base e size v n xs)
    {g : Nat} (hg : v.ownBlock = some g) : base ≤ g ∧ ∃ cur, w.heap[g]? = some (.cells cur e (0, 0)) := by
  rcases h.2 with ⟨rfl, _⟩ | ⟨g', cap, cur, rfl, hb, hg', _⟩
  · cases hg
  · have : g' = g := by simpa [Value.ownBlock] using hg
    subst this
    exact ⟨hb, cur, hg'⟩

/-- one cell alone, another block: the row is no such block -/
theorem owns_ne {w : World} {base : Nat} {e t : TypeId} {size : Nat} {v u : Value} {n : Nat} {xs : List Value} (h : w.ownsRow base e size v n xs)
    {b : Nat} (hb : w.heap[b]? = some (.cells #[u] t (0, 0))) (ht : e ≠ t) : v.ownBlock ≠ some b := by
  intro hg
  obtain ⟨_, cur, hc⟩ := owns_block h hg
  rw [hb] at hc
  simp at hc
  exact ht hc.2.symm

theorem Try.info3 : (Try.prog.info? 3).map (fun i => (i.zero, i.size, i.bytes)) = some (some (.int .i64 0), 1, 8) := by kernel_rfl
theorem Try.info43 : (Try.prog.info? 43).map (fun i => (i.zero, i.size, i.bytes)) = some (some (.agg #[.pointer none, .int .i64 0, .string ⟨#[]⟩]), 3, 32) := by kernel_rfl

end Go.Proofs.Qxb6613494a.nq

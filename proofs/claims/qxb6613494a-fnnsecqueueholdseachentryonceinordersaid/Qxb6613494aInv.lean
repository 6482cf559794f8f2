/- The law's invariant, and what each way of a round does to it: no walk here. -/
import Derived.Test.Qxb6613494aWaiting
namespace Go.Proofs.Qxb6613494a.nq
open Go.ChangeShapes Go.WideShapes Go.ChangeAt Go.RowKit

/-- After k entries: the queue at block B holds 'es', 'sv' holds 'L', and together they are the first k indexes. -/
structure Inv (B : Nat) (w wr : World) (I : Nat → Int) (k : Nat) (sv v : Value) (es : List (Nat × Int)) (L : List Int) : Prop where
  queue : wr.heap[B]? = some (.cells #[v] 34 (0, 0))
  row : wr.ownsRow B 43 3 v es.length (ecells es)
  seen : wr.ownsRow B 3 1 sv L.length (L.map (Value.int .i64))
  made : sv ≠ .slice none 0 0
  sum : L ++ es.map (·.2) = (List.range k).map I
  below : Below B w wr
  size : B < wr.heap.size

theorem Inv.len {B : Nat} {w wr : World} {I : Nat → Int} {k : Nat} {sv v : Value} {es : List (Nat × Int)} {L : List Int} (h : Inv B w wr I k sv v es L) : L.length + es.length = k := by
  have := congrArg List.length h.sum
  simpa using this

theorem Inv.drew {B : Nat} {w wr : World} {I : Nat → Int} {k : Nat} {sv v : Value} {es : List (Nat × Int)} {L : List Int} (h : Inv B w wr I k sv v es L) : Inv B w wr.drew I k sv v es L :=
  ⟨h.queue, h.row, h.seen, h.made, h.sum, h.below.drew, h.size⟩

/-- what a step of ZZnsecAdd leaves of the rest -/
theorem Inv.kept {B : Nat} {w wr w1 : World} {I : Nat → Int} {k : Nat} {sv v : Value} {es : List (Nat × Int)} {L : List Int} (h : Inv B w wr I k sv v es L)
    (hf : Fr (fun k => k = B ∨ v.ownBlock = some k) wr w1) : w1.ownsRow B 3 1 sv L.length (L.map (Value.int .i64)) ∧ Below B w w1 := by
  refine ⟨owns_of_block h.seen (fun g hg => hf.block g (h.seen.lt g hg).2 ?_), h.below.trans (hf.below (Nat.le_of_lt h.size) ?_)⟩
  · rintro (e | e)
    · exact owns_ne h.seen h.queue (by decide) (e ▸ hg)
    · exact rows_ne h.seen h.row (by decide) hg e
  · intro j hj
    rintro (e | e)
    · omega
    · have := (h.row.lt j e).1
      omega

theorem Inv.below_step {B : Nat} {w wr : World} {I : Nat → Int} {k n : Nat} {sv v : Value} {es : List (Nat × Int)} {L : List Int} (h : Inv B w wr I k sv v es L) (N : Nat) {w1 : World} {v1 : Value}
    (hQ : w1.heap[B]? = some (.cells #[v1] 34 (0, 0))) (hv : w1.ownsRow B 43 3 v1 n (ecells (es ++ [(N, I k)]))) (hn : n = es.length + 1) (hf : Fr (fun k => k = B ∨ v.ownBlock = some k) wr w1) :
    Inv B w w1 I (k + 1) sv v1 (es ++ [(N, I k)]) L := by
  obtain ⟨h1, h2⟩ := h.kept hf
  subst hn
  refine ⟨hQ, by simpa using hv, h1, h.made, ?_, h2, Nat.lt_of_lt_of_le h.size hf.size⟩
  rw [List.map_append, ← List.append_assoc, h.sum, List.range_succ, List.map_append]
  rfl

/-- seen, with what the queue released appended -/
theorem Inv.other_step {B : Nat} {w wr : World} {I : Nat → Int} {k : Nat} {sv v : Value} {es : List (Nat × Int)} {L : List Int} (h : Inv B w wr I k sv v es L) (N : Nat) {w1 w2 : World} {v1 sv2 : Value}
    (hQ : w1.heap[B]? = some (.cells #[v1] 34 (0, 0))) (hv : w1.ownsRow B 43 3 v1 1 (ecells [(N, I k)])) (hf : Fr (fun k => k = B ∨ v.ownBlock = some k) wr w1)
    (hown : w2.ownsRow B 3 1 sv2 (L.length + es.length) (L.map (Value.int .i64) ++ (es.map (·.2)).map (Value.int .i64))) (hgrow : w1.grownBy w2 sv.ownBlock) (hne : sv2 ≠ .slice none 0 0) :
    Inv B w w2 I (k + 1) sv2 v1 [(N, I k)] (L ++ es.map (·.2)) := by
  obtain ⟨h1, h2⟩ := h.kept hf
  have hlt := lt_of_block hQ
  have hQ2 : w2.heap[B]? = some (.cells #[v1] 34 (0, 0)) := (hgrow.block B hlt (fun e => owns_ne h1 hQ (by decide) e.symm)).trans hQ
  refine ⟨hQ2, ?_, by simpa using hown, hne, ?_, h2.grown hgrow (Nat.le_of_lt hlt) (fun j hj => (h1.lt j hj).1), Nat.lt_of_lt_of_le hlt hgrow.size⟩
  · exact owns_of_block hv (fun g hg => hgrow.block g (hv.lt g hg).2 (fun e => rows_ne hv h1 (by decide) hg e.symm))
  · rw [h.sum, List.range_succ, List.map_append]
    rfl

/-- .. where nothing was released -/
theorem Inv.other_nil {B : Nat} {w wr : World} {I : Nat → Int} {k : Nat} {sv v : Value} {es : List (Nat × Int)} {L : List Int} (h : Inv B w wr I k sv v es L) (N : Nat) {w1 : World} {v1 : Value} (hes : es.length = 0)
    (hQ : w1.heap[B]? = some (.cells #[v1] 34 (0, 0))) (hv : w1.ownsRow B 43 3 v1 1 (ecells [(N, I k)])) (hf : Fr (fun k => k = B ∨ v.ownBlock = some k) wr w1) :
    Inv B w w1 I (k + 1) sv v1 [(N, I k)] L := by
  obtain ⟨h1, h2⟩ := h.kept hf
  have he : es = [] := List.eq_nil_of_length_eq_zero hes
  subst he
  refine ⟨hQ, hv, h1, h.made, ?_, h2, lt_of_block hQ⟩
  have := h.sum
  simp only [List.map_nil, List.append_nil] at this
  rw [this, List.range_succ, List.map_append]
  rfl

/-- the entries that came in: nothing is asked where there are none -/
def IsPairs (w : World) (a : Option Addr) (n : Nat) (I : Nat → Int) (C : Nat → Bool) : Prop :=
  0 < n → ∃ b off, a = some ⟨b, off, none⟩ ∧ b < w.heap.size ∧
    ∀ j, j < n → w.cell? ⟨b, off + j * 2, none⟩ = some (.int .i64 (I j)) ∧ w.cell? ⟨b, off + j * 2 + 1, none⟩ = some (.bool (C j))

theorem one_made {v : Value} {w : World} {base n : Nat} {e : TypeId} {size : Nat} {xs : List Value} (h : w.ownsRow base e size v n xs) (hne : v ≠ .slice none 0 0) : ∃ g cap, v = .slice (some ⟨g, 0, none⟩) n cap := by
  rcases h.2 with ⟨rfl, _⟩ | ⟨g, cap, _, rfl, _⟩
  · exact absurd rfl hne
  · exact ⟨g, cap, rfl⟩

theorem Try.own : ownKnob Try.prog.godebug = none := by kernel_rfl
theorem Try.laidOut : laidOutB Try.prog = true := by kernel_rfl
end Go.Proofs.Qxb6613494a.nq

/- The contracts of the closure in ZZExpandWith, of (Text).Expand and of ZZExpandWith. -/
import Derived.Test.Qxb6613449aExpBuilder
namespace Go.Proofs.Qxb6613449a.ex
open Go.ChangeShapes Go.WideShapes Go.ChangeAt Go.RowKit

/-- the object of a map[string]string that reads as the function E -/
def EnvObj (o : Obj) (E : ByteArray → ByteArray) : Prop :=
  ∀ (w : World) (r : Nat) (s : ByteArray), w.heap[r]? = some o → s.size ≤ maxLen → (Instr.lookup 26 (.map (some r)) (.string s) false).run Try.prog w = .ok (.string (E s)) w

/-- what a part of a text stands for -/
def pick (E : ByteArray → ByteArray) (l v : ByteArray) : ByteArray := if v.toList.isEmpty then l else E v

/-- the bytes of the first k parts -/
def outN (E : ByteArray → ByteArray) (L V : Nat → ByteArray) : Nat → List UInt8
  | 0 => []
  | k + 1 => outN E L V k ++ (pick E (L k) (V k)).data.toList

def IsParts (w : World) (a : Option Addr) (n : Nat) (L V : Nat → ByteArray) : Prop :=
  0 < n → ∃ b off, a = some ⟨b, off, none⟩ ∧ b < w.heap.size ∧ ∀ j, j < n → w.cell? ⟨b, off + j * 2, none⟩ = some (.string (L j)) ∧ w.cell? ⟨b, off + j * 2 + 1, none⟩ = some (.string (V j))

theorem IsParts.below {w w' : World} {a : Option Addr} {n : Nat} {L V : Nat → ByteArray} (h : IsParts w a n L V) (hb : Below w.heap.size w w') : IsParts w' a n L V := by
  intro hn
  obtain ⟨b, off, rfl, hlt, hc⟩ := h hn
  exact ⟨b, off, rfl, Nat.lt_of_lt_of_le hlt hb.size, fun j hj => ⟨(hb.cell (p := ⟨b, off + j * 2, none⟩) hlt).trans (hc j hj).1, (hb.cell (p := ⟨b, off + j * 2 + 1, none⟩) hlt).trans (hc j hj).2⟩⟩

theorem outN_le (E : ByteArray → ByteArray) (L V : Nat → ByteArray) {j k : Nat} (h : j ≤ k) : (outN E L V j).length ≤ (outN E L V k).length := by
  induction k with
  | zero =>
    have : j = 0 := by omega
    subst this; exact Nat.le_refl _
  | succ k ih =>
    rcases Nat.lt_or_ge j (k + 1) with h1 | h1
    · have := ih (by omega)
      simp only [outN, List.length_append]
      omega
    · have : j = k + 1 := by omega
      subst this; exact Nat.le_refl _

theorem builder_alloc {T e : TypeId} {B b : Nat} {bs : List Value} {w : World} (h : Lib.IsBuilder T e B b bs w) (o : Obj) : Lib.IsBuilder T e B b bs (w.alloc o) := by
  rcases h with ⟨h1, v, h2, h3, h4⟩ | ⟨h1, v, h2, h3, h4⟩
  · exact .inl ⟨h1, v, (Below.heap_alloc _ _ _ (lt_of_block h2)).trans h2, h3.alloc _, h4⟩
  · exact .inr ⟨h1, v, (Below.heap_alloc _ _ _ (lt_of_block h2)).trans h2, h3.alloc _, h4⟩

set_option maxHeartbeats 400000 in
theorem look_any (M r : Nat) (o : Obj) (E : ByteArray → ByteArray) (s : ByteArray) (w : World) (hM : w.cell? ⟨M, 0, none⟩ = some (.map (some r))) (hr : w.heap[r]? = some o) (hE : EnvObj o E) (hs : s.size ≤ maxLen) :
    Calls Try.prog 18 #[.string s, .pointer (some ⟨M, 0, none⟩)] w fun e w' => e = .returned (.string (E s)) ∧ w' = w := by
  have hl := hE w r s hr hs
  clear hr
  go_enter Try.func18, Try.ntmps18
  go_wp2
  go_ret
  exact ⟨rfl, rfl⟩

set_option maxHeartbeats 1000000 in
theorem expand_any (pa : Option Addr) (n cap M r : Nat) (o : Obj) (E : ByteArray → ByteArray) (L V : Nat → ByteArray) (w : World) (hn : n ≤ 1000000)
    (hp : Hid (IsParts w pa n L V)) (hV : Hid (∀ j, j < n → (V j).size ≤ maxLen)) (hlen : Hid ((outN E L V n).length ≤ 100000000))
    (hM : w.cell? ⟨M, 0, none⟩ = some (.map (some r))) (hr : Hid (w.heap[r]? = some o)) (hE : Hid (EnvObj o E)) :
    Calls Try.prog 17 #[.agg #[.slice pa n cap], .func (.func 18) #[] #[.pointer (some ⟨M, 0, none⟩)]] w fun e w' => e = .returned (.string ⟨(outN E L V n).toArray⟩) ∧ Below w.heap.size w w' := by
  have hMl : M < w.heap.size := World.block_lt_of_cell? w _ hM
  go_enter Try.func17, Try.ntmps17
  go_wp2
  go_loopw [11] (fun i wr => ∃ k : Nat, k ≤ n ∧ i = .int .i64 k ∧ Lib.IsBuilder 44 5 w.heap.size (w.heap.size + 1) (Lib.byteCells (outN E L V k)) wr ∧ Below w.heap.size w wr) (fun i _ => n - (intOf i).toNat)
  case atStart =>
    refine ⟨0, Nat.zero_le _, rfl, .inl ⟨by omega, .slice none 0 0, ?_, World.ownsRow_nil _ _ _ _, by simp [Value.ownBlock]⟩, ((Below.refl _ w).alloc (Nat.le_refl _) _).alloc (by simp) _⟩
    have := heap_alloc_new (w.alloc (.cells #[.slice pa n cap] 32)) (.cells #[.pointer none, .slice none 0 0] 44)
    simpa using this
  case round =>
    obtain ⟨k, hk, rfl, hbd, hbel⟩ := hrel
    have HBD := hide hbd
    have HBL := hide hbel
    clear hbd hbel
    by_cases hlt : k < n
    · obtain ⟨b, off, rfl, hb, hc⟩ := hp.out (by omega)
      obtain ⟨c0, c1⟩ := hc k hlt
      rw [← HBL.out.cell (p := ⟨b, off + k * 2, none⟩) hb] at c0
      rw [← HBL.out.cell (p := ⟨b, off + k * 2 + 1, none⟩) hb] at c1
      clear hc
      have hBA : Lib.IsBuilder 44 5 w.heap.size (w.heap.size + 1) (Lib.byteCells (outN E L V k)) (wr.alloc (.cells #[.string (L k), .string (V k)] 40)) := builder_alloc HBD.out _
      have hsz : w.heap.size ≤ wr.heap.size := HBL.out.size
      have HBA := hide hBA
      have hMr : (wr.alloc (.cells #[.string (L k), .string (V k)] 40)).cell? ⟨M, 0, none⟩ = some (.map (some r)) := by
        rw [World.cell?_alloc_past _ M 0 (by omega), HBL.out.cell (p := ⟨M, 0, none⟩) hMl]; exact hM
      have HMr := hide hMr
      have hrl := lt_of_block hr.out
      have HRr : Hid ((wr.alloc (.cells #[.string (L k), .string (V k)] 40)).heap[r]? = some o) := by
        show (wr.alloc _).heap[r]? = _
        rw [Below.heap_alloc _ _ _ (by omega), HBL.out.block r hrl]; exact hr.out
      have hl1 := outN_le E L V (j := k + 1) (k := n) (by omega)
      have hl2 := hlen.out
      clear hBA hMr
      cases hv : (V k).toList.isEmpty
      · have hlk : (outN E L V k).length + (E (V k)).size ≤ 100000000 := by
          have : (outN E L V (k + 1)).length = (outN E L V k).length + (E (V k)).size := by simp [outN, pick, hv]
          omega
        have HO : Hid (outN E L V (k + 1) = outN E L V k ++ (E (V k)).data.toList) := by simp [outN, pick, hv, Hid]
        clear hl1 hl2
        go_wp2_with fail
        refine (look_any M r o E (V k) _ HMr.out HRr.out hE.out (hV.out k hlt)).mono ?_
        rintro e w' ⟨rfl, hw'⟩
        rw [hw']
        clear hw' w'
        go_wp2_with fail
        refine (writeString_any w.heap.size (w.heap.size + 1) _ (E (V k)) _ HBA.out (by rw [Lib.byteCells_length]; omega) (by simp; omega)).mono ?_
        rintro e w2 ⟨rfl, h2, h3⟩
        have H2 : Hid (Lib.IsBuilder 44 5 w.heap.size (w.heap.size + 1) (Lib.byteCells (outN E L V (k + 1))) w2) := by rw [HO.out, Lib.byteCells_append]; exact .inr h2
        have H3 := hide ((HBL.out.alloc hsz _).trans h3)
        clear h2 h3
        go_wp2
        go_roundw
        case rel => exact ⟨k + 1, by omega, by go_num, H2.out, H3.out⟩
        case measure => simp [intOf]; omega
      · have hlk : (outN E L V k).length + (L k).size ≤ 100000000 := by
          have : (outN E L V (k + 1)).length = (outN E L V k).length + (L k).size := by simp [outN, pick, hv]
          omega
        have HO : Hid (outN E L V (k + 1) = outN E L V k ++ (L k).data.toList) := by simp [outN, pick, hv, Hid]
        clear hl1 hl2
        go_wp2_with fail
        refine (writeString_any w.heap.size (w.heap.size + 1) _ (L k) _ HBA.out (by rw [Lib.byteCells_length]; omega) (by simp; omega)).mono ?_
        rintro e w2 ⟨rfl, h2, h3⟩
        have H2 : Hid (Lib.IsBuilder 44 5 w.heap.size (w.heap.size + 1) (Lib.byteCells (outN E L V (k + 1))) w2) := by rw [HO.out, Lib.byteCells_append]; exact .inr h2
        have H3 := hide ((HBL.out.alloc hsz _).trans h3)
        clear h2 h3
        go_wp2
        go_roundw
        case rel => exact ⟨k + 1, by omega, by go_num, H2.out, H3.out⟩
        case measure => simp [intOf]; omega
    · have hkn : k = n := by omega
      subst hkn
      go_wp2_with fail
      refine (string_any w.heap.size (w.heap.size + 1) _ _ HBD.out HBL.out.size).mono ?_
      rintro e w2 ⟨rfl, h3⟩
      go_wp2
      go_ret
      exact ⟨rfl, HBL.out.trans h3⟩

set_option maxHeartbeats 1000000 in
theorem expandWith_any (pa : Option Addr) (n cap r : Nat) (o : Obj) (E : ByteArray → ByteArray) (L V : Nat → ByteArray) (w : World) (hn : n ≤ 1000000)
    (hp : Hid (IsParts w pa n L V)) (hV : Hid (∀ j, j < n → (V j).size ≤ maxLen)) (hlen : Hid ((outN E L V n).length ≤ 100000000))
    (hr : Hid (w.heap[r]? = some o)) (hE : Hid (EnvObj o E)) :
    Calls Try.prog 11 #[.agg #[.slice pa n cap], .map (some r)] w fun e w' => e = .returned (.string ⟨(outN E L V n).toArray⟩) ∧ Below w.heap.size w w' := by
  go_enter Try.func11, Try.ntmps11
  go_wp2_with fail
  have hb2 : Below w.heap.size w ((w.alloc (.cells #[.slice pa n cap] 32)).alloc (.cells #[.map (some r)] 26)) := ((Below.refl _ w).alloc (Nat.le_refl _) _).alloc (by simp) _
  have hrl := lt_of_block hr.out
  refine (expand_any pa n cap (w.heap.size + 1) r o E L V _ hn (hp.out.below hb2) hV hlen ?_ ?_ hE).mono ?_
  · simp
  · show Hid (_ = _)
    exact (hb2.block r hrl).trans hr.out
  rintro e w2 ⟨rfl, h3⟩
  have H3 := hide (hb2.trans (h3.mono hb2.size))
  clear h3 hb2
  go_wp2
  go_ret
  exact ⟨rfl, H3.out⟩
end Go.Proofs.Qxb6613449a.ex

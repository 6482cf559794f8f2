/- The contract of zzEnv. -/
import Derived.Test.Qxb6613449aExpExpand
import Derived.Maps.Own
import Derived.Maps.OwnOps
import Derived.Maps.StringElems
import Derived.Maps.Views
namespace Go.Proofs.Qxb6613449a.ex
open Go.ChangeShapes Go.WideShapes Go.ChangeAt Go.RowKit Go.Maps

/-- the value of the last of the first k pairs with this key, else the empty string -/
def lastOf (K V : Nat → ByteArray) : Nat → ByteArray → ByteArray
  | 0, _ => ⟨#[]⟩
  | k + 1, s => if (K k).toList == s.toList then V k else lastOf K V k s

theorem klaw : Keyed Try.prog 9 := string_keyed Try.underlying9
theorem zero9 (w : World) : (zeroValue 9).run Try.prog w = .ok (.string ⟨#[]⟩) w := by kernel_rfl
theorem made26 (n : Nat) (w : World) : (Instr.makeMap 26 (some (.int .i64 n))).run Try.prog w = .ok (.map (some w.heap.size)) (w.alloc (.map #[] 0)) := by
  simp [Instr.makeMap, run_underlying Try.underlying26, asInt, newObj, go_sem]
  rfl

/-- after k pairs -/
def EnvD (wr : World) (r k : Nat) (K V : Nat → ByteArray) : Prop :=
  ∃ D : DataW Unit, wr.ownsMap Try.prog 9 (plainElem Try.prog 9) r k D ∧ IsMap D ∧
    ∀ s : ByteArray, D.atKey (.string s.data.toList) (.lit (.string [])) = .lit (.string (lastOf K V k s).data.toList)

theorem EnvD.made (w : World) (K V : Nat → ByteArray) : EnvD (w.alloc (.map #[] 0)) w.heap.size 0 K V :=
  ⟨_, World.ownsMap_made _ _ _ _, isMap_empty, fun _ => rfl⟩

theorem EnvD.step {w1 : World} {r k : Nat} {K V : Nat → ByteArray} {D : DataW Unit} (hm : IsMap D) (hD : ∀ s : ByteArray, D.atKey (.string s.data.toList) (.lit (.string [])) = .lit (.string (lastOf K V k s).data.toList))
    (hown : w1.ownsMap Try.prog 9 (plainElem Try.prog 9) r (k + 1) (D.put (.string (K k).data.toList) (.lit (.string (V k).data.toList)))) : EnvD w1 r (k + 1) K V := by
  refine ⟨_, hown, hm.put _ _, fun s => ?_⟩
  by_cases h : (K k).data.toList = s.data.toList
  · have hb : ((K k).toList == s.toList) = true := by rw [ByteArray.toList_eq, ByteArray.toList_eq, h]; simp
    rw [← h, atKey_put_same hm (by trivial)]
    simp only [lastOf, hb, if_true]
  · have hb : ((K k).toList == s.toList) = false := by rw [ByteArray.toList_eq, ByteArray.toList_eq]; simpa using fun e => h (by rw [e])
    rw [atKey_put_other (fun e => h (by injection e with e; exact e.symm)), hD s]
    simp only [lastOf, hb]
    rfl

/-- the object, read -/
theorem EnvD.obj {wr : World} {r k : Nat} {K V : Nat → ByteArray} (h : EnvD wr r k K V) : ∃ o, wr.heap[r]? = some o ∧ EnvObj o (lastOf K V k) := by
  obtain ⟨D, ⟨es, clock, hb, F, hs, hD⟩, hm, hat⟩ := h
  refine ⟨_, hb, fun w r' s hr hz => ?_⟩
  have hown : w.ownsMap Try.prog 9 (plainElem Try.prog 9) r' k D := ⟨es, clock, hr, F, hs, hD⟩
  obtain ⟨v, ps, hrun, hv⟩ := hown.lookup klaw Try.underlying26 (zero9 w) (plainElem_string Try.underlying9 (by show 0 ≤ maxLen; exact Nat.zero_le _)) (WideMaps.keyOf_string_mk Try.underlying9 hz)
  obtain ⟨s', rfl, hx, _⟩ := plainElem_string_inv Try.underlying9 hv
  have hx1 : D.atKey (.string s.data.toList) (.lit (.string [])) = .lit (.string s'.data.toList) := congrArg Prod.fst hx
  rw [hat s] at hx1
  have : (lastOf K V k s).data.toList = s'.data.toList := by simpa using hx1
  rw [bytes_inj this]
  exact hrun

set_option maxHeartbeats 1000000 in
theorem env_any (ka va : Option Addr) (n kc vc : Nat) (K V : Nat → ByteArray) (w : World) (hn : n ≤ 1000000) (hk : Hid (IsStrs w ka n K)) (hv : Hid (IsStrs w va n V)) (hkz : Hid (∀ j, j < n → (K j).size ≤ maxLen)) (hvz : Hid (∀ j, j < n → (V j).size ≤ maxLen)) :
    Calls Try.prog 9 #[.slice ka n kc, .slice va n vc] w fun e w' => e = .returned (.map (some w.heap.size)) ∧ (∃ o, w'.heap[w.heap.size]? = some o ∧ EnvObj o (lastOf K V n)) ∧ Below w.heap.size w w' := by
  have hmm := made26
  go_enter Try.func9, Try.ntmps9
  go_wp2
  go_loopw [6] (fun i wr => ∃ k : Nat, k ≤ n ∧ i = .int .i64 k ∧ EnvD wr w.heap.size k K V ∧ Below w.heap.size w wr) (fun i _ => n - (intOf i).toNat)
  case atStart => exact ⟨0, Nat.zero_le _, rfl, EnvD.made _ _ _, (Below.refl _ w).alloc (Nat.le_refl _) _⟩
  case round =>
    clear hmm
    obtain ⟨k, hkn, rfl, inv, bel⟩ := hrel
    have J := hide inv
    have HB := hide bel
    clear inv bel
    by_cases hlt : k < n
    · obtain ⟨b, off, rfl, hb, hc⟩ := hk.out (by omega)
      obtain ⟨b2, off2, rfl, hb2, hc2⟩ := hv.out (by omega)
      have c0 := hc k hlt
      have c1 := hc2 k hlt
      rw [← HB.out.cell (p := ⟨b, off + k, none⟩) hb] at c0
      rw [← HB.out.cell (p := ⟨b2, off2 + k, none⟩) hb2] at c1
      obtain ⟨D, hown, hm, hD⟩ := J.out
      obtain ⟨w1, hrun, hown1, hgrow1⟩ := hown.drew.update klaw Try.underlying26 (by unfold maxLen; omega) (WideMaps.keyOf_string_mk Try.underlying9 (hkz.out k hlt)) (plainElem_string Try.underlying9 (hvz.out k hlt))
      have J1 := hide (EnvD.step hm hD hown1)
      have HB1 := hide (HB.out.drew.grown hgrow1 HB.out.size (fun j hj => by cases hj; exact Nat.le_refl _))
      clear hc hc2 hown1 hgrow1
      go_wp2
      go_region
      all_goals go_wp2
      all_goals exact ⟨⟨k + 1, by omega, by go_num, J1.out, HB1.out⟩, by simp [intOf]; omega⟩
    · have hkn2 : k = n := by omega
      subst hkn2
      go_wp2
      go_ret
      exact ⟨rfl, J.out.obj, HB.out⟩

theorem lastOf_size (K V : Nat → ByteArray) (n z : Nat) (h : ∀ j, j < n → (V j).size ≤ z) (s : ByteArray) : (lastOf K V n s).size ≤ z := by
  induction n with
  | zero => exact Nat.zero_le _
  | succ k ih =>
    unfold lastOf
    split
    · exact h k (by omega)
    · exact ih (fun j hj => h j (by omega))

set_option maxHeartbeats 1000000 in
theorem outLen_any (la va : Option Addr) (n lc vc r : Nat) (o : Obj) (E : ByteArray → ByteArray) (L V : Nat → ByteArray) (w : World) (hn : n ≤ 1000000) (hl : Hid (IsStrs w la n L)) (hv : Hid (IsStrs w va n V))
    (hlz : Hid (∀ j, j < n → (L j).size ≤ 1048576)) (hvz : Hid (∀ j, j < n → (V j).size ≤ 1048576)) (hez : Hid (∀ s, (E s).size ≤ 1048576)) (hr : Hid (w.heap[r]? = some o)) (hE : Hid (EnvObj o E)) :
    Calls Try.prog 10 #[.slice la n lc, .slice va n vc, .map (some r)] w fun e w' => w' = w ∧ ∃ q : Int, e = .returned (.int .i64 q) ∧ 0 ≤ q ∧ q ≤ 8388608 ∧ (q ≤ 4194304 → q = (outN E L V n).length) := by
  go_enter Try.func10, Try.ntmps10
  go_wp2
  go_loop [7, 8] (fun t i => ∃ k : Nat, k ≤ n ∧ i = .int .i64 k ∧ (outN E L V k).length ≤ 4194304 ∧ t = .int .i64 (outN E L V k).length) (fun _ i => n - (intOf i).toNat)
  case atStart => exact ⟨0, Nat.zero_le _, rfl, by simp [outN], by simp [outN]⟩
  case round =>
    obtain ⟨k, hk, rfl, ht, rfl⟩ := hrel
    by_cases hlt : k < n
    · obtain ⟨b, off, rfl, hb, hc⟩ := hl.out (by omega)
      obtain ⟨b2, off2, rfl, hb2, hc2⟩ := hv.out (by omega)
      have c0 := hc k hlt
      have c1 := hc2 k hlt
      have z0 := hlz.out k hlt
      have z1 := hvz.out k hlt
      have z2 := hez.out (V k)
      clear hc hc2
      cases hvv : (V k).toList.isEmpty
      · have HO : Hid ((outN E L V (k + 1)).length = (outN E L V k).length + (E (V k)).size) := by simp [outN, pick, hvv, Hid]
        have hlook := hE.out w r (V k) hr.out (by unfold maxLen; omega)
        go_wp2
        · go_ret
          exact ⟨rfl, _, rfl, by omega, by omega, fun h => absurd h (by omega)⟩
        · have e := HO.out
          exact ⟨⟨k + 1, by omega, by go_num, by omega, by rw [e]; go_num⟩, by simp [intOf]; omega⟩
      · have HO : Hid ((outN E L V (k + 1)).length = (outN E L V k).length + (L k).size) := by simp [outN, pick, hvv, Hid]
        go_wp2
        · go_ret
          exact ⟨rfl, _, rfl, by omega, by omega, fun h => absurd h (by omega)⟩
        · have e := HO.out
          exact ⟨⟨k + 1, by omega, by go_num, by omega, by rw [e]; go_num⟩, by simp [intOf]; omega⟩
    · have hkn : k = n := by omega
      subst hkn
      go_wp2
      go_ret
      exact ⟨rfl, _, rfl, by omega, by omega, fun _ => rfl⟩
end Go.Proofs.Qxb6613449a.ex

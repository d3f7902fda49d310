/-
  What the map of places knows: the plain law that ties 'check' to the model.
-/
import Derived.Test.YbulkakkaFmtWithin
namespace Go.Proofs.YbulkakkaFmt
open Go.RowKit Go.Kit Go.Maps Go.Extern.Stop Go.Stop Go.Extern

/-- D holds just the names among the first k. -/
def Seen (D : DataW Unit) (ss : List ByteArray) (k : Nat) : Prop := ∀ s : ByteArray, Maps.has D (.string s.data.toList) = true ↔ ∃ j, j < k ∧ isNm (sAt ss j) = true ∧ sAt ss j = s
theorem seen_zero (ss : List ByteArray) : Seen (.map []) ss 0 := fun s => by
  rw [Maps.has_eq]
  simp
theorem seen_bad {D : DataW Unit} {ss : List ByteArray} {k : Nat} (h : Seen D ss k) (hn : isNm (sAt ss k) = false) : Seen D ss (k + 1) := fun s => by
  rw [h s]
  constructor
  · rintro ⟨j, hj, h1, h2⟩; exact ⟨j, by omega, h1, h2⟩
  · rintro ⟨j, hj, h1, h2⟩
    refine ⟨j, ?_, h1, h2⟩
    by_cases e : j = k
    · subst e; rw [hn] at h1; cases h1
    · omega
theorem seen_taken {D : DataW Unit} {ss : List ByteArray} {k : Nat} (h : Seen D ss k) (hd : Maps.has D (.string (sAt ss k).data.toList) = true) : Seen D ss (k + 1) := fun s => by
  rw [h s]
  constructor
  · rintro ⟨j, hj, h1, h2⟩; exact ⟨j, by omega, h1, h2⟩
  · rintro ⟨j, hj, h1, h2⟩
    by_cases e : j = k
    · subst e
      obtain ⟨i, hi, g1, g2⟩ := (h _).1 hd
      exact ⟨i, hi, g1, g2.trans h2⟩
    · exact ⟨j, by omega, h1, h2⟩
theorem seen_put {D : DataW Unit} {ss : List ByteArray} {k : Nat} (h : Seen D ss k) (hD : Maps.IsMap D) (hn : isNm (sAt ss k) = true) (d : DataW Unit) : Seen (D.put (.string (sAt ss k).data.toList) d) ss (k + 1) := fun s => by
  by_cases e : s = sAt ss k
  · subst e
    rw [Maps.has_put_same hD (show WideAt.IsKeyLit (.string (sAt ss k).data.toList) from trivial)]
    exact ⟨fun _ => ⟨k, by omega, hn, rfl⟩, fun _ => rfl⟩
  · rw [Maps.has_put_other (fun x => e (WideShapes.bytes_inj (by simpa using x))), h s]
    constructor
    · rintro ⟨j, hj, h1, h2⟩; exact ⟨j, by omega, h1, h2⟩
    · rintro ⟨j, hj, h1, h2⟩
      refine ⟨j, ?_, h1, h2⟩
      by_cases e' : j = k
      · subst e'; exact absurd h2.symm e
      · omega
theorem badAt_taken {D : DataW Unit} {ss : List ByteArray} {k : Nat} (h : Seen D ss k) (hn : isNm (sAt ss k) = true) (hd : Maps.has D (.string (sAt ss k).data.toList) = true) : badAt ss k = 1 := by
  obtain ⟨j, hj, _, h2⟩ := (h _).1 hd
  exact badAt_dup hn j hj h2
theorem badAt_free {D : DataW Unit} {ss : List ByteArray} {k : Nat} (h : Seen D ss k) (hn : isNm (sAt ss k) = true) (hd : Maps.has D (.string (sAt ss k).data.toList) = false) : badAt ss k = 0 := by
  refine badAt_ok hn fun j hj e => ?_
  have := (h (sAt ss k)).2 ⟨j, hj, by rw [e]; exact hn, e⟩
  rw [hd] at this
  cases this

/-- The names of a catalogue's types. -/
def tnames (cs : List (ByteArray × List ByteArray)) : List ByteArray := cs.map Prod.fst
theorem tnames_at (cs : List (ByteArray × List ByteArray)) (k : Nat) : sAt (tnames cs) k = (cAt cs k).1 := by
  unfold sAt tnames cAt
  rw [List.getD_eq_getElem?_getD, List.getD_eq_getElem?_getD, List.getElem?_map]
  cases cs[k]? <;> rfl
/-- The defects among the first k types and their actions, in the order in which 'check' finds them. -/
def cntTo (cs : List (ByteArray × List ByteArray)) : Nat → Nat
  | 0 => 0
  | k + 1 => cntTo cs k + badAt (tnames cs) k + defTo (cAt cs k).2 (cAt cs k).2.length
theorem cntTo_le (cs : List (ByteArray × List ByteArray)) (k : Nat) (h : ∀ j, j < k → (cAt cs j).2.length ≤ 256) : cntTo cs k ≤ 257 * k := by
  induction k with
  | zero => simp [cntTo]
  | succ k ih =>
    have := ih (fun j hj => h j (by omega))
    have := h k (by omega)
    have := badAt_le (tnames cs) k
    have := defTo_le (cAt cs k).2 (cAt cs k).2.length
    simp only [cntTo]; omega
theorem cntTo_eq (ts : List Ty) (hl : ∀ j, j < ts.length → (tyAt ts j).len ≤ (tyAt ts j).zs.length) : ∀ k, k ≤ ts.length → cntTo (catOf ts) k = expTo ts k + defTo (names ts) k
  | 0, _ => rfl
  | k + 1, h => by
    have ih := cntTo_eq ts hl k (by omega)
    have e : tnames (catOf ts) = names ts := by simp [tnames, catOf, names]
    simp only [cntTo, expTo, defTo, ih, e, catOf_at ts k (by omega), acts_length (hl k (by omega))]
    omega
theorem cntTo_expected (ts : List Ty) (hl : ∀ j, j < ts.length → (tyAt ts j).len ≤ (tyAt ts j).zs.length) : cntTo (catOf ts) (catOf ts).length = expected ts := by
  rw [catOf_length, cntTo_eq ts hl _ (Nat.le_refl _)]; rfl
end Go.Proofs.YbulkakkaFmt

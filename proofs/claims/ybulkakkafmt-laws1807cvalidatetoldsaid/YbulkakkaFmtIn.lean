/-
  What the law's argument is in memory, and what 'zzs1807cbuild' makes of it: the plain words.
-/
import Derived.Test.YbulkakkaFmtMem
namespace Go.Proofs.YbulkakkaFmt
open Go.RowKit

/-- One element of the law's input, as memory holds it. -/
structure Ty where
  nm : Int
  a : Option Addr
  len : Nat
  cap : Nat
  zs : List Int
def tyAt (ts : List Ty) (k : Nat) : Ty := ts.getD k ⟨0, Option.none, 0, 0, []⟩
/-- What the walk is told of one element's own slice. -/
structure TyOk (w : World) (t : Ty) : Prop where
  lo : 0 ≤ t.nm
  hi : t.nm ≤ 255
  len : t.len ≤ t.zs.length
  small : t.len ≤ 9223372036854775807
  cells : ∀ i, i < t.len → ∃ b off, t.a = some ⟨b, off, Option.none⟩ ∧ b < w.heap.size ∧ 0 ≤ t.zs.getD i 0 ∧ t.zs.getD i 0 ≤ 255 ∧ w.cell? ⟨b, off + i, Option.none⟩ = some (.int .u8 (t.zs.getD i 0))
/-- What the walk is told of the argument. -/
structure IsIn (w : World) (a0 : Option Addr) (n : Nat) (ts : List Ty) : Prop where
  len : ts.length = n
  cells : ∀ k, k < n → ∃ b off, a0 = some ⟨b, off, Option.none⟩ ∧ b < w.heap.size ∧ ∀ j, j < n → w.cell? ⟨b, off + j * 2, Option.none⟩ = some (.int .u8 (tyAt ts j).nm) ∧ w.cell? ⟨b, off + j * 2 + 1, Option.none⟩ = some (.slice (tyAt ts j).a (tyAt ts j).len (tyAt ts j).cap)
  each : ∀ k, k < n → TyOk w (tyAt ts k)
/-- The lengths of the first k elements' slices, added up. -/
def totTo (ts : List Ty) : Nat → Nat
  | 0 => 0
  | k + 1 => totTo ts k + (tyAt ts k).len
theorem totTo_le (ts : List Ty) (k : Nat) (h : ∀ j, j < k → (tyAt ts j).len ≤ 256) : totTo ts k ≤ 256 * k := by
  induction k with
  | zero => simp [totTo]
  | succ k ih => have := ih (fun j hj => h j (by omega)); have := h k (by omega); simp only [totTo]; omega

/-- The names that the numbers of the input stand for. -/
def names (ts : List Ty) : List ByteArray := ts.map fun t => nm t.nm
def acts (t : Ty) : List ByteArray := (t.zs.take t.len).map nm
theorem names_length (ts : List Ty) : (names ts).length = ts.length := by simp [names]
theorem acts_length {t : Ty} (h : t.len ≤ t.zs.length) : (acts t).length = t.len := by simp [acts]; omega
theorem names_at (ts : List Ty) (k : Nat) (h : k < ts.length) : sAt (names ts) k = nm (tyAt ts k).nm := by
  simp [sAt, names, tyAt, List.getElem?_eq_getElem h]
theorem acts_at {t : Ty} (k : Nat) (h : k < t.len) (hl : t.len ≤ t.zs.length) : sAt (acts t) k = nm (t.zs.getD k 0) := by
  have hk : k < t.zs.length := by omega
  simp [sAt, acts, h, List.getElem?_eq_getElem hk]
theorem sAt_size {ss : List ByteArray} {m : Nat} (h : ∀ s ∈ ss, s.size ≤ m) (k : Nat) : (sAt ss k).size ≤ m := by
  unfold sAt
  rw [List.getD_eq_getElem?_getD]
  rcases hk : ss[k]? with _ | s
  · exact Nat.zero_le _
  · exact h s (List.mem_of_getElem? hk)
theorem names_size (ts : List Ty) (k : Nat) : (sAt (names ts) k).size ≤ 65 := sAt_size (fun s hs => by obtain ⟨t, _, rfl⟩ := List.mem_map.1 hs; exact nm_size _) k
theorem acts_size (t : Ty) (k : Nat) : (sAt (acts t) k).size ≤ 65 := sAt_size (fun s hs => by obtain ⟨z, _, rfl⟩ := List.mem_map.1 hs; exact nm_size _) k

/-- The defects of the first k elements' actions. -/
def expTo (ts : List Ty) : Nat → Nat
  | 0 => 0
  | k + 1 => expTo ts k + defTo (acts (tyAt ts k)) (tyAt ts k).len
theorem expTo_le (ts : List Ty) (k : Nat) (h : ∀ j, j < k → (tyAt ts j).len ≤ 256) : expTo ts k ≤ 256 * k := by
  induction k with
  | zero => simp [expTo]
  | succ k ih => have := ih (fun j hj => h j (by omega)); have := h k (by omega); have := defTo_le (acts (tyAt ts k)) (tyAt ts k).len; simp only [expTo]; omega
/-- What the model expects of the whole input. -/
def expected (ts : List Ty) : Nat := expTo ts ts.length + defTo (names ts) ts.length

/-- The first k actions of a list that lies in block ba. -/
def ActOk (w : World) (ba : Nat) (al : List ByteArray) (k : Nat) : Prop :=
  ∀ i, i < k → w.cell? ⟨ba, i * 2, Option.none⟩ = some (.string (sAt al i)) ∧ w.cell? ⟨ba, i * 2 + 1, Option.none⟩ = some (.string ⟨#[100]⟩)
/-- The j-th type of a list that lies in block bt; its actions lie in a block behind bn. -/
def TypeAt (w : World) (bt bn j : Nat) (name : ByteArray) (al : List ByteArray) : Prop :=
  w.cell? ⟨bt, j * 2, Option.none⟩ = some (.string name) ∧ ∃ ba, bn < ba ∧ w.cell? ⟨bt, j * 2 + 1, Option.none⟩ = some (.slice (some ⟨ba, 0, Option.none⟩) al.length al.length) ∧ ActOk w ba al al.length
theorem TypeAt.keep {w w' : World} {bt bn j : Nat} {name : ByteArray} {al : List ByteArray} (h : TypeAt w bt bn j name al)
    (hk : ∀ g o u, w.cell? ⟨g, o, Option.none⟩ = some u → (g = bt ∧ (o = j * 2 ∨ o = j * 2 + 1)) ∨ bn < g → w'.cell? ⟨g, o, Option.none⟩ = some u) : TypeAt w' bt bn j name al := by
  obtain ⟨h1, ba, h2, h3, h4⟩ := h
  exact ⟨hk _ _ _ h1 (.inl ⟨rfl, .inl rfl⟩), ba, h2, hk _ _ _ h3 (.inl ⟨rfl, .inr rfl⟩), fun i hi => ⟨hk _ _ _ (h4 i hi).1 (.inr h2), hk _ _ _ (h4 i hi).2 (.inr h2)⟩⟩
theorem TypeAt.below {w w' : World} {bt bn j : Nat} {name : ByteArray} {al : List ByteArray} (h : TypeAt w bt bn j name al) (hb : Below w.heap.size w w') : TypeAt w' bt bn j name al :=
  h.keep fun g o _ hu _ => (hb.cell (p := ⟨g, o, Option.none⟩) (World.block_lt_of_cell? w _ hu)).trans hu
/-- Behind a store into the names' row. -/
theorem TypeAt.setName {w : World} {bt bn j k : Nat} {name : ByteArray} {al : List ByteArray} {v : Value} (h : TypeAt w bt bn j name al) (hne : bt < bn) : TypeAt (w.setCell ⟨bn, k, Option.none⟩ v) bt bn j name al :=
  h.keep fun g o u hu hg => cell_far hu (.inl (by omega))
/-- Behind a store into a later place of the types' row. -/
theorem TypeAt.setType {w : World} {bt bn j o : Nat} {name : ByteArray} {al : List ByteArray} {v : Value} (h : TypeAt w bt bn j name al) (hne : bt < bn) (ho : j * 2 + 1 < o) : TypeAt (w.setCell ⟨bt, o, Option.none⟩ v) bt bn j name al :=
  h.keep fun g o' u hu hg => cell_far hu (by omega)
theorem ActOk.below {w w' : World} {ba k : Nat} {al : List ByteArray} (h : ActOk w ba al k) (hb : Below w.heap.size w w') : ActOk w' ba al k := fun i hi =>
  ⟨(hb.cell (p := ⟨ba, i * 2, Option.none⟩) (World.block_lt_of_cell? w _ (h i hi).1)).trans (h i hi).1, (hb.cell (p := ⟨ba, i * 2 + 1, Option.none⟩) (World.block_lt_of_cell? w _ (h i hi).2)).trans (h i hi).2⟩
/-- The first k names of a list that lies in block bn. -/
def NmOk (w : World) (bn : Nat) (ss : List ByteArray) (k : Nat) : Prop := ∀ i, i < k → w.cell? ⟨bn, i, Option.none⟩ = some (.string (sAt ss i))
theorem NmOk.below {w w' : World} {bn k B : Nat} {ss : List ByteArray} (h : NmOk w bn ss k) (hb : Below B w w') (hB : bn < B) : NmOk w' bn ss k := fun i hi =>
  (hb.cell (p := ⟨bn, i, Option.none⟩) hB).trans (h i hi)

/-- A catalogue in memory: its cell, its types, their actions. -/
def cAt (cs : List (ByteArray × List ByteArray)) (j : Nat) : ByteArray × List ByteArray := cs.getD j (ByteArray.empty, [])
def Cat (w : World) (pc : Nat) (cs : List (ByteArray × List ByteArray)) : Prop :=
  ∃ bt, w.cell? ⟨pc, 0, Option.none⟩ = some (.slice (some ⟨bt, 0, Option.none⟩) cs.length cs.length) ∧ ∀ j, j < cs.length → TypeAt w bt 0 j (cAt cs j).1 (cAt cs j).2
/-- The catalogue that the law builds. -/
def catOf (ts : List Ty) : List (ByteArray × List ByteArray) := ts.map fun t => (nm t.nm, acts t)
theorem catOf_length (ts : List Ty) : (catOf ts).length = ts.length := by simp [catOf]
theorem catOf_at (ts : List Ty) (j : Nat) (h : j < ts.length) : cAt (catOf ts) j = (nm (tyAt ts j).nm, acts (tyAt ts j)) := by
  simp [cAt, catOf, tyAt, List.getElem?_eq_getElem h]
end Go.Proofs.YbulkakkaFmt

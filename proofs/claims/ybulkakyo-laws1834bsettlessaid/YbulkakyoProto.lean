/-
  The law's memory, and the stand-in protocol's 'settle': its contract.
-/
import Derived.Test.YbulkakyoSync
import Derived.OwnWalk
import Derived.Below
import Derived.BigQuiet
import Derived.Conc.SmallLaws
import Derived.Conc.EventLaws
namespace Go.Proofs.Ybulkakyo
open Go.RowKit Go.Conc

/-- The cells of the law's DB: the lock's state word, its readers' count, the settled mark. -/
def dbArr (N : Nat) (st rc s : Int) : Array Value :=
  #[.pointer none, .pointer none, .int .u64 0, .nilFunc, .int .u64 0, .int .u32 0, .int .u64 0, .int .u32 0, .int .i32 st, .int .u32 0, .int .u32 0, .int .u32 0, .int .i32 rc, .int .i32 0, .iface 23 (.pointer (some ⟨N, 0, none⟩)),
    .pointer none, .int .u32 0, .int .i64 0, .int .u64 0, .int .u64 s, .int .u32 0, .int .u64 0, .slice none 0 0, .bool false, .nilIface, .int .u32 0, .int .u32 0, .int .u64 0, .pointer none, .pointer none, .int .u64 0, .bool false, .int .i64 0, .bool false,
    .int .u64 0, .slice none 0 0, .int .i64 0, .pointer none, .int .i32 0, .int .u32 0, .int .u64 0, .int .u64 0, .slice none 0 0, .slice none 0 0, .pointer none]

structure St (w : World) (N : Nat) (waits : Int) (v : Value) (k : Nat) (ts : Int) (st rc s : Int) : Prop where
  p : w.heap[N]? = some (.cells #[.int .i64 waits, v] 26 (0, 0))
  db : w.heap[N + 1]? = some (.cells (dbArr N st rc s) 75 (0, 0))
  own : w.ownsRow (N + 2) 22 1 v k (List.replicate k (.int .u64 ts))
  size : N + 2 ≤ w.heap.size

theorem cell_row {w : World} {b i : Nat} {cs : Array Value} {t : TypeId} {x : Value} (h : w.heap[b]? = some (.cells cs t (0, 0))) (hx : cs[i]? = some x) : w.cell? ⟨b, i, none⟩ = some x := by
  simp [World.cell?, h, hx]
theorem frozen_row {w : World} {b i : Nat} {cs : Array Value} {t : TypeId} (h : w.heap[b]? = some (.cells cs t (0, 0))) : w.frozen? ⟨b, i, none⟩ = false := by
  simp [World.frozen?, h]
theorem heap_set_same {w : World} {b i : Nat} {cs : Array Value} {t : TypeId} (h : w.heap[b]? = some (.cells cs t (0, 0))) (v : Value) : (w.setCell ⟨b, i, none⟩ v).heap[b]? = some (.cells (cs.setIfInBounds i v) t (0, 0)) := by
  simp [World.setCell, Array.getElem?_modify, h]
theorem heap_set_other {w : World} {b c i : Nat} (h : b ≠ c) (v : Value) : (w.setCell ⟨b, i, none⟩ v).heap[c]? = w.heap[c]? := by
  simp [World.setCell, Array.getElem?_modify, h]
theorem size_set {w : World} {a : Addr} (v : Value) : (w.setCell a v).heap.size = w.heap.size := by
  simp [World.setCell]

section
variable {w : World} {N k : Nat} {waits ts st rc s : Int} {v : Value}
theorem St.cw (h : St w N waits v k ts st rc s) : w.cell? ⟨N, 0, none⟩ = some (.int .i64 waits) := cell_row h.p rfl
theorem St.cl (h : St w N waits v k ts st rc s) : w.cell? ⟨N, 1, none⟩ = some v := cell_row h.p rfl
theorem St.fl (h : St w N waits v k ts st rc s) (i : Nat) : w.frozen? ⟨N, i, none⟩ = false := frozen_row h.p
theorem St.c8 (h : St w N waits v k ts st rc s) : w.cell? ⟨N + 1, 8, none⟩ = some (.int .i32 st) := cell_row h.db rfl
theorem St.c10 (h : St w N waits v k ts st rc s) : w.cell? ⟨N + 1, 10, none⟩ = some (.int .u32 0) := cell_row h.db rfl
theorem St.c11 (h : St w N waits v k ts st rc s) : w.cell? ⟨N + 1, 11, none⟩ = some (.int .u32 0) := cell_row h.db rfl
theorem St.c12 (h : St w N waits v k ts st rc s) : w.cell? ⟨N + 1, 12, none⟩ = some (.int .i32 rc) := cell_row h.db rfl
theorem St.c14 (h : St w N waits v k ts st rc s) : w.cell? ⟨N + 1, 14, none⟩ = some (.iface 23 (.pointer (some ⟨N, 0, none⟩))) := cell_row h.db rfl
theorem St.c19 (h : St w N waits v k ts st rc s) : w.cell? ⟨N + 1, 19, none⟩ = some (.int .u64 s) := cell_row h.db rfl
theorem St.fd (h : St w N waits v k ts st rc s) (i : Nat) : w.frozen? ⟨N + 1, i, none⟩ = false := frozen_row h.db

/-- A store into the DB. -/
theorem St.setDb (h : St w N waits v k ts st rc s) {i : Nat} {x : Value} {st' rc' s' : Int} (e : (dbArr N st rc s).setIfInBounds i x = dbArr N st' rc' s') : St (w.setCell ⟨N + 1, i, none⟩ x) N waits v k ts st' rc' s' where
  p := (heap_set_other (by omega) x).trans h.p
  db := by rw [heap_set_same h.db, e]
  own := ownsRow_setCell_below h.own (by show N + 1 < N + 2; omega) x
  size := by rw [size_set]; exact h.size
theorem St.settled (h : St w N waits v k ts st rc s) (x : Int) : St (w.setCell ⟨N + 1, 19, none⟩ (.int .u64 x)) N waits v k ts st rc x := h.setDb rfl
theorem St.below_set {B : Nat} {a : World} (h : Below B a w) {b i : Nat} (hb : B ≤ b) (x : Value) : Below B a (w.setCell ⟨b, i, none⟩ x) := h.setCell hb x
/-- Only blocks behind the two turn, and not the log's row. -/
theorem St.kept {w' : World} {row : Option Nat} (h : St w N waits v k ts st rc s) (hg : w.grownBy w' row) (h0 : row ≠ some N) (h1 : row ≠ some (N + 1)) (hr : v.ownBlock = none ∨ v.ownBlock ≠ row) : St w' N waits v k ts st rc s where
  p := (hg.block N (by have := h.size; omega) (fun e => h0 e.symm)).trans h.p
  db := (hg.block (N + 1) (by have := h.size; omega) (fun e => h1 e.symm)).trans h.db
  own := h.own.kept hg hr
  size := Nat.le_trans h.size hg.size
end

theorem bytes30 : ∃ i, Yba.prog.info? 30 = some i ∧ i.bytes = 0 := by
  have h : (Yba.prog.info? 30).map (·.bytes) = some 0 := by kernel_rfl
  obtain ⟨i, hi, hb⟩ := Option.map_eq_some_iff.1 h
  exact ⟨i, hi, hb⟩
theorem mk0 (w : World) : (Instr.makeChan 127 (.int .i64 0)).run Yba.prog w = .ok (.chan (some w.heap.size)) (w.alloc (.chan 0 #[] false 0 0 false)) := by
  obtain ⟨i, hi, hb⟩ := bytes30
  simpa using run_makeChan (P := Yba.prog) (w := w) Yba.underlying127 hi .i64 0 (by omega) (by rw [hb]; omega)
theorem info22 : (Yba.prog.info? 22).map (fun i => (i.zero, i.size, i.bytes)) = some (some (.int .u64 0), 1, 8) := by kernel_rfl

theorem own_some {w : World} {base : Nat} {e : TypeId} {size n : Nat} {v : Value} {xs : List Value} (h : w.ownsRow base e size v n xs) (hn : ¬ v = .slice none 0 0) :
    ∃ g cap, v = .slice (some ⟨g, 0, none⟩) n cap ∧ base ≤ g ∧ n ≤ cap := by
  rcases h.2 with ⟨rfl, _⟩ | ⟨g, cap, cur, rfl, hb, _, hn, _⟩
  · exact absurd rfl hn
  · exact ⟨g, cap, rfl, hb, hn⟩

theorem cell_one_new' (W : World) (v : Value) (t : TypeId) : ∀ j u, [v][j]? = some u → (W.alloc (.cells #[v] t)).cell? ((⟨W.heap.size, 0, none⟩ : Addr).add j) = some u := by
  intro j u hu
  cases j with
  | zero => simp at hu; subst hu; simp [Addr.add]
  | succ j => simp at hu

/-- What the protocol's 'settle' leaves: one timestamp more in the log; a closed channel while the log is no longer than 'waits', nil behind that. -/
def Settled (w : World) (N : Nat) (waits : Int) (k : Nat) (ts st rc s : Int) (e : Ending) (w' : World) : Prop :=
  ∃ v', St w' N waits v' (k + 1) ts st rc s ∧ Below N w w' ∧
    (((k : Int) + 1 ≤ waits ∧ ∃ c, e = .returned (.chan (some c)) ∧ N + 2 ≤ c ∧ w'.heap[c]? = some (.chan 0 #[] true 0 0 false)) ∨ (waits < (k : Int) + 1 ∧ e = .returned (.chan none)))

theorem St.pushed {w w1 : World} {N k : Nat} {waits ts st rc s : Int} {v v' : Value} (h : St w N waits v k ts st rc s) (hown : w1.ownsRow (N + 2) 22 1 v' (k + 1) (List.replicate k (.int .u64 ts) ++ [.int .u64 ts])) (o : Obj)
    (hg : (w.alloc o).grownBy w1 v.ownBlock) : St (w1.setCell ⟨N, 1, none⟩ v') N waits v' (k + 1) ts st rc s ∧ Below N w (w1.setCell ⟨N, 1, none⟩ v') ∧ w1.cell? ⟨N, 1, none⟩ = some v ∧ w1.frozen? ⟨N, 1, none⟩ = false := by
  have hs := h.size
  have hlt := h.own.lt
  have hp : w1.heap[N]? = some (.cells #[.int .i64 waits, v] 26 (0, 0)) := by
    rw [hg.block N (by simp; omega) (fun e => by have := hlt N e.symm; omega), heap_alloc_old w o (by omega)]
    exact h.p
  have hd : w1.heap[N + 1]? = some (.cells (dbArr N st rc s) 75 (0, 0)) := by
    rw [hg.block (N + 1) (by simp; omega) (fun e => by have := hlt (N + 1) e.symm; omega), heap_alloc_old w o (by omega)]
    exact h.db
  have hz : w.heap.size + 1 ≤ w1.heap.size := by simpa using hg.size
  refine ⟨⟨?_, ?_, ?_, ?_⟩, ?_, cell_row hp rfl, frozen_row hp⟩
  · rw [heap_set_same hp]; rfl
  · rw [heap_set_other (by omega)]; exact hd
  · rw [← List.replicate_succ'] at hown
    exact ownsRow_setCell_below hown (by show N < N + 2; omega) v'
  · rw [size_set]; omega
  · exact St.below_set (((Below.refl _ _).alloc (by omega) o).grown hg (by simp; omega) (fun b e => by have := hlt b e; omega)) (Nat.le_refl _) v'

theorem close_new (W : World) (n : Nat) (hn : W.heap.size = n) (ats : Array TypeId) (ty : TypeId) :
    (Builtin.close_ ats ty #[.chan (some n)]).run Yba.prog (W.alloc (.chan 0 #[] false 0 0 false)) = .ok (.tuple #[]) (W.alloc (.chan 0 #[] true 0 0 false)) := by
  subst hn
  rw [run_close_open (P := Yba.prog) ats ty (heap_alloc_new W _)]
  congr 1
  simp only [World.alloc]
  congr 1
  refine Array.ext_getElem? fun i => ?_
  rw [Array.getElem?_setIfInBounds]
  simp only [Array.getElem?_push, Array.size_push]
  split
  · subst_vars
    simp
  · split
    · rename_i h1 h2
      exact absurd h2.symm h1
    · rfl

theorem St.drewN {w : World} {N k : Nat} {waits ts st rc s : Int} {v : Value} (h : St w N waits v k ts st rc s) (n : Nat) : St (w.drewN n) N waits v k ts st rc s := ⟨h.p, h.db, h.own, h.size⟩

theorem below_drewN' {B : Nat} {a w : World} (h : Below B a w) (n : Nat) : Below B a (w.drewN n) := h.trans ⟨rfl, rfl, rfl, Nat.le_refl _, fun _ _ => rfl⟩
theorem settled_chan {w w2 : World} {N k : Nat} {waits ts st rc s : Int} {v : Value} {nq n : Nat} (h : St w2 N waits v (k + 1) ts st rc s) (hb : Below N w w2) (hle : (k : Int) + 1 ≤ waits) (hn : w2.heap.size = n) :
    Settled w N waits k ts st rc s (.returned (.chan (some n))) ((w2.drewN nq).alloc (.chan 0 #[] true 0 0 false)) := by
  subst hn
  have hs := h.size
  refine ⟨v, (h.drewN nq).kept (World.grownBy_alloc _ _ none) (by simp) (by simp) (by cases hv : v.ownBlock <;> simp), ?_, .inl ⟨hle, w2.heap.size, rfl, hs, ?_⟩⟩
  · exact (below_drewN' hb nq).alloc (by show N ≤ w2.heap.size; omega) _
  · exact heap_alloc_new (w2.drewN nq) _
theorem settled_nil {w w2 : World} {N k : Nat} {waits ts st rc s : Int} {v : Value} {nq : Nat} (h : St w2 N waits v (k + 1) ts st rc s) (hb : Below N w w2) (hle : ¬ (k : Int) + 1 ≤ waits) :
    Settled w N waits k ts st rc s (.returned (.chan none)) (w2.drewN nq) :=
  ⟨v, h.drewN nq, below_drewN' hb nq, .inr ⟨by omega, rfl⟩⟩

set_option maxRecDepth 100000 in
set_option maxHeartbeats 800000 in
theorem proto_settle (N k : Nat) (waits ts st rc s : Int) (v : Value) (w : World) (h : St w N waits v k ts st rc s) (hk : k ≤ 100) :
    Calls Yba.prog 61 #[.pointer (some ⟨N, 0, none⟩), .int .u64 ts] w (Settled w N waits k ts st rc s) := by
  obtain ⟨i0, hi, hz0, hz1, hz2⟩ := info_parts info22
  have HS : Hid (St w N waits v k ts st rc s) := h
  have cl := h.cl
  have hsz := h.size
  have cl' : (w.alloc (.cells #[.int .u64 ts] 22)).cell? ⟨N, 1, none⟩ = some v := (((Below.refl w.heap.size w).alloc (Nat.le_refl _) _).cell (p := ⟨N, 1, none⟩) (by show N < _; omega)).trans cl
  by_cases hle : (k : Int) + 1 ≤ waits
  · go_enter Yba.func61, Yba.ntmps61
    go_wp2_with (at_builtin; refine wpList_append_own _ rfl _ _ 24 rfl (N + 2) 22 i0 (.int .u64 0) 1 8 Yba.underlying24 hi hz0 hz1 hz2 rfl (by decide) _ _ _ rfl (HS.out.own.alloc _) ⟨w.heap.size, 0, none⟩ 1 1 [.int .u64 ts] rfl rfl (cell_one_new' _ _ _) (fun x hx => by simp at hx; subst hx; rfl) (by unfold maxLen; omega) (by omega) (by simp; omega) ?_; intro v' w1 hown hgrow hnil; obtain ⟨hq, hb, c1, f1⟩ := HS.out.pushed hown _ hgrow; obtain ⟨g, cap, rfl, hgb, hkc⟩ := own_some hown (by rw [hnil]; simp); have d1 := hq.cl; have d0 := hq.cw; have HQ : Hid (St _ _ _ _ _ _ _ _ _) := hq; clear hq)
    go_quiet (fail)
    have hmc := mk0
    have hcl := close_new ((w1.setCell ⟨N, 1, none⟩ (.slice (some ⟨g, 0, none⟩) (k + 1) cap)).drewN nq) w1.heap.size (by simp)
    go_wp2
    go_ret
    exact settled_chan HQ.out hb hle (by simp)
  · go_enter Yba.func61, Yba.ntmps61
    go_wp2_with (at_builtin; refine wpList_append_own _ rfl _ _ 24 rfl (N + 2) 22 i0 (.int .u64 0) 1 8 Yba.underlying24 hi hz0 hz1 hz2 rfl (by decide) _ _ _ rfl (HS.out.own.alloc _) ⟨w.heap.size, 0, none⟩ 1 1 [.int .u64 ts] rfl rfl (cell_one_new' _ _ _) (fun x hx => by simp at hx; subst hx; rfl) (by unfold maxLen; omega) (by omega) (by simp; omega) ?_; intro v' w1 hown hgrow hnil; obtain ⟨hq, hb, c1, f1⟩ := HS.out.pushed hown _ hgrow; obtain ⟨g, cap, rfl, hgb, hkc⟩ := own_some hown (by rw [hnil]; simp); have d1 := hq.cl; have d0 := hq.cw; have HQ : Hid (St _ _ _ _ _ _ _ _ _) := hq; clear hq)
    go_quiet (fail)
    go_wp2
    go_ret
    exact settled_nil HQ.out hb (by omega)
end Go.Proofs.Ybulkakyo

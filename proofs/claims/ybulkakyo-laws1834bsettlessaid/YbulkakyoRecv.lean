/-
  A receive from a channel that is closed and empty, in one goroutine: the walk's law for settle's region of one receive.
-/
import Derived.Test.YbulkakyoRows
import Derived.Conc.LoneCalls
import Derived.WalkKit
namespace Go.Proofs.Ybulkakyo
open Go.RowKit Go.Conc

/-- An operation that is a communication, in whatever frame: it is handed up to the machine. -/
theorem stepG_comm_any {P : Program} {b : Frame} {a : Act} {k : List Item} {cs : List Frame} {w w' : World} {ops : Array Oper} {i : Nat} {rest : List Nat} {o : Oper} {cases : Array CommCase} {blocking : Bool} {shape : CommShape}
    (ho : ops[i]? = some o) (hw : Region.wanted o (yielded ops a.tmps) = true) (hr : (execOp a.eval o).run P w = .ok (.comm cases blocking shape) w') :
    ∃ es, stepG P true (G (b.at a (.inRegion ops (i :: rest) :: k)) cs) w = .comm (G (b.at a (.inRegion ops (i :: rest) :: k)) cs) cases blocking shape w' es := by
  by_cases hk : b.kind = .early
  · refine ⟨#[], ?_⟩
    have hk' : (b.kind == CallKind.early) = true := by rw [hk]; rfl
    rw [stepG_oper ho hw]
    simp [stepG.apply, hr, G, Frame.at, hk', GStep.after, seen]
  · exact ⟨_, stepG_comm ho hw hk hr⟩

def recvOps : Array Oper := #[{ dst := some 17, op := Op.move (Operand.tmp 4), type := 97, pos := "db.go:538", after := #[], guard := none },
  { dst := some 18, op := Op.recv 97 (Operand.tmp 17) false, type := 30, pos := "db.go:538", after := #[{ on := 0, ground := Ground.data }], guard := none }]

theorem wp_recv {Q : Exit → Act → World → Prop} {a : Act} {w : World} {c cap s r : Nat} {tm : Bool} (ha : a.eval (.tmp 4) = .chan (some c)) (hs : 18 < a.tmps.size) (hc : w.heap[c]? = some (.chan cap #[] true s r tm))
    (hq : Q .normal ((a.put (some 17) (.chan (some c))).put (some 18) (.agg #[])) w) :
    Code.wp Yba.prog (Code.region 4 #[{ dst := some 17, op := Op.move (Operand.tmp 4), type := 97, pos := "db.go:538", after := #[], guard := none },
      { dst := some 18, op := Op.recv 97 (Operand.tmp 17) false, type := 30, pos := "db.go:538", after := #[{ on := 0, ground := Ground.data }], guard := none }] false) Q a w := by
  intro b k cs
  refine ⟨.normal, _, w, hq, ?_⟩
  refine .head step_region ?_
  have h0 : step Yba.prog (lone (b.at a (.inRegion recvOps [0, 1] :: k)) cs w) = .next (lone (b.at (a.put (some 17) (.chan (some c))) (.inRegion recvOps [1] :: k)) cs w) := by
    have hg := stepG_op (P := Yba.prog) (b := b) (a := a) (k := k) (cs := cs) (w := w) (ops := recvOps) (i := 0) (rest := [1]) rfl (by rfl)
    have hr : (execOp a.eval recvOps[0]).run Yba.prog w = .ok (.value (.chan (some c))) w := by
      simp [recvOps, execOp, ha]
    have hfin : (b.at a (.inRegion recvOps [0, 1] :: k)).finish (.chan (some c)) = b.at (a.put (some 17) (.chan (some c))) (.inRegion recvOps [1] :: k) := by
      rw [Frame.finish_at]; rfl
    refine step_lone_go ?_
    rw [hg, ← hfin]
    simp [stepG.apply, hr]
  refine .head h0 ?_
  have hr1 : (execOp (a.put (some 17) (.chan (some c))).eval recvOps[1]).run Yba.prog w = .ok (.comm #[rcase c (.agg #[])] true (.recv false)) w := by
    simp [recvOps, execOp, go_sem, rcase, Act.put]
    intro h
    omega
  obtain ⟨es, hcm⟩ := stepG_comm_any (P := Yba.prog) (b := b) (k := k) (cs := cs) (ops := recvOps) (i := 1) (rest := []) rfl (by rfl) hr1
  have h1 := step_lone_recv_shut false hcm hc
  rw [Frame.finish_at] at h1
  exact .head h1 (.one step_region_end)
end Go.Proofs.Ybulkakyo

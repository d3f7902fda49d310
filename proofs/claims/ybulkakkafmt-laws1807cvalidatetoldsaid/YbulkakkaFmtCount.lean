/-
  'LawS1807CCount': its closure and its own walk.
-/
import Derived.Test.YbulkakkaFmtCheck
import Derived.Test.YbulkakkaFmtBuild
import Derived.LaidEqlPtr
namespace Go.Proofs.YbulkakkaFmt
open Go.RowKit Go.Kit Go.Maps Go.Extern.Stop Go.Stop Go.Extern
attribute [local go_sem] Ybaf.assert29 Ybaf.isIface28

/-- What the closure's two variables hold behind k reports. -/
def CntInv (bn bs : Nat) (k : Nat) (w : World) : Prop :=
  w.cell? ⟨bn, 0, Option.none⟩ = some (.int .i64 k) ∧ w.frozen? ⟨bn, 0, Option.none⟩ = false ∧ w.cell? ⟨bs, 0, Option.none⟩ = some (.bool true) ∧ w.frozen? ⟨bs, 0, Option.none⟩ = false
theorem CntInv.keep {bn bs k : Nat} {w w' : World} (h : CntInv bn bs k w) (hk : Keeps w w') : CntInv bn bs k w' :=
  ⟨hk.cell _ _ h.1, (hk.frozen _ _ h.1).trans h.2.1, hk.cell _ _ h.2.2.1, (hk.frozen _ _ h.2.2.1).trans h.2.2.2⟩

theorem count_closure (bn k N : Nat) (w : World) (hk : k ≤ 100000) (hI : CntInv bn (bn + 1) k w) (hD : DocErr w N) (hN : N ≠ bn) :
    Calls Ybaf.prog 7 #[.iface 29 (.pointer (some ⟨N, 0, Option.none⟩)), .pointer (some ⟨bn, 0, Option.none⟩), .pointer (some ⟨bn + 1, 0, Option.none⟩)] w fun e w' => e = .returned (.tuple #[]) ∧ w' = w.setCell ⟨bn, 0, Option.none⟩ (.int .i64 ((k : Int) + 1)) := by
  obtain ⟨i1, i2, i3, i4⟩ := hI
  obtain ⟨S, M, st, d1, d2, d3, _, _, _⟩ := hD
  have d1' : (w.setCell ⟨bn, 0, Option.none⟩ (.int .i64 ((k : Int) + 1))).cell? ⟨N, 0, Option.none⟩ = some (.slice (some ⟨S, 0, Option.none⟩) 1 1) := cell_far d1 (.inl (Ne.symm hN))
  have d2' : (w.setCell ⟨bn, 0, Option.none⟩ (.int .i64 ((k : Int) + 1))).cell? ⟨N, 1, Option.none⟩ = some (.iface 76 (.pointer (some ⟨M, 0, Option.none⟩))) := cell_far d2 (.inl (Ne.symm hN))
  have d3' : (w.setCell ⟨bn, 0, Option.none⟩ (.int .i64 ((k : Int) + 1))).cell? ⟨N, 2, Option.none⟩ = some (.bool false) := cell_far d3 (.inl (Ne.symm hN))
  clear d1 d2 d3
  go_enter Ybaf.func7, Ybaf.ntmps7
  go_wp2
  go_end0
  exact ⟨rfl, rfl⟩

theorem off_setCell (w : World) (bn base : Nat) (v : Value) (h : bn < base) : Off bn base w (w.setCell ⟨bn, 0, Option.none⟩ v) :=
  ⟨rfl, rfl, rfl, by simp, fun k _ hk => Below.heap_setCell _ _ _ _ (by simp; omega)⟩

theorem count_report (F : Interp) (bn : Nat) : Report F 7 (fun v => (#[] : Array Value).push v ++ #[.pointer (some ⟨bn, 0, Option.none⟩), .pointer (some ⟨bn + 1, 0, Option.none⟩)]) bn (bn + 2) (CntInv bn (bn + 1)) where
  keep _ _ _ h hk := h.keep hk
  call k N w hI hk hD _ := by
    have hN : N ≠ bn := fun e => by
      obtain ⟨S, M, st, d1, _⟩ := hD
      rw [e, hI.1] at d1
      simp at d1
    refine (count_closure bn k N w hk hI hD hN).mono fun e w' ⟨he, hw⟩ => ?_
    subst hw
    refine ⟨he, ⟨World.cell?_setCell_same _ _ _ hI.1, by rw [World.frozen?_setCell]; exact hI.2.1, cell_far hI.2.2.1 (.inl (by omega)), by rw [World.frozen?_setCell]; exact hI.2.2.2⟩, off_setCell w bn (bn + 2) _ (by omega)⟩

theorem enter_of {f : FuncId} {fn : Func} {c : Code} (hf : Ybaf.prog.funcs[f]? = some fn) (hname : (fn.name == "runtime.NumGoroutine") = false) (hb : fn.body = some c) (args : Array Value) (w : World) :
    (callFunc f args).run Ybaf.prog w = .ok (.enter f args) w := by
  have h1 : fn.name ≠ "runtime.NumGoroutine" := by simpa using hname
  simp [callFunc, hf, h1, hb]

theorem enter7 (args : Array Value) (w : World) : (callFunc 7 args).run Ybaf.prog w = .ok (.enter 7 args) w := enter_of Ybaf.func7 (by kernel_rfl) rfl args w

/-- The sizes that 'check' asks for. -/
theorem cat_sizes {w : World} {a0 : Option Addr} {n : Nat} {ts : List Ty} (hin : IsIn w a0 n ts) (hls : ∀ j, j < ts.length → (tyAt ts j).len ≤ 256) :
    ∀ j, j < (catOf ts).length → (cAt (catOf ts) j).2.length ≤ 256 ∧ (cAt (catOf ts) j).1.size ≤ 65 ∧ ∀ i, (sAt (cAt (catOf ts) j).2 i).size ≤ 65 := fun j hj => by
  rw [catOf_length] at hj
  rw [catOf_at ts j hj]
  have ht := hin.each j (by rw [← hin.len]; exact hj)
  exact ⟨by show (acts (tyAt ts j)).length ≤ 256; rw [acts_length ht.len]; exact hls j hj, nm_size _, fun i => acts_size _ i⟩
theorem cat_count {w : World} {a0 : Option Addr} {n : Nat} {ts : List Ty} (hin : IsIn w a0 n ts) : cntTo (catOf ts) (catOf ts).length = expected ts :=
  cntTo_expected ts fun j hj => (hin.each j (by rw [← hin.len]; exact hj)).len

set_option maxHeartbeats 800000 in
theorem count_any (F : Interp) (a0 : Option Addr) (n cap : Nat) (ts : List Ty) (w : World) (hF : F.told.answers w.tape) (hn : n ≤ 9223372036854775807) (hin : Hid (IsIn w a0 n ts)) :
    Calls Ybaf.prog 3 #[.slice a0 n cap] w fun e w' => e = .returned (.bool true) ∧ Below w.heap.size w w' := by
  go_enter Ybaf.func3, Ybaf.ntmps3
  go_wp2_with fail
  refine (build_any a0 n cap ts w hn hin).mono ?_
  rintro e w1 ⟨hp, hb⟩
  rcases hp with rfl | ⟨pc, rfl, hl, hls, hcat, hpc⟩
  · go_wp2
    go_ret
    exact ⟨rfl, hb⟩
  · have HC : Hid (Cat w1 pc (catOf ts)) := hcat
    have HL : Hid (∀ j, j < ts.length → (tyAt ts j).len ≤ 256) := hls
    clear hcat hls
    go_wp2_with fail
    have hb2 : Below w1.heap.size w1 ((w1.alloc (.cells #[.int .i64 0] 3)).alloc (.cells #[.bool true] 4)) := ((Below.refl _ _).alloc (Nat.le_refl _) _).alloc (by simp) _
    have HE : Hid (cntTo (catOf ts) (catOf ts).length = expected ts) := cat_count hin.out
    refine (check_any F #[] #[.pointer (some ⟨w1.heap.size, 0, Option.none⟩), .pointer (some ⟨w1.heap.size + 1, 0, Option.none⟩)] pc (w1.heap.size + 2) 7 (catOf ts) (CntInv w1.heap.size (w1.heap.size + 1)) w1 _
      (by rw [hb2.tape, hb.tape]; exact hF) (count_report F w1.heap.size) enter7 HC ⟨by simp, by simp, by simp, by simp⟩ (by rw [catOf_length]; exact hl) (cat_sizes hin.out HL.out) hb2 (by omega) (by simp)).mono ?_
    rintro e w3 ⟨rfl, hinv, hb3⟩
    rw [HE.out] at hinv
    obtain ⟨j1, j2, j3, j4⟩ := hinv
    have hb13 : Below w.heap.size w w3 := hb.trans (hb3.mono hb.size)
    clear hb2 hb3 hin HC HL HE j2 j4
    go_wp2
    go_ret
    exact ⟨rfl, hb13⟩
end Go.Proofs.YbulkakkaFmt

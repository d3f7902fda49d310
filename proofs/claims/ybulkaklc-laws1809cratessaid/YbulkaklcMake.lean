/-
  'zzs1809cbuild': the walk.
-/
import Derived.Test.YbulkaklcRow
namespace Go.Proofs.Ybulkaklc
open Go.RowKit
attribute [local go_sem] run_store_float

def partG (L : Nat → Ly) (k : Nat) : Nat → Lay := fun i => if i < k then layOf (L i) else noLay
theorem part_at (L : Nat → Ly) (k : Nat) : partG L k k = noLay := by simp [partG]

theorem row_step {w : World} {b n k : Nat} {L : Nat → Ly} (h : Row w b n (partG L k)) (hk : k < n) (hrs : (L k).rs ≠ 0) :
    Row ((((w.setCell ⟨b, k * 6, none⟩ (.float .f64 (over255 (L k).rate))).setCell ⟨b, k * 6 + 1, none⟩ (.int .i64 (L k).spent)).setCell ⟨b, k * 6 + 2, none⟩ (.float .f64 (over256 (1 + (L k).ref)))).setCell ⟨b, k * 6 + 3, none⟩ (.int .i64 (L k).rs)) b n (partG L (k + 1)) := by
  refine ((((h.setRate hk _).setSpent hk _).setRef hk _).setRs hk _).congr fun i hi => ?_
  by_cases e : i = k
  · subst e
    simp [upd, partG, layOf, hrs]
  · rw [upd_other _ _ e, upd_other _ _ e, upd_other _ _ e, upd_other _ _ e]
    have : i < k ↔ i < k + 1 := by omega
    simp only [partG, this]
theorem row_step0 {w : World} {b n k : Nat} {L : Nat → Ly} (h : Row w b n (partG L k)) (hk : k < n) (hrs : (L k).rs = 0) :
    Row ((w.setCell ⟨b, k * 6, none⟩ (.float .f64 (over255 (L k).rate))).setCell ⟨b, k * 6 + 1, none⟩ (.int .i64 (L k).spent)) b n (partG L (k + 1)) := by
  refine ((h.setRate hk _).setSpent hk _).congr fun i hi => ?_
  by_cases e : i = k
  · subst e
    simp [upd, partG, layOf, noLay, hrs]
  · rw [upd_other _ _ e, upd_other _ _ e]
    have : i < k ↔ i < k + 1 := by omega
    simp only [partG, this]

set_option maxHeartbeats 1600000 in
set_option maxRecDepth 100000 in
theorem make_any (a0 : Option Addr) (n cap : Nat) (L : Nat → Ly) (w : World) (hn : n ≤ 1024) (hin : Hid (IsIn w a0 n L)) :
    Calls Yba.prog 10 #[.slice a0 n cap] w fun e w' => e = .returned (.slice (some ⟨w.heap.size, 0, none⟩) n n) ∧ Row w' w.heap.size n (fun i => layOf (L i)) ∧ Below w.heap.size w w' ∧ w.heap.size < w'.heap.size := by
  obtain ⟨i26, hi26, z26, s26, b26⟩ := info_parts Yba.info26
  go_enter Yba.func10, Yba.ntmps10
  go_wp2_with (at_make; refine wpList_make_full _ rfl _ _ 36 rfl w.heap.size 26 i26 _ 6 Yba.underlying36 hi26 z26 s26 _ _ _ _ n rfl rfl rfl rfl ?b2 ?b3 (Nat.le_refl _) ?_)
  case b2 => rw [b26]; omega
  case b3 => unfold maxLen; omega
  intro w0 hown0 hgrow0
  have R0 : Hid (Row w0 w.heap.size n (partG L 0)) := (row_made hown0).congr fun i _ => by simp [partG]
  have B0 := below_of_grown hgrow0
  have hlt0 := (hown0.lt w.heap.size rfl).2
  clear hown0 hgrow0
  go_wp2
  go_loopw [4] (fun vi wr => ∃ k : Nat, k ≤ n ∧ vi = .int .i64 k ∧ Hid (Row wr w.heap.size n (partG L k)) ∧ Below w.heap.size w wr ∧ w.heap.size < wr.heap.size) (fun vi _ => n - (intOf vi).toNat)
  case atStart => exact ⟨0, Nat.zero_le _, rfl, R0, B0, hlt0⟩
  case round =>
    obtain ⟨k, hk, rfl, HR, hb, hsz⟩ := hrel
    clear R0 B0 hlt0
    by_cases hlt : k < n
    · obtain ⟨b, off, rfl, hbw, hc⟩ := hin.out.cells k hlt
      obtain ⟨g0, g1, g2, g3⟩ := hc k hlt
      obtain ⟨r0, r1, r2, r3, r4, r5, r6, r7⟩ := hin.out.rng k hlt
      obtain ⟨p0, p1, p2, p3, _, _⟩ := HR.out.lay k hlt
      have hbb : w.heap.size ≠ b := by omega
      have c0 : wr.cell? ⟨b, off + k * 4, none⟩ = some (.int .u8 (L k).rate) := (hb.cell (p := ⟨b, off + k * 4, none⟩) hbw).trans g0
      have q1 : ∀ w : World, (binOp .quo 22 (.float .f64 (floatOfInt .f64 (L k).rate)) (.float .f64 4643176031446892544)).run Yba.prog w = .ok (.float .f64 (over255 (L k).rate)) w := fun w => run_float_arith w .quo 22 .f64 _ _ _ (over255_eq _)
      have q2 : ∀ w : World, (binOp .quo 22 (.float .f64 (floatOfInt .f64 (1 + (L k).ref))) (.float .f64 4643211215818981376)).run Yba.prog w = .ok (.float .f64 (over256 (1 + (L k).ref))) w := fun w => run_float_arith w .quo 22 .f64 _ _ _ (over256_eq _)
      have c1 : (wr.setCell ⟨w.heap.size, k * 6, none⟩ (.float .f64 (over255 (L k).rate))).cell? ⟨b, off + k * 4 + 1, none⟩ = some (.int .i64 (L k).spent) := cell_far ((hb.cell (p := ⟨b, off + k * 4 + 1, none⟩) hbw).trans g1) (.inl hbb)
      have p1' : (wr.setCell ⟨w.heap.size, k * 6, none⟩ (.float .f64 (over255 (L k).rate))).cell? ⟨w.heap.size, k * 6 + 1, none⟩ = some (.int .i64 (partG L k k).spent) := cell_far p1 (.inr (by omega))
      have c3 : ((wr.setCell ⟨w.heap.size, k * 6, none⟩ (.float .f64 (over255 (L k).rate))).setCell ⟨w.heap.size, k * 6 + 1, none⟩ (.int .i64 (L k).spent)).cell? ⟨b, off + k * 4 + 3, none⟩ = some (.int .i64 (L k).rs) := cell_far (cell_far ((hb.cell (p := ⟨b, off + k * 4 + 3, none⟩) hbw).trans g3) (.inl hbb)) (.inl hbb)
      have f0 := HR.out.fz (k * 6)
      have f1 := HR.out.fz (k * 6 + 1)
      have f2 := HR.out.fz (k * 6 + 2)
      have f3 := HR.out.fz (k * 6 + 3)
      by_cases hrs : (L k).rs = 0
      · have HS := (show Hid _ from row_step0 HR.out hlt hrs)
        have hz : ((L k).rs != 0) = false := by simp [hrs]
        clear hc g0 g1 g2 g3 HR p1 p2 p3 hrs
        go_wp2
        go_roundw
        case rel => exact ⟨k + 1, by omega, by go_num, HS, (hb.setCell (Nat.le_refl _) _).setCell (Nat.le_refl _) _, by simpa using hsz⟩
        case measure => simp [intOf]; omega
      · have HS := (show Hid _ from row_step HR.out hlt hrs)
        have hz : ((L k).rs != 0) = true := by simpa using hrs
        have c2 : ((wr.setCell ⟨w.heap.size, k * 6, none⟩ (.float .f64 (over255 (L k).rate))).setCell ⟨w.heap.size, k * 6 + 1, none⟩ (.int .i64 (L k).spent)).cell? ⟨b, off + k * 4 + 2, none⟩ = some (.int .u8 (L k).ref) := cell_far (cell_far ((hb.cell (p := ⟨b, off + k * 4 + 2, none⟩) hbw).trans g2) (.inl hbb)) (.inl hbb)
        have p2' : ((wr.setCell ⟨w.heap.size, k * 6, none⟩ (.float .f64 (over255 (L k).rate))).setCell ⟨w.heap.size, k * 6 + 1, none⟩ (.int .i64 (L k).spent)).cell? ⟨w.heap.size, k * 6 + 2, none⟩ = some (.float .f64 (partG L k k).ref) := cell_far (cell_far p2 (.inr (by omega))) (.inr (by omega))
        have c3' : (((wr.setCell ⟨w.heap.size, k * 6, none⟩ (.float .f64 (over255 (L k).rate))).setCell ⟨w.heap.size, k * 6 + 1, none⟩ (.int .i64 (L k).spent)).setCell ⟨w.heap.size, k * 6 + 2, none⟩ (.float .f64 (over256 (1 + (L k).ref)))).cell? ⟨b, off + k * 4 + 3, none⟩ = some (.int .i64 (L k).rs) := cell_far c3 (.inl hbb)
        have p3' : (((wr.setCell ⟨w.heap.size, k * 6, none⟩ (.float .f64 (over255 (L k).rate))).setCell ⟨w.heap.size, k * 6 + 1, none⟩ (.int .i64 (L k).spent)).setCell ⟨w.heap.size, k * 6 + 2, none⟩ (.float .f64 (over256 (1 + (L k).ref)))).cell? ⟨w.heap.size, k * 6 + 3, none⟩ = some (.int .i64 (partG L k k).rs) := cell_far (cell_far (cell_far p3 (.inr (by omega))) (.inr (by omega))) (.inr (by omega))
        clear hc g0 g1 g2 g3 HR p1 p2 p3 hrs
        go_wp2
        go_roundw
        case rel => exact ⟨k + 1, by omega, by go_num, HS, (((hb.setCell (Nat.le_refl _) _).setCell (Nat.le_refl _) _).setCell (Nat.le_refl _) _).setCell (Nat.le_refl _) _, by simpa using hsz⟩
        case measure => simp [intOf]; omega
    · obtain rfl : k = n := by omega
      go_wp2
      go_ret
      exact ⟨rfl, HR.out.congr fun i hi => by simp [partG, hi], hb, hsz⟩
end Go.Proofs.Ybulkaklc

/-
  'LawS1834BSettles': the walk.
-/
import Derived.Test.YbulkakyoLoop
import Derived.OpenShut
namespace Go.Proofs.Ybulkakyo
open Go.RowKit Go.Conc

theorem ret_bool' {a b : Bool} (h : a = b) : Ending.returned (.bool a) = .returned (.bool b) := by rw [h]
theorem st_new (w : World) (waits ts : Int) : St ((w.alloc (.cells #[.int .i64 waits, .slice none 0 0] 26)).alloc (.cells (dbArr w.heap.size 0 0 0) 75)) w.heap.size waits (.slice none 0 0) 0 ts 0 0 0 where
  p := by
    rw [heap_alloc_old _ _ (by simp)]
    exact heap_alloc_new w _
  db := by
    have := heap_alloc_new (w.alloc (.cells #[.int .i64 waits, .slice none 0 0] 26)) (.cells (dbArr w.heap.size 0 0 0) 75)
    simpa using this
  own := World.ownsRow_nil _ _ _ _
  size := by simp
theorem below_new (w : World) (waits : Int) : Below w.heap.size w ((w.alloc (.cells #[.int .i64 waits, .slice none 0 0] 26)).alloc (.cells (dbArr w.heap.size 0 0 0) 75)) :=
  ((Below.refl _ _).alloc (Nat.le_refl _) _).alloc (by simp) _

set_option maxRecDepth 100000 in
set_option maxHeartbeats 1600000 in
theorem law_old (s0 ts a2 waits : Int) (w : World) (h9 : a2.tmod 9 = waits) (hw0 : 0 ≤ waits) (hw8 : waits ≤ 8) (hle : ts ≤ s0) :
    Calls Yba.prog 3 #[.int .u64 s0, .int .u64 ts, .int .u8 a2] w fun e w' => e = .returned (.bool true) ∧ Below w.heap.size w w' := by
  have H0 : Hid (St _ w.heap.size waits (.slice none 0 0) 0 ts 0 0 0) := st_new w waits ts
  have B0 := below_new w waits
  simp only [dbArr] at H0 B0
  go_enter Yba.func3, Yba.ntmps3
  go_wp2_with fail
  generalize hW : (w.alloc (.cells #[.int .i64 waits, .slice none 0 0] 26)).alloc _ = W0 at *
  clear hW
  refine (store_any _ s0 _ _ H0.out.c19 (H0.out.fd 19)).mono ?_
  rintro e w1 ⟨rfl, hw⟩
  have H1 : Hid (St w1 w.heap.size waits (.slice none 0 0) 0 ts 0 0 s0) := by rw [hw]; exact H0.out.settled s0
  have B1 : Below w.heap.size w w1 := by rw [hw]; exact B0.setCell (by show w.heap.size ≤ w.heap.size + 1; omega) _
  clear hw H0 B0
  go_wp2_with fail
  refine (lock_st _ 0 waits ts s0 _ _ H1.out).mono ?_
  rintro e w2 ⟨rfl, hw⟩
  have H2 : Hid (St w2 w.heap.size waits (.slice none 0 0) 0 ts 1 (-1073741824) s0) := by rw [hw]; exact H1.out.locked
  have B2 : Below w.heap.size w w2 := by rw [hw]; exact below_two B1 (by omega) _ _
  clear hw H1 B1
  go_wp2_with fail
  refine (settle_old _ 0 waits ts ts 1 (-1073741824) s0 _ _ H2.out hle).mono ?_
  rintro e w3 ⟨rfl, hw⟩
  have H3 : Hid (St w3 w.heap.size waits (.slice none 0 0) 0 ts 1 (-1073741824) s0) := by rw [hw]; exact H2.out
  have B3 : Below w.heap.size w w3 := by rw [hw]; exact B2
  clear hw H2 B2
  go_wp2_with fail
  refine (trylock_held _ _ H3.out.c8).mono ?_
  rintro e w4 ⟨rfl, hw⟩
  rw [hw]
  clear hw w4
  go_wp2_with fail
  refine (unlock_st _ _ waits ts _ _ _ H3.out).mono ?_
  rintro e w5 ⟨rfl, hw⟩
  have H5 : Hid (St w5 w.heap.size waits (.slice none 0 0) 0 ts 0 0 s0) := by rw [hw]; exact H3.out.unlocked
  have B5 : Below w.heap.size w w5 := by rw [hw]; exact below_two B3 (by omega) _ _
  have cl := H5.out.cl
  have cw := H5.out.cw
  have c19 := H5.out.c19
  clear hw H3 B3 H5
  go_wp2_with (go_at_call 10; refine (load_any _ _ _ c19).mono ?_; rintro e w6 ⟨rfl, hw⟩; rw [hw]; clear hw)
  go_ret
  exact ⟨rfl, B5⟩

set_option maxRecDepth 100000 in
set_option maxHeartbeats 1600000 in
theorem law_new (s0 ts a2 waits : Int) (w : World) (h9 : a2.tmod 9 = waits) (hw0 : 0 ≤ waits) (hw8 : waits ≤ 8) (hlt : s0 < ts) :
    Calls Yba.prog 3 #[.int .u64 s0, .int .u64 ts, .int .u8 a2] w fun e w' => e = .returned (.bool true) ∧ Below w.heap.size w w' := by
  have H0 : Hid (St _ w.heap.size waits (.slice none 0 0) 0 ts 0 0 0) := st_new w waits ts
  have B0 := below_new w waits
  simp only [dbArr] at H0 B0
  go_enter Yba.func3, Yba.ntmps3
  go_wp2_with fail
  generalize hW : (w.alloc (.cells #[.int .i64 waits, .slice none 0 0] 26)).alloc _ = W0 at *
  clear hW
  refine (store_any _ s0 _ _ H0.out.c19 (H0.out.fd 19)).mono ?_
  rintro e w1 ⟨rfl, hw⟩
  have H1 : Hid (St w1 w.heap.size waits (.slice none 0 0) 0 ts 0 0 s0) := by rw [hw]; exact H0.out.settled s0
  have B1 : Below w.heap.size w w1 := by rw [hw]; exact B0.setCell (by show w.heap.size ≤ w.heap.size + 1; omega) _
  clear hw H0 B0
  go_wp2_with fail
  refine (lock_st _ 0 waits ts s0 _ _ H1.out).mono ?_
  rintro e w2 ⟨rfl, hw⟩
  have H2 : Hid (St w2 w.heap.size waits (.slice none 0 0) 0 ts 1 (-1073741824) s0) := by rw [hw]; exact H1.out.locked
  have B2 : Below w.heap.size w w2 := by rw [hw]; exact below_two B1 (by omega) _ _
  clear hw H1 B1
  go_wp2_with fail
  refine (settle_new _ waits ts s0 _ _ H2.out hlt hw0 hw8).mono ?_
  rintro e w3 ⟨rfl, k, v, hkw, hk, hq, hb⟩
  have H3 : Hid (St w3 w.heap.size waits v k ts 1 (-1073741824) ts) := hq
  have B3 : Below w.heap.size w w3 := B2.trans hb
  clear hq hb H2 B2
  go_wp2_with fail
  refine (trylock_held _ _ H3.out.c8).mono ?_
  rintro e w4 ⟨rfl, hw⟩
  rw [hw]
  clear hw w4
  go_wp2_with fail
  refine (unlock_st _ _ waits ts _ _ _ H3.out).mono ?_
  rintro e w5 ⟨rfl, hw⟩
  have H5 : Hid (St w5 w.heap.size waits v k ts 0 0 ts) := by rw [hw]; exact H3.out.unlocked
  have B5 : Below w.heap.size w w5 := by rw [hw]; exact below_two B3 (by omega) _ _
  clear hw H3 B3
  obtain ⟨g, cap, rfl, hgb, hkc⟩ := own_some H5.out.own (by
    intro e
    have h := H5.out.own.2
    rw [e] at h
    rcases h with ⟨_, h⟩ | ⟨_, _, _, h, _⟩
    · omega
    · cases h)
  have HC : Hid (∀ j : Nat, j < k → w5.cell? ((⟨g, 0, none⟩ : Addr).add j) = some (.int .u64 ts)) := fun j hj => H5.out.own.cells rfl j _ (by simp [hj])
  have cl := H5.out.cl
  have cw := H5.out.cw
  have c19 := H5.out.c19
  clear H5
  have hnle : ¬ ts ≤ s0 := by omega
  go_wp2_with fail
  have hne : ((k : Int) != waits + 1) = false := by simp [hkw]
  go_quiet (fail)
  go_wp2_with fail
  go_loop [77] (fun vi => ∃ j : Nat, j ≤ k ∧ vi = .int .i64 j) (fun vi => k - (intOf vi).toNat)
  case atStart => exact ⟨0, Nat.zero_le _, rfl⟩
  case round =>
    obtain ⟨j, hj, rfl⟩ := hrel
    by_cases hjk : j < k
    · have cj : w5.cell? ⟨g, j, none⟩ = some (.int .u64 ts) := by
        have := HC.out j hjk
        have hadd : (⟨g, 0, none⟩ : Addr).add j = ⟨g, j, none⟩ := by unfold Addr.add; split <;> simp_all
        rwa [hadd] at this
      have hnn : (ts != ts) = false := by simp
      go_wp2
      go_round
      case rel => exact ⟨j + 1, by omega, by go_num⟩
      case measure => simp [intOf]; omega
    · go_wp2_with (go_at_call 10; refine (load_any _ _ _ (by simpa using c19)).mono ?_; rintro e w6 ⟨rfl, hw⟩; rw [hw]; clear hw)
      go_ret
      exact ⟨ret_bool' (by simp), below_drewN' B5 _⟩

theorem law_walk (s0 ts a2 : Int) (w2 : (Lit.int .u8 a2).wf = true) (w : World) :
    Calls Yba.prog 3 #[.int .u64 s0, .int .u64 ts, .int .u8 a2] w fun e w' => e = .returned (.bool true) ∧ Below w.heap.size w w' := by
  have b := bounds_u8 w2
  have h0 := Int.tmod_nonneg 9 b.1
  have h1 := Int.tmod_lt_of_pos a2 (show (0 : Int) < 9 by omega)
  by_cases h : ts ≤ s0
  · exact law_old s0 ts a2 _ w rfl h0 (by omega) h
  · exact law_new s0 ts a2 _ w rfl h0 (by omega) (by omega)
end Go.Proofs.Ybulkakyo

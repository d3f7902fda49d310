/-
  '(*firstDefect).add', '(*Catalogue).validate', 'LawS1807CValidate': the walks.
-/
import Derived.Test.YbulkakkaFmtCount
import Derived.Test.YbulkakkaFmtDocErr
namespace Go.Proofs.YbulkakkaFmt
open Go.RowKit Go.Kit Go.Maps Go.Extern.Stop Go.Stop Go.Extern
theorem Ybaf.act29_119w (name : String) (x : Value) (w : World) : (FmtCalls.act name true 119 false (.iface 29 x)).run Ybaf.prog w = .ok (.call true) w := by kernel_rfl
theorem Ybaf.invokeError29 (x : Value) (w : World) : (invoke (.fn (.method "Error") #[]) #[.iface 29 x]).run Ybaf.prog w = .ok (.enter 51 #[x]) w := by kernel_rfl
theorem Ybaf.str29 : ∃ s : String, ∀ w, (typeStr 29).run Ybaf.prog w = .ok s w := ⟨String.singleton (Char.ofNat 42) ++ "picoaccess.documentError", fun w => by kernel_rfl⟩
attribute [local go_sem] Ybaf.isIface28 Ybaf.call20 Ybaf.guard Ybaf.fmt6 Ybaf.fmt6r Ybaf.act29_119w Ybaf.ptr63 Ybaf.elem63 Ybaf.isError29

theorem DocErr.keep {w w' : World} {N : Nat} (h : DocErr w N) (hk : Keeps w w') : DocErr w' N := by
  obtain ⟨S, M, st, d0, d1, d2, dS, hst, t, dM, ht⟩ := h
  exact ⟨S, M, st, hk.cell _ _ d0, hk.cell _ _ d1, hk.cell _ _ d2, hk.cell _ _ dS, hst, t, hk.cell _ _ dM, ht⟩

/-- What the keeper of the first defect holds behind k reports. -/
def FirstInv (db k : Nat) (w : World) : Prop :=
  w.frozen? ⟨db, 0, Option.none⟩ = false ∧ ((k = 0 ∧ w.cell? ⟨db, 0, Option.none⟩ = some .nilIface) ∨ (0 < k ∧ ∃ N, w.cell? ⟨db, 0, Option.none⟩ = some (.iface 29 (.pointer (some ⟨N, 0, Option.none⟩))) ∧ DocErr w N))
theorem FirstInv.keep {db k : Nat} {w w' : World} (h : FirstInv db k w) (hk : Keeps w w') : FirstInv db k w' := by
  obtain ⟨hf, h⟩ := h
  rcases h with ⟨h0, hc⟩ | ⟨h0, N, hc, hD⟩
  · exact ⟨(hk.frozen _ _ hc).trans hf, .inl ⟨h0, hk.cell _ _ hc⟩⟩
  · exact ⟨(hk.frozen _ _ hc).trans hf, .inr ⟨h0, N, hk.cell _ _ hc, hD.keep hk⟩⟩

theorem add_first (db : Nat) (v : Value) (w : World) (hf : w.frozen? ⟨db, 0, Option.none⟩ = false) (hc : w.cell? ⟨db, 0, Option.none⟩ = some .nilIface) (N : Nat) (hv : v = .iface 29 (.pointer (some ⟨N, 0, Option.none⟩))) :
    Calls Ybaf.prog 14 #[.pointer (some ⟨db, 0, Option.none⟩), v] w fun e w' => e = .returned (.tuple #[]) ∧ w' = w.setCell ⟨db, 0, Option.none⟩ v := by
  subst hv
  go_enter Ybaf.func14, Ybaf.ntmps14
  go_wp2
  go_end0
  exact ⟨rfl, rfl⟩
theorem add_later (db : Nat) (v : Value) (w : World) (x : Value) (hc : w.cell? ⟨db, 0, Option.none⟩ = some (.iface 29 x)) :
    Calls Ybaf.prog 14 #[.pointer (some ⟨db, 0, Option.none⟩), v] w fun e w' => e = .returned (.tuple #[]) ∧ w' = w := by
  go_enter Ybaf.func14, Ybaf.ntmps14
  go_wp2
  go_end0
  exact ⟨rfl, rfl⟩

theorem off_refl (cb base : Nat) (w : World) : Off cb base w w := ⟨rfl, rfl, rfl, Nat.le_refl _, fun _ _ _ => rfl⟩
theorem first_report (F : Interp) (db : Nat) : Report F 14 (fun v => (#[.pointer (some ⟨db, 0, Option.none⟩)] : Array Value).push v ++ #[]) db (db + 1) (FirstInv db) where
  keep _ _ _ h hk := h.keep hk
  call k N w hI _ hD _ := by
    obtain ⟨hf, h⟩ := hI
    rcases h with ⟨rfl, hc⟩ | ⟨h0, N', hc, hD'⟩
    · refine (add_first db _ w hf hc N rfl).mono fun e w' ⟨he, hw⟩ => ?_
      subst hw
      obtain ⟨S, M, st, d0, d1, d2, dS, hst, t, dM, ht⟩ := hD
      have keepc : ∀ {g o : Nat} {u : Value}, w.cell? ⟨g, o, Option.none⟩ = some u → u ≠ .nilIface → (w.setCell ⟨db, 0, Option.none⟩ (.iface 29 (.pointer (some ⟨N, 0, Option.none⟩)))).cell? ⟨g, o, Option.none⟩ = some u := fun {g o u} hu hne =>
        cell_far hu (by
          by_cases e1 : db = g
          · by_cases e2 : 0 = o
            · subst e1; subst e2; rw [hc] at hu; exact absurd (by simpa using hu.symm) hne
            · exact .inr e2
          · exact .inl e1)
      exact ⟨he, ⟨by rw [World.frozen?_setCell]; exact hf, .inr ⟨Nat.succ_pos _, N, World.cell?_setCell_same _ _ _ hc,
        S, M, st, keepc d0 (by simp), keepc d1 (by simp), keepc d2 (by simp), keepc dS (by simp), hst, t, keepc dM (by simp), ht⟩⟩, off_setCell w db (db + 1) _ (by omega)⟩
    · refine (add_later db _ w _ hc).mono fun e w' ⟨he, hw⟩ => ?_
      subst hw
      exact ⟨he, ⟨hf, .inr ⟨Nat.succ_pos _, N', hc, hD'⟩⟩, off_refl _ _ _⟩
theorem enter14 (args : Array Value) (w : World) : (callFunc 14 args).run Ybaf.prog w = .ok (.enter 14 args) w := enter_of Ybaf.func14 (by kernel_rfl) rfl args w

set_option maxHeartbeats 1600000 in
theorem validate_any (F : Interp) (pc : Nat) (cs : List (ByteArray × List ByteArray)) (w : World) (hF : F.told.answers w.tape) (hcat : Hid (Cat w pc cs)) (hn : cs.length ≤ 256)
    (hl : Hid (∀ j, j < cs.length → (cAt cs j).2.length ≤ 256 ∧ (cAt cs j).1.size ≤ 65 ∧ ∀ i, (sAt (cAt cs j).2 i).size ≤ 65)) :
    Calls Ybaf.prog 8 #[.pointer (some ⟨pc, 0, Option.none⟩)] w fun e w' => ∃ ev, e = .returned ev ∧ ((cntTo cs cs.length = 0 ∧ ev = .nilIface) ∨ (0 < cntTo cs cs.length ∧ ∃ x, ev = .iface 63 x)) ∧ Below w.heap.size w w' := by
  obtain ⟨s29, hs29⟩ := Ybaf.str29
  go_enter Ybaf.func8, Ybaf.ntmps8
  go_wp2_with fail
  have hb2 : Below w.heap.size w (w.alloc (.cells #[.nilIface] 55)) := (Below.refl _ _).alloc (Nat.le_refl _) _
  refine (check_any F #[.pointer (some ⟨w.heap.size, 0, Option.none⟩)] #[] pc (w.heap.size + 1) 14 cs (FirstInv w.heap.size) w _ (by rw [hb2.tape]; exact hF) (first_report F w.heap.size) enter14 hcat ⟨by simp, .inl ⟨rfl, by simp⟩⟩ hn hl hb2 (by omega) (by simp)).mono ?_
  rintro e w3 ⟨rfl, ⟨hf, hinv⟩, hb3⟩
  clear hb2
  rcases hinv with ⟨h0, hc⟩ | ⟨h0, N, hc, hD⟩
  · have H0 : Hid (cntTo cs cs.length = 0) := h0
    clear h0
    go_wp2
    go_ret
    exact ⟨_, rfl, .inl ⟨H0.out, rfl⟩, hb3⟩
  · have hF3 : F.told.answers w3.tape := by rw [hb3.tape]; exact hF
    have hF3' := answers_open hF3
    have HD : Hid (DocErr w3 N) := hD
    clear hD
    go_wp2
    apply rows_call Ybaf.nextTurns
    case hr =>
      go_simp
      exact ⟨⟨rfl, rfl, rfl⟩, rfl⟩
    case hi => exact Ybaf.invokeError29 _ _
    case hc =>
      have hb5 : Below w3.heap.size w3 (w3.alloc (.cells #[.iface 29 (.pointer (some ⟨N, 0, Option.none⟩))] 20)) := (Below.refl _ _).alloc (Nat.le_refl _) _
      refine (docerr_any N _ (HD.out.keep (Keeps.of_below hb5))).mono fun e w4 ⟨t, he, ht, hb4⟩ => ?_
      subst he
      have hF4 : F.told.answers w4.tape := by rw [hb4.tape]; exact hF3
      have hF4' := answers_open hF4
      have hc4 : w4.cell? ⟨w3.heap.size, 0, Option.none⟩ = some (.iface 29 (.pointer (some ⟨N, 0, Option.none⟩))) := (hb4.cell (p := ⟨w3.heap.size, 0, Option.none⟩) (by simp)).trans (by simp)
      have hnx4 : Below w.heap.size w w4 := (hb3.trans (hb5.mono hb3.size)).trans (hb4.mono (by simp; have := hb3.size; omega))
      have H0 : Hid (0 < cntTo cs cs.length) := h0
      have hsz4 := hnx4.size
      clear hF3' hF3 hb3 hb4 hb5 hc h0 hf
      apply rows_value Ybaf.nextReturned
      case hr =>
        go_simp
        exact ⟨rfl, rfl⟩
      case h =>
        go_wp2
        go_ret
        exact ⟨_, rfl, .inr ⟨H0.out, _, rfl⟩, (hnx4.alloc hsz4 _).drew⟩

set_option maxHeartbeats 800000 in
theorem lawvalidate_any (F : Interp) (a0 : Option Addr) (n cap : Nat) (ts : List Ty) (w : World) (hF : F.told.answers w.tape) (hn : n ≤ 9223372036854775807) (hin : Hid (IsIn w a0 n ts)) :
    Calls Ybaf.prog 4 #[.slice a0 n cap] w fun e w' => e = .returned (.bool true) ∧ Below w.heap.size w w' := by
  go_enter Ybaf.func4, Ybaf.ntmps4
  go_wp2_with fail
  refine (build_any a0 n cap ts w hn hin).mono ?_
  rintro e w1 ⟨hp, hb⟩
  rcases hp with rfl | ⟨pc, rfl, hl, hls, hcat, hpc⟩
  · go_wp2
    go_ret
    exact ⟨rfl, hb⟩
  · have HC : Hid (Cat w1 pc (catOf ts)) := hcat
    have HL : Hid (∀ j, j < ts.length → (tyAt ts j).len ≤ 256) := hls
    clear hcat hls
    have HE : Hid (cntTo (catOf ts) (catOf ts).length = expected ts) := cat_count hin.out
    go_wp2_with fail
    refine (validate_any F pc (catOf ts) w1 (by rw [hb.tape]; exact hF) HC (by rw [catOf_length]; exact hl) (cat_sizes hin.out HL.out)).mono ?_
    rintro e w3 ⟨ev, rfl, hev, hb3⟩
    have hb13 : Below w.heap.size w w3 := hb.trans (hb3.mono hb.size)
    rw [HE.out] at hev
    clear hb3 hin HC HL HE
    rcases hev with ⟨h0, rfl⟩ | ⟨h0, x, rfl⟩
    · have e0 : ((expected ts : Int) == 0) = true := beq_iff_eq.2 (by omega)
      clear h0
      go_wp2
      go_ret
      exact ⟨rfl, hb13⟩
    · have e0 : ((expected ts : Int) == 0) = false := beq_eq_false_iff_ne.2 (by omega)
      go_wp2
      go_ret
      exact ⟨rfl, hb13⟩
end Go.Proofs.YbulkakkaFmt

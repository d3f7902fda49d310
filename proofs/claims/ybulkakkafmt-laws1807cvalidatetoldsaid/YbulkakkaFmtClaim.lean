/-
  'claimName' and 'within': the walks.
-/
import Derived.Test.YbulkakkaFmtTexts
import Derived.Test.YbulkakkaFmtIn
import Derived.Maps.OwnSet
namespace Go.Proofs.YbulkakkaFmt
open Go.RowKit Go.Kit Go.Maps Go.Extern.Stop Go.Stop Go.Extern
attribute [local go_sem] Ybaf.call20 Ybaf.guard Ybaf.fmt4 Ybaf.fmt4r Ybaf.fmt5 Ybaf.fmt5r Ybaf.act9_115w Ybaf.op9_115w Ybaf.act3_100w Ybaf.op3_100w Ybaf.ptr76 Ybaf.elem76 Ybaf.isIface28

theorem law9 : Keyed Ybaf.prog 9 := string_keyed Ybaf.underlying9
theorem zero3 (w : World) : (zeroValue 3).run Ybaf.prog w = .ok (.int .i64 0) w := by kernel_rfl
/-- Block B is a map of at most n places that reads as D. -/
def MapAt (w : World) (B n : Nat) (D : DataW Unit) : Prop := w.ownsMap Ybaf.prog 9 (plainElem Ybaf.prog 3) B n D
/-- An error of errors.New's make, at block N: its text is not long. -/
def PlainErr (w : World) (N : Nat) : Prop := ∃ t : ByteArray, w.cell? ⟨N, 0, Option.none⟩ = some (.string t) ∧ t.size ≤ 1000

set_option maxHeartbeats 800000 in
theorem claim_bad (F : Interp) (s p : ByteArray) (i : Int) (m : Value) (w : World) (hF : F.told.answers w.tape) (hs : s.size ≤ 65) (hn : isNm s = false) :
    Calls Ybaf.prog 11 #[.string s, .int .i64 i, .string p, m] w fun e w' => ∃ N, e = .returned (.iface 76 (.pointer (some ⟨N, 0, Option.none⟩))) ∧ PlainErr w' N ∧ w.heap.size ≤ N ∧ Below w.heap.size w w' := by
  go_enter Ybaf.func11, Ybaf.ntmps11
  go_wp2_with fail
  refine (isName_any s (by unfold maxLen; omega) _).mono ?_
  rintro e w1 ⟨rfl, hb1⟩
  rw [hn]
  go_wp2_with fail
  refine (quote_any F s w1 (by rw [hb1.tape]; exact hF) hs).mono ?_
  rintro e w2 ⟨t, rfl, ht, hb2⟩
  have hF2 : F.told.answers w2.tape := by rw [hb2.tape, hb1.tape]; exact hF
  have hF' := answers_open hF2
  have HT : Hid ((FmtStop.textOf (F.told "fmt.errorf" (rdNot t.data.toList) 0)).size ≤ 1000) := size_not F _ ht
  have hsz1 := hb1.size
  have hsz2 := hb2.size
  have hnx : Below w.heap.size w w2 := hb1.trans (hb2.mono hsz1)
  clear hb1 hb2
  go_wp2
  apply rows_value Ybaf.nextTurns
  case hr =>
    go_simp
    exact ⟨rfl, rfl⟩
  case h =>
    go_wp2
    go_ret
    refine ⟨w2.heap.size + 1, rfl, ⟨_, ?_, HT.out⟩, by omega, ((hnx.alloc (by omega) _).alloc (by simp; omega) _).drew⟩
    go_simp
    rfl

theorem MapAt.below {w w' : World} {B n : Nat} {D : DataW Unit} (h : MapAt w B n D) (hb : Below w.heap.size w w') : MapAt w' B n D :=
  World.ownsMap.kept h ⟨hb.os, hb.tape, hb.output, hb.size, fun k hk _ => hb.block k hk⟩ (row := Option.none) (by simp)

set_option maxHeartbeats 800000 in
theorem claim_taken (F : Interp) (s p : ByteArray) (i : Int) (B n : Nat) (D : DataW Unit) (w : World) (hF : F.told.answers w.tape) (hs : s.size ≤ 65) (hp : p.size ≤ 100) (hn : isNm s = true) (hM : MapAt w B n D) (hD : Maps.has D (.string s.data.toList) = true) :
    Calls Ybaf.prog 11 #[.string s, .int .i64 i, .string p, .map (some B)] w fun e w' => ∃ N, e = .returned (.iface 76 (.pointer (some ⟨N, 0, Option.none⟩))) ∧ PlainErr w' N ∧ w.heap.size ≤ N ∧ Below w.heap.size w w' := by
  have hkey : keyOf Ybaf.prog 9 (.string s) = some (.string s.data.toList) := WideMaps.keyOf_string_mk Ybaf.underlying9 (by unfold maxLen; omega)
  have HK : Hid (keyOf Ybaf.prog 9 (.string s) = some (.string s.data.toList)) := hkey
  clear hkey
  go_enter Ybaf.func11, Ybaf.ntmps11
  go_wp2_with fail
  refine (isName_any s (by unfold maxLen; omega) _).mono ?_
  rintro e w1 ⟨rfl, hb1⟩
  rw [hn]
  have hM1 : Hid (MapAt w1 B n D) := hM.below hb1
  go_wp2_with (at_lookup; refine wpList_lookup_own_ok_int _ rfl _ _ 50 rfl 9 3 .i64 law9 Ybaf.underlying50 Ybaf.underlying3 (zero3 _) B n D rfl hM1.out _ _ rfl HK.out ?_; intro c hat hwc; rw [hD])
  refine (quote_any F s w1 (by rw [hb1.tape]; exact hF) hs).mono ?_
  rintro e w2 ⟨t, rfl, ht, hb2⟩
  have hF2 : F.told.answers w2.tape := by rw [hb2.tape, hb1.tape]; exact hF
  have hF' := answers_open hF2
  have HT : Hid ((FmtStop.textOf (F.told "fmt.errorf" (rdTaken t.data.toList p.data.toList c) 0)).size ≤ 1000) := size_taken F _ _ _ ht hp hwc
  have hsz1 := hb1.size
  have hsz2 := hb2.size
  have hnx : Below w.heap.size w w2 := hb1.trans (hb2.mono hsz1)
  clear hb1 hb2 hat hM
  go_wp2
  apply rows_value Ybaf.nextTurns
  case hr =>
    go_simp
    exact ⟨rfl, rfl⟩
  case h =>
    go_wp2
    go_ret
    refine ⟨w2.heap.size + 1, rfl, ⟨_, ?_, HT.out⟩, by omega, ((hnx.alloc (by omega) _).alloc (by simp; omega) _).drew⟩
    go_simp
    rfl

set_option maxHeartbeats 800000 in
theorem claim_ok (s p : ByteArray) (i : Int) (B n : Nat) (D : DataW Unit) (w : World) (hs : s.size ≤ 65) (hi : (Lit.int .i64 i).wf = true) (hnn : n < maxLen) (hn : isNm s = true) (hM : MapAt w B n D) (hD : Maps.has D (.string s.data.toList) = false) :
    Calls Ybaf.prog 11 #[.string s, .int .i64 i, .string p, .map (some B)] w fun e w' => e = .returned .nilIface ∧ MapAt w' B (n + 1) (D.put (.string s.data.toList) (.lit (.int .i64 i))) ∧ w.grownBy w' (some B) := by
  have hkey : keyOf Ybaf.prog 9 (.string s) = some (.string s.data.toList) := WideMaps.keyOf_string_mk Ybaf.underlying9 (by unfold maxLen; omega)
  have HK : Hid (keyOf Ybaf.prog 9 (.string s) = some (.string s.data.toList)) := hkey
  clear hkey
  go_enter Ybaf.func11, Ybaf.ntmps11
  go_wp2_with fail
  refine (isName_any s (by unfold maxLen; omega) _).mono ?_
  rintro e w1 ⟨rfl, hb1⟩
  rw [hn]
  have hM1 : Hid (MapAt w1 B n D) := hM.below hb1
  go_wp2_with (first
    | (at_lookup; refine wpList_lookup_own_ok_int _ rfl _ _ 50 rfl 9 3 .i64 law9 Ybaf.underlying50 Ybaf.underlying3 (zero3 _) B n D rfl hM1.out _ _ rfl HK.out ?_; intro c hat hwc; rw [hD]; clear hat hwc)
    | (at_mapUpdate; refine wpList_mapUpdate_own _ rfl _ _ _ 50 rfl 9 3 law9 Ybaf.underlying50 _ B n _ rfl hM1.out hnn _ _ _ rfl rfl HK.out _ [] (plainElem_int Ybaf.underlying3 hi) ?_; intro w2 hown2 hgrow2))
  go_ret
  exact ⟨rfl, hown2, ⟨hgrow2.os.trans hb1.os, hgrow2.tape.trans hb1.tape, hgrow2.output.trans hb1.output, Nat.le_trans hb1.size hgrow2.size, fun k hk hne => (hgrow2.block k (Nat.lt_of_lt_of_le hk hb1.size) hne).trans (hb1.block k hk)⟩⟩
end Go.Proofs.YbulkakkaFmt

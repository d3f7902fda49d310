/-
  '(*Catalogue).check': the walk, whatever the report function keeps.
-/
import Derived.Test.YbulkakkaFmtSeen
import Derived.Deep.DeepCutAuto
import Derived.Deep.LoopGhost
namespace Go.Proofs.YbulkakkaFmt
open Go.RowKit Go.Kit Go.Maps Go.Extern.Stop Go.Stop Go.Extern
attribute [local go_sem] Ybaf.call13 Ybaf.guard Ybaf.fmt1 Ybaf.fmt1r Ybaf.fmt2 Ybaf.fmt2r Ybaf.fmt3 Ybaf.fmt3r Ybaf.op9_115 Ybaf.op3_100 Ybaf.isIface28

theorem make50 (n : Int) (w : World) : (Instr.makeMap 50 (some (.int .i64 n))).run Ybaf.prog w = .ok (.map (some w.heap.size)) (w.alloc (.map #[] 0)) := by kernel_rfl
attribute [local go_sem] make50

/-- Every cell that was there reads as it did, and may be written as it might. -/
structure Keeps (w w' : World) : Prop where
  tape : w'.tape = w.tape
  size : w.heap.size ≤ w'.heap.size
  cell : ∀ a v, w.cell? a = some v → w'.cell? a = some v
  frozen : ∀ a v, w.cell? a = some v → w'.frozen? a = w.frozen? a
theorem Keeps.of_below {w w' : World} (h : Below w.heap.size w w') : Keeps w w' :=
  ⟨h.tape, h.size, fun a _ hv => (h.cell (World.block_lt_of_cell? w a hv)).trans hv, fun a _ hv => h.frozen (World.block_lt_of_cell? w a hv)⟩
theorem Keeps.of_map {w w' : World} {B n : Nat} {D : DataW Unit} (hM : MapAt w B n D) (h : w.grownBy w' (some B)) : Keeps w w' := by
  have hne : ∀ a v, w.cell? a = some v → a.block ≠ B := fun a v hv e => by
    obtain ⟨es, clock, hb, _⟩ := hM
    subst e
    simp [World.cell?, hb] at hv
  exact ⟨h.tape, h.size, fun a v hv => (World.cell?_of_block (h.block a.block (World.block_lt_of_cell? w a hv) (by simpa using hne a v hv))).trans hv,
    fun a v hv => World.frozen?_of_block (h.block a.block (World.block_lt_of_cell? w a hv) (by simpa using hne a v hv))⟩
/-- Nothing has turned but the blocks from cb to base (the report's own), and what is new. -/
structure Off (cb base : Nat) (w w' : World) : Prop where
  os : w'.os = w.os
  tape : w'.tape = w.tape
  output : w'.output = w.output
  size : w.heap.size ≤ w'.heap.size
  block : ∀ k, k < w.heap.size → (k < cb ∨ base ≤ k) → w'.heap[k]? = w.heap[k]?
theorem Off.below {cb base : Nat} {w w' : World} (h : Off cb base w w') (hc : cb ≤ w.heap.size) : Below cb w w' := ⟨h.os, h.tape, h.output, h.size, fun k hk => h.block k (by omega) (.inl hk)⟩
theorem MapAt.off {cb base : Nat} {w w' : World} {B n : Nat} {D : DataW Unit} (hM : MapAt w B n D) (h : Off cb base w w') (hB : base ≤ B) : MapAt w' B n D := by
  have e := h.block B (World.ownsMap.lt hM) (.inr hB)
  unfold MapAt World.ownsMap at *
  rw [e]; exact hM
theorem PlainErr.below {w w' : World} {N : Nat} (h : PlainErr w N) (hb : Below w.heap.size w w') : PlainErr w' N := by
  obtain ⟨t, ht, hl⟩ := h
  exact ⟨t, (hb.cell (p := ⟨N, 0, Option.none⟩) (World.block_lt_of_cell? w _ ht)).trans ht, hl⟩
/-- What a report function is good for: it can be called with a defect; it counts. -/
structure Report (F : Interp) (f : FuncId) (args : Value → Array Value) (cb base : Nat) (Inv : Nat → World → Prop) : Prop where
  keep : ∀ k w w', Inv k w → Keeps w w' → Inv k w'
  call : ∀ k N w, Inv k w → k ≤ 100000 → DocErr w N → base ≤ w.heap.size → Calls Ybaf.prog f (args (.iface 29 (.pointer (some ⟨N, 0, Option.none⟩)))) w fun e w' => e = .returned (.tuple #[]) ∧ Inv (k + 1) w' ∧ Off cb base w w'

/-- 'claimName' at the k-th name of a list, whatever comes of it. -/
theorem claim_any (F : Interp) (ss : List ByteArray) (k : Nat) (s p : ByteArray) (B : Nat) (D : DataW Unit) (w : World) (hF : F.told.answers w.tape) (hss : sAt ss k = s) (hs : s.size ≤ 65) (hp : p.size ≤ 100) (hk : k ≤ 100000) (hM : MapAt w B k D) (hS : Seen D ss k) :
    Calls Ybaf.prog 11 #[.string s, .int .i64 k, .string p, .map (some B)] w fun e w' => ∃ ev, e = .returned ev ∧ (∃ D', MapAt w' B (k + 1) D' ∧ Seen D' ss (k + 1)) ∧ Keeps w w' ∧ w.grownBy w' (some B) ∧
      ((badAt ss k = 0 ∧ ev = .nilIface) ∨ (badAt ss k = 1 ∧ ∃ N, ev = .iface 76 (.pointer (some ⟨N, 0, Option.none⟩)) ∧ PlainErr w' N)) := by
  subst hss
  cases hn : isNm (sAt ss k) with
  | false =>
    refine (claim_bad F _ p k _ w hF hs hn).mono fun e w' ⟨N, he, hN, _, hb⟩ => ?_
    exact ⟨_, he, ⟨D, World.ownsMap.mono (hM.below hb) (Nat.le_succ _), seen_bad hS hn⟩, Keeps.of_below hb, ⟨hb.os, hb.tape, hb.output, hb.size, fun j hj _ => hb.block j hj⟩, .inr ⟨badAt_no hn, N, rfl, hN⟩⟩
  | true =>
    cases hd : Maps.has D (.string (sAt ss k).data.toList) with
    | true =>
      refine (claim_taken F _ p k B k D w hF hs hp hn hM hd).mono fun e w' ⟨N, he, hN, _, hb⟩ => ?_
      exact ⟨_, he, ⟨D, World.ownsMap.mono (hM.below hb) (Nat.le_succ _), seen_taken hS hd⟩, Keeps.of_below hb, ⟨hb.os, hb.tape, hb.output, hb.size, fun j hj _ => hb.block j hj⟩, .inr ⟨badAt_taken hS hn hd, N, rfl, hN⟩⟩
    | false =>
      refine (claim_ok _ p k B k D w hs (WalkArith.wf_i64 (by omega)) (by unfold maxLen; omega) hn hM hd).mono fun e w' ⟨he, hM', hg⟩ => ?_
      exact ⟨_, he, ⟨_, hM', seen_put hS (World.ownsMap.isMap hM) hn _⟩, Keeps.of_map hM hg, hg, .inl ⟨badAt_free hS hn hd, rfl⟩⟩

/-- What 'check' knows at the head of a round: k names of the list are claimed; cnt defects have been reported. -/
structure At (Inv : Nat → World → Prop) (w1 : World) (base : Nat) (ss : List ByteArray) (B k cnt : Nat) (wr : World) : Prop where
  map : ∃ D, MapAt wr B k D ∧ Seen D ss k
  inv : Inv cnt wr
  below : Below w1.heap.size w1 wr
  up : base ≤ B

set_option maxHeartbeats 1600000 in
set_option maxRecDepth 100000 in
theorem check_any (F : Interp) (first captured : Array Value) (pc base : Nat) (f : FuncId) (cs : List (ByteArray × List ByteArray)) (Inv : Nat → World → Prop) (w1 w : World) (hF : F.told.answers w.tape)
    (hR : Hid (Report F f (fun v => first.push v ++ captured) w1.heap.size base Inv)) (hcf : ∀ (args : Array Value) (w : World), (callFunc f args).run Ybaf.prog w = .ok (.enter f args) w) (hcat : Hid (Cat w1 pc cs)) (hI : Hid (Inv 0 w)) (hn : cs.length ≤ 256) (hl : Hid (∀ j, j < cs.length → (cAt cs j).2.length ≤ 256 ∧ (cAt cs j).1.size ≤ 65 ∧ ∀ i, (sAt (cAt cs j).2 i).size ≤ 65))
    (hw1 : Below w1.heap.size w1 w) (hbase : w1.heap.size ≤ base) (hbw : base ≤ w.heap.size) :
    Calls Ybaf.prog 6 #[.pointer (some ⟨pc, 0, Option.none⟩), .func (.func f) first captured] w fun e w' => e = .returned (.tuple #[]) ∧ Inv (cntTo cs cs.length) w' ∧ Below w1.heap.size w1 w' := by
  obtain ⟨bt, hpc1, htypes⟩ := hcat.out
  have HT : Hid (∀ j, j < cs.length → TypeAt w1 bt 0 j (cAt cs j).1 (cAt cs j).2) := htypes
  have hplt : pc < w1.heap.size := World.block_lt_of_cell? w1 _ hpc1
  have hpc : w.cell? ⟨pc, 0, Option.none⟩ = some (.slice (some ⟨bt, 0, Option.none⟩) cs.length cs.length) := (hw1.cell (p := ⟨pc, 0, Option.none⟩) hplt).trans hpc1
  have hplt' : pc < w.heap.size := by omega
  clear htypes hcat hpc1
  go_enter Ybaf.func6, Ybaf.ntmps6
  go_wp2
  have A0 : Hid (At Inv w1 base (tnames cs) w.heap.size 0 0 (w.alloc (.map #[] 0))) := ⟨⟨_, World.ownsMap_made _ _ _ _, seen_zero _⟩, hR.out.keep _ _ _ hI.out (Keeps.of_below ((Below.refl _ _).alloc (Nat.le_refl _) _)), hw1.alloc (by omega) _, hbw⟩
  clear hI
  generalize w.heap.size = B1 at *
  go_loopg [24] cs.length (fun g vi wr => ∃ k : Nat, k ≤ cs.length ∧ g = cs.length - k ∧ vi = .int .i64 k ∧ Hid (At Inv w1 base (tnames cs) B1 k (cntTo cs k) wr))
  case atStart => exact ⟨0, Nat.zero_le _, rfl, rfl, A0⟩
  case round =>
    obtain ⟨k, hk, hg, rfl, HA⟩ := hrel
    clear A0
    by_cases hlt : k < cs.length
    · have hbr := HA.out.below
      obtain ⟨d1, ba, _, d2, hacts⟩ := HT.out k hlt
      have c1 : wr.cell? ⟨bt, k * 2, Option.none⟩ = some (.string (cAt cs k).1) := (hbr.cell (p := ⟨bt, k * 2, Option.none⟩) (World.block_lt_of_cell? w1 _ d1)).trans d1
      have c2 : wr.cell? ⟨bt, k * 2 + 1, Option.none⟩ = some (.slice (some ⟨ba, 0, Option.none⟩) (cAt cs k).2.length (cAt cs k).2.length) := (hbr.cell (p := ⟨bt, k * 2 + 1, Option.none⟩) (World.block_lt_of_cell? w1 _ d2)).trans d2
      have HAC : Hid (ActOk w1 ba (cAt cs k).2 (cAt cs k).2.length) := hacts
      clear hacts d1 d2
      obtain ⟨hla, hsz, hasz⟩ := hl.out k hlt
      have HAS : Hid (∀ i, (sAt (cAt cs k).2 i).size ≤ 65) := hasz
      clear hasz
      obtain ⟨D, hM, hS⟩ := HA.out.map
      have HS : Hid (Seen D (tnames cs) k) := hS
      have HM : Hid (MapAt wr B1 k D) := hM
      have hB1 : B1 < wr.heap.size := World.ownsMap.lt hM
      have hFr : F.told.answers wr.tape := by rw [hbr.tape, ← hw1.tape]; exact hF
      clear hM hS
      go_wp2_with fail
      refine (claim_any F (tnames cs) k (cAt cs k).1 ⟨#[116, 121, 112, 101, 115]⟩ B1 D _ (by exact hFr) (tnames_at cs k) hsz (by decide) (by omega) (by exact World.ownsMap.alloc HM.out _) HS.out).mono ?_
      rintro e wc ⟨ev, rfl, hmap, hkeep, hgr, hev⟩
      have HMP : Hid (∃ D', MapAt wc B1 (k + 1) D' ∧ Seen D' (tnames cs) (k + 1)) := hmap
      have HK : Hid (Keeps (wr.alloc (.cells #[.string (cAt cs k).1, .slice (some ⟨ba, 0, Option.none⟩) (cAt cs k).2.length (cAt cs k).2.length] 49)) wc) := hkeep
      have HI : Hid (Inv (cntTo cs k) wc) := hR.out.keep _ _ _ (hR.out.keep _ _ _ HA.out.inv (Keeps.of_below ((Below.refl _ _).alloc (Nat.le_refl _) _))) hkeep
      have hbc : Below w1.heap.size w1 wc := (hbr.alloc hbr.size _).grown hgr (by simp; have := hbr.size; omega) (fun j hj => by cases hj; have := HA.out.up; omega)
      have hszc : wr.heap.size < wc.heap.size := by have := hgr.size; simp at this; omega
      have hbox : wc.cell? ⟨wr.heap.size, 1, Option.none⟩ = some (.slice (some ⟨ba, 0, Option.none⟩) (cAt cs k).2.length (cAt cs k).2.length) := hkeep.cell _ _ (by simp)
      clear hmap hkeep hgr
      rcases hev with ⟨hb0, hev⟩ | ⟨hb1, N, hev, hN⟩
      · rw [hev]
        have HX : Hid (At Inv w1 base (tnames cs) B1 (k + 1) (cntTo cs k + badAt (tnames cs) k) wc) := ⟨HMP.out, by rw [hb0]; exact HI.out, hbc, HA.out.up⟩
        clear hb0 hev
        obtain ⟨wx, rfl⟩ : ∃ wx, wx = wc := ⟨_, rfl⟩
        have hszx := hszc
        clear HK HI hbc HMP hszc
        have hFx : F.told.answers wx.tape := by rw [HX.out.below.tape, ← hw1.tape]; exact hF
        have hFx' := answers_open hFx
        have HSA : Hid ((FmtStop.textOf (F.told "fmt.Sprintf" [[116, 121, 112, 101, 115, 91, 37, 100, 93, 46, 97, 99, 116, 105, 111, 110, 115], Ybaf.shape3, digits 8 (k % 18446744073709551616)] 0)).size ≤ 100) := size_tan F k (by omega)
        go_wp2_with fail
        generalize FmtStop.textOf (F.told "fmt.Sprintf" [[116, 121, 112, 101, 115, 91, 37, 100, 93, 46, 97, 99, 116, 105, 111, 110, 115], Ybaf.shape3, digits 8 (k % 18446744073709551616)] 0) = pth at *
        have hupx := HX.out.up
        have hbsx := HX.out.below.size
        have hby : Below wx.heap.size wx ((wx.alloc (.cells #[.iface 3 (.int .i64 k)] 20)).alloc (.map #[] 0)).drew := (((Below.refl _ _).alloc (Nat.le_refl _) _).alloc (by simp) _).drew
        have hB1x : B1 < wx.heap.size := by obtain ⟨D', hM', _⟩ := HX.out.map; exact World.ownsMap.lt hM'
        have AI : Hid (At Inv w1 base (cAt cs k).2 (wx.heap.size + 1) 0 (cntTo cs k + badAt (tnames cs) k + defTo (cAt cs k).2 0) ((wx.alloc (.cells #[.iface 3 (.int .i64 k)] 20)).alloc (.map #[] 0)).drew) :=
          ⟨⟨_, by have := World.ownsMap_made (H := Unit) (wx.alloc (.cells #[.iface 3 (.int .i64 k)] 20)) Ybaf.prog 9 (plainElem Ybaf.prog 3); simpa [MapAt] using World.ownsMap.drew this, seen_zero _⟩, hR.out.keep _ _ _ HX.out.inv (Keeps.of_below hby), HX.out.below.trans (hby.mono hbsx), by omega⟩
        have AO : Hid (∃ D, MapAt ((wx.alloc (.cells #[.iface 3 (.int .i64 k)] 20)).alloc (.map #[] 0)).drew B1 (k + 1) D ∧ Seen D (tnames cs) (k + 1)) := by
          obtain ⟨D', hM', hS'⟩ := HX.out.map
          exact ⟨D', hM'.below hby, hS'⟩
        have hB12 : B1 < wx.heap.size + 1 := by omega
        have hup2 : base ≤ wx.heap.size + 1 := by omega
        clear hby hFx hFx' hbsx HX hbox
        generalize wx.heap.size + 1 = B2 at *
        have hcl := cntTo_le cs k (fun j hj => (hl.out j (by omega)).1)
        have hbal := badAt_le (tnames cs) k
        obtain ⟨wo, rfl⟩ : ∃ wo : World, wo = wr := ⟨_, rfl⟩
        go_loopg [55] (cAt cs k).2.length (fun g vi wi => ∃ i : Nat, i ≤ (cAt cs k).2.length ∧ g = (cAt cs k).2.length - i ∧ vi = .int .i64 i ∧ Hid (At Inv w1 base (cAt cs k).2 B2 i (cntTo cs k + badAt (tnames cs) k + defTo (cAt cs k).2 i) wi) ∧ Hid (∃ D, MapAt wi B1 (k + 1) D ∧ Seen D (tnames cs) (k + 1)))
        case atStart => exact ⟨0, Nat.zero_le _, rfl, rfl, AI, AO⟩
        case round =>
          obtain ⟨i, hi, hgi, rfl, HJ, HO⟩ := hrel
          clear AI AO
          by_cases hil : i < (cAt cs k).2.length
          · have hbi := HJ.out.below
            have hdl := defTo_le (cAt cs k).2 i
            obtain ⟨e1, e2⟩ := HAC.out.below hbi i hil
            obtain ⟨D, hM, hS⟩ := HJ.out.map
            have HS2 : Hid (Seen D (cAt cs k).2 i) := hS
            have HM2 : Hid (MapAt wr B2 i D) := hM
            have hB2 : B2 < wr.heap.size := World.ownsMap.lt hM
            have hFr : F.told.answers wr.tape := by rw [hbi.tape, ← hw1.tape]; exact hF
            clear hM hS
            go_wp2_with fail
            refine (claim_any F (cAt cs k).2 i (sAt (cAt cs k).2 i) pth B2 D _ (by exact hFr) rfl (HAS.out i) HSA.out (by omega) (by exact World.ownsMap.alloc HM2.out _) HS2.out).mono ?_
            rintro e wc ⟨ev, rfl, hmap, hkeep, hgr, hev⟩
            have HMP : Hid (∃ D', MapAt wc B2 (i + 1) D' ∧ Seen D' (cAt cs k).2 (i + 1)) := hmap
            have HI : Hid (Inv (cntTo cs k + badAt (tnames cs) k + defTo (cAt cs k).2 i) wc) := hR.out.keep _ _ _ (hR.out.keep _ _ _ HJ.out.inv (Keeps.of_below ((Below.refl _ _).alloc (Nat.le_refl _) _))) hkeep
            have hbc : Below w1.heap.size w1 wc := (hbi.alloc hbi.size _).grown hgr (by simp; have := hbi.size; omega) (fun j hj => by cases hj; omega)
            have HOc : Hid (∃ D, MapAt wc B1 (k + 1) D ∧ Seen D (tnames cs) (k + 1)) := by
              obtain ⟨D', hM', hS'⟩ := HO.out
              exact ⟨D', World.ownsMap.kept (World.ownsMap.alloc hM' _) hgr (by simp; omega), hS'⟩
            clear hmap hkeep hgr HO
            rcases hev with ⟨hb0, hev⟩ | ⟨hb1, N, hev, hN⟩
            · rw [hev]
              have HXi : Hid (At Inv w1 base (cAt cs k).2 B2 (i + 1) (cntTo cs k + badAt (tnames cs) k + defTo (cAt cs k).2 (i + 1)) wc) := ⟨HMP.out, by simp only [defTo, hb0]; exact HI.out, hbc, hup2⟩
              clear hb0 hev HI HMP hbc
              go_wp2_with fail
              go_roundg ((cAt cs k).2.length - (i + 1))
              case measure => omega
              case rel => exact ⟨i + 1, by omega, rfl, by go_num, HXi, HOc⟩
            · rw [hev]
              have HB1 : Hid (badAt (cAt cs k).2 i = 1) := hb1
              have HN : Hid (PlainErr wc N) := hN
              have hFc : F.told.answers wc.tape := by rw [hbc.tape, ← hw1.tape]; exact hF
              have hFc' := answers_open hFc
              have HSZ : Hid ((FmtStop.textOf (F.told "fmt.Sprintf" (rdSNn pth.data.toList i) 0)).size ≤ 200) := size_snn F _ i HSA.out (by omega)
              clear hev hb1 hN
              go_wp2_with fail
              refine (within_any _ N _ (by exact HSZ.out) (by exact HN.out.below ((Below.refl _ _).alloc (Nat.le_refl _) _).drew)).mono ?_
              rintro e wd ⟨N2, rfl, _, hdoc, hbd⟩
              have HD : Hid (DocErr wd N2) := hdoc
              have hcd : Below wc.heap.size wc wd := ((Below.refl _ _).alloc (Nat.le_refl _) _).drew.trans (hbd.mono (by simp))
              have hszd := hcd.size
              have hszc := hbc.size
              have hB2c : B2 < wc.heap.size := by obtain ⟨D', hM', _⟩ := HMP.out; exact World.ownsMap.lt hM'
              clear hdoc hbd
              go_wp2_with fail
              refine (hR.out.call (cntTo cs k + badAt (tnames cs) k + defTo (cAt cs k).2 i) N2 wd (hR.out.keep _ _ _ HI.out (Keeps.of_below hcd)) (by omega) HD.out (by omega)).mono ?_
              rintro e wz ⟨rfl, hinv, hoff⟩
              have HXi : Hid (At Inv w1 base (cAt cs k).2 B2 (i + 1) (cntTo cs k + badAt (tnames cs) k + defTo (cAt cs k).2 (i + 1)) wz) := by
                obtain ⟨D', hM', hS'⟩ := HMP.out
                exact ⟨⟨D', (hM'.below hcd).off hoff hup2, hS'⟩, by simp only [defTo, HB1.out]; exact hinv, (hbc.trans (hcd.mono hbc.size)).trans (hoff.below (by omega)), hup2⟩
              have HOz : Hid (∃ D, MapAt wz B1 (k + 1) D ∧ Seen D (tnames cs) (k + 1)) := by
                obtain ⟨D', hM', hS'⟩ := HOc.out
                exact ⟨D', (hM'.below hcd).off hoff hupx, hS'⟩
              clear hoff hinv hcd HD HN HSZ hFc' hFc HI HMP hbc
              go_wp2_with fail
              go_roundg ((cAt cs k).2.length - (i + 1))
              case measure => omega
              case rel => exact ⟨i + 1, by omega, rfl, by go_num, HXi, HOz⟩
          · obtain hie : i = (cAt cs k).2.length := by omega
            have HF : Hid (At Inv w1 base (tnames cs) B1 (k + 1) (cntTo cs (k + 1)) wr) := ⟨HO.out, by have := HJ.out.inv; rw [hie] at this; exact this, HJ.out.below, hupx⟩
            clear hie
            go_wp2_with fail
            go_roundg (cs.length - (k + 1))
            case measure => omega
            case rel => exact ⟨k + 1, by omega, rfl, by go_num, HF⟩
      · rw [hev]
        have HB1 : Hid (badAt (tnames cs) k = 1) := hb1
        have HN : Hid (PlainErr wc N) := hN
        have hFc : F.told.answers wc.tape := by rw [hbc.tape, ← hw1.tape]; exact hF
        have hFc' := answers_open hFc
        have HSZ : Hid ((FmtStop.textOf (F.told "fmt.Sprintf" (rdTNn k) 0)).size ≤ 200) := size_tnn F k (by omega)
        clear hev hb1 hN
        go_wp2_with fail
        refine (within_any _ N _ (by exact HSZ.out) (by exact HN.out.below ((Below.refl _ _).alloc (Nat.le_refl _) _).drew)).mono ?_
        rintro e wd ⟨N2, rfl, _, hdoc, hbd⟩
        have HD : Hid (DocErr wd N2) := hdoc
        have hcd : Below wc.heap.size wc wd := ((Below.refl _ _).alloc (Nat.le_refl _) _).drew.trans (hbd.mono (by simp))
        have hszd := hcd.size
        have hcl := cntTo_le cs k (fun j hj => (hl.out j (by omega)).1)
        clear hdoc hbd
        go_wp2_with fail
        refine (hR.out.call (cntTo cs k) N2 wd (hR.out.keep _ _ _ HI.out (Keeps.of_below hcd)) (by omega) HD.out (by have := HA.out.up; omega)).mono ?_
        rintro e wx ⟨rfl, hinv, hoff⟩
        have hszx : wr.heap.size < wx.heap.size := by have := hoff.size; omega
        have HX : Hid (At Inv w1 base (tnames cs) B1 (k + 1) (cntTo cs k + badAt (tnames cs) k) wx) := by
          obtain ⟨D', hM', hS'⟩ := HMP.out
          exact ⟨⟨D', (hM'.below hcd).off hoff HA.out.up, hS'⟩, by rw [HB1.out]; exact hinv, (hbc.trans (hcd.mono hbc.size)).trans (hoff.below (by have := hbc.size; omega)), HA.out.up⟩
        have hbx : wx.cell? ⟨wr.heap.size, 1, Option.none⟩ = some (.slice (some ⟨ba, 0, Option.none⟩) (cAt cs k).2.length (cAt cs k).2.length) :=
          (World.cell?_of_block (hoff.block wr.heap.size (by omega) (.inr (by have := HA.out.up; omega)))).trans ((hcd.cell (p := ⟨wr.heap.size, 1, Option.none⟩) hszc).trans hbox)
        clear hbox
        have hbox := hbx
        clear hbx HK HI hbc HMP hszc hoff hinv hcd HD HN HSZ hFc' hFc hcl hszd HB1
        have hFx : F.told.answers wx.tape := by rw [HX.out.below.tape, ← hw1.tape]; exact hF
        have hFx' := answers_open hFx
        have HSA : Hid ((FmtStop.textOf (F.told "fmt.Sprintf" [[116, 121, 112, 101, 115, 91, 37, 100, 93, 46, 97, 99, 116, 105, 111, 110, 115], Ybaf.shape3, digits 8 (k % 18446744073709551616)] 0)).size ≤ 100) := size_tan F k (by omega)
        go_wp2_with fail
        generalize FmtStop.textOf (F.told "fmt.Sprintf" [[116, 121, 112, 101, 115, 91, 37, 100, 93, 46, 97, 99, 116, 105, 111, 110, 115], Ybaf.shape3, digits 8 (k % 18446744073709551616)] 0) = pth at *
        have hupx := HX.out.up
        have hbsx := HX.out.below.size
        have hby : Below wx.heap.size wx ((wx.alloc (.cells #[.iface 3 (.int .i64 k)] 20)).alloc (.map #[] 0)).drew := (((Below.refl _ _).alloc (Nat.le_refl _) _).alloc (by simp) _).drew
        have hB1x : B1 < wx.heap.size := by obtain ⟨D', hM', _⟩ := HX.out.map; exact World.ownsMap.lt hM'
        have AI : Hid (At Inv w1 base (cAt cs k).2 (wx.heap.size + 1) 0 (cntTo cs k + badAt (tnames cs) k + defTo (cAt cs k).2 0) ((wx.alloc (.cells #[.iface 3 (.int .i64 k)] 20)).alloc (.map #[] 0)).drew) :=
          ⟨⟨_, by have := World.ownsMap_made (H := Unit) (wx.alloc (.cells #[.iface 3 (.int .i64 k)] 20)) Ybaf.prog 9 (plainElem Ybaf.prog 3); simpa [MapAt] using World.ownsMap.drew this, seen_zero _⟩, hR.out.keep _ _ _ HX.out.inv (Keeps.of_below hby), HX.out.below.trans (hby.mono hbsx), by omega⟩
        have AO : Hid (∃ D, MapAt ((wx.alloc (.cells #[.iface 3 (.int .i64 k)] 20)).alloc (.map #[] 0)).drew B1 (k + 1) D ∧ Seen D (tnames cs) (k + 1)) := by
          obtain ⟨D', hM', hS'⟩ := HX.out.map
          exact ⟨D', hM'.below hby, hS'⟩
        have hB12 : B1 < wx.heap.size + 1 := by omega
        have hup2 : base ≤ wx.heap.size + 1 := by omega
        clear hby hFx hFx' hbsx HX hbox
        generalize wx.heap.size + 1 = B2 at *
        have hcl := cntTo_le cs k (fun j hj => (hl.out j (by omega)).1)
        have hbal := badAt_le (tnames cs) k
        obtain ⟨wo, rfl⟩ : ∃ wo : World, wo = wr := ⟨_, rfl⟩
        go_loopg [55] (cAt cs k).2.length (fun g vi wi => ∃ i : Nat, i ≤ (cAt cs k).2.length ∧ g = (cAt cs k).2.length - i ∧ vi = .int .i64 i ∧ Hid (At Inv w1 base (cAt cs k).2 B2 i (cntTo cs k + badAt (tnames cs) k + defTo (cAt cs k).2 i) wi) ∧ Hid (∃ D, MapAt wi B1 (k + 1) D ∧ Seen D (tnames cs) (k + 1)))
        case atStart => exact ⟨0, Nat.zero_le _, rfl, rfl, AI, AO⟩
        case round =>
          obtain ⟨i, hi, hgi, rfl, HJ, HO⟩ := hrel
          clear AI AO
          by_cases hil : i < (cAt cs k).2.length
          · have hbi := HJ.out.below
            have hdl := defTo_le (cAt cs k).2 i
            obtain ⟨e1, e2⟩ := HAC.out.below hbi i hil
            obtain ⟨D, hM, hS⟩ := HJ.out.map
            have HS2 : Hid (Seen D (cAt cs k).2 i) := hS
            have HM2 : Hid (MapAt wr B2 i D) := hM
            have hB2 : B2 < wr.heap.size := World.ownsMap.lt hM
            have hFr : F.told.answers wr.tape := by rw [hbi.tape, ← hw1.tape]; exact hF
            clear hM hS
            go_wp2_with fail
            refine (claim_any F (cAt cs k).2 i (sAt (cAt cs k).2 i) pth B2 D _ (by exact hFr) rfl (HAS.out i) HSA.out (by omega) (by exact World.ownsMap.alloc HM2.out _) HS2.out).mono ?_
            rintro e wc ⟨ev, rfl, hmap, hkeep, hgr, hev⟩
            have HMP : Hid (∃ D', MapAt wc B2 (i + 1) D' ∧ Seen D' (cAt cs k).2 (i + 1)) := hmap
            have HI : Hid (Inv (cntTo cs k + badAt (tnames cs) k + defTo (cAt cs k).2 i) wc) := hR.out.keep _ _ _ (hR.out.keep _ _ _ HJ.out.inv (Keeps.of_below ((Below.refl _ _).alloc (Nat.le_refl _) _))) hkeep
            have hbc : Below w1.heap.size w1 wc := (hbi.alloc hbi.size _).grown hgr (by simp; have := hbi.size; omega) (fun j hj => by cases hj; omega)
            have HOc : Hid (∃ D, MapAt wc B1 (k + 1) D ∧ Seen D (tnames cs) (k + 1)) := by
              obtain ⟨D', hM', hS'⟩ := HO.out
              exact ⟨D', World.ownsMap.kept (World.ownsMap.alloc hM' _) hgr (by simp; omega), hS'⟩
            clear hmap hkeep hgr HO
            rcases hev with ⟨hb0, hev⟩ | ⟨hb1, N, hev, hN⟩
            · rw [hev]
              have HXi : Hid (At Inv w1 base (cAt cs k).2 B2 (i + 1) (cntTo cs k + badAt (tnames cs) k + defTo (cAt cs k).2 (i + 1)) wc) := ⟨HMP.out, by simp only [defTo, hb0]; exact HI.out, hbc, hup2⟩
              clear hb0 hev HI HMP hbc
              go_wp2_with fail
              go_roundg ((cAt cs k).2.length - (i + 1))
              case measure => omega
              case rel => exact ⟨i + 1, by omega, rfl, by go_num, HXi, HOc⟩
            · rw [hev]
              have HB1 : Hid (badAt (cAt cs k).2 i = 1) := hb1
              have HN : Hid (PlainErr wc N) := hN
              have hFc : F.told.answers wc.tape := by rw [hbc.tape, ← hw1.tape]; exact hF
              have hFc' := answers_open hFc
              have HSZ : Hid ((FmtStop.textOf (F.told "fmt.Sprintf" (rdSNn pth.data.toList i) 0)).size ≤ 200) := size_snn F _ i HSA.out (by omega)
              clear hev hb1 hN
              go_wp2_with fail
              refine (within_any _ N _ (by exact HSZ.out) (by exact HN.out.below ((Below.refl _ _).alloc (Nat.le_refl _) _).drew)).mono ?_
              rintro e wd ⟨N2, rfl, _, hdoc, hbd⟩
              have HD : Hid (DocErr wd N2) := hdoc
              have hcd : Below wc.heap.size wc wd := ((Below.refl _ _).alloc (Nat.le_refl _) _).drew.trans (hbd.mono (by simp))
              have hszd := hcd.size
              have hszc := hbc.size
              have hB2c : B2 < wc.heap.size := by obtain ⟨D', hM', _⟩ := HMP.out; exact World.ownsMap.lt hM'
              clear hdoc hbd
              go_wp2_with fail
              refine (hR.out.call (cntTo cs k + badAt (tnames cs) k + defTo (cAt cs k).2 i) N2 wd (hR.out.keep _ _ _ HI.out (Keeps.of_below hcd)) (by omega) HD.out (by omega)).mono ?_
              rintro e wz ⟨rfl, hinv, hoff⟩
              have HXi : Hid (At Inv w1 base (cAt cs k).2 B2 (i + 1) (cntTo cs k + badAt (tnames cs) k + defTo (cAt cs k).2 (i + 1)) wz) := by
                obtain ⟨D', hM', hS'⟩ := HMP.out
                exact ⟨⟨D', (hM'.below hcd).off hoff hup2, hS'⟩, by simp only [defTo, HB1.out]; exact hinv, (hbc.trans (hcd.mono hbc.size)).trans (hoff.below (by omega)), hup2⟩
              have HOz : Hid (∃ D, MapAt wz B1 (k + 1) D ∧ Seen D (tnames cs) (k + 1)) := by
                obtain ⟨D', hM', hS'⟩ := HOc.out
                exact ⟨D', (hM'.below hcd).off hoff hupx, hS'⟩
              clear hoff hinv hcd HD HN HSZ hFc' hFc HI HMP hbc
              go_wp2_with fail
              go_roundg ((cAt cs k).2.length - (i + 1))
              case measure => omega
              case rel => exact ⟨i + 1, by omega, rfl, by go_num, HXi, HOz⟩
          · obtain hie : i = (cAt cs k).2.length := by omega
            have HF : Hid (At Inv w1 base (tnames cs) B1 (k + 1) (cntTo cs (k + 1)) wr) := ⟨HO.out, by have := HJ.out.inv; rw [hie] at this; exact this, HJ.out.below, hupx⟩
            clear hie
            go_wp2_with fail
            go_roundg (cs.length - (k + 1))
            case measure => omega
            case rel => exact ⟨k + 1, by omega, rfl, by go_num, HF⟩
    · obtain rfl : k = cs.length := by omega
      go_wp2
      go_end0
      exact ⟨rfl, HA.out.inv, HA.out.below⟩
end Go.Proofs.YbulkakkaFmt

/-
  'zzs1807cbuild': the walk.
-/
import Derived.Test.YbulkakkaFmtIn
namespace Go.Proofs.YbulkakkaFmt
open Go.RowKit

/-- What 'zzs1807cbuild' ends in. -/
def BuildPost (w : World) (ts : List Ty) (e : Ending) (w' : World) : Prop :=
  (e = .returned (.tuple #[.pointer Option.none, .int .i64 0, .bool false]) ∨
    ∃ pc, e = .returned (.tuple #[.pointer (some ⟨pc, 0, Option.none⟩), .int .i64 (expected ts), .bool true]) ∧ ts.length ≤ 256 ∧ (∀ j, j < ts.length → (tyAt ts j).len ≤ 256) ∧ Cat w' pc (catOf ts) ∧ w.heap.size ≤ pc) ∧
  Below w.heap.size w w'

/-- What the outer loop knows of its own rows: m names are laid, and of the first q types all. -/
structure Facts (w : World) (bt bn k m q : Nat) (ts : List Ty) : Prop where
  types : Avail w bt (k * 2)
  nms : Avail w bn k
  name : NmOk w bn (names ts) m
  done : ∀ j, j < q → TypeAt w bt bn j (nm (tyAt ts j).nm) (acts (tyAt ts j))
theorem Facts.below {w w' : World} {bt bn k m q : Nat} {ts : List Ty} (h : Facts w bt bn k m q ts) (hb : Below w.heap.size w w') (h1 : bt < bn) (h2 : bn < w.heap.size) : Facts w' bt bn k m q ts :=
  ⟨h.types.below hb (by omega), h.nms.below hb h2, h.name.below hb h2, fun j hj => (h.done j hj).below hb⟩
theorem Facts.setName {w : World} {bt bn k m : Nat} {ts : List Ty} (h : Facts w bt bn k m m ts) (h1 : bt < bn) (hm : m < k) (hl : ts.length = k) : Facts (w.setCell ⟨bn, m, Option.none⟩ (.string (nm (tyAt ts m).nm))) bt bn k (m + 1) m ts := by
  refine ⟨h.types.setCell _ _, h.nms.setCell _ _, fun i hi => ?_, fun j hj => (h.done j hj).setName h1⟩
  by_cases e : i = m
  · rw [e, names_at ts m (by omega)]; exact h.nms.same hm _
  · exact cell_far (h.name i (by omega)) (.inr (by omega))
theorem Facts.setType {w : World} {bt bn k m ba : Nat} {ts : List Ty} (h : Facts w bt bn k (m + 1) m ts) (h1 : bt < bn) (hm : m < k) (hba : bn < ba) (hal : (acts (tyAt ts m)).length = (tyAt ts m).len) (ha : ActOk w ba (acts (tyAt ts m)) (tyAt ts m).len) :
    Facts ((w.setCell ⟨bt, m * 2, Option.none⟩ (.string (nm (tyAt ts m).nm))).setCell ⟨bt, m * 2 + 1, Option.none⟩ (.slice (some ⟨ba, 0, Option.none⟩) (tyAt ts m).len (tyAt ts m).len)) bt bn k (m + 1) (m + 1) ts := by
  have hA := h.types.setCell ⟨bt, m * 2, Option.none⟩ (.string (nm (tyAt ts m).nm))
  refine ⟨hA.setCell _ _, (h.nms.setCell _ _).setCell _ _, fun i hi => cell_far (cell_far (h.name i hi) (.inl (by omega))) (.inl (by omega)), fun j hj => ?_⟩
  by_cases e : j = m
  · subst e
    refine ⟨cell_far (h.types.same (by omega) _) (.inr (by omega)), ba, hba, ?_, fun i hi => ?_⟩
    · rw [hal]; exact hA.same (by omega) _
    · rw [hal] at hi
      exact ⟨cell_far (cell_far (ha i hi).1 (.inl (by omega))) (.inl (by omega)), cell_far (cell_far (ha i hi).2 (.inl (by omega))) (.inl (by omega))⟩
  · exact ((h.done j (by omega)).setType h1 (by omega)).setType h1 (by omega)
/-- What the inner loop knows of the two rows that it fills. -/
structure Inner (w : World) (ba an la i : Nat) (al : List ByteArray) : Prop where
  arow : Avail w ba (la * 2)
  nrow : Avail w an la
  act : ActOk w ba al i
  name : NmOk w an al i
theorem Inner.step {w w' : World} {ba an la i : Nat} {al : List ByteArray} (h : Inner w ba an la i al) (hb : Below w.heap.size w w') (hi : i < la) (hne : ba < an) (s : ByteArray) (hs : sAt al i = s) :
    Inner (((w'.setCell ⟨ba, i * 2, Option.none⟩ (.string s)).setCell ⟨ba, i * 2 + 1, Option.none⟩ (.string ⟨#[100]⟩)).setCell ⟨an, i, Option.none⟩ (.string s)) ba an la (i + 1) al := by
  have a1 := h.arow.below hb (h.arow.lt (by omega))
  have n1 := h.nrow.below hb (h.nrow.lt (by omega))
  have a2 := a1.setCell ⟨ba, i * 2, Option.none⟩ (.string s)
  have n2 := (n1.setCell ⟨ba, i * 2, Option.none⟩ (.string s)).setCell ⟨ba, i * 2 + 1, Option.none⟩ (.string ⟨#[100]⟩)
  have c1 := h.act.below hb
  have m1 := h.name.below hb (h.nrow.lt (by omega))
  refine ⟨(a2.setCell _ _).setCell _ _, n2.setCell _ _, fun j hj => ?_, fun j hj => ?_⟩
  · by_cases e : j = i
    · subst e
      rw [hs]
      exact ⟨cell_far (cell_far (a1.same (by omega) _) (.inr (by omega))) (.inl (by omega)), cell_far (a2.same (by omega) _) (.inl (by omega))⟩
    · have := c1 j (by omega)
      exact ⟨cell_far (cell_far (cell_far this.1 (.inr (by omega))) (.inr (by omega))) (.inl (by omega)), cell_far (cell_far (cell_far this.2 (.inr (by omega))) (.inr (by omega))) (.inl (by omega))⟩
  · by_cases e : j = i
    · subst e
      rw [hs]
      exact n2.same hi _
    · exact cell_far (cell_far (cell_far (m1 j (by omega)) (.inl (by omega))) (.inl (by omega))) (.inr (by omega))

set_option maxHeartbeats 1600000 in
set_option maxRecDepth 100000 in
theorem build_any (a0 : Option Addr) (n cap : Nat) (ts : List Ty) (w : World) (hn : n ≤ 9223372036854775807) (hin : Hid (IsIn w a0 n ts)) :
    Calls Ybaf.prog 5 #[.slice a0 n cap] w (BuildPost w ts) := by
  by_cases h256 : 256 < n
  · go_enter Ybaf.func5, Ybaf.ntmps5
    go_wp2
    go_ret3
    exact ⟨.inl rfl, Below.refl _ _⟩
  · obtain ⟨i49, hi49, z49, s49, b49⟩ := info_parts Ybaf.info49
    obtain ⟨i46, hi46, z46, s46, b46⟩ := info_parts Ybaf.info46
    obtain ⟨i9, hi9, z9, s9, b9⟩ := info_parts Ybaf.info9
    go_enter Ybaf.func5, Ybaf.ntmps5
    go_wp2
    go_loop [5, 6] (fun vt vi => ∃ k : Nat, k ≤ n ∧ vi = .int .i64 k ∧ vt = .int .i64 (totTo ts k) ∧ Hid (∀ j, j < k → (tyAt ts j).len ≤ 256)) (fun _ vi => n - (intOf vi).toNat)
    case atStart => exact ⟨0, Nat.zero_le _, rfl, rfl, fun j hj => absurd hj (Nat.not_lt_zero j)⟩
    case round =>
      obtain ⟨k, hk, rfl, rfl, hsm⟩ := hrel
      have htot := totTo_le ts k hsm.out
      by_cases hlt : k < n
      · obtain ⟨b, off, rfl, hbw, hc⟩ := hin.out.cells k hlt
        obtain ⟨c1, c2⟩ := hc k hlt
        have hts := (hin.out.each k hlt).small
        clear hc
        by_cases hbig : 256 < (tyAt ts k).len
        · go_wp2
          go_ret3
          exact ⟨.inl rfl, Below.refl _ _⟩
        · have HT : Hid (totTo ts (k + 1) = totTo ts k + (tyAt ts k).len) := rfl
          have HS : Hid (∀ j, j < k + 1 → (tyAt ts j).len ≤ 256) := fun j hj => by
            by_cases e : j = k
            · rw [e]; omega
            · exact hsm.out j (by omega)
          go_wp2
          go_round
          case rel => exact ⟨k + 1, by omega, by go_num, by rw [HT.out]; go_num, HS⟩
          case measure => simp [intOf]; omega
      · obtain rfl : k = n := by omega
        by_cases htb : 4096 < totTo ts k
        · go_wp2
          go_ret3
          exact ⟨.inl rfl, Below.refl _ _⟩
        · go_wp2_with (at_make; refine wpList_make_full _ rfl _ _ 40 rfl w.heap.size 49 i49 _ 2 Ybaf.underlying40 hi49 z49 s49 _ _ _ _ k rfl rfl rfl rfl ?b2 ?b3 (Nat.le_refl _) ?_)
          case b2 => omega
          case b3 => unfold maxLen; omega
          intro w0 hown0 hgrow0
          have hb0 := below_of_grown hgrow0
          have hlt0 := (hown0.lt w.heap.size rfl).2
          go_wp2_with (at_make; refine wpList_make_full _ rfl _ _ 31 rfl w.heap.size 9 i9 _ 1 Ybaf.underlying31 hi9 z9 s9 _ _ _ _ k rfl rfl rfl rfl ?b2' ?b3' ?b4' ?_)
          case b2' => first | omega | (rw [b9]; omega)
          case b3' => unfold maxLen; omega
          case b4' => simp; omega
          intro w1 hown1 hgrow1
          go_wp2
          have A0 : Avail w1 w.heap.size (k * 2) := ((avail_of_owns hown0).below ((Below.refl _ _).alloc (Nat.le_refl _) _) hlt0).below (below_of_grown hgrow1) (by simp; omega)
          have A1 : Avail w1 (w0.heap.size + 1) k := by have := avail_of_owns hown1; rwa [Nat.mul_one] at this
          have C0 : w1.cell? ⟨w0.heap.size, 0, Option.none⟩ = some (.slice (some ⟨w.heap.size, 0, Option.none⟩) k k) := hgrow1.cell (by simp) (by simp)
          have B1 : Below w.heap.size w w1 := (hb0.alloc (Nat.le_of_lt hlt0) _).grown hgrow1 (by simp; omega) (fun k h => by cases h)
          have L1 : w0.heap.size + 1 < w1.heap.size := (hown1.lt _ rfl).2
          clear hown0 hgrow0 hown1 hgrow1 hb0
          generalize w0.heap.size = pc at *
          go_loopw [9, 10] (fun ve vi wr => ∃ m : Nat, m ≤ k ∧ vi = .int .i64 m ∧ ve = .int .i64 (expTo ts m) ∧ Hid (Facts wr w.heap.size (pc + 1) k m m ts) ∧
              wr.cell? ⟨pc, 0, Option.none⟩ = some (.slice (some ⟨w.heap.size, 0, Option.none⟩) k k) ∧ Below w.heap.size w wr ∧ pc + 1 < wr.heap.size)
            (fun _ vi _ => k - (intOf vi).toNat)
          case atStart => exact ⟨0, Nat.zero_le _, rfl, rfl, ⟨A0, A1, fun i hi => absurd hi (Nat.not_lt_zero i), fun i hi => absurd hi (Nat.not_lt_zero i)⟩, C0, B1, L1⟩
          case round =>
            obtain ⟨m, hm, rfl, rfl, HH, hpc, hnx, hpw⟩ := hrel
            clear A0 A1 C0 B1 L1
            have hel := expTo_le ts m (fun j hj => hsm.out j (by omega))
            by_cases hlt : m < k
            · obtain ⟨b, off, rfl, hbw, hc⟩ := hin.out.cells m hlt
              obtain ⟨c1, c2⟩ := hc m hlt
              have c1 : wr.cell? ⟨b, off + m * 2, Option.none⟩ = some (.int .u8 (tyAt ts m).nm) := (hnx.cell (by exact hbw)).trans c1
              clear c2
              have hT := hin.out.each m hlt
              have q0 := hT.lo
              have q1 := hT.hi
              have HT : Hid (TyOk w (tyAt ts m)) := hT
              clear hT
              go_wp2_with fail
              refine (cname_any _ q0 q1 _).mono ?_
              rintro e w2 ⟨rfl, hb2⟩
              obtain ⟨⟨o1, ho1⟩, hf1⟩ := (HH.out.nms.below hb2 hpw) m hlt
              have hbb : b ≠ pc + 1 := by omega
              have hnx2 : Below w.heap.size w w2 := hnx.trans (hb2.mono hnx.size)
              have hnx2' : Below w.heap.size w (w2.setCell ⟨pc + 1, m, Option.none⟩ (.string (nm (tyAt ts m).nm))) := hnx2.setCell (by simp; omega) _
              have c2 : (w2.setCell ⟨pc + 1, m, Option.none⟩ (.string (nm (tyAt ts m).nm))).cell? ⟨b, off + m * 2 + 1, Option.none⟩ = some (.slice (tyAt ts m).a (tyAt ts m).len (tyAt ts m).cap) := (hnx2'.cell (by exact hbw)).trans (hc m hlt).2
              have hsz := hb2.size
              have hl256 := hsm.out m hlt
              clear hnx2
              go_wp2_with (at_make; refine wpList_make_full _ rfl _ _ 44 rfl w.heap.size 46 i46 _ 2 Ybaf.underlying44 hi46 z46 s46 _ _ _ _ (tyAt ts m).len rfl rfl rfl rfl ?d2 ?d3 ?d4 ?_)
              case d2 => rw [b46]; omega
              case d3 => unfold maxLen; omega
              case d4 => exact hnx2'.size
              intro w3 hown3 hgrow3
              have HM : Hid (Facts (w2.setCell ⟨pc + 1, m, Option.none⟩ (.string (nm (tyAt ts m).nm))) w.heap.size (pc + 1) k (m + 1) m ts) := (HH.out.below hb2 (by omega) hpw).setName (by omega) hlt hin.out.len
              have hsz3 : w2.heap.size < w3.heap.size := (hown3.lt _ rfl).2
              have hb3 := below_of_grown hgrow3
              rw [show (w2.setCell ⟨pc + 1, m, Option.none⟩ (.string (nm (tyAt ts m).nm))).heap.size = w2.heap.size by simp] at hb3
              have c3 : w3.cell? ⟨b, off + m * 2 + 1, Option.none⟩ = some (.slice (tyAt ts m).a (tyAt ts m).len (tyAt ts m).cap) := (hb3.cell (p := ⟨b, off + m * 2 + 1, Option.none⟩) (by simp; omega)).trans c2
              have AA : Hid (Avail w3 w2.heap.size ((tyAt ts m).len * 2)) := avail_of_owns hown3
              have HB2 : Hid (Below wr.heap.size wr w2) := hb2
              clear hown3 hgrow3 ho1 hf1 o1 c1 c2 hb2
              go_wp2_with (at_make; refine wpList_make_full _ rfl _ _ 31 rfl w.heap.size 9 i9 _ 1 Ybaf.underlying31 hi9 z9 s9 _ _ _ _ (tyAt ts m).len rfl rfl rfl rfl ?f2 ?f3 ?f4 ?_)
              case f2 => rw [b9]; omega
              case f3 => unfold maxLen; omega
              case f4 => omega
              intro w4 hown4 hgrow4
              have hsz4 : w3.heap.size < w4.heap.size := (hown4.lt _ rfl).2
              go_wp2
              have hb4 : Below w2.heap.size (w2.setCell ⟨pc + 1, m, Option.none⟩ (.string (nm (tyAt ts m).nm))) w4 := hb3.trans ((below_of_grown hgrow4).mono (Nat.le_of_lt hsz3))
              have HI : Hid (Inner w4 w2.heap.size w3.heap.size (tyAt ts m).len 0 (acts (tyAt ts m))) := ⟨AA.out.below (below_of_grown hgrow4) hsz3, by have := avail_of_owns hown4; rwa [Nat.mul_one] at this, fun i hi => absurd hi (Nat.not_lt_zero i), fun i hi => absurd hi (Nat.not_lt_zero i)⟩
              clear hown4 hgrow4 AA hb3 c3
              have c2 : Hid ((w2.setCell ⟨pc + 1, m, Option.none⟩ (.string (nm (tyAt ts m).nm))).cell? ⟨b, off + m * 2 + 1, Option.none⟩ = some (.slice (tyAt ts m).a (tyAt ts m).len (tyAt ts m).cap)) := (hnx2'.cell (by exact hbw)).trans (hc m hlt).2
              obtain ⟨wo, rfl⟩ : ∃ wo : World, wo = wr := ⟨_, rfl⟩
              go_loopw [14] (fun vi wi => ∃ i : Nat, i ≤ (tyAt ts m).len ∧ vi = .int .i64 i ∧ Hid (Inner wi w2.heap.size w3.heap.size (tyAt ts m).len i (acts (tyAt ts m))) ∧ Below w2.heap.size (w2.setCell ⟨pc + 1, m, Option.none⟩ (.string (nm (tyAt ts m).nm))) wi ∧ w3.heap.size < wi.heap.size) (fun vi _ => (tyAt ts m).len - (intOf vi).toNat)
              case atStart => exact ⟨0, Nat.zero_le _, rfl, HI, hb4, hsz4⟩
              case round =>
                obtain ⟨i, hi, rfl, HJ, hni, hwi⟩ := hrel
                clear HI hb4
                have ci : wr.cell? ⟨b, off + m * 2 + 1, Option.none⟩ = some (.slice (tyAt ts m).a (tyAt ts m).len (tyAt ts m).cap) := (hni.cell (p := ⟨b, off + m * 2 + 1, Option.none⟩) (by simp; omega)).trans c2.out
                by_cases hil : i < (tyAt ts m).len
                · obtain ⟨b', off', ha, hb', z0, z1, hz⟩ := HT.out.cells i hil
                  have hz' : wr.cell? ⟨b', off' + i, Option.none⟩ = some (.int .u8 ((tyAt ts m).zs.getD i 0)) := (hni.cell (p := ⟨b', off' + i, Option.none⟩) (by simp; omega)).trans ((hnx2'.cell (by exact hb')).trans hz)
                  have hza := acts_at i hil HT.out.len
                  have HZ : Hid (sAt (acts (tyAt ts m)) i = nm ((tyAt ts m).zs.getD i 0)) := hza
                  clear hz hza
                  rw [ha] at ci
                  clear ha
                  generalize (tyAt ts m).zs.getD i 0 = z at *
                  go_wp2_with fail
                  refine (cname_any _ z0 z1 _).mono ?_
                  rintro e w5 ⟨rfl, hb5⟩
                  obtain ⟨⟨p0, hp0⟩, fp0⟩ := (HJ.out.arow.below hb5 (by omega)) (i * 2) (by omega)
                  obtain ⟨⟨p1, hp1⟩, fp1⟩ := (HJ.out.arow.below hb5 (by omega)) (i * 2 + 1) (by omega)
                  obtain ⟨⟨p2, hp2⟩, fp2⟩ := (HJ.out.nrow.below hb5 hwi) i hil
                  have hp1' : (w5.setCell ⟨w2.heap.size, i * 2, Option.none⟩ (.string (nm z))).cell? ⟨w2.heap.size, i * 2 + 1, Option.none⟩ = some p1 := cell_far hp1 (.inr (by omega))
                  have hp2' : ((w5.setCell ⟨w2.heap.size, i * 2, Option.none⟩ (.string (nm z))).setCell ⟨w2.heap.size, i * 2 + 1, Option.none⟩ (.string ⟨#[100]⟩)).cell? ⟨w3.heap.size, i, Option.none⟩ = some p2 := cell_far (cell_far hp2 (.inl (by omega))) (.inl (by omega))
                  have HS : Hid (Inner (((w5.setCell ⟨w2.heap.size, i * 2, Option.none⟩ (.string (nm z))).setCell ⟨w2.heap.size, i * 2 + 1, Option.none⟩ (.string ⟨#[100]⟩)).setCell ⟨w3.heap.size, i, Option.none⟩ (.string (nm z))) w2.heap.size w3.heap.size (tyAt ts m).len (i + 1) (acts (tyAt ts m))) := HJ.out.step hb5 hil hsz3 (nm z) HZ.out
                  have hn5 : Below w2.heap.size (w2.setCell ⟨pc + 1, m, Option.none⟩ (.string (nm (tyAt ts m).nm))) w5 := hni.trans (hb5.mono (by omega))
                  have hw5 : w3.heap.size < w5.heap.size := Nat.lt_of_lt_of_le hwi hb5.size
                  clear hp2 hp1 hz' ci hb5
                  go_wp2
                  go_roundw
                  case rel => exact ⟨i + 1, by omega, by go_num, HS, ((hn5.setCell (Nat.le_refl _) _).setCell (Nat.le_refl _) _).setCell (Nat.le_of_lt hsz3) _, by simpa using hw5⟩
                  case measure => simp [intOf]; omega
                · obtain rfl : i = (tyAt ts m).len := by omega
                  have hal := acts_length HT.out.len
                  have HAL : Hid ((acts (tyAt ts m)).length = (tyAt ts m).len) := hal
                  have hdl := defTo_le (acts (tyAt ts m)) (tyAt ts m).len
                  clear hal
                  go_wp2_with fail
                  refine (defects_any _ (tyAt ts m).len _ (acts (tyAt ts m)) _ HAL.out (by omega) (fun k => Nat.le_trans (acts_size _ _) (by unfold maxLen; omega)) (fun k hk => ⟨w3.heap.size, 0, rfl, by omega, fun j hj => by rw [Nat.zero_add]; exact HJ.out.name j hj⟩)).mono ?_
                  rintro e w6 ⟨rfl, hb6⟩
                  have hn6 : Below w2.heap.size (w2.setCell ⟨pc + 1, m, Option.none⟩ (.string (nm (tyAt ts m).nm))) w6 := hni.trans (hb6.mono (by omega))
                  have F6 : Hid (Facts w6 w.heap.size (pc + 1) k (m + 1) m ts) := HM.out.below (by rw [show (w2.setCell ⟨pc + 1, m, Option.none⟩ (.string (nm (tyAt ts m).nm))).heap.size = w2.heap.size by simp]; exact hn6) (by omega) (by simp; omega)
                  have cpc : w6.cell? ⟨pc, 0, Option.none⟩ = some (.slice (some ⟨w.heap.size, 0, Option.none⟩) k k) := (hn6.cell (p := ⟨pc, 0, Option.none⟩) (by simp; omega)).trans (cell_far ((HB2.out.cell (p := ⟨pc, 0, Option.none⟩) (by simp; omega)).trans hpc) (.inl (by omega)))
                  have AC6 : Hid (ActOk w6 w2.heap.size (acts (tyAt ts m)) (tyAt ts m).len) := HJ.out.act.below hb6
                  have FT : Hid (Facts ((w6.setCell ⟨w.heap.size, m * 2, Option.none⟩ (.string (nm (tyAt ts m).nm))).setCell ⟨w.heap.size, m * 2 + 1, Option.none⟩ (.slice (some ⟨w2.heap.size, 0, Option.none⟩) (tyAt ts m).len (tyAt ts m).len)) w.heap.size (pc + 1) k (m + 1) (m + 1) ts) := F6.out.setType (by omega) hlt (by omega) HAL.out AC6.out
                  obtain ⟨⟨p0, hp0⟩, fp0⟩ := F6.out.types (m * 2) (by omega)
                  obtain ⟨⟨p1, hp1⟩, fp1⟩ := F6.out.types (m * 2 + 1) (by omega)
                  have hp1' : (w6.setCell ⟨w.heap.size, m * 2, Option.none⟩ (.string (nm (tyAt ts m).nm))).cell? ⟨w.heap.size, m * 2 + 1, Option.none⟩ = some p1 := cell_far hp1 (.inr (by omega))
                  have cpc' : ((w6.setCell ⟨w.heap.size, m * 2, Option.none⟩ (.string (nm (tyAt ts m).nm))).setCell ⟨w.heap.size, m * 2 + 1, Option.none⟩ (.slice (some ⟨w2.heap.size, 0, Option.none⟩) (tyAt ts m).len (tyAt ts m).len)).cell? ⟨pc, 0, Option.none⟩ = some (.slice (some ⟨w.heap.size, 0, Option.none⟩) k k) := cell_far (cell_far cpc (.inl (by omega))) (.inl (by omega))
                  have HC' := (show Hid _ from cpc')
                  have hnx6 : Below w.heap.size w w6 := hnx2'.trans (hn6.mono (by omega))
                  have hw6 : pc + 1 < w6.heap.size := by have := hb6.size; omega
                  have HE : Hid (expTo ts (m + 1) = expTo ts m + defTo (acts (tyAt ts m)) (tyAt ts m).len) := rfl
                  clear hp1 cpc' hb6 ci hn6
                  go_wp2
                  go_roundw
                  case rel => exact ⟨m + 1, by omega, by go_num, by rw [HE.out]; go_num, FT, HC'.out, (hnx6.setCell (Nat.le_refl _) _).setCell (Nat.le_refl _) _, by simpa using hw6⟩
                  case measure => simp [intOf]; omega
            · obtain rfl : m = k := by omega
              have hlen := hin.out.len
              have HL : Hid (ts.length = m) := hlen
              clear hlen
              have hdl := defTo_le (names ts) m
              go_wp2_with fail
              refine (defects_any _ m _ (names ts) _ ((names_length ts).trans HL.out) (by omega) (fun k => Nat.le_trans (names_size _ _) (by unfold maxLen; omega)) (fun k hk => ⟨pc + 1, 0, rfl, hpw, fun j hj => by rw [Nat.zero_add]; exact HH.out.name j hj⟩)).mono ?_
              rintro e w6 ⟨rfl, hb6⟩
              have cpc : w6.cell? ⟨pc, 0, Option.none⟩ = some (.slice (some ⟨w.heap.size, 0, Option.none⟩) m m) := (hb6.cell (p := ⟨pc, 0, Option.none⟩) (by simp; omega)).trans hpc
              have F6 : Hid (Facts w6 w.heap.size (pc + 1) m m m ts) := HH.out.below hb6 (by omega) hpw
              have HP : Hid (Cat w6 pc (catOf ts)) := by
                refine ⟨w.heap.size, by rw [catOf_length, HL.out]; exact cpc, fun j hj => ?_⟩
                rw [catOf_length, HL.out] at hj
                rw [catOf_at ts j (by rw [HL.out]; exact hj)]
                obtain ⟨t1, ba, t2, t3, t4⟩ := F6.out.done j hj
                exact ⟨t1, ba, by omega, t3, t4⟩
              go_wp2
              go_ret3
              refine ⟨.inr ⟨pc, ?_, by rw [HL.out]; omega, fun j hj => hsm.out j (by rw [← HL.out]; exact hj), HP.out, by omega⟩, hnx.trans (hb6.mono hnx.size)⟩
              unfold expected
              rw [HL.out]
              rfl
end Go.Proofs.YbulkakkaFmt

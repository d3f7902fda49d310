/-
  'settle': its loop.
-/
import Derived.Test.YbulkakyoSettle
namespace Go.Proofs.Ybulkakyo
open Go.RowKit Go.Conc

theorem settle_old (N k : Nat) (waits ts t st rc s : Int) (v : Value) (w : World) (h : St w N waits v k t st rc s) (hle : ts ≤ s) :
    Calls Yba.prog 7 #[.pointer (some ⟨N + 1, 0, none⟩), .int .u64 ts] w fun e w' => e = .returned (.tuple #[]) ∧ w' = w := by
  have he := ne_none
  have HS : Hid (St w N waits v k t st rc s) := h
  go_enter Yba.func7, Yba.ntmps7
  go_wp2_with (go_at_call 20; refine (once_old N k waits ts t st rc s v _ HS.out hle).mono ?_; rintro e w' ⟨rfl, hw⟩; rw [hw]; clear hw)
  go_loop [4] (fun v4 => v4 = .chan none) (fun _ => 0)
  case atStart => rfl
  case round =>
    subst hrel
    go_wp2
    go_end0
    exact ⟨rfl, rfl⟩

/-- At the loop's head. -/
def Head (w : World) (N : Nat) (waits ts s : Int) (g : Nat) (v4 : Value) (wr : World) : Prop :=
  ∃ (k : Nat) (v : Value), Below N w wr ∧ k ≤ 100 ∧
    ((∃ c, v4 = .chan (some c) ∧ (k : Int) ≤ waits ∧ g = waits.toNat + 1 - k ∧ N + 2 ≤ c ∧ wr.heap[c]? = some (.chan 0 #[] true 0 0 false) ∧ St wr N waits v k ts 1 (-1073741824) s) ∨
      (v4 = .chan none ∧ g = 0 ∧ (k : Int) = waits + 1 ∧ St wr N waits v k ts 1 (-1073741824) ts))

theorem head_of_once {w wr w2 : World} {N k : Nat} {waits ts s : Int} {e : Ending} (hb : Below N w wr) (hk : (k : Int) ≤ waits) (hw : waits ≤ 8) (h : Once wr N waits k ts 1 (-1073741824) s e w2) :
    ∃ v4 g, e = .returned v4 ∧ Head w N waits ts s g v4 w2 ∧ g < waits.toNat + 1 - k := by
  obtain ⟨v', hb2, ⟨hle, hq, c, rfl, hc, hch⟩ | ⟨hgt, hq, rfl⟩⟩ := h
  · exact ⟨_, waits.toNat + 1 - (k + 1), rfl, ⟨k + 1, v', hb.trans hb2, by omega, .inl ⟨c, rfl, by omega, rfl, hc, hch, hq⟩⟩, by omega⟩
  · exact ⟨_, 0, rfl, ⟨k + 1, v', hb.trans hb2, by omega, .inr ⟨rfl, rfl, by omega, hq⟩⟩, by omega⟩

set_option maxRecDepth 100000 in
set_option maxHeartbeats 1600000 in
theorem settle_new (N : Nat) (waits ts s : Int) (v : Value) (w : World) (h : St w N waits v 0 ts 1 (-1073741824) s) (hlt : s < ts) (hw0 : 0 ≤ waits) (hw8 : waits ≤ 8) :
    Calls Yba.prog 7 #[.pointer (some ⟨N + 1, 0, none⟩), .int .u64 ts] w fun e w' => e = .returned (.tuple #[]) ∧ ∃ (k : Nat) (v' : Value), (k : Int) = waits + 1 ∧ k ≤ 100 ∧ St w' N waits v' k ts 1 (-1073741824) ts ∧ Below N w w' := by
  have HS : Hid (St w N waits v 0 ts 1 (-1073741824) s) := h
  go_enter Yba.func7, Yba.ntmps7
  go_wp2_with fail
  refine (once_new N 0 waits ts 1 (-1073741824) s v _ HS.out (by omega) hlt).mono ?_
  rintro e w1 ho
  obtain ⟨v4, g0, rfl, hH, hg0⟩ := head_of_once (Below.refl N w) (by simpa using hw0) hw8 ho
  have HH : Hid (Head w N waits ts s g0 v4 w1) := hH
  clear hH ho
  go_wp2
  go_loopg [4] g0 (fun g v4 wr => Head w N waits ts s g v4 wr)
  case atStart => exact HH.out
  case round =>
    obtain ⟨k, v', hb, hk, ⟨c, rfl, hkw, rfl, hc, hch, hq⟩ | ⟨rfl, rfl, hkw, hq⟩⟩ := hrel
    · have he := ne_some c
      have HQ : Hid (St wr N waits v' k ts 1 (-1073741824) s) := hq
      have hcc : (((wr.setCell ⟨N + 1, 12, none⟩ (.int .i32 0)).setCell ⟨N + 1, 8, none⟩ (.int .i32 0))).heap[c]? = some (.chan 0 #[] true 0 0 false) := by
        rw [heap_set_other (by omega), heap_set_other (by omega)]; exact hch
      clear hq hch
      go_wp2_with fail
      refine (unlock_st N k waits ts s v' _ HQ.out).mono ?_
      rintro e w2 ⟨rfl, hw⟩
      rw [hw]
      clear hw
      dsimp only
      rename_i K1 aK1 K aK
      refine aK _ _ ?_
      show K1 _ _
      refine aK1 _ _ ?_
      refine wp_seq_k fun K2 aK2 => ?_
      refine wp_recv (c := c) rfl (by simp) hcc ?_
      show K2 _ _
      refine aK2 _ _ ?_
      clear aK2 aK aK1
      simp only [Act.put, List.setIfInBounds_toArray, List.set]
      have HU : Hid (St ((wr.setCell ⟨N + 1, 12, none⟩ (.int .i32 0)).setCell ⟨N + 1, 8, none⟩ (.int .i32 0)) N waits v' k ts 0 0 s) := HQ.out.unlocked
      have hb2 : Below N w ((wr.setCell ⟨N + 1, 12, none⟩ (.int .i32 0)).setCell ⟨N + 1, 8, none⟩ (.int .i32 0)) := below_two hb (by omega) _ _
      clear hcc HQ hb
      generalize (wr.setCell ⟨N + 1, 12, none⟩ (.int .i32 0)).setCell ⟨N + 1, 8, none⟩ (.int .i32 0) = wu at *
      go_wp2_with fail
      refine (lock_st N k waits ts s v' _ HU.out).mono ?_
      rintro e w3 ⟨rfl, hw⟩
      have HL : Hid (St w3 N waits v' k ts 1 (-1073741824) s) := by rw [hw]; exact HU.out.locked
      have hb3 : Below N w w3 := by rw [hw]; exact below_two hb2 (by omega) _ _
      clear hw HU hb2
      go_wp2_with fail
      refine (once_new N k waits ts 1 (-1073741824) s v' _ HL.out hk hlt).mono ?_
      rintro e w4 ho
      obtain ⟨v5, g5, rfl, hH5, hg5⟩ := head_of_once hb3 hkw hw8 ho
      have HH5 : Hid (Head w N waits ts s g5 v5 w4) := hH5
      clear hH5 ho HL hb3
      go_wp2_with fail
      go_roundg g5
      case measure => exact hg5
      case rel => exact HH5.out
    · have he := ne_none
      go_wp2
      go_end0
      exact ⟨rfl, k, v', hkw, hk, hq, hb⟩
end Go.Proofs.Ybulkakyo

/-
  'settleOnce' and 'settle': contracts.
-/
import Derived.Test.YbulkakyoProto
import Derived.Deep.LoopGhost
namespace Go.Proofs.Ybulkakyo
open Go.RowKit Go.Conc

theorem once_old (N k : Nat) (waits ts t st rc s : Int) (v : Value) (w : World) (h : St w N waits v k t st rc s) (hle : ts ≤ s) :
    Calls Yba.prog 20 #[.pointer (some ⟨N + 1, 0, none⟩), .int .u64 ts] w fun e w' => e = .returned (.chan none) ∧ w' = w := by
  have c19 := h.c19
  go_enter Yba.func20, Yba.ntmps20
  go_wp2_with (go_at_call 10; refine (load_any _ _ _ c19).mono ?_; rintro e w' ⟨rfl, hw⟩; rw [hw]; clear hw)
  go_ret
  exact ⟨rfl, rfl⟩

theorem eq_some (c : Nat) (w : World) : (binOp .eql 97 (.chan (some c)) (.chan none)).run Yba.prog w = .ok (.bool false) w := by kernel_rfl
theorem eq_none (w : World) : (binOp .eql 97 (.chan none) (.chan none)).run Yba.prog w = .ok (.bool true) w := by kernel_rfl
theorem ne_some (c : Nat) (w : World) : (binOp .neq 97 (.chan (some c)) (.chan none)).run Yba.prog w = .ok (.bool true) w := by kernel_rfl
theorem ne_none (w : World) : (binOp .neq 97 (.chan none) (.chan none)).run Yba.prog w = .ok (.bool false) w := by kernel_rfl

/-- What 'settleOnce' leaves where ts is not yet settled. -/
def Once (w : World) (N : Nat) (waits : Int) (k : Nat) (ts st rc s : Int) (e : Ending) (w' : World) : Prop :=
  ∃ v', Below N w w' ∧
    (((k : Int) + 1 ≤ waits ∧ St w' N waits v' (k + 1) ts st rc s ∧ ∃ c, e = .returned (.chan (some c)) ∧ N + 2 ≤ c ∧ w'.heap[c]? = some (.chan 0 #[] true 0 0 false)) ∨
      (waits < (k : Int) + 1 ∧ St w' N waits v' (k + 1) ts st rc ts ∧ e = .returned (.chan none)))

set_option maxRecDepth 100000 in
theorem once_new (N k : Nat) (waits ts st rc s : Int) (v : Value) (w : World) (h : St w N waits v k ts st rc s) (hk : k ≤ 100) (hlt : s < ts) :
    Calls Yba.prog 20 #[.pointer (some ⟨N + 1, 0, none⟩), .int .u64 ts] w (Once w N waits k ts st rc s) := by
  have HS : Hid (St w N waits v k ts st rc s) := h
  have c19 := h.c19
  have c14 := h.c14
  have hm : ∀ (x : Value) (w : World), (method 338 23 x "example.com/palimpsest/palimpsest.settle").run Yba.prog w = .ok (61, x) w := fun x w => by kernel_rfl
  go_enter Yba.func20, Yba.ntmps20
  go_wp2_with (go_at_call 10; refine (load_any _ _ _ c19).mono ?_; rintro e w' ⟨rfl, hw⟩; rw [hw]; clear hw)
  refine (proto_settle N k waits ts st rc s v _ HS.out hk).mono ?_
  rintro e w2 ⟨v', hq, hb, hP⟩
  rcases hP with ⟨hle, c, rfl, hc, hch⟩ | ⟨hgt, rfl⟩
  · have he := eq_some c
    go_wp2
    go_ret
    exact ⟨v', hb, .inl ⟨hle, hq, c, rfl, hc, hch⟩⟩
  · have he := eq_none
    have d19 := hq.c19
    have f19 := hq.fd 19
    have HQ : Hid (St w2 N waits v' (k + 1) ts st rc s) := hq
    clear hq
    go_wp2_with (go_at_call 5; refine (store_any _ ts _ _ d19 f19).mono ?_; rintro e w3 ⟨rfl, hw⟩; rw [hw]; clear hw)
    go_ret
    exact ⟨v', hb.setCell (by show N ≤ N + 1; omega) _, .inr ⟨hgt, HQ.out.settled ts, rfl⟩⟩

theorem St.unlocked {w : World} {N k : Nat} {waits ts s : Int} {v : Value} (h : St w N waits v k ts 1 (-1073741824) s) :
    St ((w.setCell ⟨N + 1, 12, none⟩ (.int .i32 0)).setCell ⟨N + 1, 8, none⟩ (.int .i32 0)) N waits v k ts 0 0 s := (h.setDb (st' := 1) (rc' := 0) (s' := s) rfl).setDb rfl
theorem St.locked {w : World} {N k : Nat} {waits ts s : Int} {v : Value} (h : St w N waits v k ts 0 0 s) :
    St ((w.setCell ⟨N + 1, 8, none⟩ (.int .i32 1)).setCell ⟨N + 1, 12, none⟩ (.int .i32 (-1073741824))) N waits v k ts 1 (-1073741824) s := (h.setDb (st' := 1) (rc' := 0) (s' := s) rfl).setDb rfl
theorem below_two {B : Nat} {a w : World} (h : Below B a w) {b i j : Nat} (hb : B ≤ b) (x y : Value) : Below B a ((w.setCell ⟨b, i, none⟩ x).setCell ⟨b, j, none⟩ y) := (h.setCell hb x).setCell hb y

/-- Unlock and Lock, in the law's memory. -/
theorem unlock_st (N k : Nat) (waits ts s : Int) (v : Value) (w : World) (h : St w N waits v k ts 1 (-1073741824) s) :
    Calls Yba.prog 9 #[.pointer (some ⟨N + 1, 8, none⟩)] w fun e w' => e = .returned (.tuple #[]) ∧ w' = (w.setCell ⟨N + 1, 12, none⟩ (.int .i32 0)).setCell ⟨N + 1, 8, none⟩ (.int .i32 0) :=
  RwLone.wunlock_held Yba.rwWLib (N + 1) 8 _ _ w h.c8 h.c10 h.c11 h.c12 (h.fd 8) (h.fd 12)
theorem lock_st (N k : Nat) (waits ts s : Int) (v : Value) (w : World) (h : St w N waits v k ts 0 0 s) :
    Calls Yba.prog 6 #[.pointer (some ⟨N + 1, 8, none⟩)] w fun e w' => e = .returned (.tuple #[]) ∧ w' = (w.setCell ⟨N + 1, 8, none⟩ (.int .i32 1)).setCell ⟨N + 1, 12, none⟩ (.int .i32 (-1073741824)) :=
  RwLone.wlock_free Yba.rwWLib (N + 1) 8 _ _ w h.c8 h.c10 h.c11 h.c12 (h.fd 8) (h.fd 12)
end Go.Proofs.Ybulkakyo

/-
  The texts that fmt is told to write on this road, their lengths, and the contract of 'quote'.
-/
import Derived.Test.YbulkakkaFmtFmt
import Derived.Test.YbulkakkaFmtNames
import Derived.WalkSpells
import Derived.Stop.Texts
import Derived.Stop.Told
import Derived.Stop.FmtTextKit
import Derived.Stop.FmtTextVerbs
import Derived.Stop.FmtQuoteTie
namespace Go.Proofs.YbulkakkaFmt
open Go.RowKit Go.Kit Go.Extern.Stop Go.Stop Go.Extern
attribute [local go_sem] Ybaf.call13 Ybaf.guard Ybaf.fmt0 Ybaf.fmt0r Ybaf.op9_113

/-- A told text's bytes are as many as the text. -/
theorem told_size (F : Interp) {name : String} {reading : List (List UInt8)} {s : List UInt8} (h : FmtText.text name reading = some s) {m : Nat} (hm : s.length ≤ m) (hl : m < 2 ^ 63) :
    (FmtStop.textOf (F.told name reading 0)).size ≤ m := by
  have e : (FmtStop.textOf (F.told name reading 0)).data.toList = s := (textOf_list _ _ _).trans (told_string F h (by omega))
  have : (FmtStop.textOf (F.told name reading 0)).size = s.length := by rw [← e]; rfl
  omega

def rdQ (s : List UInt8) : List (List UInt8) := [[37, 113], Ybaf.shape9, FmtStop.pack s]
theorem text_q (s : List UInt8) (hs : s.length < 2 ^ 64) : FmtText.text "fmt.Sprintf" (rdQ s) = some (FmtText.quote false s) := by
  have hp : (FmtText.parse [37, 113]).map FmtText.glue = some [.verb {} 113] := by rfl
  rw [rdQ, FmtText.text_sprintf_glued hp (FmtText.operands_cons (FmtText.operand_str_at (sh := Ybaf.shape9) rfl rfl s hs) FmtText.operands_nil)]
  simp [FmtText.render, FmtText.printArg_q_str]

/-- quote, at a text of at most 65 bytes. -/
theorem quote_any (F : Interp) (s : ByteArray) (w : World) (hF : F.told.answers w.tape) (hs : s.size ≤ 65) :
    Calls Ybaf.prog 19 #[.string s, .int .i64 200] w fun e w' => ∃ t : ByteArray, e = .returned (.string t) ∧ t.size ≤ 700 ∧ Below w.heap.size w w' := by
  have hF' := answers_open hF
  have hl : s.data.toList.length = s.size := rfl
  have HT : Hid ((FmtStop.textOf (F.told "fmt.Sprintf" (rdQ s.data.toList) 0)).size ≤ 700) :=
    told_size F (text_q _ (by omega)) (Nat.le_trans (FmtText.quote_length_le _) (by omega)) (by omega)
  clear hl
  go_enter Ybaf.func19, Ybaf.ntmps19
  go_wp2
  go_ret
  exact ⟨_, rfl, HT.out, ((Below.refl _ _).alloc (Nat.le_refl _) _).drew⟩

/-! the other texts: what fmt is asked, and how long the answer is at the most -/
theorem i64wf (i : Int) (h0 : 0 ≤ i) (h1 : i ≤ 100000) : (Lit.int .i64 i).wf = true := WalkArith.wf_i64 (by omega)
/-- types, a number, name -/
def rdTN (i : Int) : List (List UInt8) := [[116, 121, 112, 101, 115, 91, 37, 100, 93, 46, 110, 97, 109, 101], Ybaf.shape3, digits 8 (i % 18446744073709551616).toNat]
theorem size_tn (F : Interp) (i : Int) (h0 : 0 ≤ i) (h1 : i ≤ 100000) : (FmtStop.textOf (F.told "fmt.Sprintf" (rdTN i) 0)).size ≤ 100 := by
  have hw := i64wf i h0 h1
  have hp : (FmtText.parse [116, 121, 112, 101, 115, 91, 37, 100, 93, 46, 110, 97, 109, 101]).map FmtText.glue = some [.lit [116, 121, 112, 101, 115, 91], .verb {} 100, .lit [93, 46, 110, 97, 109, 101]] := by rfl
  have hi := FmtText.itoa_length_le hw
  have ht : FmtText.text "fmt.Sprintf" (rdTN i) = some ([116, 121, 112, 101, 115, 91] ++ (Lib.itoa i ++ [93, 46, 110, 97, 109, 101])) := by
    rw [rdTN, FmtText.text_sprintf_glued hp (FmtText.operands_cons (FmtText.operand_int_at (sh := Ybaf.shape3) (k := .i64) rfl rfl i hw) FmtText.operands_nil)]
    simp [FmtText.render, FmtText.printArg_d _ _ hw]
  exact told_size F ht (by simp; omega) (by omega)
/-- types, a number, actions -/
def rdTA (i : Int) : List (List UInt8) := [[116, 121, 112, 101, 115, 91, 37, 100, 93, 46, 97, 99, 116, 105, 111, 110, 115], Ybaf.shape3, digits 8 (i % 18446744073709551616).toNat]
theorem size_ta (F : Interp) (i : Int) (h0 : 0 ≤ i) (h1 : i ≤ 100000) : (FmtStop.textOf (F.told "fmt.Sprintf" (rdTA i) 0)).size ≤ 100 := by
  have hw := i64wf i h0 h1
  have hp : (FmtText.parse [116, 121, 112, 101, 115, 91, 37, 100, 93, 46, 97, 99, 116, 105, 111, 110, 115]).map FmtText.glue = some [.lit [116, 121, 112, 101, 115, 91], .verb {} 100, .lit [93, 46, 97, 99, 116, 105, 111, 110, 115]] := by rfl
  have hi := FmtText.itoa_length_le hw
  have ht : FmtText.text "fmt.Sprintf" (rdTA i) = some ([116, 121, 112, 101, 115, 91] ++ (Lib.itoa i ++ [93, 46, 97, 99, 116, 105, 111, 110, 115])) := by
    rw [rdTA, FmtText.text_sprintf_glued hp (FmtText.operands_cons (FmtText.operand_int_at (sh := Ybaf.shape3) (k := .i64) rfl rfl i hw) FmtText.operands_nil)]
    simp [FmtText.render, FmtText.printArg_d _ _ hw]
  exact told_size F ht (by simp; omega) (by omega)
/-- a path, a number, name -/
def rdSN (s : List UInt8) (i : Int) : List (List UInt8) := [[37, 115, 91, 37, 100, 93, 46, 110, 97, 109, 101], Ybaf.shape9, FmtStop.pack s, Ybaf.shape3, digits 8 (i % 18446744073709551616).toNat]
theorem size_sn (F : Interp) (s : List UInt8) (i : Int) (hs : s.length ≤ 100) (h0 : 0 ≤ i) (h1 : i ≤ 100000) : (FmtStop.textOf (F.told "fmt.Sprintf" (rdSN s i) 0)).size ≤ 200 := by
  have hw := i64wf i h0 h1
  have hp : (FmtText.parse [37, 115, 91, 37, 100, 93, 46, 110, 97, 109, 101]).map FmtText.glue = some [.verb {} 115, .lit [91], .verb {} 100, .lit [93, 46, 110, 97, 109, 101]] := by rfl
  have hi := FmtText.itoa_length_le hw
  have ht : FmtText.text "fmt.Sprintf" (rdSN s i) = some (s ++ ([91] ++ (Lib.itoa i ++ [93, 46, 110, 97, 109, 101]))) := by
    rw [rdSN, FmtText.text_sprintf_glued hp (FmtText.operands_cons (FmtText.operand_str_at (sh := Ybaf.shape9) rfl rfl s (by omega)) (FmtText.operands_cons (FmtText.operand_int_at (sh := Ybaf.shape3) (k := .i64) rfl rfl i hw) FmtText.operands_nil))]
    simp [FmtText.render, FmtText.printArg_d _ _ hw, FmtText.printArg_s_str]
  exact told_size F ht (by simp; omega) (by omega)
/-- a quoted name is not a name, the rule -/
def ruleText : List UInt8 := [91, 97, 45, 122, 93, 91, 97, 45, 122, 48, 45, 57, 95, 93, 42, 44, 32, 97, 116, 32, 109, 111, 115, 116, 32, 54, 52, 32, 98, 121, 116, 101, 115]
def rdNot (s : List UInt8) : List (List UInt8) := [[37, 115, 32, 105, 115, 32, 110, 111, 116, 32, 97, 32, 110, 97, 109, 101, 32, 40, 37, 115, 41], Ybaf.shape9, FmtStop.pack s, Ybaf.shape9, FmtStop.pack ruleText]
theorem size_not (F : Interp) (s : List UInt8) (hs : s.length ≤ 700) : (FmtStop.textOf (F.told "fmt.errorf" (rdNot s) 0)).size ≤ 1000 := by
  have hp : (FmtText.parse [37, 115, 32, 105, 115, 32, 110, 111, 116, 32, 97, 32, 110, 97, 109, 101, 32, 40, 37, 115, 41]).map FmtText.glue = some [.verb {} 115, .lit [32, 105, 115, 32, 110, 111, 116, 32, 97, 32, 110, 97, 109, 101, 32, 40], .verb {} 115, .lit [41]] := by rfl
  have ht : FmtText.text "fmt.errorf" (rdNot s) = some (s ++ ([32, 105, 115, 32, 110, 111, 116, 32, 97, 32, 110, 97, 109, 101, 32, 40] ++ (ruleText ++ [41]))) := by
    rw [rdNot, FmtText.text_errorf_glued hp (FmtText.operands_cons (FmtText.operand_str_at (sh := Ybaf.shape9) rfl rfl s (by omega)) (FmtText.operands_cons (FmtText.operand_str_at (sh := Ybaf.shape9) rfl rfl ruleText (by decide)) FmtText.operands_nil))]
    simp [FmtText.render, FmtText.printArg_s_str]
  exact told_size F ht (by simp [ruleText]; omega) (by omega)
/-- a quoted name is taken by a path, a number -/
def rdTaken (s p : List UInt8) (i : Int) : List (List UInt8) := [[37, 115, 32, 105, 115, 32, 116, 97, 107, 101, 110, 32, 98, 121, 32, 37, 115, 91, 37, 100, 93], Ybaf.shape9, FmtStop.pack s, Ybaf.shape9, FmtStop.pack p, Ybaf.shape3, digits 8 (i % 18446744073709551616).toNat]
theorem size_taken (F : Interp) (s p : List UInt8) (i : Int) (hs : s.length ≤ 700) (hpl : p.length ≤ 100) (hw : (Lit.int .i64 i).wf = true) : (FmtStop.textOf (F.told "fmt.errorf" (rdTaken s p i) 0)).size ≤ 1000 := by
  have hp : (FmtText.parse [37, 115, 32, 105, 115, 32, 116, 97, 107, 101, 110, 32, 98, 121, 32, 37, 115, 91, 37, 100, 93]).map FmtText.glue = some [.verb {} 115, .lit [32, 105, 115, 32, 116, 97, 107, 101, 110, 32, 98, 121, 32], .verb {} 115, .lit [91], .verb {} 100, .lit [93]] := by rfl
  have hi := FmtText.itoa_length_le hw
  have ht : FmtText.text "fmt.errorf" (rdTaken s p i) = some (s ++ ([32, 105, 115, 32, 116, 97, 107, 101, 110, 32, 98, 121, 32] ++ (p ++ ([91] ++ (Lib.itoa i ++ [93]))))) := by
    rw [rdTaken, FmtText.text_errorf_glued hp (FmtText.operands_cons (FmtText.operand_str_at (sh := Ybaf.shape9) rfl rfl s (by omega)) (FmtText.operands_cons (FmtText.operand_str_at (sh := Ybaf.shape9) rfl rfl p (by omega)) (FmtText.operands_cons (FmtText.operand_int_at (sh := Ybaf.shape3) (k := .i64) rfl rfl i hw) FmtText.operands_nil)))]
    simp [FmtText.render, FmtText.printArg_d _ _ hw, FmtText.printArg_s_str]
  exact told_size F ht (by simp; omega) (by omega)

/-! the same where the number is a place: as the walk spells it -/
theorem nat_digits (k : Nat) : ((k : Int) % 18446744073709551616).toNat = k % 18446744073709551616 := by omega
def rdTNn (k : Nat) : List (List UInt8) := [[116, 121, 112, 101, 115, 91, 37, 100, 93, 46, 110, 97, 109, 101], Ybaf.shape3, digits 8 (k % 18446744073709551616)]
theorem size_tnn (F : Interp) (k : Nat) (h : k ≤ 100000) : (FmtStop.textOf (F.told "fmt.Sprintf" (rdTNn k) 0)).size ≤ 200 := by
  have e : rdTNn k = rdTN k := by rw [rdTNn, rdTN, nat_digits]
  rw [e]; exact Nat.le_trans (size_tn F k (by omega) (by omega)) (by decide)
def rdTAn (k : Nat) : List (List UInt8) := [[116, 121, 112, 101, 115, 91, 37, 100, 93, 46, 97, 99, 116, 105, 111, 110, 115], Ybaf.shape3, digits 8 (k % 18446744073709551616)]
theorem size_tan (F : Interp) (k : Nat) (h : k ≤ 100000) : (FmtStop.textOf (F.told "fmt.Sprintf" (rdTAn k) 0)).size ≤ 100 := by
  have e : rdTAn k = rdTA k := by rw [rdTAn, rdTA, nat_digits]
  rw [e]; exact size_ta F k (by omega) (by omega)
def rdSNn (s : List UInt8) (k : Nat) : List (List UInt8) := [[37, 115, 91, 37, 100, 93, 46, 110, 97, 109, 101], Ybaf.shape9, FmtStop.pack s, Ybaf.shape3, digits 8 (k % 18446744073709551616)]
theorem size_snn (F : Interp) (s : List UInt8) (k : Nat) (hs : s.length ≤ 100) (h : k ≤ 100000) : (FmtStop.textOf (F.told "fmt.Sprintf" (rdSNn s k) 0)).size ≤ 200 := by
  have e : rdSNn s k = rdSN s k := by rw [rdSNn, rdSN, nat_digits]
  rw [e]; exact size_sn F s k hs (by omega) (by omega)
end Go.Proofs.YbulkakkaFmt

/-
  THE PLAIN LAW: each of the 73 words is the text of just one of the 84 tokens (tokens 0 to 83); token 83, and no token before it, reads 'yield'. No program in sight: lists of bytes alone. The tokens' texts are taken out of the given datum; the words are typed here.
-/
import Derived.Test.YthdeffbhpdcifaaDoorRows
import Derived.Laws.Strings
namespace Go.Proofs.YthdeffbhpdcifaaDoor
open Go

/-- The given datum of the token table. -/
def tabD {H : Type} : DataW H := Rows.laid_loop_example_pub_g03331_pub_starlark_syntax_tokenNames

def bytesOf : DataW Unit → List UInt8
  | .lit (.string b) => b
  | _ => []
def partsOf : DataW Unit → List (DataW Unit)
  | .agg ps => ps
  | _ => []

/-- The texts of the tokens, off the datum. -/
def toks : List (List UInt8) := (partsOf tabD).map bytesOf
def tok (k : Nat) : ByteArray := { data := (toks.getD k []).toArray }

def langWords : List (List UInt8) := [[97, 110, 100], [98, 114, 101, 97, 107], [99, 111, 110, 116, 105, 110, 117, 101], [100, 101, 102], [101, 108, 105, 102], [101, 108, 115, 101], [102, 111, 114], [105, 102], [105, 110], [108, 97, 109, 98, 100, 97], [108, 111, 97, 100], [110, 111, 116], [111, 114], [112, 97, 115, 115], [114, 101, 116, 117, 114, 110], [119, 104, 105, 108, 101], [97, 115], [97, 115, 121, 110, 99], [97, 119, 97, 105, 116], [99, 108, 97, 115, 115], [100, 101, 108], [101, 120, 99, 101, 112, 116], [102, 105, 110, 97, 108, 108, 121], [102, 114, 111, 109], [103, 108, 111, 98, 97, 108], [105, 109, 112, 111, 114, 116], [105, 115], [110, 111, 110, 108, 111, 99, 97, 108], [114, 97, 105, 115, 101], [116, 114, 121], [119, 105, 116, 104], [121, 105, 101, 108, 100]]
def signWords : List (List UInt8) := [[43], [45], [42], [47], [47, 47], [37], [38], [124], [94], [60, 60], [62, 62], [126], [46], [44], [61], [59], [58], [40], [41], [91], [93], [123], [125], [60], [62], [62, 61], [60, 61], [61, 61], [33, 61], [43, 61], [45, 61], [42, 61], [47, 61], [47, 47, 61], [37, 61], [38, 61], [124, 61], [94, 61], [60, 60, 61], [62, 62, 61], [42, 42]]
def word (j : Nat) : ByteArray := { data := ((langWords ++ signWords).getD j []).toArray }

theorem tab_toks {H : Type} : (tabD : DataW H) = .agg (toks.map fun b => .lit (.string b)) := rfl
theorem toks_length : toks.length = 84 := by decide +kernel
theorem words_length : (langWords ++ signWords).length = 73 := by decide +kernel

/-- How many of the first k tokens read as s. -/
def cnt (s : ByteArray) : Nat → Nat
  | 0 => 0
  | k + 1 => cnt s k + if (tok k).toList == s.toList then 1 else 0

theorem cnt_le (s : ByteArray) : ∀ k, cnt s k ≤ k
  | 0 => Nat.le_refl _
  | k + 1 => by have := cnt_le s k; unfold cnt; split <;> omega
theorem cnt_yes {s : ByteArray} {k : Nat} (h : ((tok k).toList == s.toList) = true) : cnt s (k + 1) = cnt s k + 1 := by
  rw [cnt, if_pos h]
theorem cnt_no {s : ByteArray} {k : Nat} (h : ((tok k).toList == s.toList) = false) : cnt s (k + 1) = cnt s k := by
  rw [cnt, if_neg (by rw [h]; decide), Nat.add_zero]

theorem toList_mk (l : List UInt8) : (ByteArray.mk l.toArray).toList = l := ByteArray.toList_mk l

theorem tok_yield : ((tok 83).toList == [121, 105, 101, 108, 100]) = true := by
  unfold tok; rw [toList_mk]; decide +kernel
theorem tok_before (k : Nat) (h : k < 83) : ((tok k).toList == [121, 105, 101, 108, 100]) = false := by
  unfold tok; rw [toList_mk]
  revert k; decide +kernel

def cntL (l : List UInt8) : Nat → Nat
  | 0 => 0
  | k + 1 => cntL l k + if toks.getD k [] == l then 1 else 0
theorem cnt_cntL (l : List UInt8) : ∀ k, cnt { data := l.toArray } k = cntL l k
  | 0 => rfl
  | k + 1 => by unfold cnt cntL; rw [cnt_cntL l k]; unfold tok; rw [toList_mk, toList_mk]

theorem one_each : ∀ l ∈ langWords ++ signWords, cntL l 84 = 1 := by decide +kernel

/-- THE PLAIN LAW. -/
theorem cnt_word (j : Nat) (h : j < 73) : cnt (word j) 84 = 1 := by
  unfold word
  rw [cnt_cntL]
  have hj : j < (langWords ++ signWords).length := by rw [words_length]; exact h
  rw [List.getD_eq_getElem?_getD, List.getElem?_eq_getElem hj]
  exact one_each _ (List.getElem_mem hj)

end Go.Proofs.YthdeffbhpdcifaaDoor

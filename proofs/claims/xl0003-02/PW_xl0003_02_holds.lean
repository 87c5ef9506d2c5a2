import PyProof.Rows.All
import Wide.All
import OpenK.AllK
import Wide.FinOn
import PyProof.StationsW
import KE.KFromBytes
import KE.KNestM
import KE.KSortTup
import KE.KSuper
import PySem.Challenge.RW_xl0003_02
open PySem PySem.W PyProof.Rows
set_option Elab.async false
set_option linter.unusedVariables false
namespace Mine
-- Just the name hd2.heap_39 (the part of the heap that the head writes out) is wanted here; the head itself runs in the last proof.
-- So the head of this small theorem is cut short: its goal stands behind False, nothing of it is used, and what is stated is True.
section
local macro_rules | `(tactic| o_head $_) => `(tactic| (exfalso; assumption))
set_option maxRecDepth 100000 in
set_option maxHeartbeats 8000000 in
theorem hd2 : True := (trivial : (fun (_ : False → PySem.Challenge.rw_xl0003_02.Holds) => True) (by intro hf; w_on; o_law; k_head))
end
section
set_option autoImplicit false
theorem ar1 {a : Nat} {b : Nat} {c : Nat} (h1 : a < c) (h2 : c ≤ b) : a < b := Nat.lt_of_lt_of_le h1 h2
theorem ar2 {a : Nat} {b : Nat} {c : Nat} (h1 : c ≤ a) (h2 : ¬c < b) : ¬a < b := by lia
theorem ar3 {a : Nat} {b : Nat} (h1 : ¬b < a) : a ≤ b := Nat.le_of_not_lt h1
theorem ar4 {a : Nat} {b : Nat} {c : Nat} (h1 : c ≤ b) (h2 : ¬c < a) : a ≤ b := by lia
theorem ar5 {a : Nat} {b : Nat} (h1 : b ≤ a) : ¬a < b := Nat.not_lt.mpr h1
theorem ar6 {a : Nat} {b : Nat} {c : Nat} (h1 : a ≤ c) (h2 : c + 1 ≤ b) : a ≤ b := by lia
theorem ar7 {a : Nat} {b : Nat} {c : Nat} (h1 : b = 0) (h2 : c = 0) : a + (b + 0) = a + c := by lia
theorem ar8 {a : Nat} {b : Nat} (h1 : ¬b ≤ a) : a < b := Nat.lt_of_not_le h1
theorem ar9 {a : Nat} {b : Nat} {c : Nat} (h1 : a < c + 1) (h2 : ¬b ≤ c) : a < b := by lia
theorem ar10 {a : Nat} {b : Nat} (h1 : a + 1 ≤ b) : a ≤ b := Nat.le_of_succ_le h1
theorem ar11 {a : Nat} {b : Nat} (h1 : a < b + 1) : a ≤ b := Nat.le_of_lt_succ h1
theorem ar12 {a : Nat} {b : Nat} {c : Nat} (h1 : a < c + 1) (h2 : c + 1 ≤ b) : a ≤ b := by lia
theorem ar13 {a : Nat} : a ≤ a := Nat.le_refl a
theorem ar14 {a : Nat} {b : Nat} (h1 : b < a) : ¬a + 1 ≤ b := by lia
theorem ar15 {a : Nat} {b : Nat} (h1 : b < a) : ¬a ≤ b := Nat.not_le_of_lt h1
theorem ar16 {a : Nat} {b : Nat} (h1 : a < b) : ¬a = b := Nat.ne_of_lt h1
theorem ar17 {a : Nat} {b : Nat} {c : Nat} (h1 : c = a) (h2 : c ≤ b) : a ≤ b := le_of_eq_of_le (id (Eq.symm h1)) h2
theorem ar18 {a : Nat} {b : Nat} (h1 : b = a) : ¬a + 1 ≤ b := by lia
theorem ar19 {a : Nat} {b : Nat} (h1 : b = a) : a ≤ b := Nat.le_of_eq (id (Eq.symm h1))
theorem ar20 {a : Nat} {b : Nat} (h1 : a < b) : a + 1 ≤ b := Nat.succ_le_of_lt h1
theorem ar21 {a : Nat} {b : Nat} (h1 : b < a) : ¬a = b := Nat.ne_of_lt' h1
theorem ar22 {a : Nat} {b : Nat} : a + b = a + 0 + b := Nat.add_left_inj.mpr rfl
theorem ar23 {a : Nat} {b : Nat} {c : Nat} {d : Nat} {e : Nat} (h1 : c < b ∨ c = b ∧ d ≤ e) (h2 : ¬c < a) : a ≤ b := by lia
theorem ar24 {a : Nat} {b : Nat} (h1 : a < b) : a < b + 1 := Nat.lt_add_right 1 h1
theorem ar25 {a : Nat} {b : Nat} (h1 : b ≤ a) : a < b + 1 ↔ a = b := by lia
theorem ar26 {a : Nat} {b : Nat} {c : Nat} {d : Nat} {e : Nat} (h1 : c < d ∨ c = d ∧ a ≤ b) (h2 : c = e) (h3 : d = e) : a ≤ b := by lia
theorem ar27 {a : Nat} {b : Nat} {c : Nat} {d : Nat} : a = b ∧ c = d ↔ c = d ∧ a = b := And.comm
theorem ar28 {a : Nat} {b : Nat} {c : Nat} (h1 : a ≤ c ∧ c < b) : a ≤ a + b - 1 - c := by lia
theorem ar29 {a : Nat} {b : Nat} {c : Nat} (h1 : a ≤ c ∧ c < b) : a + b - 1 - c < b := by lia
theorem ar30 {a : Nat} {b : Nat} {c : Nat} (h1 : a ≤ b ∧ b < c) : a ≤ b := by lia
theorem ar31 {a : Nat} {b : Nat} {c : Nat} (h1 : c ≤ a ∧ a < b) : a < b := by lia
theorem ar32 {a : Nat} {b : Nat} (h1 : a - b > 0) : 1 ≤ a - b := Nat.one_le_of_lt h1
theorem ar33 {a : Nat} {b : Nat} (h1 : a ≤ b) (h2 : ¬a = b) : a ≤ b - 1 := by lia
theorem ar34 {a : Nat} (h1 : 1 ≤ a) : a - 1 < a := Nat.sub_one_lt_of_lt h1
theorem ar35 {a : Nat} {b : Nat} (h1 : a < b + 1) (h2 : ¬a = b) : a < b := by lia
theorem ar36 {a : Nat} {b : Nat} {c : Nat} (h1 : a ≤ c) (h2 : c < b) : a < b := Nat.lt_of_le_of_lt h1 h2
theorem ar37 {a : Nat} {b : Nat} {c : Nat} (h1 : c ≤ b) : 0 + a - 1 - b ≤ 0 + a - 1 - c := Nat.sub_le_sub_left h1 (0 + a - 1)
theorem ar38 {a : Nat} {b : Nat} {c : Nat} (h1 : c < a) : 0 + a - 1 - b < a := by lia
theorem ar39 {a : Nat} {b : Nat} : a ≤ a + (b + 1) := Nat.le_add_right a (b + 1)
theorem ar40 {a : Nat} : 1 ≤ a + 1 := Nat.le_add_left 1 a
theorem ar41 {a : Nat} {b : Nat} {c : Nat} (h1 : a ≤ b + 1 + c) : a ≤ b + (c + 1) := by lia
theorem ar42 {a : Nat} {b : Nat} {c : Nat} (h1 : a < b + (c + 1)) : a < b + 1 + c := by lia
theorem ar43 {a : Nat} {b : Nat} {c : Nat} (h1 : a + (c + 1) ≤ b) : a ≤ b := Nat.le_of_add_right_le h1
theorem ar44 {a : Nat} {b : Nat} (h1 : a < b) : a ≤ b := Nat.le_of_succ_le h1
theorem ar45 {a : Nat} {b : Nat} {c : Nat} (h1 : a + (b + 1) ≤ c) : a + 1 + b ≤ c := by lia
theorem ar46 {a : Nat} : 0 + 1 ≤ a + 1 := Nat.le_add_left (0 + 1) a
theorem ar47 {a : Nat} {b : Nat} (h1 : a < b + 1) (h2 : b + 1 - (0 + 1) ≤ a) : a = b + 1 - 1 := Nat.eq_of_le_of_lt_succ h2 h1
theorem ar48 {a : Nat} {b : Nat} (h1 : ¬a < b) (h2 : ¬b < a) : a = b := by lia
theorem ar49 {a : Nat} {b : Nat} (h1 : a + 1 ≤ b) : a + 1 + 1 ≤ b + 1 := Nat.add_le_add_right h1 1
theorem ar50 {a : Nat} : a + 1 - 1 = a := Nat.add_sub_self_right a 1
theorem ar51 {a : Nat} {b : Nat} {c : Nat} (h1 : a + 1 - (b + 1 + 1) ≤ c) : a - (b + 1) ≤ c := by lia
theorem ar52 {a : Nat} {b : Nat} {c : Nat} (h1 : a ≤ c) (h2 : c ≤ b) : a ≤ b := Nat.le_trans h1 h2
theorem ar53 {a : Nat} {b : Nat} (h1 : 1 ≤ b) (h2 : b ≤ a) : 1 ≤ a := Nat.le_trans h1 h2
theorem ar54 {a : Nat} {b : Nat} {c : Nat} (h1 : a ≤ c + (b - c)) (h2 : c ≤ b) : a ≤ b := by lia
theorem ar55 {a : Nat} {b : Nat} {c : Nat} (h1 : a + 1 ≤ b) (h2 : b ≤ c) : a + 1 + (b - (a + 1)) ≤ c := by lia
theorem ar56 {a : Nat} {b : Nat} {c : Nat} {d : Nat} {e : Nat} (h1 : a ≤ c + 1 + (d - (c + 1))) (h2 : b = e) (h3 : c + 1 ≤ d) (h4 : d ≤ e) : a ≤ b := by lia
theorem ar57 {a : Nat} {b : Nat} (h1 : b + 1 ≤ a) : 1 ≤ a := Nat.one_le_of_lt h1
theorem ar58 {a : Nat} {b : Nat} {c : Nat} (h1 : a ≤ c + 1 + (b - (c + 1))) (h2 : c + 1 ≤ b) : a ≤ b := by lia
theorem ar59 {a : Nat} {b : Nat} {c : Nat} {d : Nat} (h1 : a ≤ c) (h2 : b = d) (h3 : d = c) : a ≤ b := by lia
theorem ar60 {a : Nat} {b : Nat} {c : Nat} (h1 : a ≤ c) (h2 : b = c) : a ≤ b := le_of_le_of_eq h1 (id (Eq.symm h2))
theorem ar61 {a : Nat} {b : Nat} (h1 : a ≤ b) (h2 : b < 1) : a = b := by lia
theorem ar62 {a : Nat} {b : Nat} (h1 : 1 ≤ b) (h2 : a ≤ 1 + (b - 1)) : a ≤ b := by lia
theorem ar63 {a : Nat} {b : Nat} (h1 : 1 ≤ b) (h2 : a ≠ b) (h3 : a ≤ 1 + (b - 1)) : a < 1 + (b - 1) := by lia
theorem ar64 {a : Nat} {b : Nat} (h1 : a < b) : a ≤ b - 1 := Nat.le_sub_one_of_lt h1
theorem ar65 {a : Nat} (h1 : a > 1) : a - 1 < a := Nat.sub_one_lt_of_lt h1
theorem ar66 {a : Nat} {b : Nat} {c : Nat} (h1 : a ≤ b) (h2 : b ≤ c) (h3 : c ≤ a) : a = b := by lia
theorem ar67 {a : Nat} {b : Nat} {c : Nat} (h1 : 1 ≤ c) (h2 : a ≤ 1 + (c - 1)) (h3 : c ≤ b) : a ≤ b := by lia
theorem ar68 {a : Nat} {b : Nat} (h1 : 1 ≤ b) (h2 : a ≠ b) (h3 : a ≤ 1 + (b - 1)) : a + 1 ≤ b := by lia
theorem ar69 {a : Nat} (h1 : 1 ≤ a) (h2 : ¬a > 1) : a = 1 := by lia
theorem ar70 {a : Nat} (h1 : 1 ≠ a) (h2 : 1 ≤ a) : 1 + 1 ≤ a := by lia
theorem ar71 {a : Nat} {b : Nat} {c : Nat} (h1 : a - c ≤ 0) (h2 : c ≤ b) : a ≤ b := by lia
theorem ar72 {a : Nat} {b : Nat} {c : Nat} (h1 : c ≤ b) (h2 : c ≥ a) : a ≤ b := Nat.le_trans h2 h1
theorem ar73 {a : Nat} {b : Nat} (h1 : ¬a ≥ b) : a ≤ (a + b) / 2 ∧ (a + b) / 2 < b := by lia
theorem ar74 {a : Nat} {b : Nat} {c : Nat} (h1 : b - a ≤ c + 1) : (a + b) / 2 - a ≤ c := by lia
theorem ar75 {a : Nat} {b : Nat} (h1 : a ≤ (a + b) / 2 ∧ (a + b) / 2 < b) : a ≤ (a + b) / 2 := by lia
theorem ar76 {a : Nat} {b : Nat} {c : Nat} (h1 : a ≤ (a + b) / 2 ∧ (a + b) / 2 < b) (h2 : b ≤ c) : (a + b) / 2 ≤ c := by lia
theorem ar77 {a : Nat} {b : Nat} {c : Nat} (h1 : a - b ≤ c + 1) : a - ((b + a) / 2 + 1) ≤ c := by lia
theorem ar78 {a : Nat} {b : Nat} (h1 : a ≤ (a + b) / 2 ∧ (a + b) / 2 < b) : (a + b) / 2 + 1 ≤ b := by lia
theorem ar79 {a : Nat} {b : Nat} {c : Nat} (h1 : a < (b + c) / 2 + 1) : a ≤ (b + c) / 2 := Nat.le_of_lt_succ h1
theorem ar80 {a : Nat} {b : Nat} {c : Nat} (h1 : a ≤ (a + b) / 2 ∧ (a + b) / 2 < b) (h2 : b ≤ c) : (a + b) / 2 < c := by lia
theorem ar81 {a : Nat} : a - 0 ≤ a := Nat.sub_le a 0
theorem ar82 {a : Nat} {b : Nat} {c : Nat} (h1 : a + (c + 1) ≤ b) : a < b := Nat.lt_of_add_right_lt h1
theorem ar83 {a : Nat} {b : Nat} : a - b ≤ a := Nat.sub_le a b
theorem ar84 {a : Nat} {b : Nat} (h1 : b ≤ a) : a - (a - b) = b := Nat.sub_sub_self h1
theorem ar85 {a : Nat} {b : Nat} {c : Nat} {d : Nat} (h1 : a + (b + 1) ≤ d) (h2 : c = d) : a + 1 + b ≤ c := by lia
theorem ar86 {a : Nat} {b : Nat} {c : Nat} {d : Nat} (h1 : b < c + 1) (h2 : d = a) (h3 : d ≤ b) (h4 : ¬b = a) : a < b ∧ b ≤ c := by lia
theorem ar87 {a : Nat} {b : Nat} {c : Nat} (h1 : c = a) (h2 : c ≤ b) (h3 : ¬b = a) : a ≤ b - 1 := by lia
theorem ar88 {a : Nat} {b : Nat} {c : Nat} {d : Nat} {e : Nat} {f : Nat} {i : Nat} {j : Nat} {k : Nat} {l : Nat} (h1 : a + c = e + i + k) (h2 : b + d = f + j + l) : a + b + (c + d) = e + f + (i + j) + (k + l) := by lia
theorem ar89 {a : Nat} {b : Nat} {c : Nat} {d : Nat} (h1 : a < b + 1) (h2 : c = d) (h3 : c ≤ a) (h4 : ¬a = d) : a - 1 < b := by lia
theorem ar90 {a : Nat} {b : Nat} {c : Nat} {d : Nat} (h1 : b < c ∧ c ≤ d) (h2 : c ≤ a) : ¬a = b := by lia
theorem ar91 {a : Nat} {b : Nat} {c : Nat} {d : Nat} (h1 : a < d ∧ d ≤ c) (h2 : b < c + 1) (h3 : d ≤ b) : a < b ∧ b ≤ c := by lia
theorem ar92 {a : Nat} {b : Nat} (h1 : a ≤ b) : a - 1 ≤ b - 1 := Nat.sub_le_sub_right h1 1
theorem ar93 {a : Nat} {b : Nat} {c : Nat} {d : Nat} : a < b ∧ c < d ↔ c < d ∧ a < b := And.comm
theorem ar94 {a : Nat} {b : Nat} {c : Nat} {d : Nat} (h1 : a < b + 1) (h2 : c < d ∧ d ≤ b) : a - 1 < b := by lia
theorem ar95 {a : Nat} {b : Nat} {c : Nat} (h1 : a ≤ c) (h2 : c = b) (h3 : ¬a = b) : a < b := by lia
theorem ar96 {a : Nat} {b : Nat} {c : Nat} {d : Nat} {e : Nat} {f : Nat} {i : Nat} (h1 : a + c = i + e) (h2 : i + b = d + f) : a + (b + c) = d + (e + f) := by lia
theorem ar97 {a : Nat} {b : Nat} {c : Nat} {d : Nat} (h1 : a ≤ b) (h2 : c < b ∧ b ≤ d) (h3 : ¬(c < a ∧ a ≤ d)) : a ≤ b - 1 := by lia
theorem ar98 {a : Nat} {b : Nat} {c : Nat} (h1 : b ≤ c) (h2 : c = a) : ¬a < b := by lia
theorem ar99 {a : Nat} {b : Nat} {c : Nat} (h1 : c < a ∧ a ≤ b) : a - 1 < b := by lia
theorem ar100 {a : Nat} {b : Nat} {c : Nat} (h1 : a < b + 1) (h2 : c ≤ b) (h3 : ¬(c < a ∧ a ≤ b)) (h4 : ¬a = c) : a < b := by lia
theorem ar101 {a : Nat} {b : Nat} {c : Nat} {d : Nat} (h1 : b + c = d + a) (h2 : d = 0) : a = b + c := by lia
theorem ar102 {a : Nat} {b : Nat} : a + (b + 1) = a + 1 + b := Eq.symm (Nat.succ_add_eq_add_succ a b)
theorem ar103 {a : Nat} {b : Nat} {c : Nat} (h1 : a < b) (h2 : c = b) : a + (b - a) ≤ c := by lia
theorem ar104 {a : Nat} {b : Nat} (h1 : a < b) : a + (b - a) = b := by lia
theorem ar105 {a : Nat} {b : Nat} (h1 : b ≤ a) (h2 : ¬b < a) : a = b := by lia
theorem ar106 {a : Nat} {b : Nat} {c : Nat} (h1 : a ≤ c) (h2 : c + 1 ≤ b) : a < b := by lia
theorem ar107 {a : Nat} {b : Nat} (h1 : b < b) : a ≤ b := by lia
theorem ar108 {a : Nat} {b : Nat} {c : Nat} {d : Nat} {e : Nat} {f : Nat} (h1 : a < b ∨ a = b ∧ c ≤ d) (h2 : b = e) (h3 : e = f) (h4 : f ≤ a) (h5 : ¬a = f) : False := by lia
theorem ar109 {a : Nat} {b : Nat} {c : Nat} {d : Nat} (h1 : a < b ∨ a = b ∧ c ≤ d) : a ≤ b := by lia
theorem ar110 {a : Nat} {b : Nat} {c : Nat} {d : Nat} (h1 : c < d ∨ c = d ∧ a ≤ b) (h2 : d = c) : a ≤ b := by lia
theorem ar111 {a : Nat} {b : Nat} {c : Nat} (h1 : b < c + 1) (h2 : c < b) : a ≤ b := by lia
theorem ar112 {a : Nat} {b : Nat} {c : Nat} {d : Nat} (h1 : c + 1 + (d + 1) ≤ 0) : a = b := by lia
theorem ar113 {a : Nat} {b : Nat} {c : Nat} (h1 : a + 1 + (b + 1) ≤ c + 1) : a + (b + 1) ≤ c := by lia
theorem ar114 {a : Nat} {b : Nat} {c : Nat} (h1 : a + 1 + (b + 1) ≤ c + 1) : a + 1 + b ≤ c := Nat.le_of_lt_succ h1
theorem ar115 {a : Nat} {b : Nat} {c : Nat} (h1 : a + 1 + (b + 1) ≤ c + 1) : a + b ≤ c := by lia
theorem ar116 {a : Nat} {b : Nat} {c : Nat} {d : Nat} {e : Nat} {f : Nat} {i : Nat} {j : Nat} {k : Nat} {l : Nat} (h1 : a + c = d + e + f) (h2 : b + i = j + k + l) (h3 : d = j) (h4 : e = l) (h5 : f = k) (h6 : c = i) : a = b := by lia
theorem ar117 {a : Nat} {b : Nat} {c : Nat} {d : Nat} {e : Nat} {f : Nat} (h1 : c = d) (h2 : c = e + a) (h3 : d = f + b) (h4 : e = f) : a = b := by lia
theorem ar118 {a : Nat} {b : Nat} {c : Nat} {d : Nat} {e : Nat} {f : Nat} {i : Nat} {j : Nat} {k : Nat} {l : Nat} (h1 : c + d = a + e + f) (h2 : i + j = b + k + l) (h3 : d = j) (h4 : e = l) (h5 : f = k) (h6 : c = i) : a = b := by lia
theorem ar119 {a : Nat} {b : Nat} {c : Nat} {d : Nat} {e : Nat} {f : Nat} (h1 : a = c + e) (h2 : b = d + f) : a + b = c + d + (e + f) := by lia
theorem ar120 {a : Nat} {b : Nat} {c : Nat} {d : Nat} (h1 : c + 1 + d ≤ 0) : a ≤ b := by lia
theorem ar121 {a : Nat} {b : Nat} {c : Nat} (h1 : a + 1 + b ≤ c + 1) : a + b ≤ c := by lia
theorem ar122 {a : Nat} {b : Nat} {c : Nat} {d : Nat} (h1 : c + (d + 1) ≤ 0) : a ≤ b := by lia
theorem ar123 {a : Nat} {b : Nat} {c : Nat} (h1 : a + (b + 1) ≤ c + 1) : a + b ≤ c := by lia
theorem ar124 {a : Nat} {b : Nat} {c : Nat} (h1 : c < b) (h2 : c = a) : a < b := lt_of_eq_of_lt (id (Eq.symm h2)) h1
theorem ar125 {a : Nat} {b : Nat} {c : Nat} (h1 : a < c ∧ b < c) : a = b ∧ a < c ↔ a = b := by lia
theorem ar126 {a : Nat} (h1 : a < 0) : False := Nat.not_succ_le_zero a h1
theorem ar127 {a : Nat} {b : Nat} (h1 : b < a) : 0 < (↑a : Int) - (↑b : Int) := by lia
theorem ar128 {a : Nat} {b : Nat} : (↑a : Int) - ((↑b : Int) + 1) = (↑a : Int) - (↑b : Int) - 1 := Eq.symm (Int.sub_sub (↑a) (↑b) 1)
theorem ar129 {a : Nat} : ((↑a : Int) - 0 - 1) / 1 + 1 = (↑a : Int) := by lia
theorem ar130 {a : Nat} (h1 : ¬0 < (↑a : Int)) : 0 = (↑a : Int) := by lia
theorem ar131 {a : Int} (h1 : 0 ≤ a) : -2 ^ 63 ≤ a := by lia
theorem ar132 {a : Int} (h1 : a ≤ 2 ^ 31) : a < 2 ^ 63 := by lia
theorem ar133 {a : Nat} : 0 ≤ (↑a : Int) + (1 - 1) := Int.zero_le_ofNat (a + (1 - Nat.succ 0))
theorem ar134 {a : Nat} (h1 : a < 2 ^ 31) : (↑a : Int) + (1 - 1) ≤ 2 ^ 31 := by lia
theorem ar135 {a : Nat} : 0 ≤ (↑a : Int) := Int.natCast_nonneg a
theorem ar136 {a : Nat} (h1 : a < 2 ^ 31) : (↑a : Int) ≤ 2 ^ 31 := by lia
theorem ar137 {a : Nat} {b : Nat} (h1 : b < a) : ¬a < b + 1 := Nat.not_lt.mpr h1
theorem ar138 {a : Nat} {b : Nat} {c : Nat} (h1 : b < c) (h2 : c ≤ a) : ¬a < b + 1 := by lia
theorem ar139 {a : Nat} {b : Nat} {c : Nat} {d : Nat} (h1 : c + 1 = d) (h2 : d = 0) : a = b := by lia
theorem ar140 {a : Nat} {b : Nat} {c : Nat} {d : Nat} (h1 : c = 0) (h2 : c = d + 1) : a = b := by lia
theorem ar141 {a : Nat} {b : Nat} {c : Nat} (h1 : a + c = b + c) : a = b := Nat.add_right_cancel h1
theorem ar142 {a : Nat} {b : Nat} {c : Nat} {d : Nat} (h1 : b + c = d) : a + b + c = d + a := by lia
theorem ar143 {a : Nat} {b : Nat} {c : Nat} {d : Nat} (h1 : a + c = d) : a + (b + c) = d + b := by lia
theorem ar144 {a : Nat} {b : Nat} {c : Nat} {d : Nat} {e : Nat} (h1 : a < c ∨ a = c ∧ d ≤ e) (h2 : c = b) : a ≤ b := by lia
theorem ar145 {a : Nat} {b : Nat} {c : Nat} {d : Nat} (h1 : a < d ∧ c < d) : a < b ∧ c < d ↔ a < b := by lia
theorem ar146 {a : Nat} {b : Nat} {c : Nat} {d : Nat} {e : Nat} (h1 : b + c = d) (h2 : d = e + c) (h3 : e = a) : a = b := by lia
theorem ar147 {a : Nat} {b : Nat} (h1 : a ≤ b) : a ≤ b + 1 := Nat.le_add_right_of_le h1
theorem ar148 {a : Nat} {b : Nat} (h1 : a ≤ b) : 1 + a ≤ b + 1 := by lia
theorem ar149 {a : Nat} {b : Nat} (h1 : b < a) : a - (b + 1) < a - b := Nat.sub_succ_lt_self a b h1
theorem ar150 {a : Nat} {b : Nat} (h1 : b ≤ a) : a = b + (a - b) := Eq.symm (Nat.add_sub_of_le h1)
theorem ar151 {a : Nat} {b : Nat} : a ≤ a + b := Nat.le_add_right a b
theorem ar152 {a : Nat} {b : Nat} (h1 : b = 0) : a + b = a := Nat.add_eq_left.mpr h1
theorem ar153 {a : Nat} {b : Nat} {c : Nat} (h1 : c ≤ a) (h2 : c ≥ b) : ¬a < b := by lia
theorem ar154 {a : Nat} : (a + 1) % 2 = 1 ↔ ¬a % 2 = 1 := by lia
theorem ar155 {a : Nat} {b : Nat} {c : Nat} {d : Nat} (h1 : a = d) (h2 : c = b + d) : a + b = c := by lia
theorem ar156 {a : Nat} {b : Nat} {c : Nat} {d : Nat} : a + b + (c + d) = a + c + (d + b) := by lia
theorem ar157 {a : Nat} {b : Nat} {c : Nat} (h1 : b = c) : a + b = c + a := by lia
theorem ar158 {a : Nat} {b : Nat} {c : Nat} (h1 : a = c) (h2 : c ≤ b) : a ≤ b := le_of_eq_of_le h1 h2
theorem ar159 {a : Nat} {b : Nat} {c : Nat} {d : Nat} (h1 : c = d) (h2 : c ≥ a) (h3 : d ≤ b) : a ≤ b := by lia
theorem ar160 {a : Nat} {b : Nat} {c : Nat} {d : Nat} {e : Nat} (h1 : a + c = d) (h2 : b + e = d) (h3 : c = e) : a = b := by lia
theorem ar161 {a : Nat} {b : Nat} (h1 : ¬b ≤ a) : a ≤ b := Nat.le_of_not_ge h1
theorem ar162 {a : Nat} {b : Nat} (h1 : b ≤ a) : ¬a + 1 ≤ b := by lia
theorem ar163 {a : Nat} {b : Nat} (h1 : ¬b ≤ a) : a + 1 ≤ b := by lia
theorem ar164 {a : Nat} {b : Nat} {c : Nat} (h1 : c < b) (h2 : c = a) : a ≤ b := by lia
theorem ar165 {a : Nat} (h1 : a + 1 ≤ a) : False := by lia
theorem ar166 {a : Nat} : a ≤ a + 1 := Nat.le_add_right a 1
theorem ar167 {a : Nat} {b : Nat} (h1 : a + 1 ≤ b) : a < b := Nat.lt_of_succ_le h1
theorem ar168 {a : Nat} {b : Nat} (h1 : a + 10 * (b + 1) ≤ 900) : a < 1000 := by lia
theorem ar169 {a : Nat} {b : Nat} (h1 : a + 10 * (b + 1) ≤ 900) : a + 1 + 10 * b ≤ 900 := by lia
theorem ar170 {a : Nat} {b : Nat} (h1 : a + 100 * (b + 1) ≤ 9000) : a + 3 + 100 * b ≤ 9000 := by lia
theorem ar175 {a : Nat} {b : Nat} {c : Nat} (h1 : a + b = 2 * c) : 1 + a + (1 + b) = 2 * (c + 1) := by lia
theorem ar176 {a : Nat} {b : Nat} {c : Nat} (h1 : a + b = 2 * c) : 2 + a + b = 2 * (c + 1) := by lia
theorem ar177 {a : Nat} {b : Nat} {c : Nat} {d : Nat} {e : Nat} {f : Nat} (h1 : (a + b) % 2 = 1) (h2 : 2 * c + d = e + f) : 2 * ((a + b) / 2 + c) + (d + 1) = a + e + (f + b) := by lia
theorem ar178 {a : Nat} {b : Nat} {c : Nat} {d : Nat} {e : Nat} {f : Nat} (h1 : 2 * c + d = e + f) (h2 : ¬(a + b) % 2 = 1) : 2 * ((a + b) / 2 + c) + (d + 0) = a + e + (f + b) := by lia
theorem ar179 {a : Nat} : a + 1 = a + 1 := by lia
theorem ar180 {a : Nat} {b : Nat} {c : Nat} (h1 : (b + c) % 2 = 1) (h2 : c % 2 = 0) (h3 : ¬b % 2 = 1) : a + 1 = a + 0 := by lia
theorem ar181 {a : Nat} {b : Nat} {c : Nat} (h1 : b % 2 = 0) (h2 : c % 2 = 1) (h3 : ¬(c + b) % 2 = 1) : a + 0 = a + 1 := by lia
theorem ar182 {a : Nat} : a + 0 = a + 0 := by lia
theorem ar183 {a : Nat} {b : Nat} {c : Nat} {d : Nat} (h1 : (c + d) % 2 = 1) (h2 : c % 2 = 1) (h3 : ¬d % 2 = 0) : a - b + 1 = a + 1 - (b + 1) := by lia
theorem ar184 {a : Nat} {b : Nat} (h1 : b ≤ a) : a - b + 1 = a + 1 - (b + 0) := Eq.symm (Nat.sub_add_comm h1)
theorem ar185 {a : Nat} {b : Nat} : a - b + 0 = a + 1 - (b + 1) := by lia
theorem ar186 {a : Nat} {b : Nat} {c : Nat} {d : Nat} (h1 : ¬(c + d) % 2 = 1) (h2 : ¬c % 2 = 1) (h3 : ¬d % 2 = 0) : a - b + 0 = a + 1 - (b + 0) := by lia
theorem ar187 {a : Nat} {b : Nat} {c : Nat} {d : Nat} {e : Nat} (h1 : a = c) (h2 : b = d) (h3 : c + d = 2 * e) (h4 : e = 7) : a + b = 14 := by lia
theorem ar188 {a : Nat} : a = 2 * (a / 2) + a % 2 := Eq.symm (Nat.div_add_mod a 2)
theorem ar189 {a : Nat} {b : Nat} {c : Nat} {d : Nat} {e : Nat} {f : Nat} {i : Nat} {j : Nat} (h1 : 2 * a + b = d + (2 * c + 0 * e)) (h2 : b = f) (h3 : d = i) (h4 : i + f = 2 * j) (h5 : j = 7) : a + b = 7 + c + 0 * b := by lia
theorem ar190 {a : Nat} (h1 : a % 2 = 1) : ¬a % 2 = 0 := Nat.mod_two_ne_zero.mpr h1
theorem ar191 {a : Nat} {b : Nat} {c : Nat} {d : Nat} {e : Nat} {f : Nat} {i : Nat} {j : Nat} (h1 : d = 7) (h2 : e + f = 2 * d) (h3 : i = e) (h4 : b = f) (h5 : 2 * a + (j - b) = i + (2 * c + 1 * j)) (h6 : b ≤ j) : a + b = 7 + c + 1 * b := by lia
theorem ar192 {a : Nat} {b : Nat} (h1 : 2 ^ 21 ≤ b) (h2 : b ≤ 2 ^ 20) : a ≤ 20 := by lia
theorem ar193 {a : Int} (h1 : 1 ≤ a) : a ≠ 0 := Ne.symm (Int.ne_of_lt h1)
theorem ar194 {a : Nat} (h1 : a ≤ 20) : ¬a / 30 + 1 > 300 := by lia
theorem ar195 {a : Int} (h1 : 0 ≤ a) : ¬a < -2 ^ 63 := by lia
theorem ar196 {a : Int} (h1 : a ≤ 2 ^ 10) : ¬a ≥ 2 ^ 63 := by lia
theorem ar197 {a : Int} (h1 : a ≤ 2 ^ 10) : 1024 * a ≤ 2 ^ 63 - 1 := by lia
theorem ar198 {a : Int} (h1 : ¬a < 1) : 0 < a := by lia
theorem ar199 {a : Nat} {b : Int} (h1 : (↑a : Int) > b) (h2 : 1024 ≤ b) (h3 : a ≤ 2 ^ 10) : False := by lia
theorem ar200 {a : Nat} (h1 : a ≤ 2 ^ 10 * 2 ^ 10) : ¬a > 2 ^ 24 := by lia
theorem ar201 {a : Int} (h1 : -2 ^ 63 ≤ a) (h2 : a < 2 ^ 63) : -9223372036854775808 ≤ a ∧ a < 9223372036854775808 := ⟨h1, h2⟩
theorem ar202 {a : Nat} (h1 : a ≤ 2 ^ 24) : ¬a > (2 ^ 63 - 1) / 8 := by lia
theorem ar203 {a : Int} (h1 : a ≤ 2 ^ 10) : a < 2 ^ 63 := by lia
theorem ar204 {a : Nat} (h1 : a ≤ 2 ^ 10 * 2 ^ 10) : a ≤ 2 ^ 24 := by lia
theorem ar205 {a : Nat} {b : Nat} {c : Nat} {d : Nat} (h1 : a = c) (h2 : b = d) (h3 : c + d ≤ 2 ^ 20) : a + b ≤ 2 ^ 24 := by lia
theorem ar206 {a : Int} (h1 : 1 ≤ a) : 0 ≤ a := Int.le_of_lt h1
theorem ar207 {a : Nat} {b : Nat} {c : Nat} (h1 : a + 100 * c ≤ 9000) (h2 : b ≤ 3) : a + (b + 1) < 9900 := by lia
theorem ar208 {a : Nat} {b : Nat} {c : Nat} (h1 : a + (b + 1) ≤ c) : a + b ≤ c := Nat.le_of_succ_le h1
theorem ar209 {a : Nat} {b : Nat} {c : Nat} (h1 : a + (b + 1) ≤ c) : a + b < c := by lia
theorem ar210 {a : Nat} {b : Nat} (h1 : ¬(↑b : Int) < (↑a : Int)) : a - b = 0 := by lia
theorem ar211 {a : Int} (h1 : 0 ≤ a) : ¬a < 0 := Int.not_lt_of_ge h1
theorem ar212 {a : Nat} {b : Nat} {c : Nat} {d : Nat} (h1 : a ≤ b) (h2 : b ≤ d) (h3 : c = d) : a + (b - a) ≤ c := by lia
theorem ar213 {a : Nat} {b : Nat} (h1 : a ≤ b) : a - b = 0 := Nat.sub_eq_zero_of_le h1
theorem ar214 {a : Nat} {b : Nat} {c : Nat} (h1 : c - b = a) (h2 : c ≤ a) : a = 0 ∨ b = 0 ∧ c = a := by lia
theorem ar215 {a : Nat} {b : Nat} (h1 : a = b) (h2 : b = 0) : a = 0 := by lia
theorem ar216 {a : Nat} {b : Nat} (h1 : a = b) : a ≤ b := Nat.le_of_eq h1
theorem ar217 {a : Int} (h1 : a < 2 ^ 60) : a < 2 ^ 63 := by lia
theorem ar218 {a : Int} (h1 : ¬0 ≤ a) : a < 0 := Int.lt_of_not_ge h1
theorem ar219 {a : Int} {b : Nat} (h1 : -(↑b : Int) ≤ a ∧ -2 ^ 60 ≤ a) : -2 ^ 63 ≤ a := by lia
theorem ar220 {a : Int} (h1 : 0 ≤ a ∧ a < 2 ^ 60) : ¬a < -2 ^ 63 := by lia
theorem ar221 {a : Int} (h1 : 0 ≤ a ∧ a < 2 ^ 60) : ¬a ≥ 2 ^ 63 := by lia
theorem ar222 {a : Int} (h1 : 0 ≤ a ∧ a < 2 ^ 60) : ¬a < 0 := by lia
theorem ar223 {a : Int} (h1 : 0 ≤ a ∧ a < 2 ^ 60) : 0 ≤ a := by lia
theorem ar224 {a : Nat} (h1 : a < 2 ^ 62) : (↑a : Int) < 2 ^ 63 := by lia
theorem ar225 {a : Nat} : 1 ≤ a + 1 + 1 := Nat.le_add_left 1 (a + 1)
theorem ar226 {a : Nat} (h1 : a < 2 ^ 62) : ¬(↑a : Int) ≥ 2 ^ 63 := by lia
theorem ar231 {a : Nat} {b : Nat} : a + 1 + b = a + (b + 1) := Nat.succ_add_eq_add_succ a b
theorem ar233 {a : Nat} : 1 + (↑a : Int) = (↑a : Int) + 1 := Int.add_comm 1 ↑a
theorem ar248 {a : Nat} (h1 : a ≤ 2 ^ 20) : ¬a > 2 ^ 24 := by lia
theorem ar250 {a : Nat} {b : Nat} {c : Nat} (h1 : b ≤ (a + 1) * 1) (h2 : c = a) (h3 : c ≤ 2 ^ 20) : a + b ≤ 16777216 := by lia
theorem ar251 {a : Nat} {b : Nat} {c : Nat} (h1 : a < c) (h2 : c = b) : a < b := Nat.lt_of_lt_of_eq h1 h2
theorem ar252 {a : Nat} {b : Nat} {c : Nat} {d : Nat} {e : Nat} (h1 : a = d) (h2 : b = e) (h3 : c = 2 ^ 24) (h4 : d + e ≤ 2 ^ 20) : ¬a + b > c := by lia
theorem ar253 {a : Nat} {b : Nat} {c : Nat} {d : Nat} (h1 : a = c) (h2 : b = 2 ^ 24) (h3 : c + d ≤ 2 ^ 20) : a ≤ b := by lia
theorem ar254 {a : Nat} {b : Nat} {c : Nat} {d : Nat} {e : Nat} (h1 : a = d) (h2 : b = e) (h3 : c = 2 ^ 24) (h4 : d + e ≤ 2 ^ 20) : a + b ≤ c + 1 := by lia
theorem ar260 {a : Nat} {b : Nat} (h1 : a ≤ b) : a + 1 ≤ b + 1 := Nat.add_le_add_right h1 1
theorem ar261 {a : Nat} {b : Nat} (h1 : a ≤ b) (h2 : b - a = 0) : a = b := by lia
theorem ar262 {a : Nat} {b : Nat} {c : Nat} (h1 : a < b) (h2 : c = b) (h3 : c ≤ a) : False := by lia
theorem ar263 {a : Nat} {b : Nat} (h1 : a = b) : ¬a < b := by lia
theorem ar264 : 2 + 1 + 1 ≤ 3 * 0 + 10 := Nat.le_add_left (2 + 1 + 1) 6
theorem ar265 : 2 + 1 ≤ 3 * 0 + 10 := Nat.le_add_left (2 + 1) 7
theorem ar266 {a : Nat} {b : Nat} {c : Nat} (h1 : b - a = c + 1) : a < b := Nat.lt_of_sub_eq_succ h1
theorem ar267 {a : Nat} {b : Nat} {c : Nat} (h1 : a - b = c + 1) : a - (b + 1) = c := by lia
theorem ar268 {a : Nat} : 0 + 1 + 1 + 1 + 1 + 1 ≤ 3 * (a + 1) + 10 := Nat.le_add_left (0 + 1 + 1 + 1 + 1 + 1) (3 * (a + 1) + 5)
theorem ar269 {a : Nat} {b : Nat} (h1 : a < b) (h2 : b ≤ a) : False := by lia
theorem ar270 {a : Nat} : 3 * a + 11 + 1 + 1 ≤ 3 * (a + 1) + 10 := Nat.le_refl (3 * a + 11 + 1 + 1)
theorem ar271 {a : Nat} : 3 * a + 11 + 1 ≤ 3 * (a + 1) + 10 := by lia
theorem ar272 {a : Nat} {b : Nat} (h1 : b + 0 = a) : a ≤ b := by lia
theorem ar273 {a : Nat} {b : Nat} (h1 : a + 0 = b) : a ≤ b := Nat.le_of_eq h1
theorem ar274 {a : Nat} {b : Nat} (h1 : b + 0 = a) : a = b := by lia
theorem ar275 {a : Nat} {b : Nat} {c : Nat} (h1 : a + (c + 1) = b) : a < b := by lia
theorem ar276 {a : Nat} {b : Nat} (h1 : a < b) : a ≤ b ∧ ¬b - a = 0 := by lia
theorem ar277 {a : Nat} {b : Nat} {c : Nat} (h1 : a + (b + 1) = c) : a + 1 + b = c := by lia
theorem ar278 {a : Nat} {b : Nat} : 3 * (a - b) + 10 ≤ 3 * a + 20 := by lia
theorem ar279 {a : Nat} : 0 + a = a := Nat.zero_add a
theorem ar280 {a : Nat} {b : Nat} (h1 : ¬b < a) : a < b ∨ a - b = 0 := by lia
theorem ar281 {a : Nat} : 0 + 1 ≤ 3 * a + 20 := Nat.le_add_left (0 + 1) (3 * a + 19)
theorem ar282 {a : Nat} {b : Nat} {c : Nat} (h1 : a < b) (h2 : c ≤ a) (h3 : ¬c < b) : False := by lia
theorem ar285 : 19 + 1 ≤ 20 := by lia
theorem ar286 {a : Nat} (h1 : a = 10) : a ≠ 13 := by lia
theorem ar287 {a : Nat} {b : Nat} {c : Nat} {d : Nat} (h1 : a = 10) : ¬(a = 13 ∧ b + 1 < c ∧ d = 10) := by lia
theorem ar288 : 3 + 1 + 1 + 1 + 1 + 1 ≤ 19 := Nat.le_of_ble_eq_true rfl
theorem ar289 : 3 + 1 + 1 + 1 + 1 ≤ 19 := Nat.le_of_ble_eq_true rfl
theorem ar290 {a : Nat} (h1 : a = 13) : a ≠ 10 := by lia
theorem ar291 : 3 + 1 + 1 + 1 + 1 + 1 + 1 + 1 + 1 + 1 + 1 + 1 ≤ 19 := Nat.le_of_ble_eq_true rfl
theorem ar292 {a : Nat} (h1 : ¬a = 10) (h2 : ¬a = 13) : ¬(a = 10 ∨ a = 13) := not_or_intro h1 h2
theorem ar293 {a : Nat} {b : Nat} {c : Nat} (h1 : a + 0 = b + 1) (h2 : a ≤ c) (h3 : c < b) : False := by lia
theorem ar294 {a : Nat} {b : Nat} {c : Nat} (h1 : a < b) (h2 : c ≤ a) (h3 : c ≥ b) : False := by lia
theorem ar295 {a : Nat} {b : Nat} (h1 : ¬a ≥ b) : a < b := by lia
theorem ar296 {a : Nat} {b : Nat} {c : Nat} (h1 : a + (b + 1) = c + 1) : a + 1 + b = c + 1 := by lia
theorem ar297 {a : Nat} {b : Nat} (h1 : a < b) : a + (b + 1 - a) = b + 1 := by lia
theorem ar298 {a : Nat} (h1 : a ≤ 20) : a ≤ 30 := by lia
theorem ar299 : 0 + 1 ≤ 30 := Nat.le_of_ble_eq_true rfl
theorem ar300 {a : Nat} {b : Nat} : a + 1 + b = a + b + 1 := Nat.add_right_comm a 1 b
theorem ar301 (h1 : 1 ≤ 0) : False := by lia
theorem ar302 {a : Nat} (h1 : a ≤ 4) : 4 = a + (4 - a) := Eq.symm (Nat.add_sub_of_le h1)
theorem ar303 {a : Nat} (h1 : 4 ≤ a) : a = 4 + (a - 4) := Eq.symm (Nat.add_sub_of_le h1)
theorem ar304 {a : Nat} (h1 : 4 ≥ a) : 4 = a + (4 - a) := by lia
theorem ar305 {a : Nat} (h1 : 4 < a) : a = 4 + (a - 4) := by lia
theorem ar306 {a : Nat} {b : Nat} (h1 : a ≤ 4 * (b + 1)) : a - 4 ≤ 4 * b := Nat.sub_le_of_le_add h1
theorem ar307 {a : Nat} {b : Nat} (h1 : 4 < b) (h2 : b ≤ 4 * (a + 1)) : 1 ≤ a := by lia
theorem ar308 {a : Nat} {b : Nat} (h1 : a ≤ b) (h2 : b ≤ 2 ^ 60) : a ≤ 4 * 2 ^ 64 := by lia
theorem ar309 {a : Nat} {b : Nat} (h1 : a < b) : (↑a : Int) < (↑b : Int) := Int.ofNat_lt.mpr h1
theorem ar310 {a : Nat} {b : Nat} (h1 : a < b) (h2 : b ≤ 2 ^ 20) : (↑a : Int) < 2 ^ 60 := by lia
theorem ar311 {a : Nat} {b : Nat} (h1 : b ≤ a + 1) : (↑a : Int) + 1 ≥ (↑b : Int) := Nat.ToInt.of_le rfl rfl h1
theorem ar312 {a : Nat} {b : Nat} (h1 : ¬b ≤ a + 1) : ¬(↑a : Int) + 1 ≥ (↑b : Int) := by lia
theorem ar313 {a : Nat} {b : Nat} (h1 : ¬b ≤ a + 1) : a + 1 < b := Nat.lt_of_not_le h1
theorem ar314 {a : Nat} : 0 ≤ (↑a : Int) + 1 := Int.zero_le_ofNat (a + 1)
theorem ar315 {a : Nat} {b : Nat} (h1 : b ≤ 2 ^ 20) (h2 : ¬b ≤ a + 1) : (↑a : Int) + 1 < 2 ^ 60 := by lia
theorem ar316 {a : Nat} {b : Nat} (h1 : b + 1 < a) : a - (b + 2) < a - b := by lia
theorem ar317 {a : Nat} {b : Nat} (h1 : a + 1 < b) : a + 2 ≤ b := Nat.succ_le_of_lt h1
theorem ar318 {a : Nat} : (↑(a + 2) : Int) = (↑a : Int) + 1 + 1 := Eq.symm ((fun {a} {n} => Int.mem_toNat?.mp) rfl)
theorem ar319 {a : Nat} : (↑(a + 1) : Int) = (↑a : Int) + 1 := Nat.ToInt.add_congr rfl rfl
theorem ar320 {a : Nat} {b : Nat} (h1 : ¬a < b) : ¬(↑a : Int) < (↑b : Int) := by lia
theorem ar321 {a : Nat} (h1 : a ≤ 2 ^ 23) : a ≤ 2 ^ 24 := by lia
theorem ar322 {a : Nat} (h1 : a ≤ 2 ^ 23) : ¬a > 2 ^ 24 := by lia
theorem ar323 {a : Nat} {b : Nat} (h1 : b + a ≤ 2 ^ 23) : a ≤ 2 ^ 24 := by lia
theorem ar324 {a : Nat} {b : Nat} {c : Nat} (h1 : a ≤ 2 * b) (h2 : b < c) (h3 : c ≤ 2 ^ 20) : a ≤ 2 ^ 23 := by lia
theorem ar325 {a : Nat} {b : Nat} (h1 : a + b ≤ 2 ^ 23) : a ≤ 2 ^ 23 := Nat.le_of_add_right_le h1
theorem ar326 {a : Nat} {b : Nat} (h1 : b < a) : a ≠ b := Ne.symm (Nat.ne_of_lt h1)
theorem ar327 {a : Nat} {b : Nat} {c : Nat} {d : Nat} {e : Nat} (h1 : a ≤ b + 1) (h2 : b ≤ 2 * c) (h3 : c ≤ d) (h4 : d < e) (h5 : e ≤ 2 ^ 20) : a ≤ 2 ^ 23 := by lia
theorem ar328 {a : Nat} {b : Nat} {c : Nat} {d : Nat} {e : Nat} (h1 : a ≤ c + 1) (h2 : c ≤ 2 * d) (h3 : d ≤ e) (h4 : e < b) : a + 1 ≤ 2 * b := by lia
theorem ar329 {a : Nat} {b : Nat} {c : Nat} {d : Nat} (h1 : a + (b + c + d) ≤ 2 ^ 23) : a + (b + c) + d ≤ 2 ^ 23 := by lia
theorem ar330 {a : Nat} {b : Nat} (h1 : a ≤ b) (h2 : b ≤ 2 ^ 20) : a ≤ 2 ^ 24 := by lia
theorem ar331 {a : Nat} {b : Nat} {c : Nat} {d : Nat} {e : Nat} (h1 : a ≤ 2 * b) (h2 : b < c) (h3 : c < d) (h4 : d ≤ e) (h5 : e ≤ 2 ^ 20) : a ≤ 2 ^ 23 := by lia
theorem ar332 {a : Nat} (h1 : a ≤ 2 ^ 23) : 0 + a ≤ 2 ^ 23 := by lia
theorem ar333 {a : Nat} {b : Nat} (h1 : b < a) : a - b = a - (b + 1) + 1 := by lia
theorem ar334 {a : Nat} {b : Nat} {c : Nat} (h1 : b ≤ c) (h2 : c ≤ a) : ¬a < b := by lia
theorem ar335 {a : Nat} {b : Nat} (h1 : a ≤ b) : a - b = 0 ∨ a ≤ b := Or.inr h1
theorem ar336 {a : Nat} : a < a + 2 := by lia
theorem ar337 {a : Nat} : a < a + 1 := Nat.lt_add_one a
theorem ar338 {a : Nat} (h1 : a ≤ 2 ^ 20) : 3 * a + 20 ≤ 2 ^ 24 := by lia
theorem ar339 : 30 ≤ 2 ^ 24 := Nat.le_of_ble_eq_true rfl
theorem ar340 {a : Nat} {b : Nat} (h1 : a ≤ 2 * b) : a + 1 + 1 ≤ 2 * (b + 1 + 1) := by lia
theorem ar341 {a : Nat} {b : Nat} (h1 : a ≤ 2 * b) : a + 1 + 1 ≤ 2 * (b + 1) := by lia
theorem ar342 {a : Nat} {b : Nat} (h1 : a ≤ 2 * b) : a + 1 ≤ 2 * (b + 1) := by lia
theorem ar343 {a : Nat} (h1 : a ≠ 10) (h2 : a ≠ 13) : ¬(a = 13 ∨ a = 10) := not_or_intro h2 h1
theorem ar346 {a : Nat} {b : Nat} {c : Nat} (h1 : a ≤ 2 * b) (h2 : b = c) (h3 : c ≤ 2 ^ 20) : a ≤ 2 ^ 23 := by lia
theorem ar347 {a : Nat} (h1 : 1 ≤ a) : a = a - 1 + 1 := (Nat.sub_eq_iff_eq_add h1).mp rfl
theorem ar350 {a : Nat} (h1 : a ≤ 0) : a = 0 := Nat.eq_zero_of_le_zero h1
theorem ar351 {a : Nat} {b : Nat} {c : Nat} {d : Nat} (h1 : a ≤ d + 1) : a - (b + c + 1) ≤ d := by lia
theorem ar352 {a : Nat} (h1 : 0 < a) : a = a - 1 + 1 := (Nat.sub_eq_iff_eq_add h1).mp rfl
theorem ar353 {a : Nat} {b : Nat} {c : Nat} {d : Nat} (h1 : a = d + 1) : a - (b + c + 1) ≤ d := by lia
theorem ar354 {a : Nat} : 1 + a = a + 1 := Nat.add_comm 1 a
theorem ar355 {a : Nat} : 2 * (a + 1) = 2 * a + 1 + 1 := Eq.symm (Nat.succ_add (2 * a) 1)
theorem ar356 {a : Nat} {b : Nat} : 2 + (a + b) = a + 1 + (b + 1) := by lia
theorem ar357 {a : Nat} {b : Nat} : 1 + (a + b) = a + 1 + b := by lia
theorem ar358 {a : Nat} {b : Nat} (h1 : 0 < a) (h2 : 0 = a + b) : False := by lia
theorem ar359 {a : Nat} {b : Nat} : a + b ≤ a + b + 1 := Nat.le_add_right (a + b) 1
theorem ar360 {a : Nat} (h1 : a % 2 = 1) : a = 2 * (a / 2) + 1 := by lia
theorem ar361 {a : Nat} : 1 + a + 1 = 1 + (a + 1) := by lia
theorem ar362 {a : Nat} (h1 : ¬a % 2 = 1) : 2 * (a / 2) = a := by lia
theorem ar363 {a : Nat} : 1 + a = 1 + (a + 0) := by lia
theorem ar364 {a : Nat} {b : Nat} : a + b + 1 = a + (b + 1) := by lia
theorem ar365 {a : Nat} (h1 : a < 2 ^ 60) : (↑a : Int) < 2 ^ 60 := Int.lt_toNat.mp h1
theorem ar367 {a : Nat} (h1 : a ≤ 2 ^ 20) : a + 1 ≤ 2 ^ 24 + 1 := by lia
theorem ar370 {a : Nat} {b : Nat} (h1 : a + 10 * b ≤ 900) : a + 1 < 1000 := by lia
theorem ar371 {a : Nat} {b : Nat} (h1 : a ≤ b) : ¬a + 0 > b := by lia
theorem ar372 {a : Nat} {b : Nat} {c : Nat} (h1 : a + b ≤ 2 ^ 20) (h2 : c = 0) : a + b + 2 * c ≤ 16777216 := by lia
theorem ar373 {a : Nat} {b : Nat} (h1 : a + 10 * b ≤ 900) : a < 1000 := by lia
theorem ar374 {a : Nat} {b : Nat} {c : Nat} : a + b ≤ a + b + c := Nat.le_add_right (a + b) c
theorem ar375 {a : Nat} {b : Nat} {c : Nat} {d : Nat} {e : Nat} (h1 : a + b ≤ e) : a + b ≤ c + d + e := Nat.le_add_left_of_le h1
theorem ar376 {a : Nat} {b : Nat} (h1 : a + 10 * (b + 1) ≤ 900) : a + 10 * b ≤ 900 := by lia
theorem ar377 {a : Nat} {b : Nat} (h1 : a + 100 * (b + 1) ≤ 9000) : a + 1 + 100 * b ≤ 9000 := by lia
theorem ar378 {a : Nat} {b : Nat} (h1 : a + 100 * (b + 1) ≤ 9000) : a + 1 + 1 + 100 * b ≤ 9000 := by lia
theorem ar379 {a : Int} (h1 : a < 2 ^ 62) : ¬a ≥ 2 ^ 63 := by lia
theorem ar380 {a : Nat} {b : Nat} (h1 : a + 100 * (b + 1) ≤ 9000) : a + 1 + 1 < 9900 := by lia
theorem ar381 {a : Nat} {b : Nat} {c : Nat} (h1 : 0 < c) (h2 : a ≤ c - 1) (h3 : c = b) : a < b := by lia
theorem ar382 {a : Nat} {b : Nat} {c : Nat} (h1 : a < c) (h2 : b = c) : a ≤ b - 1 := by lia
theorem ar383 {a : Nat} (h1 : a < 64) : a ≤ 16777216 := by lia
theorem ar384 {a : Nat} (h1 : 2 ≤ a) : ¬a < 2 := Nat.not_lt.mpr h1
theorem ar385 {a : Nat} (h1 : 2 ≤ a) : 0 < a := Nat.zero_lt_of_lt h1
theorem ar386 {a : Nat} (h1 : a < 64) : a ≤ 16777216 + 1 := by lia
theorem ar387 {a : Nat} (h1 : 2 ≤ a) : 1 ≤ a := by lia
theorem ar388 {a : Nat} {b : Nat} (h1 : 2 ≤ b) (h2 : a = b) : 2 ≤ a := by lia
theorem ar389 {a : Nat} {b : Nat} (h1 : a = b) (h2 : b < 64) : a < 64 := lt_of_eq_of_lt h1 h2
theorem ar390 {a : Nat} {b : Nat} (h1 : 2 ≤ b) (h2 : a = b) : 0 < a := by lia
theorem ar391 {a : Nat} (h1 : a < 5) : (↑a : Int) < 2 ^ 60 := by lia
theorem ar392 {a : Nat} (h1 : a < 5) : a = 0 ∨ a = 1 ∨ a = 2 ∨ a = 3 ∨ a = 4 := by lia
theorem ar393 {a : Nat} {b : Nat} {c : Nat} : 97 + a < 97 + b ↔ (97 + c) * 1000 + (97 + a) < (97 + c) * 1000 + (97 + b) := Iff.symm Nat.add_lt_add_iff_left
theorem ar394 {a : Nat} {b : Nat} {c : Nat} {d : Nat} (h1 : a < 5 ∧ c < 5) (h2 : b < 5 ∧ d < 5) (h3 : ¬a = b) : 97 + a < 97 + b ↔ (97 + a) * 1000 + (97 + c) < (97 + b) * 1000 + (97 + d) := by lia
theorem ar395 {a : Nat} {b : Nat} {c : Nat} {d : Nat} (h1 : (97 + a) * 1000 + (97 + c) ≤ (97 + b) * 1000 + (97 + d)) (h2 : b < 5 ∧ d < 5) : a < b ∨ a = b ∧ c ≤ d := by lia
theorem ar396 {a : Nat} {b : Nat} (h1 : a ≤ b) : (↑a : Int) ≤ (↑b : Int) := Int.ofNat_le.mpr h1
theorem ar397 {a : Nat} (h1 : a < 7) : a < 2 ^ 60 := by lia
theorem ar398 {a : Nat} (h1 : a < 7) : a = 0 ∨ a = 1 ∨ a = 2 ∨ a = 3 ∨ a = 4 ∨ a = 5 ∨ a = 6 := by lia
theorem ar399 {a : Nat} (h1 : a ≤ 14) : a ≤ 2 ^ 20 := by lia
theorem ar400 {a : Nat} {b : Nat} {c : Int} (h1 : 0 ≤ c) : 0 ≤ (↑a : Int) + (↑b : Int) + c := by lia
theorem ar401 {a : Nat} (h1 : a ≤ 14) : a ≤ 1048575 := by lia
theorem ar402 {a : Nat} : 2 + 2 * a = 2 * (a + 1) := by lia
theorem ar403 {a : Nat} {b : Nat} (h1 : b + a ≤ 2 ^ 18) : 5 + a ≤ 16777216 := by lia
theorem ar404 {a : Nat} {b : Nat} : a + (2 * b + 1 + 1) = a + 2 + 2 * b := by lia
theorem ar405 {a : Nat} {b : Nat} : a ≤ a + 2 + b := by lia
theorem ar406 {a : Nat} {b : Nat} : a + 2 + b - a = b + 2 := by lia
theorem ar407 {a : Nat} {b : Nat} : a + 3 + 2 * b = a + 2 + (2 * b + 1) := Nat.succ_add_eq_add_succ (a + 2) (2 * b)
theorem ar408 {a : Nat} {b : Nat} (h1 : b + a ≤ 2 ^ 18) : a ≤ 1048571 := by lia
theorem ar409 {a : Nat} (h1 : a ≤ 20) : a < 2 ^ 62 := by lia
theorem ar410 {a : Nat} (h1 : a ≤ 20) : a < 2 ^ 31 := by lia
theorem ar411 {a : Nat} (h1 : 1 ≤ a) (h2 : a = 0) : False := by lia
theorem ar412 {a : Nat} {b : Nat} : (↑a : Int) + (↑b : Int) + 1 = (↑(a + b + 1) : Int) := Int.mem_toNat?.mp rfl
theorem ar413 {a : Nat} {b : Nat} {c : Nat} (h1 : a < c) (h2 : b = c) : a < b := Nat.lt_of_lt_of_eq h1 (id (Eq.symm h2))
theorem ar414 {a : Nat} {b : Nat} (h1 : a < b) (h2 : b < 2 ^ 60) : a < 2 ^ 60 := Nat.lt_trans h1 h2
theorem ar415 {a : Nat} {b : Nat} {c : Nat} (h1 : 0 < a) : a - (b + c + 1) < a := by lia
theorem ar416 {a : Nat} {b : Nat} (h1 : a < b + 1) : 32 < 97 + a ∧ a ≤ b := by lia
theorem ar417 {a : Nat} {b : Nat} (h1 : ¬a < b + 1) : 32 < 97 + a → b < a := by lia
theorem ar418 {a : Nat} {b : Nat} {c : Nat} {d : Nat} (h1 : a + c ≤ 2 ^ 18) (h2 : b ≤ c) : a + b + (c - (b + d + 1)) ≤ 2 ^ 18 := by lia
theorem ar419 {a : Nat} {b : Nat} : 0 + a + b = b + a := by lia
theorem ar420 {a : Nat} {b : Nat} {c : Nat} (h1 : a < 5) (h2 : b ≤ 5 * c) : a + (0 + 1) + b ≤ 5 * (c + 1) := by lia
theorem ar421 {a : Nat} {b : Nat} (h1 : a < b) (h2 : b ≤ 20) : a < 2 ^ 31 := by lia
theorem ar422 {a : Nat} {b : Nat} (h1 : a < b) (h2 : b ≤ 20) : a ≤ 2 ^ 20 := by lia
theorem ar423 {a : Nat} {b : Nat} {c : Nat} (h1 : a < b) (h2 : b < c) (h3 : c ≤ 20) : a < 2 ^ 60 := by lia
theorem ar424 {a : Nat} {b : Nat} (h1 : a < b) (h2 : b ≤ 20) : a < 2 ^ 60 := by lia
theorem ar425 {a : Nat} {b : Nat} (h1 : b ≤ a) : ¬97 + a < 97 + b := by lia
theorem ar426 {a : Nat} {b : Nat} (h1 : ¬b ≤ a) : 97 + a < 97 + b := by lia
theorem ar427 {a : Nat} {b : Nat} {c : Nat} (h1 : a = b) (h2 : b < c) (h3 : c ≤ 20) : a ≤ 20 := by lia
theorem ar428 {a : Nat} (h1 : a ≤ 20) : 1 + a ≤ 1048576 := by lia
theorem ar429 {a : Nat} {b : Nat} {c : Nat} (h1 : a = b) (h2 : b < c) (h3 : c ≤ 20) : a ≤ 2 ^ 20 := by lia
theorem ar430 {a : Nat} {b : Nat} {c : Nat} (h1 : a + c = b + 1) : a ≤ b + 1 := Nat.le.intro h1
theorem ar431 {a : Nat} {b : Nat} {c : Nat} (h1 : a ≤ c + 1) (h2 : c ≤ b) : a ≤ b + 1 := by lia
theorem ar432 {a : Nat} {b : Nat} (h1 : a + b < 50) : a + (b + 1) < 1152921504606846976 := by lia
theorem ar433 {a : Nat} (h1 : a ≤ 20) : a ≤ 2 ^ 20 := by lia
theorem ar434 {a : Nat} {b : Nat} (h1 : a ≤ 5 * b) (h2 : b ≤ 20) : a ≤ 2 ^ 20 := by lia
theorem ar435 {a : Nat} {b : Nat} (h1 : b ≤ 97 + a) : ¬97 + a < b := Nat.not_lt.mpr h1
theorem ar436 {a : Nat} {b : Nat} (h1 : ¬b ≤ 97 + a) : 97 + a < b := Nat.lt_of_not_le h1
theorem ar437 {a : Nat} {b : Nat} (h1 : a ≤ b) (h2 : b ≤ 20) : a < 2 ^ 62 := by lia
theorem ar438 {a : Nat} {b : Nat} (h1 : a ≤ 20) : a - b ≤ 20 := by lia
theorem ar439 {a : Nat} {b : Nat} (h1 : a ≤ 20) (h2 : b ≤ 20) : a + (b + 1) ≤ 2 ^ 20 := by lia
theorem ar440 {a : Nat} (h1 : a ≤ 19) : a ≤ 20 := Nat.le_succ_of_le h1
theorem ar441 {a : Nat} {b : Nat} (h1 : a + b < 49) : a + b < 50 := Nat.lt_succ_of_lt h1
theorem ar442 {a : Nat} (h1 : a ≤ 19) : a ≤ 2 ^ 20 := by lia
theorem ar443 {a : Nat} : (↑a : Int) + 1 = (↑(a + 1) : Int) := Int.ofNat_add_one_out a
theorem ar444 {a : Nat} {b : Nat} (h1 : a + b < 49) : a + b < 2 ^ 62 := by lia
theorem ar445 {a : Nat} {b : Nat} : ¬(↑a : Int) = (↑(a + (b + 1)) : Int) := by lia
theorem ar446 {a : Nat} {b : Nat} : a < a + 2 + 2 * b := by lia
theorem ar447 {a : Nat} {b : Nat} (h1 : a + b < 49) : a ≤ 2 ^ 20 := by lia
theorem ar448 {a : Nat} : ¬a = a + 1 := Nat.ne_add_one a
theorem ar449 {a : Nat} {b : Nat} : a + 1 < a + 2 + 2 * b := by lia
theorem ar450 {a : Nat} {b : Nat} : a + 2 + 2 * b + 1 = a + 3 + 2 * b := by lia
theorem ar451 {a : Nat} {b : Nat} (h1 : a ≤ b) (h2 : b ≤ 15) : a ≤ 15 := by lia
theorem ar452 {a : Nat} {b : Nat} (h1 : a + b ≤ 15 + 0) : a + b < 49 := by lia
theorem ar453 {a : Nat} {b : Nat} {c : Nat} (h1 : a + (b + 1) ≤ 15 + 0) (h2 : c = b + 1 + 1) : a + 1 + b ≤ 16 ∧ b < c := by lia
theorem ar454 {a : Nat} {b : Nat} {c : Nat} (h1 : a + (b + 1) ≤ 15 + 0) (h2 : c = b + 1 + 1) : a + 1 + b ≤ 15 ∧ b + 1 < c := by lia
theorem ar455 {a : Nat} {b : Nat} (h1 : a ≤ 15) (h2 : b = 1) : a ≤ 15 ∧ 0 < b := by lia
theorem ar456 {a : Nat} {b : Nat} (h1 : a ≤ b) (h2 : b ≤ 15) : a ≤ 19 := by lia
theorem ar457 {a : Nat} {b : Nat} (h1 : a + 1 + b ≤ 15 + 0) : a + b < 49 := by lia
theorem ar458 {a : Nat} {b : Nat} (h1 : a + 1 + b ≤ 15 + 1) : a + b < 49 := by lia
theorem ar459 {a : Nat} {b : Nat} (h1 : a < 5 ∧ b < 5) : (↑a : Int) ≤ 2 ^ 10 := by lia
theorem ar460 {a : Nat} : (↑(a + 1) : Int) - 1 = (↑a : Int) := Int.sub_eq_iff_eq_add.mpr rfl
theorem ar461 {a : Nat} {b : Nat} (h1 : a + b ≤ 15) : a + (b + 1) < 1152921504606846976 := by lia
theorem ar462 {a : Nat} {b : Nat} (h1 : a ≤ b) (h2 : b ≤ 15) : a ≤ 2 ^ 20 := by lia
theorem ar463 {a : Nat} {b : Nat} (h1 : a < b) (h2 : b ≤ 14) : a ≤ 15 := by lia
theorem ar464 {a : Nat} {b : Nat} {c : Nat} (h1 : a + b = 2 * c) (h2 : b ≤ a) (h3 : c = 7) : a ≤ 14 ∧ 7 ≤ a := by lia
theorem ar465 {a : Nat} (h1 : a ≤ 14 ∧ 7 ≤ a) : 2 ≤ a := by lia
theorem ar466 {a : Nat} (h1 : a ≤ 14 ∧ 7 ≤ a) : a < 64 := by lia
theorem ar467 {a : Nat} (h1 : a < 2 ^ 60) : a < 2 ^ 62 := by lia
theorem ar468 {a : Nat} {b : Nat} {c : Nat} (h1 : a + b = 2 * c) (h2 : c < 7) : a ≤ 14 := by lia
theorem ar469 {a : Nat} : ¬97 + a = 32 := by lia
theorem ar470 {a : Nat} : 0 + 1 + a = a + 1 := by lia
theorem ar471 {a : Nat} (h1 : a < 128) : a < 1114112 := by lia
theorem ar472 {a : Nat} {b : Nat} (h1 : a ≤ 5 * b) (h2 : b ≤ 14) : a ≤ 2 ^ 20 := by lia
theorem ar473 {a : Nat} (h1 : a < 5) : 97 + a < 128 := by lia
theorem ar474 {a : Nat} (h1 : a ≤ 14) : a < 2 ^ 60 := by lia
theorem ar475 {a : Nat} : 0 + 1 + (↑a : Int) = (↑(a + 1) : Int) := by lia
theorem ar476 {a : Nat} {b : Nat} (h1 : a = b) (h2 : b ≤ 14) : (↑a : Int) < 2 ^ 62 := by lia
theorem ar477 {a : Nat} (h1 : a ≤ 14) : a < 2 ^ 31 := by lia
theorem ar478 {a : Nat} {b : Nat} (h1 : b < a) : (↑a : Int) > (↑b : Int) := Int.ofNat_lt.mpr h1
theorem ar479 {a : Nat} {b : Nat} (h1 : ¬b < a) : ¬(↑a : Int) > (↑b : Int) := by lia
theorem ar480 {a : Nat} {b : Nat} (h1 : a ≤ b) (h2 : b ≤ 14) : a < 2 ^ 62 := by lia
theorem ar481 {a : Nat} {b : Nat} (h1 : a < b) (h2 : b ≤ 14) : a ≤ 2 ^ 20 := by lia
theorem ar482 {a : Nat} {b : Nat} {c : Nat} (h1 : b = a + 2 + 2 * c) : a < b := by lia
theorem ar483 {a : Nat} {b : Nat} {c : Nat} {d : Nat} (h1 : a < c) (h2 : b = c + 2 + 2 * d) : a < b := by lia
theorem ar484 {a : Nat} {b : Nat} {c : Nat} {d : Nat} (h1 : b < d) (h2 : c = a + 2 + 2 * d) : a + 2 + 2 * b < c := by lia
theorem ar485 {a : Nat} (h1 : a < 5) : a < 2 ^ 62 := by lia
theorem ar486 {a : Nat} {b : Nat} {c : Nat} (h1 : a ≤ 14) (h2 : b ≤ 14 * c) : a + b ≤ 14 * (c + 1) := by lia
theorem ar487 {a : Nat} {b : Nat} (h1 : a ≤ 14 * 14) (h2 : b ≤ 14) : a + b ≤ 2 ^ 20 := by lia
theorem ar488 {a : Nat} {b : Nat} (h1 : a = b) (h2 : b ≤ 14) : a < 64 := by lia
theorem ar489 {a : Nat} {b : Nat} {c : Nat} {d : Nat} (h1 : a < b ∨ a = b ∧ c ≤ d) (h2 : b < a ∨ b = a ∧ d ≤ c) : a = b := by lia
theorem ar490 {a : Nat} {b : Nat} {c : Nat} {d : Nat} (h1 : c < d ∨ c = d ∧ a ≤ b) (h2 : d < c ∨ d = c ∧ b ≤ a) : a = b := by lia
theorem ar491 {a : Nat} {b : Nat} (h1 : a < 5 ∧ b < 5) : 97 + a < 128 := by lia
theorem ar492 {a : Nat} {b : Nat} (h1 : b < 5 ∧ a < 5) : 97 + a < 128 := by lia
theorem ar493 {a : Nat} (h1 : a ≤ 14) : a ≤ 20 := by lia
theorem ar494 {a : Nat} (h1 : a ≤ 100) : a < 2 ^ 62 := by lia
theorem ar495 {a : Nat} (h1 : a ≤ 100) : a < 2 ^ 31 := by lia
theorem ar496 {a : Nat} (h1 : a ≤ 100) : a ≤ 2 ^ 20 := by lia
theorem ar497 {a : Nat} : (↑a : Int) % 3 = (↑(a % 3) : Int) := Eq.symm (Nat.ToInt.mod_congr rfl rfl)
theorem ar498 {a : Nat} : a % 3 < 2 ^ 60 := by lia
theorem ar499 {a : Nat} : a % 3 = 0 ∨ a % 3 = 1 ∨ a % 3 = 2 := by lia
theorem ar500 {a : Nat} {b : Nat} {c : Nat} {d : Nat} (h1 : a ≤ d) (h2 : b ≤ c) : a + b ≤ c + d * 1 := by lia
theorem ar501 {a : Nat} {b : Nat} (h1 : a < b) (h2 : b ≤ 100) : a < 2 ^ 60 := by lia
theorem ar502 {a : Nat} (h1 : a ≤ 100) : (↑a : Int) ≤ 2 ^ 10 := by lia
theorem ar503 {a : Nat} {b : Nat} (h1 : a ≤ 100) (h2 : b ≤ 2) : a + b ≤ 2 ^ 24 := by lia
theorem ar504 {a : Nat} {b : Nat} (h1 : a ≤ 100) (h2 : b ≤ 2) : a + b ≤ 102 := by lia
theorem ar505 {a : Nat} {b : Nat} (h1 : a ≤ 102 * b) (h2 : b ≤ 100) : a ≤ 2 ^ 20 := by lia
theorem ar506 {a : Nat} (h1 : a ≤ 2 ^ 17) : a + 1 ≤ 2 ^ 20 := by lia
theorem ar507 {a : Nat} (h1 : a ≤ 2 ^ 17) : 0 + 1 + 1 + 1 + 1 + (a + 1) ≤ 2 ^ 24 := by lia
theorem ar508 {a : Nat} (h1 : a ≤ 2 ^ 17) : a ≤ 1048571 := by lia
theorem ar509 {a : Nat} {b : Nat} {c : Nat} (h1 : a ≤ 100) (h2 : b ≤ 4) (h3 : c ≤ 2) : a + b + c ≤ 106 := by lia
theorem ar510 {a : Nat} {b : Nat} (h1 : a ≤ 106 * b) (h2 : b ≤ 100) : a ≤ 2 ^ 14 := by lia
theorem ar511 {a : Nat} (h1 : a < 4) : a ≤ 4 := Nat.le_of_succ_le h1
theorem ar512 {a : Nat} (h1 : a ≤ 2 ^ 14) : a ≤ 2 ^ 18 := by lia
theorem ar513 {a : Nat} {b : Nat} : ((↑a : Int) + (↑b : Int)) / 2 = (↑((a + b) / 2) : Int) := Eq.symm (Nat.ToInt.div_congr rfl rfl)
theorem ar514 {a : Nat} {b : Nat} : 0 ≤ (↑((a + b) / 2) : Int) := Int.natCast_nonneg ((a + b) / 2)
theorem ar515 {a : Nat} {b : Nat} (h1 : a ≤ 100) (h2 : b < 4) : (↑((a + b) / 2) : Int) ≤ 2 ^ 10 := by lia
theorem ar516 {a : Nat} {b : Nat} {c : Nat} (h1 : a ≤ 100) (h2 : b < 4) (h3 : c ≤ 2) : (a + b) / 2 + c ≤ 2 ^ 24 := by lia
theorem ar517 {a : Nat} {b : Nat} {c : Nat} (h1 : a ≤ 100) (h2 : b < 4) (h3 : c ≤ 2) : (a + b) / 2 + c ≤ 106 := by lia
theorem ar518 {a : Nat} (h1 : a ≤ 2 ^ 14) : a ≤ 2 ^ 20 := by lia
theorem ar519 {a : Nat} : (↑a : Int) / 2 = (↑(a / 2) : Int) := Eq.symm (Nat.ToInt.div_congr rfl rfl)
theorem ar520 {a : Nat} : (↑a : Int) % 2 = (↑(a % 2) : Int) := Eq.symm (Nat.ToInt.mod_congr rfl rfl)
theorem ar521 {a : Nat} {b : Nat} {c : Nat} {d : Nat} (h1 : a + b = 7 + c + d) : ¬(↑a : Int) ≠ 7 - (↑b : Int) + (↑c : Int) + (↑d : Int) := by lia
theorem ar522 {a : Nat} : a % 2 < 2 ^ 60 := by lia
theorem ar523 {a : Nat} : ¬(↑(1 + a) : Int) ≠ 1 + (↑a : Int) := not_not_intro rfl
theorem ar524 {a : Nat} {b : Nat} (h1 : b ≤ a) : ¬(↑(1 + (a - b)) : Int) ≠ 1 + ((↑a : Int) - (↑b : Int)) := by lia
theorem ar525 {a : Nat} : (↑(a + 1) : Int) > 0 := Int.ofNat_succ_pos a
theorem ar526 {a : Nat} (h1 : a + 1 < 4) : a ≤ 4 := by lia
theorem ar527 {a : Nat} (h1 : a ≤ 2 ^ 14) : a ≤ 2 ^ 19 := by lia
theorem ar528 {a : Nat} (h1 : a ≤ 63) : a < 2 ^ 60 := by lia
theorem ar529 {a : Nat} {b : Nat} {c : Nat} {d : Nat} (h1 : a = b) (h2 : b + c = 2 * d) (h3 : c ≤ b) (h4 : d = 7) : a ≤ 14 ∧ 7 ≤ a := by lia
theorem ar530 {a : Nat} {b : Nat} (h1 : a ≤ b) (h2 : b ≤ 14 ∧ 7 ≤ b) : a ≤ 14 := by lia
theorem ar531 {a : Nat} {b : Nat} (h1 : 0 = b) (h2 : b ≤ 14 ∧ 7 ≤ b) : 1 ≤ a := by lia
theorem ar532 {a : Nat} (h1 : a ≤ 14 ∧ 7 ≤ a) : 1 ≤ a := by lia
theorem ar533 {a : Nat} {b : Nat} (h1 : a ≤ b) (h2 : b ≤ 14) : a ≤ 100 := by lia
theorem ar534 {a : Nat} {b : Nat} (h1 : a = b) (h2 : b ≤ 14) : a ≤ 100 := by lia
theorem ar535 : 0 ≤ 4 := Nat.zero_le 4
theorem ar536 {a : Nat} (h1 : a + 1 ≤ 2 ^ 14) : a ≤ 2 ^ 17 := by lia
theorem ar537 {a : Nat} {b : Nat} {c : Nat} (h1 : b = a) (h2 : b = c) (h3 : c ≤ 14) : a ≤ 100 := by lia

end
section

/-- abstract values -/
inductive V where
  | none
  | bool (b : Bool)
  | int (i : Int)
  | str (s : Str)
  | list (xs : List V)
  | tup (xs : List V)
  | rng (n : Nat)
  | ref (k : Nat)
  | raw (v : Value)

/-- mutable objects -/
inductive MO where
  | list (xs : List V)
  | acc (xs : List V)
  | tab (P : Addr)

noncomputable abbrev FM := Addr → Option Obj
noncomputable abbrev Sto := List MO
noncomputable abbrev Rho := Str → Option V

noncomputable abbrev listObj (arr : Array Value) (n : Nat) : Obj := { cls := .type "list", data := .seq arr n }
noncomputable abbrev tupObj (arr : Array Value) (n : Nat) : Obj := { cls := .type "tuple", data := .seq arr n }
noncomputable abbrev accObj (C d : Addr) (arr : Array Value) (n : Nat) : Obj := { cls := .ref C, dict := some d, data := .seq arr n }

mutual
noncomputable def VR (g : FM) (φ : List Addr) : V → Value → Prop
  | .none, w => w = .none
  | .bool b, w => w = .bool b
  | .int i, w => ∃ t, w = .int i t
  | .str s, w => ∃ t, w = .str s t
  | .list xs, w => ∃ a arr n, w = .ref a ∧ g a = some (listObj arr n) ∧ VRs g φ xs arr.toList
  | .tup xs, w => ∃ a arr n, w = .ref a ∧ g a = some (tupObj arr n) ∧ VRs g φ xs arr.toList
  | .rng n, w => ∃ a t0 t1 t2, w = .ref a ∧ g a = some { cls := .type "range", data := .fields #[.int 0 t0, .int n t1, .int 1 t2] }
  | .ref k, w => ∃ a, w = .ref a ∧ φ[k]? = some a
  | .raw v, w => w = v
noncomputable def VRs (g : FM) (φ : List Addr) : List V → List Value → Prop
  | [], ws => ws = []
  | x :: xs, ws => ∃ w r, ws = w :: r ∧ VR g φ x w ∧ VRs g φ xs r
end

mutual
theorem VR.mono {g g' : FM} {φ φ' : List Addr} (hg : ∀ b o, g b = some o → g' b = some o) (hφ : ∀ (k : Nat) (a : Addr), φ[k]? = some a → φ'[k]? = some a) : ∀ {v : V} {w : Value}, VR g φ v w → VR g' φ' v w
  | .none, _, h => h
  | .bool _, _, h => h
  | .int _, _, h => h
  | .str _, _, h => h
  | .list _, _, h => by obtain ⟨a, arr, n, rfl, h1, h2⟩ := h; exact ⟨a, arr, n, rfl, hg _ _ h1, VRs.mono hg hφ h2⟩
  | .tup _, _, h => by obtain ⟨a, arr, n, rfl, h1, h2⟩ := h; exact ⟨a, arr, n, rfl, hg _ _ h1, VRs.mono hg hφ h2⟩
  | .rng _, _, h => by obtain ⟨a, t0, t1, t2, rfl, h1⟩ := h; exact ⟨a, t0, t1, t2, rfl, hg _ _ h1⟩
  | .ref _, _, h => by obtain ⟨a, rfl, h1⟩ := h; exact ⟨a, rfl, hφ _ _ h1⟩
  | .raw _, _, h => h
theorem VRs.mono {g g' : FM} {φ φ' : List Addr} (hg : ∀ b o, g b = some o → g' b = some o) (hφ : ∀ (k : Nat) (a : Addr), φ[k]? = some a → φ'[k]? = some a) : ∀ {vs : List V} {ws : List Value}, VRs g φ vs ws → VRs g' φ' vs ws
  | [], _, h => h
  | _ :: _, _, h => by obtain ⟨w, r, rfl, h1, h2⟩ := h; exact ⟨w, r, rfl, VR.mono hg hφ h1, VRs.mono hg hφ h2⟩
end

/-- frozen objects that are hidden bear no sequence and no range -/
noncomputable def Dull (o : Obj) : Prop := (∀ arr n, o ≠ listObj arr n) ∧ (∀ arr n, o ≠ tupObj arr n) ∧ (∀ fs, o ≠ { cls := .type "range", data := .fields fs })

mutual
theorem VR.hide {g g' : FM} {φ : List Addr} (hg : ∀ b o, g b = some o → g' b = some o ∨ Dull o) : ∀ {v : V} {w : Value}, VR g φ v w → VR g' φ v w
  | .none, _, h => h
  | .bool _, _, h => h
  | .int _, _, h => h
  | .str _, _, h => h
  | .list _, _, h => by obtain ⟨a, arr, n, rfl, h1, h2⟩ := h; exact ⟨a, arr, n, rfl, (hg _ _ h1).resolve_right fun q => q.1 arr n rfl, VRs.hide hg h2⟩
  | .tup _, _, h => by obtain ⟨a, arr, n, rfl, h1, h2⟩ := h; exact ⟨a, arr, n, rfl, (hg _ _ h1).resolve_right fun q => q.2.1 arr n rfl, VRs.hide hg h2⟩
  | .rng _, _, h => by obtain ⟨a, t0, t1, t2, rfl, h1⟩ := h; exact ⟨a, t0, t1, t2, rfl, (hg _ _ h1).resolve_right fun q => q.2.2 _ rfl⟩
  | .ref _, _, h => h
  | .raw _, _, h => h
theorem VRs.hide {g g' : FM} {φ : List Addr} (hg : ∀ b o, g b = some o → g' b = some o ∨ Dull o) : ∀ {vs : List V} {ws : List Value}, VRs g φ vs ws → VRs g' φ vs ws
  | [], _, h => h
  | _ :: _, _, h => by obtain ⟨w, r, rfl, h1, h2⟩ := h; exact ⟨w, r, rfl, VR.hide hg h1, VRs.hide hg h2⟩
end

theorem VRs.length {g : FM} {φ : List Addr} : ∀ {vs : List V} {ws : List Value}, VRs g φ vs ws → ws.length = vs.length
  | [], _, h => by simp only [VRs] at h; rw [h]; rfl
  | _ :: _, _, h => by obtain ⟨w, r, rfl, _, h2⟩ := h; simp [VRs.length h2]
theorem VRs.get {g : FM} {φ : List Addr} : ∀ {vs : List V} {ws : List Value}, VRs g φ vs ws → ∀ {i : Nat} {v : V}, vs[i]? = some v → ∃ w, ws[i]? = some w ∧ VR g φ v w
  | [], _, _, i, v, e => by simp at e
  | x :: xs, _, h, i, v, e => by
    obtain ⟨w, r, rfl, h1, h2⟩ := h
    cases i with
    | zero => simp at e; subst e; exact ⟨w, rfl, h1⟩
    | succ i => simp at e; obtain ⟨w', e', h'⟩ := VRs.get h2 e; exact ⟨w', by simpa using e', h'⟩
theorem VRs.append {g : FM} {φ : List Addr} : ∀ {vs : List V} {ws : List Value} {vs' : List V} {ws' : List Value}, VRs g φ vs ws → VRs g φ vs' ws' → VRs g φ (vs ++ vs') (ws ++ ws')
  | [], _, _, _, h, h' => by simp only [VRs] at h; subst h; exact h'
  | _ :: _, _, _, _, h, h' => by obtain ⟨w, r, rfl, h1, h2⟩ := h; exact ⟨w, _, rfl, h1, VRs.append h2 h'⟩
theorem VRs.single {g : FM} {φ : List Addr} {v : V} {w : Value} (hv : VR g φ v w) : VRs g φ [v] [w] := ⟨w, [], rfl, hv, rfl⟩
theorem VRs.drop {g : FM} {φ : List Addr} : ∀ (i : Nat) {vs : List V} {ws : List Value}, VRs g φ vs ws → VRs g φ (vs.drop i) (ws.drop i)
  | 0, _, _, h => h
  | i + 1, [], _, h => by simp only [VRs] at h; subst h; simp [VRs]
  | i + 1, _ :: _, _, h => by obtain ⟨w', r, rfl, h1, h2⟩ := h; simpa using VRs.drop i h2
theorem VRs.take {g : FM} {φ : List Addr} : ∀ (i : Nat) {vs : List V} {ws : List Value}, VRs g φ vs ws → VRs g φ (vs.take i) (ws.take i)
  | 0, _, _, h => by simp [VRs]
  | i + 1, [], _, h => by simp only [VRs] at h; subst h; simp [VRs]
  | i + 1, _ :: _, _, h => by obtain ⟨w', r, rfl, h1, h2⟩ := h; exact ⟨w', _, by simp, h1, VRs.take i h2⟩

/-- what is fixed through the law's call -/
structure Glb where
  prog : Program
  w : World
  base : FM
  mg : Str → Option Value
  mb : Str → Option Value
  C : Addr

noncomputable def Glb.In (G : Glb) (h : Heap) : Prop := ∀ b o, G.base b = some o → h.get? b = some o
structure Glb.Ok (G : Glb) : Prop where
  nsg : ∀ h, G.In h → h.Ns mainGlobals G.mg
  nsb : ∀ h, G.In h → h.Ns builtinsNs G.mb
  nolimit : ∀ h, G.In h → h.NoLimit

noncomputable def MOR (G : Glb) (g : FM) (φ : List Addr) (h : Heap) (a : Addr) : MO → Prop
  | .list xs => ∃ arr n, h.get? a = some (listObj arr n) ∧ VRs g φ xs arr.toList
  | .acc xs => ∃ d arr n od, h.get? a = some (accObj G.C d arr n) ∧ VRs g φ xs arr.toList ∧ g d = some od ∧ (∀ name : Str, name ≠ Str.ofString "_initial_size" → lookIn name od = some none) ∧ ∃ t, lookIn (Str.ofString "_initial_size") od = some (some (.int 0 t))
  | .tab P => a = P ∧ ∃ ps, h.get? a = some { cls := .none, data := .fields ps } ∧ TriplesOk ps.toList
theorem MOR.live {G : Glb} {g : FM} {φ : List Addr} {h : Heap} {a : Addr} {m : MO} (x : MOR G g φ h a m) : ∃ o, h.get? a = some o := by
  cases m with
  | list xs => obtain ⟨arr, n, e, _⟩ := x; exact ⟨_, e⟩
  | acc xs => obtain ⟨d, arr, n, od, e, _⟩ := x; exact ⟨_, e⟩
  | tab P => obtain ⟨_, ps, e, _⟩ := x; exact ⟨_, e⟩

/-- the store's relation -/
structure SR (G : Glb) (g : FM) (h : Heap) (φ : List Addr) (σ : Sto) : Prop where
  base : ∀ b o, G.base b = some o → g b = some o
  keep : ∀ b o, g b = some o → h.get? b = some o
  len : φ.length = σ.length
  mo : ∀ (k : Nat) (a : Addr) (m : MO), φ[k]? = some a → σ[k]? = some m → MOR G g φ h a m
  fresh : ∀ a ∈ φ, g a = none
  nodup : φ.Nodup

theorem SR.live {G : Glb} {g : FM} {h : Heap} {φ : List Addr} {σ : Sto} (S : SR G g h φ σ) {a : Addr} (ha : a ∈ φ) : ∃ o, h.get? a = some o := by
  obtain ⟨k, hk'⟩ := List.getElem?_of_mem ha
  have hlt : k < σ.length := by rw [← S.len]; exact (List.getElem?_eq_some_iff.mp hk').1
  exact (S.mo k a σ[k] hk' (List.getElem?_eq_getElem hlt)).live
theorem SR.inb {G : Glb} {g : FM} {h : Heap} {φ : List Addr} {σ : Sto} (S : SR G g h φ σ) : G.In h := fun b o e => S.keep b o (S.base b o e)

/-- the frame's relation: `own` are the names whose cells are the frame's own -/
structure FR (g : FM) (φ : List Addr) (h : Heap) (env : Env) (own : List Str) (ρ : Rho) : Prop where
  Lg : g env.locals = none
  Lφ : env.locals ∉ φ
  ns : ∃ m, h.Ns env.locals m ∧ ∀ x v, env.kindOf x = some .local → ρ x = some v → ∃ w, m x = some w ∧ VR g φ v w
  cell : ∀ x v, (env.kindOf x = some .cell ∨ env.kindOf x = some .free) → ρ x = some v → ∃ c w, env.cells.lookup x = some c ∧ h.IsCell c (some w) ∧ VR g φ v w ∧ (x ∈ own ∨ ∃ o, g c = some o)
  ownc : ∀ x ∈ own, ∃ c v0, env.cells.lookup x = some c ∧ h.IsCell c v0 ∧ g c = none ∧ c ∉ φ ∧ c ≠ env.locals
  inj : ∀ x ∈ own, ∀ y ∈ own, ∀ c, env.cells.lookup x = some c → env.cells.lookup y = some c → x = y

/-- the frame's own addresses -/
noncomputable def fpOf (env : Env) (own : List Str) : List Addr := env.locals :: own.filterMap fun x => env.cells.lookup x

structure EnvOk (sc : Scope) (env : Env) : Prop where
  scope : env.scope = sc
  kind : sc.kind = .function
  globals : env.globals = mainGlobals
  builtins : env.builtins = builtinsNs

structure Cx (ℓ : Nat) (A : Around) : Prop where
  handled : A.handled = none
  depth : A.depth + 10 * ℓ ≤ 900
  units : A.units + 100 * ℓ ≤ 9000

structure SOk (s : Shared) : Prop where
  toks : 1 ≤ s.toks
  bare : AllBare s.gens

/-- the state is related -/
structure Rel (G : Glb) (g : FM) (φ : List Addr) (σ : Sto) (env : Env) (own : List Str) (ρ : Rho) (s : Shared) : Prop where
  ok : SOk s
  sr : SR G g s.heap φ σ
  fr : FR g φ s.heap env own ρ

/-- a step from s to s' that may touch `fp` and the store -/
structure Nx (fp : List Addr) (s s' : Shared) (g g' : FM) (φ φ' : List Addr) : Prop where
  drawn : s'.drawn = s.drawn
  os : s'.os = s.os
  sub : ∀ b o, g b = some o → g' b = some o
  new : ∀ b o, g' b = some o → g b = some o ∨ s.heap.get? b = none
  pre : ∃ r, φ' = φ ++ r ∧ ∀ a ∈ r, s.heap.get? a = none
  oth : ∀ b o, b ∉ fp → b ∉ φ → s.heap.get? b = some o → s'.heap.get? b = some o
  ex : ∀ b, s.heap.get? b ≠ none → s'.heap.get? b ≠ none

theorem Nx.refl {fp : List Addr} {s s' : Shared} {g : FM} {φ : List Addr} (hh : s'.heap = s.heap) (hd : s'.drawn = s.drawn := by rfl) (ho : s'.os = s.os := by rfl) : Nx fp s s' g g φ φ :=
  ⟨hd, ho, fun _ _ e => e, fun _ _ e => .inl e, ⟨[], by simp, by simp⟩, fun b o _ _ e => by rw [hh]; exact e, fun b e => by rw [hh]; exact e⟩

theorem Nx.trans {fp : List Addr} {s₁ s₂ s₃ : Shared} {g₁ g₂ g₃ : FM} {φ₁ φ₂ φ₃ : List Addr} (x : Nx fp s₁ s₂ g₁ g₂ φ₁ φ₂) (y : Nx fp s₂ s₃ g₂ g₃ φ₂ φ₃) : Nx fp s₁ s₃ g₁ g₃ φ₁ φ₃ := by
  obtain ⟨r, rfl, hr⟩ := x.pre
  obtain ⟨r', rfl, hr'⟩ := y.pre
  have nn : ∀ b, s₂.heap.get? b = none → s₁.heap.get? b = none := fun b e => by
    cases q : s₁.heap.get? b with
    | none => rfl
    | some o => exact absurd e (x.ex b (by rw [q]; simp))
  refine ⟨y.drawn.trans x.drawn, y.os.trans x.os, fun b o e => y.sub b o (x.sub b o e), fun b o e => ?_, ⟨r ++ r', by simp, fun a ha => ?_⟩, fun b o h1 h2 e => ?_, fun b e => y.ex b (x.ex b e)⟩
  · rcases y.new b o e with q | q
    · exact x.new b o q
    · exact .inr (nn b q)
  · rcases List.mem_append.mp ha with q | q
    · exact hr a q
    · exact nn a (hr' a q)
  · refine y.oth b o h1 (fun q => ?_) (x.oth b o h1 h2 e)
    rcases List.mem_append.mp q with q | q
    · exact h2 q
    · rw [hr b q] at e; cases e

theorem Nx.weaken {fp fp' : List Addr} {s s' : Shared} {g g' : FM} {φ φ' : List Addr} (x : Nx fp s s' g g' φ φ') (hf : ∀ a ∈ fp, a ∈ fp') : Nx fp' s s' g g' φ φ' :=
  { x with oth := fun b o h1 h2 e => x.oth b o (fun q => h1 (hf b q)) h2 e }

theorem Nx.phi {fp : List Addr} {s s' : Shared} {g g' : FM} {φ φ' : List Addr} (x : Nx fp s s' g g' φ φ') : ∀ (k : Nat) (a : Addr), φ[k]? = some a → φ'[k]? = some a := by
  obtain ⟨r, rfl, _⟩ := x.pre
  intro k a e
  rw [List.getElem?_append_left]
  · exact e
  · exact (List.getElem?_eq_some_iff.mp e).1
theorem Nx.vr {fp : List Addr} {s s' : Shared} {g g' : FM} {φ φ' : List Addr} (x : Nx fp s s' g g' φ φ') {v : V} {w : Value} (h : VR g φ v w) : VR g' φ' v w := VR.mono x.sub x.phi h
theorem Nx.vrs {fp : List Addr} {s s' : Shared} {g g' : FM} {φ φ' : List Addr} (x : Nx fp s s' g g' φ φ') {v : List V} {w : List Value} (h : VRs g φ v w) : VRs g' φ' v w := VRs.mono x.sub x.phi h

/-- an expression -/
noncomputable def Ev (G : Glb) (ℓ : Nat) (sc : Scope) (e : Expr) (W : (V → Sto → Prop) → Rho → Sto → Prop) : Prop :=
  ∀ (A : Around) (env : Env) (own : List Str) (s : Shared) (g : FM) (φ : List Addr) (σ : Sto) (ρ : Rho) (Q : V → Sto → Prop), Cx ℓ A → EnvOk sc env → Rel G g φ σ env own ρ s → W Q ρ σ →
    ∀ (K : Value → Shared → Prop) (E : Value → Shared → Prop),
      (∀ w s' g' φ' σ' v, Nx [] s s' g g' φ φ' → Rel G g' φ' σ' env own ρ s' → VR g' φ' v w → Q v σ' → K w s') → wpAny (model G.prog G.w) A (eval e env) K E s

/-- a test -/
noncomputable def Tt (G : Glb) (ℓ : Nat) (sc : Scope) (e : Expr) (W : (Bool → Sto → Prop) → Rho → Sto → Prop) : Prop :=
  ∀ (A : Around) (env : Env) (own : List Str) (s : Shared) (g : FM) (φ : List Addr) (σ : Sto) (ρ : Rho) (Q : Bool → Sto → Prop), Cx ℓ A → EnvOk sc env → Rel G g φ σ env own ρ s → W Q ρ σ →
    ∀ (K : Bool → Shared → Prop) (E : Value → Shared → Prop),
      (∀ b s' g' φ' σ', Nx [] s s' g g' φ φ' → Rel G g' φ' σ' env own ρ s' → Q b σ' → K b s') → wpAny (model G.prog G.w) A (isTrue e env (eval e env)) K E s

inductive Fl where
  | nx | br | ct
  | rt (v : V)
noncomputable def FlR (g : FM) (φ : List Addr) : Fl → Flow → Prop
  | .nx, f => f = .next
  | .br, f => f = .brk
  | .ct, f => f = .cont
  | .rt v, f => ∃ w, f = .ret w ∧ VR g φ v w

noncomputable abbrev WS := (Fl → Rho → Sto → Prop) → Rho → Sto → Prop
noncomputable abbrev WE := (V → Sto → Prop) → Rho → Sto → Prop
noncomputable abbrev WT := (Bool → Sto → Prop) → Rho → Sto → Prop

/-- a statement -/
noncomputable def Sx (G : Glb) (ℓ : Nat) (sc : Scope) (own : List Str) (st : Stmt) (W : WS) : Prop :=
  ∀ (A : Around) (env : Env) (s : Shared) (g : FM) (φ : List Addr) (σ : Sto) (ρ : Rho) (Q : Fl → Rho → Sto → Prop), Cx ℓ A → EnvOk sc env → Rel G g φ σ env own ρ s → W Q ρ σ →
    ∀ (K : Flow → Shared → Prop) (E : Value → Shared → Prop),
      (∀ f s' g' φ' σ' ρ' fl, Nx (fpOf env own) s s' g g' φ φ' → Rel G g' φ' σ' env own ρ' s' → FlR g' φ' fl f → Q fl ρ' σ' → K f s') → wpAny (model G.prog G.w) A (exec st env) K E s
noncomputable def Sxs (G : Glb) (ℓ : Nat) (sc : Scope) (own : List Str) (st : List Stmt) (W : WS) : Prop :=
  ∀ (A : Around) (env : Env) (s : Shared) (g : FM) (φ : List Addr) (σ : Sto) (ρ : Rho) (Q : Fl → Rho → Sto → Prop), Cx ℓ A → EnvOk sc env → Rel G g φ σ env own ρ s → W Q ρ σ →
    ∀ (K : Flow → Shared → Prop) (E : Value → Shared → Prop),
      (∀ f s' g' φ' σ' ρ' fl, Nx (fpOf env own) s s' g g' φ φ' → Rel G g' φ' σ' env own ρ' s' → FlR g' φ' fl f → Q fl ρ' σ' → K f s') → wpAny (model G.prog G.w) A (execs st env) K E s

theorem of_toks {α : Type} {M : Model} {A : Around} {s : Shared} {t : Sem α} {K : α → Shared → Prop} {E : Value → Shared → Prop} (h1 : 1 ≤ s.toks)
    (h : wpAny M A t (fun a s' => 1 ≤ s'.toks → K a s') (fun e s' => E e s') s) : wpAny M A t K E s :=
  wpAny_mono (wpAny_toks_of h1 h) (fun _ _ q => q.2 q.1) fun _ _ q => q.2

/-- the state moves, the heap stays -/
theorem Rel.same {G : Glb} {g : FM} {φ : List Addr} {σ : Sto} {env : Env} {own : List Str} {ρ : Rho} {s s' : Shared} (R : Rel G g φ σ env own ρ s) (hh : s'.heap = s.heap) (ht : 1 ≤ s'.toks) (hg : AllBare s'.gens) : Rel G g φ σ env own ρ s' :=
  ⟨⟨ht, hg⟩, by rw [hh]; exact R.sr, by rw [hh]; exact R.fr⟩

/-- a heap in which all but what is listed stays: the relation stays -/
theorem MOR.keeps {G : Glb} {g g' : FM} {φ φ' : List Addr} {h h' : Heap} {a : Addr} {m : MO} (hg : ∀ b o, g b = some o → g' b = some o) (hφ : ∀ (k : Nat) (a : Addr), φ[k]? = some a → φ'[k]? = some a) (hh : ∀ o, h.get? a = some o → h'.get? a = some o) (x : MOR G g φ h a m) : MOR G g' φ' h' a m := by
  cases m with
  | list xs => obtain ⟨arr, n, h1, h2⟩ := x; exact ⟨arr, n, hh _ h1, VRs.mono hg hφ h2⟩
  | acc xs => obtain ⟨d, arr, n, od, h1, h2, h3, r⟩ := x; exact ⟨d, arr, n, od, hh _ h1, VRs.mono hg hφ h2, hg _ _ h3, r⟩
  | tab P => obtain ⟨h0, ps, h1, h2⟩ := x; exact ⟨h0, ps, hh _ h1, h2⟩


end
section
set_option autoImplicit false

section
variable {G : Glb} {g g' : FM} {φ φ' : List Addr} {σ : Sto} {env : Env} {own : List Str} {ρ : Rho} {s s' : Shared}

theorem FR.keeps {h h' : Heap} (F : FR g φ h env own ρ) (hg : ∀ b o, g b = some o → g' b = some o) (hp : ∀ (k : Nat) (a : Addr), φ[k]? = some a → φ'[k]? = some a)
    (hn : ∀ b, h.get? b ≠ none → g' b = none ∨ g b ≠ none) (hm : ∀ b ∈ φ', b ∈ φ ∨ h.get? b = none)
    (hk : ∀ b o, b ∈ fpOf env own ∨ g b ≠ none → h.get? b = some o → h'.get? b = some o) : FR g' φ' h' env own ρ := by
  have hL : env.locals ∈ fpOf env own := List.mem_cons_self
  have hc : ∀ x ∈ own, ∀ c, env.cells.lookup x = some c → c ∈ fpOf env own := fun x hx c e => List.mem_cons_of_mem _ (List.mem_filterMap.mpr ⟨x, hx, e⟩)
  obtain ⟨m, hns, hv⟩ := F.ns
  obtain ⟨o, es, ep, ho, r⟩ := hns
  refine ⟨?_, fun q => ?_, ⟨m, ⟨o, es, ep, hk _ _ (.inl hL) ho, r⟩, fun x v h1 h2 => ?_⟩, fun x v h1 h2 => ?_, fun x hx => ?_, F.inj⟩
  · rcases hn _ (by rw [ho]; simp) with q | q
    · exact q
    · exact absurd F.Lg q
  · rcases hm _ q with q | q
    · exact F.Lφ q
    · rw [ho] at q; cases q
  · obtain ⟨w, e, q⟩ := hv x v h1 h2
    exact ⟨w, e, VR.mono hg hp q⟩
  · obtain ⟨c, w, e, ⟨oc, hoc, hd⟩, q, r⟩ := F.cell x v h1 h2
    refine ⟨c, w, e, ⟨oc, hk _ _ ?_ hoc, hd⟩, VR.mono hg hp q, r.imp id fun ⟨o, e⟩ => ⟨o, hg _ _ e⟩⟩
    exact r.imp (fun h => hc x h c e) fun ⟨o, e⟩ => by rw [e]; simp
  · obtain ⟨c, v0, e, ⟨oc, hoc, hd⟩, q, r, z⟩ := F.ownc x hx
    refine ⟨c, v0, e, ⟨oc, hk _ _ (.inl (hc x hx c e)) hoc, hd⟩, ?_, fun y => ?_, z⟩
    · rcases hn _ (by rw [hoc]; simp) with y | y
      · exact y
      · exact absurd q y
    · rcases hm _ y with y | y
      · exact r y
      · rw [hoc] at y; cases y

theorem Rel.moLive (R : Rel G g φ σ env own ρ s) {a : Addr} (ha : a ∈ φ) : ∃ o, s.heap.get? a = some o := R.sr.live ha

end

section
variable {G : Glb} {ℓ : Nat} {sc : Scope}

theorem Ev.int {i : Int} {k : Nat} {pos : Pos} : Ev G ℓ sc (.Constant (.int i) k pos) fun Q _ σ => Q (.int i) σ := by
  intro A env own s g φ σ ρ Q _ _ R hW K E k
  refine wpAny_Constant_int (k _ _ _ _ _ (.int i) (Nx.refl rfl) (R.same rfl (Nat.le_succ_of_le R.ok.toks) R.ok.bare) ⟨_, rfl⟩ hW)
theorem Ev.str {x : Str} {k : Nat} {pos : Pos} : Ev G ℓ sc (.Constant (.str x) k pos) fun Q _ σ => Q (.str x) σ := by
  intro A env own s g φ σ ρ Q _ _ R hW K E k
  refine wpAny_Constant_str (k _ _ _ _ _ (.str x) (Nx.refl rfl) (R.same rfl (Nat.le_succ_of_le R.ok.toks) R.ok.bare) ⟨_, rfl⟩ hW)
theorem Ev.bool {b : Bool} {k : Nat} {pos : Pos} : Ev G ℓ sc (.Constant (.bool b) k pos) fun Q _ σ => Q (.bool b) σ := by
  intro A env own s g φ σ ρ Q _ _ R hW K E k
  refine wpAny_Constant_bool (k _ _ _ _ _ (.bool b) (Nx.refl rfl) R rfl hW)
noncomputable def wName (x : Str) : WE := fun Q ρ σ => ∃ v, ρ x = some v ∧ Q v σ
theorem Ev.local {x : Str} {pos : Pos} (hk : sc.names.lookup x = some .local) (hd : (x == ("__debug__" : Str)) = false := by decide) : Ev G ℓ sc (.Name x pos) (wName x) := by
  intro A env own s g φ σ ρ Q _ eo R hW K E k
  obtain ⟨v, hv, hq⟩ := hW
  obtain ⟨m, hns, hm⟩ := R.fr.ns
  have hk' : env.kindOf x = some .local := by unfold Env.kindOf; rw [eo.scope]; exact hk
  obtain ⟨w, hw, hr⟩ := hm x v hk' hv
  exact wpAny_Name (wpAny_loadName_local (by rw [eo.scope]; exact eo.kind) hk' hns hw (k _ _ _ _ _ _ (Nx.refl rfl) R hr hq)) hd
theorem Ev.cell {x : Str} {pos : Pos} (hk : sc.names.lookup x = some .cell) (hd : (x == ("__debug__" : Str)) = false := by decide) : Ev G ℓ sc (.Name x pos) (wName x) := by
  intro A env own s g φ σ ρ Q _ eo R hW K E k
  obtain ⟨v, hv, hq⟩ := hW
  have hk' : env.kindOf x = some .cell := by unfold Env.kindOf; rw [eo.scope]; exact hk
  obtain ⟨c, w, hc, hw, hr, _⟩ := R.fr.cell x v (.inl hk') hv
  exact wpAny_Name (wpAny_loadName_cell (by rw [eo.scope]; exact eo.kind) hk' hc hw (k _ _ _ _ _ _ (Nx.refl rfl) R hr hq)) hd
theorem Ev.glob (O : G.Ok) {x : Str} {pos : Pos} {w : Value} {v : V} (hk : sc.names.lookup x = some .globalImplicit) (hm : G.mg x = some w) (hr : ∀ g φ, VR g φ v w) (hd : (x == ("__debug__" : Str)) = false := by decide) :
    Ev G ℓ sc (.Name x pos) fun Q _ σ => Q v σ := by
  intro A env own s g φ σ ρ Q _ eo R hW K E k
  have hk' : env.kindOf x = some .globalImplicit := by unfold Env.kindOf; rw [eo.scope]; exact hk
  exact Calls.Name_function_global (by rw [eo.scope]; exact eo.kind) hk' (Calls.loadGlobal_global (by rw [eo.globals]; exact O.nsg _ R.sr.inb) hm (k _ _ _ _ _ _ (Nx.refl rfl) R (hr _ _) hW)) hd
theorem Ev.builtin (O : G.Ok) {x : Str} {pos : Pos} {w : Value} (hk : sc.names.lookup x = some .globalImplicit) (hm : G.mg x = Option.none) (hb : G.mb x = some w) (hd : (x == ("__debug__" : Str)) = false := by decide) :
    Ev G ℓ sc (.Name x pos) fun Q _ σ => Q (.raw w) σ := by
  intro A env own s g φ σ ρ Q _ eo R hW K E k
  have hk' : env.kindOf x = some .globalImplicit := by unfold Env.kindOf; rw [eo.scope]; exact hk
  exact Calls.Name_function_global (by rw [eo.scope]; exact eo.kind) hk' (Calls.loadGlobal_builtin (by rw [eo.globals]; exact O.nsg _ R.sr.inb) hm (by rw [eo.builtins]; exact O.nsb _ R.sr.inb) hb (k _ _ _ _ _ (.raw w) (Nx.refl rfl) R rfl hW)) hd
end

noncomputable def upd (ρ : Rho) (x : Str) (v : V) : Rho := fun y => if y = x then some v else ρ y

section
variable {G : Glb} {g : FM} {φ : List Addr} {σ : Sto} {env : Env} {own : List Str} {ρ : Rho} {s : Shared} {A : Around} {E : Value → Shared → Prop}

/-- a local name stored makes a token -/
theorem store_local0 {sc : Scope} {x : Str} {v : V} {w : Value} {K : Unit → Shared → Prop} (eo : EnvOk sc env) (hb : AllBare s.gens) (S : SR G g s.heap φ σ) (F : FR g φ s.heap env own ρ) (hk : sc.names.lookup x = some .local) (hv : VR g φ v w)
    (k : ∀ s', Nx (fpOf env own) s s' g g φ φ → Rel G g φ σ env own (upd ρ x v) s' → K () s') : wpAny (model G.prog G.w) A (storeName env x w) K E s := by
  have hk' : env.kindOf x = some .local := by unfold Env.kindOf; rw [eo.scope]; exact hk
  obtain ⟨m, hns, hm⟩ := F.ns
  refine wpAny_storeName_local hk' hns (fun h' hn' hs => k _ ⟨rfl, rfl, fun _ _ e => e, fun _ _ e => .inl e, ⟨[], by simp, by simp⟩, fun b o h1 h2 e => ?_, fun b e => ?_⟩
    ⟨⟨Nat.le_add_left _ _, hb⟩, ⟨S.base, fun b o e => ?_, S.len, fun i a mm h1 h2 => MOR.keeps (fun _ _ e => e) (fun _ _ e => e) (fun o e => ?_) (S.mo i a mm h1 h2), S.fresh, S.nodup⟩,
      F.Lg, F.Lφ, ⟨_, hn', fun y u h1 h2 => ?_⟩, fun y u h1 h2 => ?_, fun y hy => ?_, F.inj⟩) (by rw [eo.scope, eo.kind]; rfl)
  · exact (hs.2 b fun q => h1 (by rw [q]; exact List.mem_cons_self)).trans e
  · by_cases q : b = env.locals
    · subst q
      obtain ⟨o, es, ep, ho, _⟩ := hn'
      show h'.get? env.locals ≠ _
      rw [ho]; simp
    · show h'.get? b ≠ _
      rw [hs.2 b q]; exact e
  · exact (hs.2 b fun q => by rw [q, F.Lg] at e; cases e).trans (S.keep b o e)
  · exact (hs.2 a fun q => F.Lφ (q ▸ List.mem_of_getElem? h1)).trans e
  · unfold upd at h2
    by_cases q : y = x
    · subst q; rw [if_pos rfl] at h2; cases h2; exact ⟨w, by simp, hv⟩
    · rw [if_neg q] at h2
      obtain ⟨w', e, r⟩ := hm y u h1 h2
      exact ⟨w', by simp [q, e], r⟩
  · have q : y ≠ x := fun q => by rw [q, hk'] at h1; rcases h1 with h1 | h1 <;> cases h1
    unfold upd at h2
    rw [if_neg q] at h2
    obtain ⟨c, w', e, ⟨oc, hoc, hd⟩, r, z⟩ := F.cell y u h1 h2
    refine ⟨c, w', e, ⟨oc, (hs.2 c fun q => ?_).trans hoc, hd⟩, r, z⟩
    rcases z with z | ⟨o, z⟩
    · obtain ⟨c', v0, e', _, _, _, hne⟩ := F.ownc y z
      rw [e] at e'; cases e'; exact hne q
    · rw [q, F.Lg] at z; cases z
  · obtain ⟨c, v0, e, ⟨oc, hoc, hd⟩, r⟩ := F.ownc y hy
    exact ⟨c, v0, e, ⟨oc, (hs.2 c r.2.2).trans hoc, hd⟩, r⟩

theorem store_cell0 {sc : Scope} {x : Str} {v : V} {w : Value} {K : Unit → Shared → Prop} (eo : EnvOk sc env) (hb : AllBare s.gens) (S : SR G g s.heap φ σ) (F : FR g φ s.heap env own ρ) (hk : sc.names.lookup x = some .cell) (ho : x ∈ own) (hv : VR g φ v w)
    (k : ∀ s', Nx (fpOf env own) s s' g g φ φ → s'.toks = s.toks → AllBare s'.gens → SR G g s'.heap φ σ → FR g φ s'.heap env own (upd ρ x v) → K () s') : wpAny (model G.prog G.w) A (storeName env x w) K E s := by
  have hk' : env.kindOf x = some .cell := by unfold Env.kindOf; rw [eo.scope]; exact hk
  obtain ⟨c, v0, hc, hcl, hgc, hcφ, hcL⟩ := F.ownc x ho
  obtain ⟨m, hns, hm⟩ := F.ns
  refine wpAny_storeName_cell (by rw [eo.scope]; exact eo.kind) hk' hc hcl fun h' hn' hs => k _ ⟨rfl, rfl, fun _ _ e => e, fun _ _ e => .inl e, ⟨[], by simp, by simp⟩, fun b o h1 h2 e => ?_, fun b e => ?_⟩
    rfl hb ⟨S.base, fun b o e => ?_, S.len, fun i a mm h1 h2 => MOR.keeps (fun _ _ e => e) (fun _ _ e => e) (fun o e => ?_) (S.mo i a mm h1 h2), S.fresh, S.nodup⟩
      ⟨F.Lg, F.Lφ, ⟨m, hns.sameBut hs (Ne.symm hcL), fun y u h1 h2 => ?_⟩, fun y u h1 h2 => ?_, fun y hy => ?_, F.inj⟩
  · exact (hs.2 b fun q => h1 (by rw [q]; exact List.mem_cons_of_mem _ (List.mem_filterMap.mpr ⟨x, ho, hc⟩))).trans e
  · by_cases q : b = c
    · subst q
      obtain ⟨o, ho, _⟩ := hn'
      show h'.get? b ≠ _
      rw [ho]; simp
    · show h'.get? b ≠ _
      rw [hs.2 b q]; exact e
  · exact (hs.2 b fun q => by rw [q, hgc] at e; cases e).trans (S.keep b o e)
  · exact (hs.2 a fun q => hcφ (q ▸ List.mem_of_getElem? h1)).trans e
  · have q : y ≠ x := fun q => by rw [q, hk'] at h1; cases h1
    unfold upd at h2
    rw [if_neg q] at h2
    exact hm y u h1 h2
  · unfold upd at h2
    by_cases q : y = x
    · subst q; rw [if_pos rfl] at h2; cases h2
      exact ⟨c, w, hc, hn', hv, .inl ho⟩
    · rw [if_neg q] at h2
      obtain ⟨c', w', e, ⟨oc, hoc, hd⟩, r, z⟩ := F.cell y u h1 h2
      refine ⟨c', w', e, ⟨oc, (hs.2 c' fun q' => ?_).trans hoc, hd⟩, r, z⟩
      subst q'
      rcases z with z | ⟨o, z⟩
      · exact q (F.inj y z x ho c' e hc)
      · rw [hgc] at z; cases z
  · obtain ⟨c', v0', e, ⟨oc, hoc, hd⟩, r⟩ := F.ownc y hy
    by_cases q : c' = c
    · subst q
      exact ⟨c', some w, e, hn', r⟩
    · exact ⟨c', v0', e, ⟨oc, (hs.2 c' q).trans hoc, hd⟩, r⟩

theorem store_local {sc : Scope} {x : Str} {v : V} {w : Value} {K : Unit → Shared → Prop} (eo : EnvOk sc env) (R : Rel G g φ σ env own ρ s) (hk : sc.names.lookup x = some .local) (hv : VR g φ v w)
    (k : ∀ s', Nx (fpOf env own) s s' g g φ φ → Rel G g φ σ env own (upd ρ x v) s' → K () s') : wpAny (model G.prog G.w) A (storeName env x w) K E s := store_local0 eo R.ok.bare R.sr R.fr hk hv k
theorem store_cell {sc : Scope} {x : Str} {v : V} {w : Value} {K : Unit → Shared → Prop} (eo : EnvOk sc env) (R : Rel G g φ σ env own ρ s) (hk : sc.names.lookup x = some .cell) (ho : x ∈ own) (hv : VR g φ v w)
    (k : ∀ s', Nx (fpOf env own) s s' g g φ φ → Rel G g φ σ env own (upd ρ x v) s' → K () s') : wpAny (model G.prog G.w) A (storeName env x w) K E s :=
  store_cell0 eo R.ok.bare R.sr R.fr hk ho hv fun s' N ht B S F => k s' N ⟨⟨by rw [ht]; exact R.ok.toks, B⟩, S, F⟩
end

/-- a name that the frame may store -/
noncomputable def canStore (sc : Scope) (own : List Str) (x : Str) : Prop := sc.names.lookup x = some .local ∨ (sc.names.lookup x = some .cell ∧ x ∈ own)
theorem store_name {G : Glb} {g : FM} {φ : List Addr} {σ : Sto} {env : Env} {own : List Str} {ρ : Rho} {s : Shared} {A : Around} {E : Value → Shared → Prop} {sc : Scope} {x : Str} {v : V} {w : Value} {K : Unit → Shared → Prop}
    (eo : EnvOk sc env) (R : Rel G g φ σ env own ρ s) (hk : canStore sc own x) (hv : VR g φ v w)
    (k : ∀ s', Nx (fpOf env own) s s' g g φ φ → Rel G g φ σ env own (upd ρ x v) s' → K () s') : wpAny (model G.prog G.w) A (storeName env x w) K E s := by
  rcases hk with hk | ⟨hk, ho⟩
  · exact store_local eo R hk hv k
  · exact store_cell eo R hk ho hv k


end
section
set_option autoImplicit false

noncomputable abbrev WL := (List V → Sto → Prop) → Rho → Sto → Prop
noncomputable abbrev WA := V → (Rho → Sto → Prop) → Rho → Sto → Prop

/-- several expressions, one behind the other -/
noncomputable def Evs (G : Glb) (ℓ : Nat) (sc : Scope) (es : List Expr) (W : WL) : Prop :=
  ∀ (A : Around) (env : Env) (own : List Str) (s : Shared) (g : FM) (φ : List Addr) (σ : Sto) (ρ : Rho) (Q : List V → Sto → Prop), Cx ℓ A → EnvOk sc env → Rel G g φ σ env own ρ s → W Q ρ σ →
    ∀ (pos : Pos) (K : List Value → Shared → Prop) (E : Value → Shared → Prop),
      (∀ ws s' g' φ' σ' vs, Nx [] s s' g g' φ φ' → Rel G g' φ' σ' env own ρ s' → VRs g' φ' vs ws → Q vs σ' → K ws s') → wpAny (model G.prog G.w) A (spliced (backTo pos (starEach es env))) K E s

/-- an assignment's target -/
noncomputable def Asg (G : Glb) (ℓ : Nat) (sc : Scope) (own : List Str) (t : Expr) (W : WA) : Prop :=
  ∀ (A : Around) (env : Env) (s : Shared) (g : FM) (φ : List Addr) (σ : Sto) (ρ : Rho) (v : V) (w : Value) (Q : Rho → Sto → Prop), Cx ℓ A → EnvOk sc env → Rel G g φ σ env own ρ s → VR g φ v w → W v Q ρ σ →
    ∀ (K : Unit → Shared → Prop) (E : Value → Shared → Prop),
      (∀ s' g' φ' σ' ρ', Nx (fpOf env own) s s' g g' φ φ' → Rel G g' φ' σ' env own ρ' s' → Q ρ' σ' → K () s') → wpAny (model G.prog G.w) A (assign t env w) K E s

section
variable {G : Glb} {ℓ : Nat} {sc : Scope} {own : List Str}

theorem Evs.nil : Evs G ℓ sc [] fun Q _ σ => Q [] σ := by
  intro A env own s g φ σ ρ Q _ _ R hW pos K E k
  exact wpAny_pure (k _ _ _ _ _ [] (Nx.refl rfl) R rfl hW)
theorem Evs.cons {e : Expr} {es : List Expr} {W : WE} {Ws : WL} (h : Ev G ℓ sc e W) (hs : Evs G ℓ sc es Ws)
    (hst : ∀ env, starEach (e :: es) env = (false, eval e env) :: starEach es env := by intro _; rfl) :
    Evs G ℓ sc (e :: es) fun Q ρ σ => W (fun v σ' => Ws (fun vs σ'' => Q (v :: vs) σ'') ρ σ') ρ σ := by
  intro A env own s g φ σ ρ Q cx eo R hW pos K E k
  rw [hst]
  show wpAny _ A (do let v ← eval e env; return [v] ++ (← holding [v] (spliced (backTo pos (starEach es env))))) K E s
  refine wpAny_bind (h A env own s g φ σ ρ _ cx eo R hW _ _ fun w s₁ g₁ φ₁ σ₁ v N R₁ hv hQ => ?_)
  refine wpAny_bind (wpAny_holding (hs A env own s₁ g₁ φ₁ σ₁ ρ _ cx eo R₁ hQ pos _ _ fun ws s₂ g₂ φ₂ σ₂ vs N₂ R₂ hvs hQ₂ => ?_))
  exact wpAny_pure (k _ _ _ _ _ (v :: vs) (N.trans N₂) R₂ ⟨_, _, rfl, N₂.vr hv, hvs⟩ hQ₂)

theorem Sxs.nil : Sxs G ℓ sc own [] fun Q ρ σ => Q .nx ρ σ := by
  intro A env s g φ σ ρ Q _ _ R hW K E k
  exact wpAny_execs_nil (k _ _ _ _ _ _ .nx (Nx.refl rfl) R rfl hW)
noncomputable def wSeq (W₁ W₂ : WS) : WS := fun Q ρ σ => W₁ (fun fl ρ' σ' => match fl with | .nx => W₂ Q ρ' σ' | .br => Q .br ρ' σ' | .ct => Q .ct ρ' σ' | .rt v => Q (.rt v) ρ' σ') ρ σ
theorem Sxs.cons {st : Stmt} {rest : List Stmt} {W₁ W₂ : WS} (h₁ : Sx G ℓ sc own st W₁) (h₂ : Sxs G ℓ sc own rest W₂) : Sxs G ℓ sc own (st :: rest) (wSeq W₁ W₂) := by
  intro A env s g φ σ ρ Q cx eo R hW K E k
  refine wpAny_execs_cons (h₁ A env s g φ σ ρ _ cx eo R hW _ _ fun f s₁ g₁ φ₁ σ₁ ρ₁ fl N R₁ hf hQ => ?_)
  cases fl with
  | nx =>
    cases hf
    exact h₂ A env s₁ g₁ φ₁ σ₁ ρ₁ _ cx eo R₁ hQ _ _ fun f s₂ g₂ φ₂ σ₂ ρ₂ fl₂ N₂ R₂ hf₂ hQ₂ => k _ _ _ _ _ _ _ (N.trans N₂) R₂ hf₂ hQ₂
  | br => cases hf; exact k _ _ _ _ _ _ .br N R₁ rfl hQ
  | ct => cases hf; exact k _ _ _ _ _ _ .ct N R₁ rfl hQ
  | rt v => obtain ⟨w, rfl, hv⟩ := hf; exact k _ _ _ _ _ _ (.rt v) N R₁ ⟨w, rfl, hv⟩ hQ

theorem Nx.fp {fp : List Addr} {s₁ s₂ : Shared} {g₁ g₂ : FM} {φ₁ φ₂ : List Addr} (x : Nx [] s₁ s₂ g₁ g₂ φ₁ φ₂) : Nx fp s₁ s₂ g₁ g₂ φ₁ φ₂ := x.weaken (by simp)

theorem Sx.assign {e : Expr} {W : WE} {x : Str} {p pos : Pos} (h : Ev G ℓ sc e W) (hx : canStore sc own x)
    (hs : ∀ env, swapsWith e (some (.Name x p)) pos.line env = pure false := by intro _; rfl) :
    Sx G ℓ sc own (.Assign [.Name x p] e pos) fun Q ρ σ => W (fun v σ' => Q .nx (upd ρ x v) σ') ρ σ := by
  intro A env s g φ σ ρ Q cx eo R hW K E k
  refine wpAny_Assign_Name (h A env own s g φ σ ρ _ cx eo R hW _ _ fun w s₁ g₁ φ₁ σ₁ v N R₁ hv hQ => ?_) (hs env)
  exact store_name eo R₁ hx hv fun s₂ N₂ R₂ => k _ _ _ _ _ _ .nx (N.fp.trans N₂) R₂ rfl hQ

theorem Sx.expr {e : Expr} {W : WE} {pos : Pos} (h : Ev G ℓ sc e W) (hi : ∀ env, env.scope = sc → interactive env = false)
    (hs : ∀ env, swapsWith e none pos.line env = pure false := by intro _; rfl) :
    Sx G ℓ sc own (.Expr e pos) fun Q ρ σ => W (fun _ σ' => Q .nx ρ σ') ρ σ := by
  intro A env s g φ σ ρ Q cx eo R hW K E k
  refine wpAny_Expr_any (h A env own s g φ σ ρ _ cx eo R hW _ _ fun w s₁ g₁ φ₁ σ₁ v N R₁ hv hQ => ?_) (hi env eo.scope) (hs env)
  exact k _ _ _ _ _ _ .nx N.fp R₁ rfl hQ

theorem Sx.ite {t : Expr} {b c : List Stmt} {pos : Pos} {Wt : WT} {Wb Wc : WS} (ht : Tt G ℓ sc t Wt) (hb : Sxs G ℓ sc own b Wb) (hc : Sxs G ℓ sc own c Wc) :
    Sx G ℓ sc own (.If t b c pos) fun Q ρ σ => Wt (fun y σ' => if y = true then Wb Q ρ σ' else Wc Q ρ σ') ρ σ := by
  intro A env s g φ σ ρ Q cx eo R hW K E k
  refine wpAny_If (ht A env own s g φ σ ρ _ cx eo R hW _ _ fun y s₁ g₁ φ₁ σ₁ N R₁ hQ => ?_)
  have k' : ∀ f s' g' φ' σ' ρ' fl, Nx (fpOf env own) s₁ s' g₁ g' φ₁ φ' → Rel G g' φ' σ' env own ρ' s' → FlR g' φ' fl f → Q fl ρ' σ' → K f s' :=
    fun f s₂ g₂ φ₂ σ₂ ρ₂ fl N₂ R₂ hf hQ₂ => k _ _ _ _ _ _ _ (N.fp.trans N₂) R₂ hf hQ₂
  cases y with
  | true => rw [if_pos rfl] at hQ ⊢; exact hb A env s₁ g₁ φ₁ σ₁ ρ _ cx eo R₁ hQ _ _ k'
  | false =>
    rw [if_neg (by simp)] at hQ ⊢; exact hc A env s₁ g₁ φ₁ σ₁ ρ _ cx eo R₁ hQ _ _ k'

theorem Sx.ret {e : Expr} {W : WE} {pos : Pos} (h : Ev G ℓ sc e W) : Sx G ℓ sc own (.Return (some e) pos) fun Q ρ σ => W (fun v σ' => Q (.rt v) ρ σ') ρ σ := by
  intro A env s g φ σ ρ Q cx eo R hW K E k
  refine wpAny_Return_some (h A env own s g φ σ ρ _ cx eo R hW _ _ fun w s₁ g₁ φ₁ σ₁ v N R₁ hv hQ => ?_)
  exact k _ _ _ _ _ _ (.rt v) N.fp R₁ ⟨w, rfl, hv⟩ hQ
theorem Sx.brk {pos : Pos} : Sx G ℓ sc own (.Break pos) fun Q ρ σ => Q .br ρ σ := by
  intro A env s g φ σ ρ Q cx eo R hW K E k
  exact wpAny_Break (k _ _ _ _ _ _ .br (Nx.refl rfl) R rfl hW)

/-- a while: a word of what holds at each turn's start, and a number that each turn lowers -/
noncomputable def wWhile (Wt : WT) (Wb : WS) : WS := fun Q ρ σ => ∃ (I : Nat → Rho → Sto → Prop) (n : Nat), I n ρ σ ∧ ∀ m ρ σ, I m ρ σ →
  Wt (fun y σ' => if y = true then Wb (fun fl ρ' σ'' => match fl with | .nx | .ct => ∃ k, k < m ∧ I k ρ' σ'' | .br => Q .nx ρ' σ'' | .rt v => Q (.rt v) ρ' σ'') ρ σ' else Q .nx ρ σ') ρ σ
theorem Sx.while {t : Expr} {b : List Stmt} {pos : Pos} {Wt : WT} {Wb : WS} (ht : Tt G ℓ sc t Wt) (hb : Sxs G ℓ sc own b Wb) : Sx G ℓ sc own (.While t b [] pos) (wWhile Wt Wb) := by
  intro A env s g φ σ ρ Q cx eo R hW K E k
  obtain ⟨I, n, h0, hI⟩ := hW
  refine wpAny_While (codeAny_whileLoop (fun m s' => ∃ g' φ' σ' ρ', Nx (fpOf env own) s s' g g' φ φ' ∧ Rel G g' φ' σ' env own ρ' s' ∧ I m ρ' σ') ?_ n ⟨g, φ, σ, ρ, Nx.refl rfl, R, h0⟩)
  rintro m s₁ ⟨g₁, φ₁, σ₁, ρ₁, N₁, R₁, i₁⟩
  refine ht A env own s₁ g₁ φ₁ σ₁ ρ₁ _ cx eo R₁ (hI m ρ₁ σ₁ i₁) _ _ fun y s₂ g₂ φ₂ σ₂ N₂ R₂ hQ => ?_
  cases y with
  | true =>
    rw [if_pos rfl] at hQ ⊢
    refine hb A env s₂ g₂ φ₂ σ₂ ρ₁ _ cx eo R₂ hQ _ _ fun f s₃ g₃ φ₃ σ₃ ρ₃ fl N₃ R₃ hf hQ₃ => ?_
    have N := (N₁.trans N₂.fp).trans N₃
    cases fl with
    | nx => cases hf; obtain ⟨j, hj, ij⟩ := hQ₃; exact ⟨j, hj, _, _, _, _, N, R₃, ij⟩
    | ct => cases hf; obtain ⟨j, hj, ij⟩ := hQ₃; exact ⟨j, hj, _, _, _, _, N, R₃, ij⟩
    | br => cases hf; exact k _ _ _ _ _ _ .nx N R₃ rfl hQ₃
    | rt v => obtain ⟨w, rfl, hv⟩ := hf; exact k _ _ _ _ _ _ (.rt v) N R₃ ⟨w, rfl, hv⟩ hQ₃
  | false =>
    rw [if_neg (by simp)] at hQ ⊢
    exact wpAny_execs_nil (k _ _ _ _ _ _ .nx (N₁.trans N₂.fp) R₂ rfl hQ)

theorem Tt.or {x y : Expr} {pos : Pos} {Wx Wy : WT} (hx : Tt G ℓ sc x Wx) (hy : Tt G ℓ sc y Wy) :
    Tt G ℓ sc (.BoolOp .Or [x, y] pos) fun Q ρ σ => Wx (fun b σ' => if b = true then Q true σ' else Wy Q ρ σ') ρ σ := by
  intro A env own s g φ σ ρ Q cx eo R hW K E k
  refine wpAny_isTrue_BoolOp (wpAny_allTrue_Or_cons (hx A env own s g φ σ ρ _ cx eo R hW _ _ fun b s₁ g₁ φ₁ σ₁ N R₁ hQ => ?_))
  cases b with
  | true => rw [if_pos rfl] at hQ; exact k _ _ _ _ _ N R₁ hQ
  | false =>
    rw [if_neg (by simp)] at hQ
    refine wpAny_allTrue_Or_cons (hy A env own s₁ g₁ φ₁ σ₁ ρ _ cx eo R₁ hQ _ _ fun c s₂ g₂ φ₂ σ₂ N₂ R₂ hQ₂ => ?_)
    cases c with
    | true => exact k _ _ _ _ _ (N.trans N₂) R₂ hQ₂
    | false => exact wpAny_allTrue_Or_nil (k _ _ _ _ _ (N.trans N₂) R₂ hQ₂)

/-- an iterator over `xs`, each turn under a guard -/
structure Itr (G : Glb) (src : V) (w : Value) (I : Addr) (xs : List V) (Gd : Sto → Prop) (At : Nat → Heap → Prop) : Prop where
  frame : ∀ i h h', At i h → (∀ o, h.get? I = some o → h'.get? I = some o) → At i h'
  live : ∀ i h, At i h → ∃ o n, h.get? I = some o ∧ o.cls = .type n ∧ ["enumerate", "zip", "dict_itemiterator", "dict_reverseitemiterator", "odict_iterator", "itertools.zip_longest", "itertools.pairwise"].contains n = false
  item : ∀ (A : Around) (s : Shared) (g : FM) (φ : List Addr) (σ : Sto) (i : Nat) (x : V) (Q : Option Value → Shared → Prop) (E : Value → Shared → Prop), SR G g s.heap φ σ → VR g φ src w → Gd σ → At i s.heap → xs[i]? = some x →
    (∀ v h' tk, VR g φ x v → At (i + 1) h' → (∀ b o, b ≠ I → s.heap.get? b = some o → h'.get? b = some o) → s.toks ≤ tk → Q (some v) { s with heap := h', toks := tk }) → wpAny (model G.prog G.w) A (pyNext (.ref I)) Q E s
  done : ∀ (A : Around) (s : Shared) (g : FM) (φ : List Addr) (σ : Sto) (Q : Option Value → Shared → Prop) (E : Value → Shared → Prop), A.handled = none → SR G g s.heap φ σ → VR g φ src w → Gd σ → At xs.length s.heap →
    (∀ h' tk, (∀ b o, b ≠ I → s.heap.get? b = some o → h'.get? b = some o) → s.toks ≤ tk → Q none { s with heap := h', toks := tk }) → wpAny (model G.prog G.w) A (pyNext (.ref I)) Q E s
  self : ∀ (A : Around) (s : Shared) (i : Nat) (Q : Value → Shared → Prop) (E : Value → Shared → Prop), At i s.heap → Q (.ref I) s → wpAny (model G.prog G.w) A (pyIter (.ref I)) Q E s

/-- a step that may change one private address alone -/
theorem Nx.priv {fp : List Addr} {s s₁ s₂ : Shared} {g g₁ : FM} {φ φ₁ : List Addr} {I : Addr} (N : Nx fp s s₁ g g₁ φ φ₁) (hI : s.heap.get? I = none) (hd : s₂.drawn = s₁.drawn) (ho : s₂.os = s₁.os)
    (hk : ∀ b o, b ≠ I → s₁.heap.get? b = some o → s₂.heap.get? b = some o) : Nx fp s s₂ g g₁ φ φ₁ where
  drawn := hd.trans N.drawn
  os := ho.trans N.os
  sub := N.sub
  new := N.new
  pre := N.pre
  oth := fun b o h1 h2 e => hk b o (fun q => by rw [q, hI] at e; cases e) (N.oth b o h1 h2 e)
  ex := fun b e => by
    have h1 := N.ex b e
    cases q : s₁.heap.get? b with
    | none => exact absurd q h1
    | some o => rw [hk b o (fun z => e (z ▸ hI)) q]; simp

theorem Rel.priv {g : FM} {φ : List Addr} {σ : Sto} {env : Env} {ρ : Rho} {s s₂ : Shared} {I : Addr} (R : Rel G g φ σ env own ρ s) (h1 : I ∉ φ) (h2 : I ∉ fpOf env own) (h3 : g I = none)
    (hk : ∀ b o, b ≠ I → s.heap.get? b = some o → s₂.heap.get? b = some o) (ht : 1 ≤ s₂.toks) (hb : AllBare s₂.gens) : Rel G g φ σ env own ρ s₂ := by
  refine ⟨⟨ht, hb⟩, ⟨R.sr.base, fun b o e => hk b o (fun q => by rw [q, h3] at e; cases e) (R.sr.keep b o e), R.sr.len, fun k a m e1 e2 => MOR.keeps (fun _ _ e => e) (fun _ _ e => e)
    (fun o e => hk a o (fun q => h1 (q ▸ List.mem_of_getElem? e1)) e) (R.sr.mo k a m e1 e2), R.sr.fresh, R.sr.nodup⟩, FR.keeps R.fr (fun _ _ e => e) (fun _ _ e => e) (fun b e => ?_) (fun b e => .inl e) fun b o z e => hk b o (fun q => ?_) e⟩
  · cases q : g b with
    | none => exact .inl rfl
    | some o => exact .inr (by simp)
  · subst q
    rcases z with z | z
    · exact h2 z
    · exact z h3

end

end
section
set_option autoImplicit false

/-- the items that a value yields -/
noncomputable def aItems (σ : Sto) : V → Option (List V)
  | .list xs => some xs
  | .tup xs => some xs
  | .rng n => if n < 2 ^ 31 then some ((List.range n).map fun i => V.int (i : Nat)) else none
  | .str x => some (x.cps.toList.map fun c => V.str ⟨#[c]⟩)
  | .ref k => match σ[k]? with | some (.list xs) => some xs | _ => none
  | _ => none
/-- what must hold of the store at each turn -/
noncomputable def aGd (v : V) (xs : List V) : Sto → Prop := fun σ => match v with | .ref k => σ[k]? = some (.list xs) | _ => True

section
variable {G : Glb}

theorem SR.mo' {g : FM} {h : Heap} {φ : List Addr} {σ : Sto} (S : SR G g h φ σ) {k : Nat} {m : MO} (e : σ[k]? = some m) {w : Value} (hv : VR g φ (.ref k) w) : ∃ a, w = .ref a ∧ a ∈ φ ∧ φ[k]? = some a ∧ MOR G g φ h a m := by
  obtain ⟨a, rfl, ha⟩ := hv
  exact ⟨a, rfl, List.mem_of_getElem? ha, ha, S.mo k a m ha e⟩

theorem pushIter {h : Heap} (o : Obj) : (∀ b p, h.get? b = some p → (h.push o).get? b = some p) ∧ h.get? h.objs.size = none := by
  refine ⟨fun b p e => Heap.get?_push_of_some _ e, ?_⟩
  cases e : h.get? h.objs.size with
  | none => rfl
  | some o' => exact absurd (Heap.lt_size e) (Nat.lt_irrefl _)

theorem get?_size (h : Heap) : h.get? h.objs.size = none := (pushIter (h := h) { cls := .none }).2

noncomputable def IterK (G : Glb) (s : Shared) (v : V) (w : Value) (xs : List V) (K : Value → Shared → Prop) : Prop :=
  ∀ At o, Itr G v w s.heap.objs.size xs (aGd v xs) At → At 0 (s.heap.push o) → K (.ref s.heap.objs.size) { s with heap := s.heap.push o }

theorem isListObj {h : Heap} {a : Addr} {arr : Array Value} {n : Nat} (e : h.get? a = some (listObj arr n)) : h.IsList a arr := ⟨_, e, rfl, n, rfl⟩
theorem isTupObj {h : Heap} {a : Addr} {arr : Array Value} {n : Nat} (e : h.get? a = some (tupObj arr n)) : h.IsTuple a arr := ⟨_, e, rfl, n, rfl⟩

theorem Itr.listRef (k : Nat) (xs : List V) (a I : Addr) (φ₀ : List Addr) (hk : φ₀[k]? = some a) :
    Itr G (.ref k) (.ref a) I xs (fun σ => σ[k]? = some (.list xs)) (fun i h => h.IsListIter I a i) where
  frame := fun i h h' x hk => x.at hk
  live := fun i h x => by obtain ⟨o, ho, hc, _⟩ := x; exact ⟨o, _, ho, hc, by decide⟩
  item := fun A s g φ σ i x Q E S hv hG hA hx hQ => by
    obtain ⟨a', ha', _, _, m⟩ := S.mo' hG hv
    cases ha'
    obtain ⟨arr, n, ho, hvs⟩ := m
    obtain ⟨w, hw, hr⟩ := hvs.get hx
    exact wpAny_pyNext_list_item hA (isListObj ho) (by simpa using hw) fun h' hi hs => hQ _ _ _ hr hi (fun b o hb e => hs.extBut b o hb e) (Nat.le_refl _)
  done := fun A s g φ σ Q E hh S hv hG hA hQ => by
    obtain ⟨a', ha', _, _, m⟩ := S.mo' hG hv
    cases ha'
    obtain ⟨arr, n, ho, hvs⟩ := m
    have hl := hvs.length
    exact wpAny_pyNext_list_end hh hA (isListObj ho) (by rw [← hl]; simp) fun h' he => hQ _ _ he (Nat.le_refl _)
  self := fun A s i Q E hA hQ => wpAny_pyIter_listiter hA hQ

theorem Itr.list (xs : List V) (a I : Addr) : Itr G (.list xs) (.ref a) I xs (fun _ => True) (fun i h => h.IsListIter I a i) where
  frame := fun i h h' x hk => x.at hk
  live := fun i h x => by obtain ⟨o, ho, hc, _⟩ := x; exact ⟨o, _, ho, hc, by decide⟩
  item := fun A s g φ σ i x Q E S hv _ hA hx hQ => by
    obtain ⟨a', arr, n, ha', hg, hvs⟩ := hv
    cases ha'
    obtain ⟨w, hw, hr⟩ := hvs.get hx
    exact wpAny_pyNext_list_item hA (isListObj (S.keep _ _ hg)) (by simpa using hw) fun h' hi hs => hQ _ _ _ hr hi (fun b o hb e => hs.extBut b o hb e) (Nat.le_refl _)
  done := fun A s g φ σ Q E hh S hv _ hA hQ => by
    obtain ⟨a', arr, n, ha', hg, hvs⟩ := hv
    cases ha'
    have hl := hvs.length
    exact wpAny_pyNext_list_end hh hA (isListObj (S.keep _ _ hg)) (by rw [← hl]; simp) fun h' he => hQ _ _ he (Nat.le_refl _)
  self := fun A s i Q E hA hQ => wpAny_pyIter_listiter hA hQ

theorem Itr.tup (xs : List V) (a I : Addr) : Itr G (.tup xs) (.ref a) I xs (fun _ => True) (fun i h => h.IsTupleIter I a i) where
  frame := fun i h h' x hk => by obtain ⟨o, ho, r⟩ := x; exact ⟨o, hk o ho, r⟩
  live := fun i h x => by obtain ⟨o, ho, hc, _⟩ := x; exact ⟨o, _, ho, hc, by decide⟩
  item := fun A s g φ σ i x Q E S hv _ hA hx hQ => by
    obtain ⟨a', arr, n, ha', hg, hvs⟩ := hv
    cases ha'
    obtain ⟨w, hw, hr⟩ := hvs.get hx
    exact wpAny_pyNext_tuple_item hA (isTupObj (S.keep _ _ hg)) (by simpa using hw) fun h' hi hs => hQ _ _ _ hr hi (fun b o hb e => hs.extBut b o hb e) (Nat.le_refl _)
  done := fun A s g φ σ Q E hh S hv _ hA hQ => by
    obtain ⟨a', arr, n, ha', hg, hvs⟩ := hv
    cases ha'
    have hl := hvs.length
    exact wpAny_pyNext_tuple_end hh hA (isTupObj (S.keep _ _ hg)) (by rw [← hl]; simp) fun h' he => hQ _ _ he (Nat.le_refl _)
  self := fun A s i Q E hA hQ => wpAny_pyIter_tupleiter hA hQ

theorem Itr.range (n : Nat) (w : Value) (I : Addr) : Itr G (.rng n) w I ((List.range n).map fun i => V.int (i : Nat)) (fun _ => True) (fun i h => IsRangeIter h I (i : Nat) ((n : Int) - (i : Nat)) 1) where
  frame := fun i h h' x hk => hk _ x
  live := fun i h x => ⟨_, _, x, rfl, by decide⟩
  item := fun A s g φ σ i x Q E S hv _ hA hx hQ => by
    have hi : i < n := by
      have := (List.getElem?_eq_some_iff.mp hx).1
      simpa using this
    have hx' : x = V.int (i : Nat) := by
      rw [List.getElem?_map, List.getElem?_range hi] at hx
      simpa using hx.symm
    subst hx'
    refine wpAny_pyNext_range_item hA (by exact ar127 hi) fun h' hit hs => hQ _ _ _ ⟨_, rfl⟩ ?_ (fun b o hb e => hs.extBut b o hb e) (Nat.le_succ _)
    have e2 : (n : Int) - ((i + 1 : Nat) : Int) = (n : Int) - (i : Int) - 1 := by push_cast; exact ar128
    rw [e2]; exact hit
  done := fun A s g φ σ Q E hh S hv _ hA hQ => wpAny_pyNext_range_end hh hA (by simp) fun h' he => hQ _ _ he (Nat.le_refl _)
  self := fun A s i Q E hA hQ => wpAny_pyIter_rangeiter hA hQ

theorem Itr.ascii (x : Str) (t : Tok) (w : Value) (I : Addr) : Itr G (.str x) w I (x.cps.toList.map fun c => V.str ⟨#[c]⟩) (fun _ => True) (fun i h => h.IsStrIter I "str_ascii_iterator" x t i) where
  frame := fun i h h' x hk => by obtain ⟨o, ho, r⟩ := x; exact ⟨o, hk o ho, r⟩
  live := fun i h x => by obtain ⟨o, ho, hc, _⟩ := x; exact ⟨o, _, ho, hc, by decide⟩
  item := fun A s g φ σ i y Q E S hv _ hA hx hQ => by
    rw [List.getElem?_map] at hx
    cases hc : x.cps.toList[i]? with
    | none => rw [hc] at hx; cases hx
    | some c =>
      rw [hc] at hx; cases hx
      exact wpAny_pyNext_ascii_item hA (by simpa using hc) fun h' hi hs => hQ _ _ _ ⟨_, rfl⟩ hi (fun b o hb e => hs.extBut b o hb e) (Nat.le_succ _)
  done := fun A s g φ σ Q E hh S hv _ hA hQ => wpAny_pyNext_ascii_end hh hA (by simp) fun h' he => hQ _ _ he (Nat.le_refl _)
  self := fun A s i Q E hA hQ => wpAny_pyIter_striter_ascii hA hQ
theorem Itr.wide (x : Str) (t : Tok) (w : Value) (I : Addr) : Itr G (.str x) w I (x.cps.toList.map fun c => V.str ⟨#[c]⟩) (fun _ => True) (fun i h => h.IsStrIter I "str_iterator" x t i) where
  frame := fun i h h' x hk => by obtain ⟨o, ho, r⟩ := x; exact ⟨o, hk o ho, r⟩
  live := fun i h x => by obtain ⟨o, ho, hc, _⟩ := x; exact ⟨o, _, ho, hc, by decide⟩
  item := fun A s g φ σ i y Q E S hv _ hA hx hQ => by
    rw [List.getElem?_map] at hx
    cases hc : x.cps.toList[i]? with
    | none => rw [hc] at hx; cases hx
    | some c =>
      rw [hc] at hx; cases hx
      exact wpAny_pyNext_wide_item hA (by simpa using hc) fun h' hi hs => hQ _ _ _ ⟨_, rfl⟩ hi (fun b o hb e => hs.extBut b o hb e) (Nat.le_succ _)
  done := fun A s g φ σ Q E hh S hv _ hA hQ => wpAny_pyNext_wide_end hh hA (by simp) fun h' he => hQ _ _ he (Nat.le_refl _)
  self := fun A s i Q E hA hQ => wpAny_pyIter_striter_wide hA hQ

theorem iter_itr {A : Around} {s : Shared} {g : FM} {φ : List Addr} {σ : Sto} {v : V} {w : Value} {xs : List V} {K : Value → Shared → Prop} {E : Value → Shared → Prop}
    (S : SR G g s.heap φ σ) (hv : VR g φ v w) (hx : aItems σ v = some xs) (k : IterK G s v w xs K) : wpAny (model G.prog G.w) A (pyIter w) K E s := by
  cases v with
  | none => cases hx
  | bool b => cases hx
  | int i => cases hx
  | raw r => cases hx
  | list ys =>
    cases hx
    obtain ⟨a, arr, n, rfl, hg, hvs⟩ := hv
    exact wpAny_pyIter_list (isListObj (S.keep _ _ hg)) (k _ _ (Itr.list _ _ _) ⟨_, Heap.get?_push_size _ rfl, rfl, rfl⟩)
  | tup ys =>
    cases hx
    obtain ⟨a, arr, n, rfl, hg, hvs⟩ := hv
    exact wpAny_pyIter_tuple (isTupObj (S.keep _ _ hg)) (k _ _ (Itr.tup _ _ _) ⟨_, Heap.get?_push_size _ rfl, rfl, rfl⟩)
  | rng n =>
    obtain ⟨a, t0, t1, t2, rfl, hg⟩ := hv
    dsimp only [aItems] at hx
    by_cases hn : n < 2 ^ 31
    · rw [if_pos hn] at hx; cases hx
      have hsz : Builtin.Range.rangeSize 0 n 1 = n := by
        unfold Builtin.Range.rangeSize
        by_cases z : (0 : Int) < n
        · rw [if_pos (by decide), if_pos z]; exact ar129
        · rw [if_pos (by decide), if_neg z]; exact ar130 z
      have hsm : Builtin.Range.small 0 n 1 = true := by
        have fit : ∀ z : Int, 0 ≤ z → z ≤ 2 ^ 31 → Builtin.Range.rangeFitsLong z = true := fun z h1 h2 => by
          unfold Builtin.Range.rangeFitsLong
          rw [Bool.and_eq_true]
          exact ⟨decide_eq_true (by exact ar131 h1), decide_eq_true (by exact ar132 h2)⟩
        have h4 : ((n : Int) == 0 || if (1 : Int) > 0 then Builtin.Range.rangeFitsLong ((n : Int) + (1 - 1)) else Builtin.Range.rangeFitsLong ((n : Int) + (1 + 1))) = true := by
          rw [if_pos (by decide), fit _ (by exact ar133) (by exact ar134 hn), Bool.or_true]
        unfold Builtin.Range.small
        rw [hsz, h4, fit 0 (by decide) (by decide), fit n (by exact ar135) (by exact ar136 hn), fit 1 (by decide) (by decide)]; rfl
      refine wpAny_pyIter_range (S.keep _ _ hg) hsm (k _ _ (Itr.range n _ _) ?_)
      show IsRangeIter _ _ _ _ _
      rw [hsz]
      exact (Heap.get?_push_size _ rfl).trans (by simp)
    · rw [if_neg hn] at hx; cases hx
  | str x =>
    obtain ⟨t, rfl⟩ := hv
    cases hx
    cases ha : (Array.all x.cps fun x => decide (x < 128)) with
    | true => exact wpAny_pyIter_ascii ha (k _ _ (Itr.ascii x t _ _) ⟨_, Heap.get?_push_size _ rfl, rfl, rfl⟩)
    | false => exact wpAny_pyIter_wide ha (k _ _ (Itr.wide x t _ _) ⟨_, Heap.get?_push_size _ rfl, rfl, rfl⟩)
  | ref i =>
    dsimp only [aItems] at hx
    split at hx
    · rename_i ys hm
      cases hx
      obtain ⟨a, rfl, ha⟩ := hv
      obtain ⟨arr, n, ho, hvs⟩ := S.mo _ _ _ ha hm
      exact wpAny_pyIter_list (isListObj ho) (k _ _ (Itr.listRef _ _ _ _ φ ha) ⟨_, Heap.get?_push_size _ rfl, rfl, rfl⟩)
    · cases hx

end

noncomputable def wFor (Gd : Sto → Prop) (Wa : WA) (Wb : WS) : List V → WS
  | [] => fun Q ρ σ => Gd σ ∧ Q .nx ρ σ
  | v :: vs => fun Q ρ σ => Gd σ ∧ Wa v (fun ρ' σ' => Wb (fun fl ρ'' σ'' => match fl with | .nx | .ct => wFor Gd Wa Wb vs Q ρ'' σ'' | .br => Q .nx ρ'' σ'' | .rt v => Q (.rt v) ρ'' σ'') ρ' σ') ρ σ
noncomputable def wForE (We : WE) (Wa : WA) (Wb : WS) : WS := fun Q ρ σ => We (fun v σ' => ∃ xs, aItems σ' v = some xs ∧ wFor (aGd v xs) Wa Wb xs Q ρ σ') ρ σ

section
variable {G : Glb} {ℓ : Nat} {sc : Scope} {own : List Str}

theorem letGo_itr {A : Around} {s : Shared} {K : Unit → Shared → Prop} {E : Value → Shared → Prop} {t : Expr} {I : Addr} {v : Value}
    (h : ∃ o n, s.heap.get? I = some o ∧ o.cls = .type n ∧ ["enumerate", "zip", "dict_itemiterator", "dict_reverseitemiterator", "odict_iterator", "itertools.zip_longest", "itertools.pairwise"].contains n = false)
    (k : K () s) : wpAny (model G.prog G.w) A (letOwnedTupleGo t (.ref I) v) K E s := by
  obtain ⟨o, n, ho, hc, hn⟩ := h
  have main : ∀ a, wpAny (model G.prog G.w) A (do
      let o ← load I
      match o.cls, o.data with
      | .type n, .fields vs =>
        if ["enumerate", "zip", "dict_itemiterator", "dict_reverseitemiterator", "odict_iterator", "itertools.zip_longest", "itertools.pairwise"].contains n && vs[0]? == some (rawInt a) then
          rule "for.unpacks-the-owned-tuple"
          updateField I 0 .none
      | _, _ => pure ()) K E s := fun a => by
    refine wpAny_bind (wpAny_load ho ?_)
    rw [hc]
    cases hd : o.data <;> first | exact wpAny_pure k | (dsimp only; rw [hn]; exact wpAny_pure k)
  have two : wpAny (model G.prog G.w) A (letOwnedTupleGo (.Tuple [] default default) (.ref I) v) K E s := by cases v <;> first | exact wpAny_pure k | exact main _
  cases t <;> first | exact wpAny_pure k | exact two

theorem Sx.for {t iter : Expr} {b : List Stmt} {pos : Pos} {We : WE} {Wa : WA} {Wb : WS} (he : Ev G ℓ sc iter We) (ha : Asg G ℓ sc own t Wa) (hb : Sxs G ℓ sc own b Wb)
    (hf : ∀ env x, foldedSetIterable iter env x = pure x := by intro _ _; rfl) : Sx G ℓ sc own (.For t iter b [] pos) (wForE We Wa Wb) := by
  intro A env s g φ σ ρ Q cx eo R hW K E k
  refine wpAny_For (he A env own s g φ σ ρ _ cx eo R hW _ _ fun w s₁ g₁ φ₁ σ₁ v N₁ R₁ hv hQ => ?_) (hf env)
  obtain ⟨xs, hx, hF⟩ := hQ
  refine iter_itr R₁.sr hv hx fun At o T h0 => ?_
  generalize hI : s₁.heap.objs.size = I at T h0 ⊢
  have hIn : s₁.heap.get? I = none := by rw [← hI]; exact get?_size _
  have hIφ : I ∉ φ₁ := fun q => by obtain ⟨o, e⟩ := R₁.moLive q; rw [hIn] at e; cases e
  have hIg : g₁ I = none := by
    cases q : g₁ I with
    | none => rfl
    | some o => rw [R₁.sr.keep _ _ q] at hIn; cases hIn
  have hfp : I ∉ fpOf env own := fun q => by
    rcases List.mem_cons.mp q with q | q
    · obtain ⟨m, ⟨o, es, ep, ho, _⟩, _⟩ := R₁.fr.ns
      rw [← q, hIn] at ho; cases ho
    · obtain ⟨x, hx, hc⟩ := List.mem_filterMap.mp q
      obtain ⟨c, v0, e, ⟨oc, hoc, _⟩, _⟩ := R₁.fr.ownc x hx
      rw [hc] at e; cases e
      rw [hIn] at hoc; cases hoc
  have hI0 : s.heap.get? I = none := by
    cases q : s.heap.get? I with
    | none => rfl
    | some o => exact absurd hIn (N₁.ex I (by rw [q]; simp))
  refine codeAny_forLoop_any (fun m s' => ∃ g' φ' σ' ρ' i, Nx (fpOf env own) s s' g g' φ φ' ∧ Rel G g' φ' σ' env own ρ' s' ∧ I ∉ φ' ∧ g' I = none ∧ At i s'.heap ∧ VR g' φ' v w ∧ m = xs.length - i ∧ i ≤ xs.length ∧
      wFor (aGd v xs) Wa Wb (xs.drop i) Q ρ' σ') ?_ xs.length ⟨g₁, φ₁, σ₁, ρ, 0, ?_, ?_, hIφ, hIg, h0, hv, rfl, Nat.zero_le _, by simpa using hF⟩
  · rintro m s₂ ⟨g₂, φ₂, σ₂, ρ₂, i, N₂, R₂, hφ₂, hg₂, hA₂, hv₂, rfl, hi, hW₂⟩
    have cases' : xs.drop i = [] ∧ i = xs.length ∨ ∃ x, xs[i]? = some x ∧ xs.drop i = x :: xs.drop (i + 1) := by
      rcases Nat.lt_or_ge i xs.length with q | q
      · exact .inr ⟨xs[i], by simp [q], by rw [List.drop_eq_getElem_cons q]⟩
      · exact .inl ⟨List.drop_eq_nil_of_le q, Nat.le_antisymm hi q⟩
    rcases cases' with ⟨hd, hl⟩ | ⟨x, hxi, hd⟩
    · rw [hd] at hW₂
      obtain ⟨hGd, hQ₂⟩ := hW₂
      refine T.done A s₂ g₂ φ₂ σ₂ _ _ cx.handled R₂.sr hv₂ hGd (hl ▸ hA₂) fun h' tk hk htk => ?_
      exact wpAny_execs_nil (k _ _ _ _ _ _ .nx (N₂.priv (I := I) hI0 rfl rfl hk) (R₂.priv hφ₂ hfp hg₂ hk (Nat.le_trans R₂.ok.toks htk) R₂.ok.bare) rfl hQ₂)
    · rw [hd] at hW₂
      obtain ⟨hGd, hQ₂⟩ := hW₂
      refine T.item A s₂ g₂ φ₂ σ₂ i x _ _ R₂.sr hv₂ hGd hA₂ hxi fun u h' tk hr hA₃ hk htk => ?_
      have N₃ : Nx (fpOf env own) s { s₂ with heap := h', toks := tk } g g₂ φ φ₂ := N₂.priv (I := I) hI0 rfl rfl hk
      have R₃ : Rel G g₂ φ₂ σ₂ env own ρ₂ { s₂ with heap := h', toks := tk } := R₂.priv hφ₂ hfp hg₂ hk (Nat.le_trans R₂.ok.toks htk) R₂.ok.bare
      refine letGo_itr (T.live _ _ hA₃) ?_
      have step : ∀ {sa sb : Shared} {ga gb : FM} {φa φb : List Addr}, Nx (fpOf env own) sa sb ga gb φa φb → I ∉ φa → ga I = none → At (i + 1) sa.heap → I ∉ φb ∧ gb I = none ∧ At (i + 1) sb.heap := by
        intro sa sb ga gb φa φb N h1 h2 h3
        obtain ⟨o, n, ho, _⟩ := T.live _ _ h3
        refine ⟨fun q => ?_, ?_, T.frame _ _ _ h3 fun o' e => N.oth _ _ hfp h1 e⟩
        · obtain ⟨r, rfl, hr⟩ := N.pre
          rcases List.mem_append.mp q with q | q
          · exact h1 q
          · rw [hr _ q] at ho; cases ho
        · cases q : gb I with
          | none => rfl
          | some o' =>
            rcases N.new _ _ q with z | z
            · rw [h2] at z; cases z
            · rw [z] at ho; cases ho
      refine ha A env _ g₂ φ₂ σ₂ ρ₂ x u _ cx eo R₃ hr hQ₂ _ _ fun s₄ g₄ φ₄ σ₄ ρ₄ N₄ R₄ hQ₄ => ?_
      obtain ⟨a1, a2, a3⟩ := step N₄ hφ₂ hg₂ hA₃
      refine hb A env s₄ g₄ φ₄ σ₄ ρ₄ _ cx eo R₄ hQ₄ _ _ fun f s₅ g₅ φ₅ σ₅ ρ₅ fl N₅ R₅ hf hQ₅ => ?_
      obtain ⟨b1, b2, b3⟩ := step N₅ a1 a2 a3
      have N := (N₃.trans N₄).trans N₅
      have hlt : i < xs.length := (List.getElem?_eq_some_iff.mp hxi).1
      cases fl with
      | nx => cases hf; exact ⟨xs.length - (i + 1), by exact ar149 hlt, g₅, φ₅, σ₅, ρ₅, i + 1, N, R₅, b1, b2, b3, N₅.vr (N₄.vr hv₂), rfl, hlt, hQ₅⟩
      | ct => cases hf; exact ⟨xs.length - (i + 1), by exact ar149 hlt, g₅, φ₅, σ₅, ρ₅, i + 1, N, R₅, b1, b2, b3, N₅.vr (N₄.vr hv₂), rfl, hlt, hQ₅⟩
      | br => cases hf; exact k _ _ _ _ _ _ .nx N R₅ rfl hQ₅
      | rt v => obtain ⟨w', rfl, hv'⟩ := hf; exact k _ _ _ _ _ _ (.rt v) N R₅ ⟨w', rfl, hv'⟩ hQ₅
  · exact N₁.fp.priv (I := I) hI0 rfl rfl fun b o _ e => Heap.get?_push_of_some _ e
  · exact R₁.priv (I := I) hIφ hfp hIg (fun b o _ e => Heap.get?_push_of_some _ e) R₁.ok.toks R₁.ok.bare

/-- targets -/
theorem Asg.name {x : Str} {p : Pos} (hx : canStore sc own x) : Asg G ℓ sc own (.Name x p) fun v Q ρ σ => Q (upd ρ x v) σ := by
  intro A env s g φ σ ρ v w Q cx eo R hv hW K E k
  exact wpAny_assign_Name (store_name eo R hx hv fun s₁ N R₁ => k _ _ _ _ _ N R₁ hW)

noncomputable def wPair (Wa Wb : WA) : WA := fun v Q ρ σ => ∃ a b, v = .tup [a, b] ∧ Wa a (fun ρ' σ' => Wb b Q ρ' σ') ρ σ
theorem Asg.pair {x y : Expr} {k : Nat} {p : Pos} {Wx Wy : WA} (hx : Asg G ℓ sc own x Wx) (hy : Asg G ℓ sc own y Wy)
    (hs : ∀ env, assignEach [x, y] env = [(false, assign x env), (false, assign y env)] := by intro _; rfl) : Asg G ℓ sc own (.Tuple [x, y] k p) (wPair Wx Wy) := by
  intro A env s g φ σ ρ v w Q cx eo R hv hW K E kk
  obtain ⟨a, b, rfl, hW⟩ := hW
  obtain ⟨t, arr, n, rfl, hg, hvs⟩ := hv
  obtain ⟨w₁, r, he, hv₁, w₂, r₂, he₂, hv₂, hr₂⟩ := hvs
  subst he₂
  have hr₂' : r₂ = [] := hr₂
  subst hr₂'
  have hsz : arr.size = 2 := by rw [← Array.length_toList, he]; rfl
  refine wpAny_assign_Tuple cx.handled (isTupObj (R.sr.keep _ _ hg)) (by rw [hs, hsz]; rfl) (by rw [hs]; rfl) fun h' he' => ?_
  rw [hs, he]
  have hI : s.heap.get? s.heap.objs.size = none := get?_size _
  have hIφ : s.heap.objs.size ∉ φ := fun q => by obtain ⟨o, e⟩ := R.moLive q; rw [hI] at e; cases e
  have hIg : g s.heap.objs.size = none := by
    cases q : g s.heap.objs.size with
    | none => rfl
    | some o => rw [R.sr.keep _ _ q] at hI; cases hI
  have hfp : s.heap.objs.size ∉ fpOf env own := fun q => by
    rcases List.mem_cons.mp q with q | q
    · obtain ⟨m, ⟨o, es, ep, ho, _⟩, _⟩ := R.fr.ns
      rw [← q, hI] at ho; cases ho
    · obtain ⟨x, hx, hc⟩ := List.mem_filterMap.mp q
      obtain ⟨c, v0, e, ⟨oc, hoc, _⟩, _⟩ := R.fr.ownc x hx
      rw [hc] at e; cases e
      rw [hI] at hoc; cases hoc
  have N₀ : Nx (fpOf env own) s { s with heap := h' } g g φ φ := Nx.priv (Nx.refl (s' := s) rfl) hI rfl rfl he'
  have R₀ : Rel G g φ σ env own ρ { s with heap := h' } := R.priv hIφ hfp hIg he' R.ok.toks R.ok.bare
  refine wpAny_assignInOrder_more (hx A env _ g φ σ ρ a w₁ _ cx eo R₀ hv₁ hW _ _ fun s₁ g₁ φ₁ σ₁ ρ₁ N₁ R₁ hQ₁ => ?_)
  refine wpAny_assignInOrder_more (hy A env _ g₁ φ₁ σ₁ ρ₁ b w₂ _ cx eo R₁ (N₁.vr hv₂) hQ₁ _ _ fun s₂ g₂ φ₂ σ₂ ρ₂ N₂ R₂ hQ₂ => ?_)
  exact PyProof.Rows.assignInOrder_nil (kk _ _ _ _ _ ((N₀.trans N₁).trans N₂) R₂ hQ₂)

end

end
section
set_option autoImplicit false

section
variable {G : Glb} {g g' : FM} {φ φ' : List Addr} {σ σ' : Sto} {env : Env} {own : List Str} {ρ : Rho} {s s' : Shared}

theorem Rel.fpφ (R : Rel G g φ σ env own ρ s) {b : Addr} (hb : b ∈ fpOf env own) : b ∉ φ ∧ g b = none := by
  rcases List.mem_cons.mp hb with q | q
  · exact q ▸ ⟨R.fr.Lφ, R.fr.Lg⟩
  · obtain ⟨x, hx, hc⟩ := List.mem_filterMap.mp q
    obtain ⟨c, v0, e, _, z, y, _⟩ := R.fr.ownc x hx
    rw [hc] at e; cases e
    exact ⟨y, z⟩

theorem Rel.step (R : Rel G g φ σ env own ρ s) (N : Nx [] s s' g g' φ φ') (ok : SOk s') (S : SR G g' s'.heap φ' σ') : Rel G g' φ' σ' env own ρ s' := by
  refine ⟨ok, S, FR.keeps R.fr N.sub N.phi (fun b q => ?_) (fun b q => ?_) fun b o z e => N.oth b o (by simp) ?_ e⟩
  · cases y : g' b with
    | none => exact .inl rfl
    | some o =>
      rcases N.new b o y with z | z
      · exact .inr (by rw [z]; simp)
      · exact absurd z q
  · obtain ⟨r, rfl, hr⟩ := N.pre
    rcases List.mem_append.mp q with q | q
    · exact .inl q
    · exact .inr (hr b q)
  · rcases z with z | z
    · exact (R.fpφ z).1
    · exact fun y => z (R.sr.fresh b y)

theorem Nx.leave {fp : List Addr} {s s₁ s₂ : Shared} {g g₁ g₂ : FM} {φ φ₁ φ₂ : List Addr} (N : Nx [] s s₁ g g₁ φ φ₁) (M : Nx fp s₁ s₂ g₁ g₂ φ₁ φ₂) (hf : ∀ a ∈ fp, s.heap.get? a = none) : Nx [] s s₂ g g₂ φ φ₂ :=
  have T := N.fp.trans M
  { T with oth := fun b o _ h2 e => T.oth b o (fun q => by rw [hf b q] at e; cases e) h2 e }

theorem cells_spec : ∀ (names : List (Str × NameKind)) (h : Heap) (acc : List (Str × Addr)),
    (∀ x, (x, NameKind.cell) ∈ names → ∃ c, (cellsFrom h.objs.size names acc).lookup x = some c ∧ (pushCells h names).IsCell c none ∧ h.objs.size ≤ c) ∧
    (∀ x, (x, NameKind.cell) ∉ names → (cellsFrom h.objs.size names acc).lookup x = acc.lookup x) ∧
    (∀ x y c, (x, NameKind.cell) ∈ names → (y, NameKind.cell) ∈ names → (cellsFrom h.objs.size names acc).lookup x = some c → (cellsFrom h.objs.size names acc).lookup y = some c → x = y)
  | [], h, acc => by simp [cellsFrom]
  | (name, kind) :: r, h, acc => by
    by_cases hk : kind = .cell
    · subst hk
      have e1 : cellsFrom h.objs.size ((name, .cell) :: r) acc = cellsFrom (h.objs.size + 1) r ((name, h.objs.size) :: acc) := by simp [cellsFrom]
      have e2 : pushCells h ((name, .cell) :: r) = pushCells (h.push { cls := .type "cell", data := .cell none }) r := by simp [pushCells]
      obtain ⟨i1, i2, i3⟩ := cells_spec r (h.push { cls := .type "cell", data := .cell none }) ((name, h.objs.size) :: acc)
      rw [Heap.size_push] at i1 i2 i3
      rw [e1, e2]
      have low : ∀ x c, (x, NameKind.cell) ∈ r → (cellsFrom (h.objs.size + 1) r ((name, h.objs.size) :: acc)).lookup x = some c → h.objs.size + 1 ≤ c := fun x c hx hc => by
        obtain ⟨c', e, _, z⟩ := i1 x hx
        rw [hc] at e; cases e; exact z
      have at' : (name, NameKind.cell) ∉ r → (cellsFrom (h.objs.size + 1) r ((name, h.objs.size) :: acc)).lookup name = some h.objs.size := fun hn => by
        rw [i2 name hn, List.lookup_cons]; simp
      refine ⟨fun x hx => ?_, fun x hx => ?_, fun x y c hx hy h1 h2 => ?_⟩
      · by_cases hr : (x, NameKind.cell) ∈ r
        · obtain ⟨c, e, z, y⟩ := i1 x hr
          exact ⟨c, e, z, by exact ar10 y⟩
        · rcases List.mem_cons.mp hx with q | q
          · cases q
            exact ⟨_, at' hr, ⟨_, pushCells_keeps r _ _ _ (Heap.get?_push_size _ rfl), rfl⟩, Nat.le_refl _⟩
          · exact absurd q hr
      · have hr : (x, NameKind.cell) ∉ r := fun q => hx (List.mem_cons_of_mem _ q)
        have hne : x ≠ name := fun q => hx (q ▸ List.mem_cons_self)
        have hb : (x == name) = false := by simpa using hne
        rw [i2 x hr, List.lookup_cons, hb]
      · by_cases hxr : (x, NameKind.cell) ∈ r <;> by_cases hyr : (y, NameKind.cell) ∈ r
        · exact i3 x y c hxr hyr h1 h2
        · have q : y = name := by
            rcases List.mem_cons.mp hy with q | q
            · cases q; rfl
            · exact absurd q hyr
          subst q
          rw [at' hyr] at h2; cases h2
          have := low x _ hxr h1; exact (ar165 this).elim
        · have q : x = name := by
            rcases List.mem_cons.mp hx with q | q
            · cases q; rfl
            · exact absurd q hxr
          subst q
          rw [at' hxr] at h1; cases h1
          have := low y _ hyr h2; exact (ar165 this).elim
        · have q : y = name := by
            rcases List.mem_cons.mp hy with q | q
            · cases q; rfl
            · exact absurd q hyr
          have q' : x = name := by
            rcases List.mem_cons.mp hx with q | q
            · cases q; rfl
            · exact absurd q hxr
          rw [q, q']
    · have hk' : (kind == NameKind.cell) = false := by simpa using hk
      have e1 : cellsFrom h.objs.size ((name, kind) :: r) acc = cellsFrom h.objs.size r acc := by simp [cellsFrom, hk]
      have e2 : pushCells h ((name, kind) :: r) = pushCells h r := by simp [pushCells, hk]
      obtain ⟨i1, i2, i3⟩ := cells_spec r h acc
      rw [e1, e2]
      have mm : ∀ x, (x, NameKind.cell) ∈ (name, kind) :: r ↔ (x, NameKind.cell) ∈ r := fun x => by
        rw [List.mem_cons]
        exact ⟨fun q => q.resolve_left fun z => hk (by cases z; rfl), .inr⟩
      exact ⟨fun x hx => i1 x ((mm x).mp hx), fun x hx => i2 x fun q => hx ((mm x).mpr q), fun x y c hx hy => i3 x y c ((mm x).mp hx) ((mm y).mp hy)⟩

/-- the names of a scope that are cells of its own -/
noncomputable def ownOf (sc : Scope) : List Str := (sc.names.filter fun x => x.2 == .cell).map (·.1)
theorem mem_ownOf {sc : Scope} {x : Str} : x ∈ ownOf sc ↔ (x, NameKind.cell) ∈ sc.names := by
  unfold ownOf
  rw [List.mem_map]
  constructor
  · rintro ⟨⟨n, k⟩, h, rfl⟩
    obtain ⟨h1, h2⟩ := List.mem_filter.mp h
    have : k = .cell := by simpa using h2
    exact this ▸ h1
  · intro h
    exact ⟨(x, .cell), List.mem_filter.mpr ⟨h, by simp⟩, rfl⟩

/-- what a closure bears -/
noncomputable def Clo (g : FM) (φ : List Addr) (h : Heap) (cl : List (Str × Addr)) (sc sc' : Scope) (ρ₀ : Rho) : Prop :=
  ∀ x v, ρ₀ x = some v → sc'.names.lookup x ≠ some .local ∧ (x, NameKind.cell) ∉ sc.names ∧ ∃ c w, cl.lookup x = some c ∧ h.IsCell c (some w) ∧ VR g φ v w ∧ ∃ o, g c = some o

theorem Rel.frame {sc sc' : Scope} {cl : List (Str × Addr)} {cls : Value} {ρ₀ : Rho} {env' : Env} (ok : SOk s) (S : SR G g s.heap φ σ) (hc : Clo g φ s.heap cl sc sc' ρ₀)
    (hs : env'.scope = sc') (hl : env'.locals = s.heap.objs.size) (hcs : env'.cells = cellsFrom (s.heap.objs.size + 1) sc.names cl) :
    Rel G g φ σ env' (ownOf sc) ρ₀ { s with heap := pushCells (s.heap.push { cls := cls, data := .dict #[] }) sc.names } ∧
    Nx [] s { s with heap := pushCells (s.heap.push { cls := cls, data := .dict #[] }) sc.names } g g φ φ ∧ ∀ a ∈ fpOf env' (ownOf sc), s.heap.get? a = none := by
  have keep : ∀ b o, s.heap.get? b = some o → (pushCells (s.heap.push { cls := cls, data := .dict #[] }) sc.names).get? b = some o := fun b o e => pushCells_keeps _ _ _ _ (Heap.get?_push_of_some _ e)
  have fresh : ∀ a, s.heap.objs.size ≤ a → s.heap.get? a = none := fun a ha => by
    cases e : s.heap.get? a with
    | none => rfl
    | some o' => exact absurd (Heap.lt_size e) (Nat.not_lt.mpr ha)
  have ung : ∀ a, s.heap.objs.size ≤ a → g a = none := fun a ha => by
    cases e : g a with
    | none => rfl
    | some o => have := S.keep _ _ e; rw [fresh a ha] at this; cases this
  have unφ : ∀ a, s.heap.objs.size ≤ a → a ∉ φ := fun a ha q => by
    obtain ⟨o, e⟩ := S.live q
    rw [fresh a ha] at e; cases e
  obtain ⟨c1, c2, c3⟩ := cells_spec sc.names (s.heap.push { cls := cls, data := .dict #[] }) cl
  rw [Heap.size_push] at c1 c2 c3
  rw [← hcs] at c1 c2 c3
  refine ⟨⟨⟨ok.toks, ok.bare⟩, ⟨S.base, fun b o e => keep b o (S.keep b o e), S.len, fun k a m h1 h2 => MOR.keeps (fun _ _ e => e) (fun _ _ e => e) (keep a) (S.mo k a m h1 h2), S.fresh, S.nodup⟩, ?_⟩, ⟨rfl, rfl, fun _ _ e => e, fun _ _ e => .inl e, ⟨[], by simp, by simp⟩, fun b o _ _ e => keep b o e, fun b e => ?_⟩, fun a ha => ?_⟩
  · refine ⟨by rw [hl]; exact ung _ (Nat.le_refl _), by rw [hl]; exact unφ _ (Nat.le_refl _), ⟨fun _ => none, ?_, fun x v h1 h2 => ?_⟩, fun x v h1 h2 => ?_, fun x hx => ?_, fun x hx y hy c h1 h2 => c3 x y c (mem_ownOf.mp hx) (mem_ownOf.mp hy) h1 h2⟩
    · rw [hl]; exact (Heap.Ns.new s.heap cls).keeps (pushCells_keeps _ _)
    · exact absurd (by unfold Env.kindOf at h1; rw [hs] at h1; exact h1) (hc x v h2).1
    · obtain ⟨_, hx, c, w, hcl, hcell, hr, hg⟩ := hc x v h2
      exact ⟨c, w, (c2 x hx).trans hcl, hcell.keeps keep, hr, .inr hg⟩
    · obtain ⟨c, e, z, lo⟩ := c1 x (mem_ownOf.mp hx)
      exact ⟨c, none, e, z, ung c (by exact ar10 lo), unφ c (by exact ar10 lo), by rw [hl]; exact Nat.ne_of_gt (by exact ar167 lo)⟩
  · cases q : s.heap.get? b with
    | none => exact absurd q e
    | some o => rw [show ({ s with heap := pushCells (s.heap.push { cls := cls, data := .dict #[] }) sc.names } : Shared).heap.get? b = some o from keep b o q]; simp
  · refine fresh a ?_
    rcases List.mem_cons.mp ha with q | q
    · rw [q, hl]; exact Nat.le_refl _
    · obtain ⟨x, hx, e⟩ := List.mem_filterMap.mp q
      obtain ⟨c, e', _, lo⟩ := c1 x (mem_ownOf.mp hx)
      rw [e] at e'; cases e'; exact ar10 lo
end

/-- a value that may be called -/
noncomputable def FnOk (G : Glb) (ℓ : Nat) (f : Value) (W : List V → (V → Sto → Prop) → Sto → Prop) : Prop :=
  ∀ (A : Around) (s : Shared) (g : FM) (φ : List Addr) (σ : Sto) (vs : List V) (ws : List Value) (Q : V → Sto → Prop), Cx ℓ A → SOk s → SR G g s.heap φ σ → VRs g φ vs ws → W vs Q σ →
    ∀ (K : Value → Shared → Prop) (E : Value → Shared → Prop),
      (∀ w s' g' φ' σ' v, Nx [] s s' g g' φ φ' → SOk s' → SR G g' s'.heap φ' σ' → VR g' φ' v w → Q v σ' → K w s') → wpAny (model G.prog G.w) A (call f ws) K E s

/-- the parameters bound, one behind the other -/
noncomputable def bindRho : List Str → List V → Rho → Option Rho
  | [], [], ρ => some ρ
  | x :: xs, v :: vs, ρ => bindRho xs vs (upd ρ x v)
  | _, _, _ => none

noncomputable def retK (Q : V → Sto → Prop) : Fl → Rho → Sto → Prop := fun fl _ σ => match fl with | .rt v => Q v σ | .nx => Q .none σ | .br => False | .ct => False
noncomputable def wFn (ps : List Str) (W : WS) : List V → (V → Sto → Prop) → Sto → Prop := fun vs Q σ => ∃ ρ, bindRho ps vs (fun _ => none) = some ρ ∧ W (retK Q) ρ σ

theorem stores {G : Glb} {A : Around} {env : Env} {sc : Scope} {own : List Str} (eo : EnvOk sc env) (f : Str × Value → PUnit → Sem (ForInStep PUnit)) (hf : ∀ n v u, f (n, v) u = (do storeName env n v; pure (.yield ⟨⟩))) :
    ∀ (xs : List Str) (vs : List V) (ws : List Value) (s : Shared) (g : FM) (φ : List Addr) (σ : Sto) (ρ ρ' : Rho) (K : PUnit → Shared → Prop) (E : Value → Shared → Prop), (∀ x ∈ xs, canStore sc own x) →
      Rel G g φ σ env own ρ s → VRs g φ vs ws → bindRho xs vs ρ = some ρ' → (∀ s', Nx (fpOf env own) s s' g g φ φ → Rel G g φ σ env own ρ' s' → K ⟨⟩ s') → wpAny (model G.prog G.w) A (forIn (xs.zip ws) ⟨⟩ f) K E s
  | [], [], ws, s, g, φ, σ, ρ, ρ', K, E, _, R, hv, hb, k => by
    cases hb
    rw [List.zip_nil_left, List.forIn_nil]
    exact wpAny_pure (k s (Nx.refl rfl) R)
  | [], _ :: _, _, _, _, _, _, _, _, _, _, _, _, _, hb, _ => by cases hb
  | _ :: _, [], _, _, _, _, _, _, _, _, _, _, _, _, hb, _ => by cases hb
  | x :: xs, v :: vs, ws, s, g, φ, σ, ρ, ρ', K, E, hx, R, hv, hb, k => by
    obtain ⟨w, r, rfl, h1, h2⟩ := hv
    rw [List.zip_cons_cons, List.forIn_cons, hf]
    refine wpAny_bind (wpAny_bind (store_name eo R (hx x List.mem_cons_self) h1 fun s₁ N₁ R₁ => wpAny_pure ?_))
    exact stores eo f hf xs vs r s₁ g φ σ _ ρ' K E (fun y hy => hx y (List.mem_cons_of_mem _ hy)) R₁ h2 hb fun s₂ N₂ R₂ => k s₂ (N₁.trans N₂) R₂

/-- what a def is, for the layer -/
structure IsDef (G : Glb) (a : Addr) (fd : FuncData) (body : List Stmt) (cl : List (Str × Addr)) : Prop where
  obj : ∃ o, G.base a = some o ∧ o.data = .func fd
  body : fd.body = .stmts body
  closure : fd.closure = cl
  globals : fd.globals = mainGlobals
  builtins : fd.builtins = builtinsNs
  code : ∀ h, G.In h → h.CodeRec fd.code fd.qualname
  co : fd.scope.isCoroutine = false
  gen : fd.scope.isGenerator = false
  kind : fd.scope.kind = .function

theorem FnOk.defB {G : Glb} (O : G.Ok) {ℓ : Nat} {a : Addr} {fd : FuncData} {body : List Stmt} {ps : List Str} {W : WS} (D : IsDef G a fd body [])
    (hp : ∀ x ∈ ps, canStore fd.scope (ownOf fd.scope) x) (full : List V → Option (List V))
    (hb : ∀ s g φ σ vs ws vs', SR G g s.heap φ σ → VRs g φ vs ws → full vs = some vs' → ∃ ws', VRs g φ vs' ws' ∧ BindsTo s fd ⟨ws, []⟩ (ps.zip ws'))
    (hW : Sxs G ℓ fd.scope (ownOf fd.scope) body W) : FnOk G (ℓ + 1) (.ref a) fun vs Q σ => ∃ vs', full vs = some vs' ∧ wFn ps W vs' Q σ := by
  intro A s g φ σ vs ws Q cx ok S hv hw K E k
  obtain ⟨vs', hfull, ρ, hρ, hw⟩ := hw
  obtain ⟨o, hbase, hdata⟩ := D.obj
  obtain ⟨ws', hv', hbind⟩ := hb s g φ σ vs ws vs' S hv hfull
  have inb : G.In s.heap := fun b o e => S.keep b o (S.base b o e)
  have dep := cx.depth
  have uni := cx.units
  refine wpAny_call (codeAny_call_function (by show A.depth < 1000; exact ar168 dep) (inb _ _ hbase) hdata D.co D.gen D.body (D.code _ inb) (hbind _ _ _ _ ?_))
  rw [D.closure]
  simp only [newFunctionEnv, Option.isSome_none, Bool.false_eq_true, if_false]
  refine wpAny_bind (wpAny_alloc ?_)
  refine wpAny_bind (wpAny_layCells _ (fun name kind cells => by cases kind == NameKind.cell <;> simp) _ _ _ _ ?_)
  rw [show ({ s with heap := s.heap.push { cls := .type "frame", data := .dict #[] } } : Shared).heap.objs.size = s.heap.objs.size + 1 from Heap.size_push ..]
  generalize hE : ({ scope := fd.scope, locals := s.heap.objs.size, globals := fd.globals, cells := cellsFrom (s.heap.objs.size + 1) fd.scope.names [], qual := fd.qualname ++ ".<locals>.", func := some a, code := fd.code, frame := some s.heap.objs.size, builtins := fd.builtins } : Env) = env
  have eo : EnvOk fd.scope env := ⟨by rw [← hE], D.kind, by rw [← hE]; exact D.globals, by rw [← hE]; exact D.builtins⟩
  obtain ⟨R₁, N₁, hfr⟩ := Rel.frame (cls := .type "frame") (sc := fd.scope) (sc' := fd.scope) (cl := []) (ρ₀ := fun _ => none) (env' := env) ok S (fun x v h => by cases h) eo.scope (by rw [← hE]) (by rw [← hE])
  refine wpAny_bind (stores eo _ (fun _ _ _ => rfl) ps vs' ws' _ g φ σ _ ρ _ _ hp R₁ (N₁.vrs hv') hρ fun s₂ N₂ R₂ => ?_)
  refine wpAny_pure ⟨O.nolimit _ R₂.sr.inb, codeAny_func ?_⟩
  have cx' : Cx ℓ (A.deeper env) := ⟨cx.handled, by show A.depth + 1 + 10 * ℓ ≤ 900; exact ar169 dep, by show A.units + 3 + 100 * ℓ ≤ 9000; exact ar170 uni⟩
  refine hW (A.deeper env) env s₂ g φ σ ρ _ cx' eo R₂ hw _ _ fun f s₃ g₃ φ₃ σ₃ ρ₃ fl N₃ R₃ hf hQ => ?_
  have N : Nx [] s s₃ g g₃ φ φ₃ := (N₁.leave N₂ hfr).leave N₃ hfr
  cases fl with
  | nx => cases hf; exact k _ _ _ _ _ .none N R₃.ok R₃.sr rfl hQ
  | br => exact hQ.elim
  | ct => exact hQ.elim
  | rt v => obtain ⟨w, rfl, hv⟩ := hf; exact k _ _ _ _ _ v N R₃.ok R₃.sr hv hQ

theorem FnOk.def {G : Glb} (O : G.Ok) {ℓ : Nat} {a : Addr} {fd : FuncData} {body : List Stmt} {ps : List Str} {W : WS} (D : IsDef G a fd body [])
    (hp : ∀ x ∈ ps, canStore fd.scope (ownOf fd.scope) x) (hb : ∀ ws : List Value, ws.length = ps.length → bindArgs fd ⟨ws, []⟩ = pure (ps.zip ws))
    (hW : Sxs G ℓ fd.scope (ownOf fd.scope) body W) : FnOk G (ℓ + 1) (.ref a) (wFn ps W) := by
  have bl : ∀ (ps : List Str) (vs : List V) (ρ ρ' : Rho), bindRho ps vs ρ = some ρ' → vs.length = ps.length := by
    intro ps
    induction ps with
    | nil => intro vs ρ ρ' h; cases vs with
      | nil => rfl
      | cons _ _ => cases h
    | cons x xs ih => intro vs ρ ρ' h; cases vs with
      | nil => cases h
      | cons v vs => simp [ih vs _ _ h]
  have := FnOk.defB O D hp (fun vs => if vs.length = ps.length then some vs else none) (fun s g φ σ vs ws vs' S hv h => by
    split at h
    · cases h
      rename_i hl
      exact ⟨ws, hv, BindsTo.of_eq (hb ws (hv.length.trans hl))⟩
    · cases h) hW
  intro A s g φ σ vs ws Q cx ok S hv hw
  obtain ⟨ρ, hρ, _⟩ := id hw
  exact this A s g φ σ vs ws Q cx ok S hv ⟨vs, if_pos (bl ps vs _ _ hρ), hw⟩


end
section
set_option autoImplicit false

section
variable {G : Glb} {g g' : FM} {φ φ' : List Addr} {σ σ' : Sto} {env : Env} {own : List Str} {ρ : Rho} {s s' : Shared}

theorem SR.keeps {h h' : Heap} (S : SR G g h φ σ) (hk : ∀ b o, h.get? b = some o → h'.get? b = some o) : SR G g h' φ σ :=
  ⟨S.base, fun b o e => hk b o (S.keep b o e), S.len, fun k a m h1 h2 => MOR.keeps (fun _ _ e => e) (fun _ _ e => e) (hk a) (S.mo k a m h1 h2), S.fresh, S.nodup⟩

/-- hiding cells -/
noncomputable def Hid (g g' : FM) : Prop := ∀ b o, g b = some o → g' b = some o ∨ ∃ v, o.data = .cell v
theorem Hid.dull (H : Hid g g') : ∀ b o, g b = some o → g' b = some o ∨ Dull o := fun b o e => (H b o e).imp id fun ⟨v, hv⟩ => by
  refine ⟨fun arr n q => ?_, fun arr n q => ?_, fun fs q => ?_⟩ <;> (rw [q] at hv; cases hv)
theorem VRs.hid (H : Hid g g') {v : List V} {w : List Value} (h : VRs g φ v w) : VRs g' φ v w := VRs.hide H.dull h
theorem MOR.hid (H : Hid g g') {h : Heap} {a : Addr} {m : MO} (x : MOR G g φ h a m) : MOR G g' φ h a m := by
  cases m with
  | list xs => obtain ⟨arr, n, h1, h2⟩ := x; exact ⟨arr, n, h1, h2.hid H⟩
  | acc xs =>
    obtain ⟨d, arr, n, od, h1, h2, h3, h4, t, h6⟩ := x
    refine ⟨d, arr, n, od, h1, h2.hid H, (H _ _ h3).resolve_right fun ⟨v, q⟩ => ?_, h4, t, h6⟩
    unfold PySem.W.lookIn at h6
    rw [q] at h6; cases h6
  | tab P => exact x

/-- the frame's own cells -/
noncomputable def cellsOf (env : Env) (own : List Str) : List Addr := own.filterMap fun x => env.cells.lookup x
noncomputable def frz (g : FM) (C : List Addr) (h : Heap) : FM := fun a => if a ∈ C then h.get? a else g a
noncomputable def thaw (g : FM) (C : List Addr) : FM := fun a => if a ∈ C then none else g a

theorem Rel.cellC (R : Rel G g φ σ env own ρ s) {c : Addr} (h : c ∈ cellsOf env own) : c ∉ φ ∧ g c = none ∧ ∃ o v, s.heap.get? c = some o ∧ o.data = .cell v := by
  obtain ⟨x, hx, hc⟩ := List.mem_filterMap.mp h
  obtain ⟨c', v0, e, ⟨oc, hoc, hd⟩, z, y, _⟩ := R.fr.ownc x hx
  rw [hc] at e; cases e
  exact ⟨y, z, oc, v0, hoc, hd⟩

theorem Rel.frz_sub (R : Rel G g φ σ env own ρ s) : ∀ b o, g b = some o → frz g (cellsOf env own) s.heap b = some o := fun b o e => by
  unfold frz
  by_cases q : b ∈ cellsOf env own
  · rw [(R.cellC q).2.1] at e; cases e
  · rw [if_neg q]; exact e
theorem Rel.frz_sr (R : Rel G g φ σ env own ρ s) : SR G (frz g (cellsOf env own) s.heap) s.heap φ σ := by
  refine ⟨fun b o e => R.frz_sub b o (R.sr.base b o e), fun b o e => ?_, R.sr.len, fun k a m h1 h2 => MOR.keeps R.frz_sub (fun _ _ e => e) (fun _ e => e) (R.sr.mo k a m h1 h2), fun a ha => ?_, R.sr.nodup⟩
  · unfold frz at e
    by_cases q : b ∈ cellsOf env own
    · rw [if_pos q] at e; exact e
    · rw [if_neg q] at e; exact R.sr.keep b o e
  · unfold frz
    by_cases q : a ∈ cellsOf env own
    · exact absurd ha (R.cellC q).1
    · rw [if_neg q]; exact R.sr.fresh a ha

/-- the frame's own cells let go again -/
theorem Rel.thaw (R : Rel G g φ σ env own ρ s) (N : Nx [] s s' (frz g (cellsOf env own) s.heap) g' φ φ') (ok : SOk s') (S : SR G g' s'.heap φ' σ') :
    Rel G (thaw g' (cellsOf env own)) φ' σ' env own ρ s' ∧ Nx [] s s' g (thaw g' (cellsOf env own)) φ φ' ∧ Hid g' (Mine.thaw g' (cellsOf env own)) := by
  have H : Hid g' (Mine.thaw g' (cellsOf env own)) := fun b o e => by
    by_cases q : b ∈ cellsOf env own
    · obtain ⟨_, _, oc, v, hoc, hd⟩ := R.cellC q
      have : g' b = some oc := N.sub b oc (by unfold frz; rw [if_pos q]; exact hoc)
      rw [this] at e; cases e
      exact .inr ⟨v, hd⟩
    · exact .inl (by unfold Mine.thaw; rw [if_neg q]; exact e)
  have N' : Nx [] s s' g (Mine.thaw g' (cellsOf env own)) φ φ' := ⟨N.drawn, N.os, fun b o e => by
      unfold Mine.thaw
      by_cases q : b ∈ cellsOf env own
      · rw [(R.cellC q).2.1] at e; cases e
      · rw [if_neg q]; exact N.sub b o (R.frz_sub b o e), fun b o e => by
      unfold Mine.thaw at e
      by_cases q : b ∈ cellsOf env own
      · rw [if_pos q] at e; cases e
      · rw [if_neg q] at e
        rcases N.new b o e with z | z
        · unfold frz at z; rw [if_neg q] at z; exact .inl z
        · exact .inr z, N.pre, N.oth, N.ex⟩
  have S' : SR G (Mine.thaw g' (cellsOf env own)) s'.heap φ' σ' := ⟨fun b o e => N'.sub b o (R.sr.base b o e), fun b o e => by
      unfold Mine.thaw at e
      by_cases q : b ∈ cellsOf env own
      · rw [if_pos q] at e; cases e
      · rw [if_neg q] at e; exact S.keep b o e, S.len, fun k a m h1 h2 => (S.mo k a m h1 h2).hid H, fun a ha => by
      unfold Mine.thaw
      by_cases q : a ∈ cellsOf env own
      · rw [if_pos q]
      · rw [if_neg q]; exact S.fresh a ha, S.nodup⟩
  exact ⟨R.step N' ok S', N', H⟩

/-- a private address through a step -/
theorem Nx.privKeep {fp : List Addr} (N : Nx fp s s' g g' φ φ') {I : Addr} (hf : I ∉ fp) (h1 : I ∉ φ) (h2 : g I = none) {o : Obj} (ho : s.heap.get? I = some o) : I ∉ φ' ∧ g' I = none ∧ s'.heap.get? I = some o := by
  refine ⟨fun q => ?_, ?_, N.oth _ _ hf h1 ho⟩
  · obtain ⟨r, rfl, hr⟩ := N.pre
    rcases List.mem_append.mp q with q | q
    · exact h1 q
    · rw [hr _ q] at ho; cases ho
  · cases q : g' I with
    | none => rfl
    | some o' =>
      rcases N.new _ _ q with z | z
      · rw [h2] at z; cases z
      · rw [z] at ho; cases ho

noncomputable def relab (scope sc : Scope) : Scope := { scope with names := scope.names.map fun (n, k) => if (k == .free && sc.kind == .function && sc.names.lookup n == some .cell) then (n, .cell) else (n, k) }
theorem relab_eq {sc scope : Scope} (eo : EnvOk sc env) : relabel scope env = relab scope sc := by
  unfold relabel relab Env.kindOf
  rw [eo.scope]
noncomputable def rk (sc : Scope) (n : Str) (k : NameKind) : NameKind := if (k == .free && sc.kind == .function && sc.names.lookup n == some .cell) then .cell else k
theorem relab_names (scope sc : Scope) : (relab scope sc).names = scope.names.map fun p => (p.1, rk sc p.1 p.2) := by
  unfold relab rk
  dsimp only
  congr 1
  funext p
  split <;> rfl
theorem map_lookup (f : Str → NameKind → NameKind) : ∀ {l : List (Str × NameKind)} {x : Str}, (l.map fun p => (p.1, f p.1 p.2)).lookup x = (l.lookup x).map (f x)
  | [], _ => rfl
  | (n, k) :: r, x => by
    rw [List.map_cons, List.lookup_cons, List.lookup_cons]
    cases hb : x == n with
    | true => rw [beq_iff_eq.mp hb]; rfl
    | false => exact map_lookup f
theorem relab_lookup (scope sc : Scope) (x : Str) : (relab scope sc).names.lookup x = (scope.names.lookup x).map (rk sc x) := by
  rw [relab_names]; exact map_lookup _

noncomputable def NamesOk (sc : Scope) : Prop := ∀ p ∈ sc.names, sc.names.lookup p.1 = some p.2

noncomputable def innerRho (scope : Scope) (ρ : Rho) : Rho := fun x => if scope.names.lookup x = some .free then ρ x else none

theorem closureFor_go (env : Env) : ∀ (l : List (Str × NameKind)) (acc : List (Str × Addr)), (∀ p ∈ l, p.2 = .free → ∃ c, env.cells.lookup p.1 = some c) →
    ∃ cl, (forIn l acc fun (x : Str × NameKind) (cs : List (Str × Addr)) => do
        let (name, kind) := x
        if kind == .free then do let c ← cellOf env name; pure (ForInStep.yield ((name, c) :: cs)) else pure (ForInStep.yield cs) : Sem (List (Str × Addr))) = pure cl ∧
      ∀ x, cl.lookup x = if (x, NameKind.free) ∈ l then env.cells.lookup x else acc.lookup x
  | [], acc, _ => ⟨acc, by rw [List.forIn_nil], fun x => by simp⟩
  | (n, k) :: r, acc, h => by
    by_cases hk : k = .free
    · subst hk
      obtain ⟨c, hc⟩ := h _ List.mem_cons_self rfl
      obtain ⟨cl, h1, h2⟩ := closureFor_go env r ((n, c) :: acc) fun p hp => h p (List.mem_cons_of_mem _ hp)
      refine ⟨cl, ?_, fun x => ?_⟩
      · rw [List.forIn_cons]
        unfold cellOf
        dsimp only
        rw [hc]
        exact h1
      · rw [h2 x]
        by_cases hx : x = n
        · subst hx
          simp [hc]
        · have : (x == n) = false := by simpa using hx
          simp [List.lookup_cons, this, hx]
    · obtain ⟨cl, h1, h2⟩ := closureFor_go env r acc fun p hp => h p (List.mem_cons_of_mem _ hp)
      refine ⟨cl, ?_, fun x => ?_⟩
      · rw [List.forIn_cons]
        have : (k == NameKind.free) = false := by simpa using hk
        dsimp only
        rw [this]
        exact h1
      · rw [h2 x]
        have : ((x, NameKind.free) ∈ (n, k) :: r) ↔ (x, NameKind.free) ∈ r := by
          rw [List.mem_cons]
          exact ⟨fun q => q.resolve_left fun z => hk (by cases z; rfl), .inr⟩
        simp only [this]

theorem closure_spec {scope : Scope} {env : Env} (h : ∀ p ∈ scope.names, p.2 = .free → ∃ c, env.cells.lookup p.1 = some c) :
    ∃ cl, closureFor scope env = pure cl ∧ ∀ x, (x, NameKind.free) ∈ scope.names → cl.lookup x = env.cells.lookup x := by
  obtain ⟨cl, h1, h2⟩ := closureFor_go env scope.names [] h
  refine ⟨cl, ?_, fun x hx => by rw [h2 x, if_pos hx]⟩
  exact congrArg (fun t : Sem (List (Str × Addr)) => t >>= fun cs => pure cs) h1

/-- what the free names of a comprehension are in the frame around -/
theorem Rel.outer {sc scope : Scope} (eo : EnvOk sc env) (R : Rel G g φ σ env own ρ s) {x : Str} {v : V} (hx : sc.names.lookup x = some .cell ∨ sc.names.lookup x = some .free) (hv : ρ x = some v) :
    ∃ c w, env.cells.lookup x = some c ∧ s.heap.IsCell c (some w) ∧ VR g φ v w ∧ ∃ o, frz g (cellsOf env own) s.heap c = some o := by
  obtain ⟨c, w, hc, hw, hr, hz⟩ := R.fr.cell x v (by unfold Env.kindOf; rw [eo.scope]; exact hx) hv
  refine ⟨c, w, hc, hw, hr, ?_⟩
  rcases hz with hz | ⟨o, hz⟩
  · obtain ⟨oc, hoc, _⟩ := hw
    exact ⟨oc, by unfold frz; rw [if_pos (show c ∈ cellsOf env own from List.mem_filterMap.mpr ⟨x, hz, hc⟩)]; exact hoc⟩
  · exact ⟨o, R.frz_sub c o hz⟩
end

noncomputable def wCompL (Gd : Sto → Prop) (Wa : WA) (Wi : WT) (We : WE) : List V → List V → (List V → Sto → Prop) → Rho → Sto → Prop
  | [], acc, Q, _, σ => Gd σ ∧ Q acc σ
  | v :: vs, acc, Q, ρ, σ => Gd σ ∧ Wa v (fun ρ' σ' => Wi (fun b σ'' => if b = true then We (fun y σ''' => wCompL Gd Wa Wi We vs (acc ++ [y]) Q ρ' σ''') ρ' σ'' else wCompL Gd Wa Wi We vs acc Q ρ' σ'') ρ' σ') ρ σ
/-- a new list: frozen, or to be changed -/
noncomputable def newL (Q : V → Sto → Prop) : List V → Sto → Prop := fun ys σ => Q (.list ys) σ ∨ Q (.ref σ.length) (σ ++ [.list ys])
noncomputable def FreeBound (scope : Scope) (ρ : Rho) : Prop := ∀ p ∈ scope.names, p.2 = .free → ∃ v, ρ p.1 = some v
noncomputable def wComp (scope : Scope) (Wf : WE) (Wa : WA) (Wi : WT) (We : WE) : WE := fun Q ρ σ => FreeBound scope ρ ∧ Wf (fun v σ' => ∃ xs, aItems σ' v = some xs ∧ xs.length ≤ 2 ^ 20 ∧ wCompL (aGd v xs) Wa Wi We xs [] (newL Q) (innerRho scope ρ) σ') ρ σ


end
section
set_option autoImplicit false

section
variable {G : Glb} {g g' : FM} {φ φ' : List Addr} {σ σ' : Sto} {s s' : Shared}

noncomputable def ins (g : FM) (D : Addr) (o : Obj) : FM := fun a => if a = D then some o else g a
theorem thaw_none {C : List Addr} {a : Addr} (h : g a = none) : thaw g C a = none := by
  unfold Mine.thaw
  split
  · rfl
  · exact h
theorem ins_sub {D : Addr} {o : Obj} (h : g D = none) : ∀ b p, g b = some p → ins g D o b = some p := fun b p e => by
  unfold ins
  by_cases q : b = D
  · rw [q, h] at e; cases e
  · rw [if_neg q]; exact e
theorem ins_at {D : Addr} {o : Obj} : ins g D o D = some o := if_pos rfl
theorem SR.addF {h : Heap} (S : SR G g h φ σ) {D : Addr} {o : Obj} (h1 : D ∉ φ) (h2 : g D = none) (ho : h.get? D = some o) : SR G (ins g D o) h φ σ :=
  ⟨fun b p e => ins_sub h2 b p (S.base b p e), fun b p e => by
    unfold ins at e
    by_cases q : b = D
    · rw [if_pos q] at e; cases e; rw [q]; exact ho
    · rw [if_neg q] at e; exact S.keep b p e, S.len, fun k a m e1 e2 => MOR.keeps (ins_sub h2) (fun _ _ e => e) (fun _ e => e) (S.mo k a m e1 e2), fun a ha => by
    unfold ins
    rw [if_neg (fun q : a = D => h1 (q ▸ ha))]; exact S.fresh a ha, S.nodup⟩
theorem SR.addM {h : Heap} (S : SR G g h φ σ) {D : Addr} {m : MO} (h1 : D ∉ φ) (h2 : g D = none) (hm : MOR G g φ h D m) : SR G g h (φ ++ [D]) (σ ++ [m]) := by
  have pre : ∀ (k : Nat) (b : Addr), φ[k]? = some b → (φ ++ [D])[k]? = some b := fun k b e => by
    rw [List.getElem?_append_left (List.getElem?_eq_some_iff.mp e).1]; exact e
  refine ⟨S.base, S.keep, by simp [S.len], fun k b mm e1 e2 => ?_, fun b q => ?_, List.nodup_append.mpr ⟨S.nodup, by simp, fun x hx y hy e => h1 (by rw [List.mem_singleton.mp hy] at e; exact e ▸ hx)⟩⟩
  · by_cases hlt : k < φ.length
    · rw [List.getElem?_append_left hlt] at e1
      rw [List.getElem?_append_left (by rw [← S.len]; exact hlt)] at e2
      exact MOR.keeps (fun _ _ e => e) pre (fun _ e => e) (S.mo k b mm e1 e2)
    · have hlt' : φ.length ≤ k := Nat.le_of_not_lt hlt
      rw [List.getElem?_append_right hlt'] at e1
      rw [List.getElem?_append_right (by rw [← S.len]; exact hlt')] at e2
      have hz : k - φ.length = 0 := by
        rcases Nat.eq_zero_or_pos (k - φ.length) with z | z
        · exact z
        · rw [List.getElem?_eq_none (by simp; exact ar32 z)] at e1; cases e1
      rw [hz] at e1; rw [← S.len, hz] at e2
      simp at e1 e2
      subst e1; subst e2
      exact MOR.keeps (fun _ _ e => e) pre (fun _ e => e) hm
  · rcases List.mem_append.mp q with q | q
    · exact S.fresh b q
    · rw [List.mem_singleton.mp q]; exact h2
theorem Nx.addF {fp : List Addr} (N : Nx fp s s' g g' φ φ') {D : Addr} {o : Obj} (h1 : s.heap.get? D = none) (h2 : g' D = none) : Nx fp s s' g (ins g' D o) φ φ' :=
  ⟨N.drawn, N.os, fun b p e => ins_sub h2 b p (N.sub b p e), fun b p e => (by
      unfold ins at e
      by_cases q : b = D
      · exact .inr (q ▸ h1)
      · rw [if_neg q] at e; exact N.new b p e), N.pre, N.oth, N.ex⟩
theorem Nx.addM {fp : List Addr} (N : Nx fp s s' g g' φ φ') {D : Addr} (h1 : s.heap.get? D = none) : Nx fp s s' g g' φ (φ' ++ [D]) :=
  ⟨N.drawn, N.os, N.sub, N.new, (by
      obtain ⟨r, rfl, hr⟩ := N.pre
      exact ⟨r ++ [D], by simp, fun a ha => (by
        rcases List.mem_append.mp ha with q | q
        · exact hr a q
        · rw [List.mem_singleton.mp q]; exact h1)⟩), N.oth, N.ex⟩
theorem VRs.addF {D : Addr} {o : Obj} (h2 : g D = none) {v : List V} {w : List Value} (h : VRs g φ v w) : VRs (ins g D o) φ v w := VRs.mono (ins_sub h2) (fun _ _ e => e) h
theorem at_end {D : Addr} (h : φ.length = σ.length) : (φ ++ [D])[σ.length]? = some D := by rw [← h]; simp

theorem alive_fp {env : Env} {own : List Str} {ρ : Rho} (R : Rel G g φ σ env own ρ s) {a : Addr} (ha : s.heap.get? a = none) : a ∉ fpOf env own := fun q => by
  rcases List.mem_cons.mp q with q | q
  · obtain ⟨m, ⟨o, es, ep, ho, _⟩, _⟩ := R.fr.ns
    rw [← q, ha] at ho; cases ho
  · obtain ⟨x, hx, hc⟩ := List.mem_filterMap.mp q
    obtain ⟨c, v0, e, ⟨oc, hoc, _⟩, _⟩ := R.fr.ownc x hx
    rw [hc] at e; cases e
    rw [ha] at hoc; cases hoc
theorem SR.un {h : Heap} (S : SR G g h φ σ) {a : Addr} (ha : h.get? a = none) : a ∉ φ ∧ g a = none := by
  refine ⟨fun q => ?_, ?_⟩
  · obtain ⟨o, e⟩ := S.live q
    rw [ha] at e; cases e
  · cases e : g a with
    | none => rfl
    | some o => have := S.keep _ _ e; rw [ha] at this; cases this
end

/-- a comprehension's tests -/
inductive Ifs (G : Glb) (ℓ : Nat) (sc : Scope) : List Expr → WT → Prop where
  | none : Ifs G ℓ sc [] fun Q _ σ => Q true σ
  | one {c : Expr} {W : WT} : Tt G ℓ sc c W → Ifs G ℓ sc [c] W

/-- what holds between a comprehension's turns -/
structure CmpI (G : Glb) (At : Nat → Heap → Prop) (s : Shared) (g0 : FM) (φ : List Addr) (cenv : Env) (own' : List Str) (I D : Addr) (v : V) (w : Value) (g' : FM) (φ' : List Addr) (σ' : Sto) (ρ' : Rho) (i : Nat) (arr : Array Value) (n' : Nat) (ys : List V) (s' : Shared) : Prop where
  N : Nx [] s s' g0 g' φ φ'
  R : Rel G g' φ' σ' cenv own' ρ' s'
  i1 : I ∉ φ'
  i2 : g' I = none
  i3 : At i s'.heap
  d1 : D ∉ φ'
  d2 : g' D = none
  d3 : s'.heap.get? D = some (listObj arr n')
  hys : VRs g' φ' ys arr.toList
  hvv : VR g' φ' v w
theorem sz24 {a b i n : Nat} (h : a = b) (h1 : a ≤ i) (h2 : i < n) (h3 : n ≤ 2 ^ 20) : b ≤ 2 ^ 24 := by lia
theorem sub1_lt {i n : Nat} (h : i < n) : n - (i + 1) < n - i := Nat.sub_lt_sub_left h (Nat.lt_succ_self i)
/-- what holds ahead of a turn; and behind the name's store -/
inductive CmpV (G : Glb) (At : Nat → Heap → Prop) (s : Shared) (g0 : FM) (φ : List Addr) (cenv : Env) (own' : List Str) (I D : Addr) (v : V) (w : Value) (xs : List V) (F : List V → List V → Rho → Sto → Prop) (n : Nat) (s' : Shared) : Prop
  | mk (g' : FM) (φ' : List Addr) (σ' : Sto) (ρ' : Rho) (i : Nat) (arr : Array Value) (n' : Nat) (ys : List V) (c : CmpI G At s g0 φ cenv own' I D v w g' φ' σ' ρ' i arr n' ys s') (hn : n = xs.length - i) (hi : i ≤ xs.length) (hy : ys.length ≤ i) (hF : F (xs.drop i) ys ρ' σ') : CmpV G At s g0 φ cenv own' I D v w xs F n s'
inductive CmpT (G : Glb) (At : Nat → Heap → Prop) (s : Shared) (g0 : FM) (φ : List Addr) (cenv : Env) (own' : List Str) (I D : Addr) (v : V) (w : Value) (xs : List V) (F : List V → List V → Rho → Sto → Prop) (n : Nat) (s' : Shared) : Prop
  | mk (g' : FM) (φ' : List Addr) (σ' : Sto) (ρ' : Rho) (i : Nat) (arr : Array Value) (n' : Nat) (ys : List V) (hn : n = xs.length - i) (c : CmpI G At s g0 φ cenv own' I D v w g' φ' σ' ρ' (i + 1) arr n' ys s') (hi : i < xs.length) (hy : ys.length ≤ i) (hF : F (xs.drop (i + 1)) ys ρ' σ') : CmpT G At s g0 φ cenv own' I D v w xs F n s'
theorem comp_core {G : Glb} {ℓ : Nat} {sc scope : Scope} {A : Around} {env : Env} {own : List Str} {s : Shared} {g : FM} {φ : List Addr} {σ : Sto} {ρ : Rho} {t iter elt : Expr} {ifs : List Expr} {pos : Pos}
    {Wa : WA} {Wi : WT} {We : WE} {Q : V → Sto → Prop} {E : Value → Shared → Prop} {v : V} {w : Value} {xs : List V} {cl : List (Str × Addr)} {P : Value → Addr → Result → Shared → Prop}
    (cx : Cx ℓ A) (eo : EnvOk sc env) (R : Rel G g φ σ env own ρ s) (hk : scope.kind = .function) (hn : NamesOk scope)
    (hfk : ∀ p ∈ scope.names, p.2 = .free → sc.names.lookup p.1 = some .cell ∨ sc.names.lookup p.1 = some .free)
    (hcl : ∀ x, (x, NameKind.free) ∈ scope.names → cl.lookup x = env.cells.lookup x)
    (ha : Asg G ℓ (relab scope sc) (ownOf scope) t Wa) (hi : Ifs G ℓ (relab scope sc) ifs Wi) (he : Ev G ℓ (relab scope sc) elt We)
    (hv : VR g φ v w) (hx : aItems σ v = some xs) (hl : xs.length ≤ 2 ^ 20) (hW : wCompL (aGd v xs) Wa Wi We xs [] (newL Q) (innerRho scope ρ) σ)
    (k : ∀ D C s' g' φ' σ' v', Nx [] s s' g g' φ φ' → Rel G g' φ' σ' env own ρ s' → VR g' φ' v' (.ref D) → Q v' σ' → s.heap.get? C = none → C ∉ φ' → g' C = none → (∃ m, s'.heap.Ns C m) → P (.ref D) C (.ok .next) s') :
    wpAny (model G.prog G.w) A (pyIter w) (fun it s₂ => wpAny (model G.prog G.w) A (newList []) (fun acc s₃ => wpAny (model G.prog G.w) A (newFunctionEnv scope env.globals cl [] env.qual none .none (some env)) (fun cenv s₄ =>
      codeAny (model G.prog G.w) A (.compStart (.ListComp elt [⟨t, iter, ifs, 0⟩] scope pos) 0 it acc { cenv with scope := relabel scope env }) (P acc cenv.locals) s₄) E s₃) E s₂) E s := by
  refine iter_itr R.sr hv hx fun At o T h0 => ?_
  have hIn : s.heap.get? s.heap.objs.size = none := get?_size _
  generalize hI : s.heap.objs.size = I at T h0 hIn ⊢
  refine wpAny_newObj_type ?_
  dsimp only
  have hsz : (s.heap.push o).objs.size = I + 1 := by rw [Heap.size_push, hI]
  have hDn' : (s.heap.push o).get? (I + 1) = none := by rw [← hsz]; exact get?_size _
  rw [hsz]
  generalize hD : I + 1 = D at hDn' ⊢
  have hDn : s.heap.get? D = none := by
    cases q : s.heap.get? D with
    | none => rfl
    | some o' => have := Heap.lt_size q; rw [hI, ← hD] at this; exact absurd this (Nat.not_lt.mpr (Nat.le_succ I))
  have hDI : D ≠ I := by rw [← hD]; exact Nat.succ_ne_self I
  generalize hH : (s.heap.push o).push { cls := .type "list", data := .seq ([] : List Value).toArray } = H
  have keepH : ∀ b p, s.heap.get? b = some p → H.get? b = some p := fun b p e => by rw [← hH]; exact Heap.get?_push_of_some _ (Heap.get?_push_of_some _ e)
  have hHD : H.get? D = some (listObj #[] 0) := by rw [← hH, ← hD, ← hsz]; exact Heap.get?_push_size _ rfl
  have hHAt : At 0 H := T.frame _ _ _ h0 fun p e => by rw [← hH]; exact Heap.get?_push_of_some _ e
  have hCn : H.get? H.objs.size = none := get?_size _
  simp only [newFunctionEnv, Option.isSome_some, if_true]
  refine wpAny_bind (wpAny_alloc ?_)
  refine wpAny_bind (wpAny_layCells _ (fun name kind cells => by cases kind == NameKind.cell <;> simp) _ _ _ _ ?_)
  rw [List.forIn_nil]
  refine wpAny_bind (wpAny_pure (wpAny_pure ?_))
  dsimp only
  rw [show (H.push { cls := .type "dict", data := .dict #[] }).objs.size = H.objs.size + 1 from Heap.size_push ..]
  generalize hE : ({ scope := relabel scope env, locals := H.objs.size, globals := env.globals, cells := cellsFrom (H.objs.size + 1) scope.names cl, qual := env.qual, func := none, code := env.code, frame := env.frame, builtins := env.builtins } : Env) = cenv
  have hEl : cenv.locals = H.objs.size := by rw [← hE]
  have eo' : EnvOk (relab scope sc) cenv := ⟨by rw [← hE]; exact relab_eq eo, hk, by rw [← hE]; exact eo.globals, by rw [← hE]; exact eo.builtins⟩
  -- the frame
  have free : ∀ x, scope.names.lookup x = some .free → (x, NameKind.free) ∈ scope.names := fun x h => mem_of_lookup h
  obtain ⟨R₄, N₄, hfr⟩ := Rel.frame (s := { s with heap := H }) (cls := .type "dict") (sc := scope) (sc' := relab scope sc) (cl := cl) (ρ₀ := innerRho scope ρ) (env' := cenv) ⟨R.ok.toks, R.ok.bare⟩ (R.frz_sr.keeps keepH) (by
      intro x u hu
      unfold innerRho at hu
      by_cases hf : scope.names.lookup x = some .free
      · rw [if_pos hf] at hu
        refine ⟨?_, fun q => ?_, ?_⟩
        · rw [relab_lookup, hf]
          show some (rk sc x .free) ≠ _
          unfold rk
          split <;> simp
        · have := hn _ q
          rw [hf] at this; cases this
        · obtain ⟨c, w', hc, ⟨oc, hoc, hd⟩, hr, hz⟩ := R.outer (scope := scope) eo (hfk _ (free x hf) rfl) hu
          exact ⟨c, w', (hcl x (free x hf)).trans hc, ⟨oc, keepH _ _ hoc, hd⟩, VR.mono R.frz_sub (fun _ _ e => e) hr, hz⟩
      · rw [if_neg hf] at hu; cases hu) eo'.scope hEl (by rw [← hE])
  dsimp only at R₄ N₄ hfr
  have hfrs : ∀ a ∈ fpOf cenv (ownOf scope), s.heap.get? a = none := fun a ha => by
    cases q : s.heap.get? a with
    | none => rfl
    | some p => have := hfr a ha; rw [keepH _ _ q] at this; cases this
  have keep4 : ∀ b p, H.get? b = some p → (pushCells (H.push { cls := .type "dict", data := .dict #[] }) scope.names).get? b = some p := fun b p e => pushCells_keeps _ _ _ _ (Heap.get?_push_of_some _ e)
  generalize pushCells (H.push { cls := .type "dict", data := .dict #[] }) scope.names = H4 at R₄ N₄ keep4 ⊢
  have N0 : Nx [] s { s with heap := H4 } (frz g (cellsOf env own) s.heap) (frz g (cellsOf env own) s.heap) φ φ :=
    ⟨rfl, rfl, fun _ _ e => e, fun _ _ e => .inl e, ⟨[], by simp, by simp⟩, fun b p _ _ e => keep4 b p (keepH b p e), fun b e => by
      cases q : s.heap.get? b with
      | none => exact absurd q e
      | some p => show H4.get? b ≠ _; rw [keep4 b p (keepH b p q)]; simp⟩
  have hIφ := (R.sr.un hIn).1
  have hDφ := (R.sr.un hDn).1
  have hIg := (R.frz_sr.un hIn).2
  have hDg := (R.frz_sr.un hDn).2
  have hIfp : I ∉ fpOf cenv (ownOf scope) := fun q => by
    have := hfr I q
    obtain ⟨p, n, e, _⟩ := T.live _ _ hHAt
    rw [this] at e; cases e
  have hDfp : D ∉ fpOf cenv (ownOf scope) := fun q => by
    have := hfr D q
    rw [this] at hHD; cases hHD
  have hCD : H.objs.size ≠ D := fun q => by rw [q, hHD] at hCn; cases hCn
  have hCs : s.heap.get? H.objs.size = none := by
    cases q : s.heap.get? H.objs.size with
    | none => rfl
    | some p => rw [keepH _ _ q] at hCn; cases hCn
  -- the loop
  let Inv : Nat → Shared → Prop := CmpV G At s (frz g (cellsOf env own) s.heap) φ cenv (ownOf scope) I D v w xs fun r ys ρ' σ' => wCompL (aGd v xs) Wa Wi We r ys (newL Q) ρ' σ'
  have start : Inv xs.length { s with heap := H4 } := ⟨_, _, _, _, 0, #[], 0, [], ⟨N0, R₄, hIφ, hIg, T.frame _ _ _ hHAt fun p e => keep4 _ _ e, hDφ, hDg, keep4 _ _ hHD, rfl, VR.mono R.frz_sub (fun _ _ e => e) hv⟩, rfl, Nat.zero_le _, Nat.le_refl _, by simpa using hW⟩
  have ending : ∀ (s' : Shared) g' φ' σ' ρ' arr n' ys, Nx [] s s' (frz g (cellsOf env own) s.heap) g' φ φ' → Rel G g' φ' σ' cenv (ownOf scope) ρ' s' → D ∉ φ' → g' D = none → s'.heap.get? D = some (listObj arr n') →
      VRs g' φ' ys arr.toList → newL Q ys σ' → P (.ref D) H.objs.size (.ok .next) s' := by
    intro s' g' φ' σ' ρ' arr n' ys N' R' d1 d2 d3 hys hQ
    obtain ⟨Ro, No, Hd⟩ := R.thaw N' R'.ok R'.sr
    have d2' : thaw g' (cellsOf env own) D = none := thaw_none d2
    have c1 : H.objs.size ∉ φ' := hEl ▸ R'.fr.Lφ
    have c2 : thaw g' (cellsOf env own) H.objs.size = none := thaw_none (hEl ▸ R'.fr.Lg)
    have c3 : ∃ m, s'.heap.Ns H.objs.size m := by obtain ⟨m, hm, _⟩ := R'.fr.ns; exact ⟨m, hEl ▸ hm⟩
    rcases hQ with hQ | hQ
    · have N3 := No.addF (o := listObj arr n') hDn d2'
      refine k D _ s' _ _ _ (.list ys) N3 (R.step N3 R'.ok (Ro.sr.addF d1 d2' d3)) ⟨D, arr, n', rfl, ins_at, (hys.hid Hd).addF d2'⟩ hQ hCs c1 ?_ c3
      unfold ins; rw [if_neg hCD]; exact c2
    · have N3 := No.addM hDn
      have S3 := Ro.sr.addM (m := .list ys) d1 d2' ⟨arr, n', d3, hys.hid Hd⟩
      refine k D _ s' _ _ _ (.ref σ'.length) N3 (R.step N3 R'.ok S3) ⟨D, rfl, at_end Ro.sr.len⟩ hQ hCs (fun q => ?_) c2 c3
      rcases List.mem_append.mp q with q | q
      · exact c1 q
      · exact hCD (List.mem_singleton.mp q)
  have append : ∀ (s' : Shared) g' φ' σ' ρ' i arr n' ys y u (En : Value → Shared → Prop), CmpI G At s (frz g (cellsOf env own) s.heap) φ cenv (ownOf scope) I D v w g' φ' σ' ρ' (i + 1) arr n' ys s' → i < xs.length → ys.length ≤ i → VR g' φ' y u → wCompL (aGd v xs) Wa Wi We (xs.drop (i + 1)) (ys ++ [y]) (newL Q) ρ' σ' →
      wpAny (model G.prog G.w) A (call (.builtin "list.append") [.ref D, u]) (fun _ s₅ => ∃ m, m < xs.length - i ∧ Inv m s₅) En s' := by
    rintro s' g' φ' σ' ρ' i arr n' ys y u En ⟨N', R', i1, i2, i3, d1, d2, d3, hys, hvv⟩ hlt hle hy hQ
    have hsz' : arr.size ≤ sizeLine := by
      have := hys.length
      rw [Array.length_toList] at this
      exact sz24 this.symm hle hlt hl
    refine wpAny_list_append_plain (items := arr) ⟨n', d3⟩ (fun h' hp hs => ?_) hsz'
    obtain ⟨n'', hp⟩ := hp
    have hk' : ∀ b p, b ≠ D → s'.heap.get? b = some p → h'.get? b = some p := fun b p q e => hs.extBut b p q e
    refine ⟨xs.length - (i + 1), sub1_lt hlt, g', φ', σ', ρ', i + 1, arr.push u, n'', ys ++ [y], ⟨N'.priv (I := D) hDn rfl rfl hk', R'.priv d1 hDfp d2 hk' R'.ok.toks R'.ok.bare, i1, i2, T.frame _ _ _ i3 fun p e => hk' _ _ (Ne.symm hDI) e,
      d1, d2, hp, ?_, hvv⟩, rfl, hlt, by rw [List.length_append]; exact Nat.succ_le_succ hle, hQ⟩
    rw [Array.toList_push]; exact hys.append (VRs.single hy)
  have turn : ∀ n (s₁ : Shared) (En : Value → Shared → Prop), Inv n s₁ → wpAny (model G.prog G.w) A (pyNext (.ref I)) (fun r s₁ => match r with
      | none => P (.ref D) H.objs.size (.ok .next) s₁
      | some u => wpAny (model G.prog G.w) A (letOwnedTupleGo t (.ref I) u) (fun _ s₀ => wpAny (model G.prog G.w) A (assign t cenv u) (fun _ s₂ => CmpT G At s (frz g (cellsOf env own) s.heap) φ cenv (ownOf scope) I D v w xs (fun r ys ρ₂ σ₂ =>
        Wi (fun b σ'' => if b = true then We (fun y σ''' => wCompL (aGd v xs) Wa Wi We r (ys ++ [y]) (newL Q) ρ₂ σ''') ρ₂ σ'' else wCompL (aGd v xs) Wa Wi We r ys (newL Q) ρ₂ σ'') ρ₂ σ₂) n s₂) En s₀) En s₁) En s₁ := by
    rintro n s₁ En ⟨g₁, φ₁, σ₁, ρ₁, i, arr, n', ys, ⟨N₁, R₁, i1, i2, i3, d1, d2, d3, hys, hvv⟩, rfl, hle, hyl, hW₁⟩
    have cases' : xs.drop i = [] ∧ i = xs.length ∨ ∃ x, xs[i]? = some x ∧ xs.drop i = x :: xs.drop (i + 1) := by
      rcases Nat.lt_or_ge i xs.length with q | q
      · exact .inr ⟨xs[i], by simp [q], by rw [List.drop_eq_getElem_cons q]⟩
      · exact .inl ⟨List.drop_eq_nil_of_le q, Nat.le_antisymm hle q⟩
    rcases cases' with ⟨hd, hll⟩ | ⟨x, hxi, hd⟩
    · rw [hd] at hW₁
      obtain ⟨hGd, hQ₂⟩ := hW₁
      refine T.done A s₁ g₁ φ₁ σ₁ _ _ cx.handled R₁.sr hvv hGd (hll ▸ i3) fun h' tk hk htk => ?_
      exact ending _ g₁ φ₁ σ₁ ρ₁ arr n' ys (N₁.priv (I := I) hIn rfl rfl hk) (R₁.priv i1 hIfp i2 hk (Nat.le_trans R₁.ok.toks htk) R₁.ok.bare) d1 d2 (hk _ _ hDI d3) hys hQ₂
    · rw [hd] at hW₁
      obtain ⟨hGd, hQ₂⟩ := hW₁
      refine T.item A s₁ g₁ φ₁ σ₁ i x _ _ R₁.sr hvv hGd i3 hxi fun u h' tk hr hA₃ hk htk => ?_
      have N₃ : Nx [] s { s₁ with heap := h', toks := tk } (frz g (cellsOf env own) s.heap) g₁ φ φ₁ := N₁.priv (I := I) hIn rfl rfl hk
      have R₃ : Rel G g₁ φ₁ σ₁ cenv (ownOf scope) ρ₁ { s₁ with heap := h', toks := tk } := R₁.priv i1 hIfp i2 hk (Nat.le_trans R₁.ok.toks htk) R₁.ok.bare
      refine letGo_itr (T.live _ _ hA₃) ?_
      obtain ⟨oI, nI, hoI, _⟩ := T.live _ _ hA₃
      refine ha A cenv _ g₁ φ₁ σ₁ ρ₁ x u _ cx eo' R₃ hr hQ₂ _ _ fun s₄ g₄ φ₄ σ₄ ρ₄ N₄ R₄ hQ₄ => ?_
      obtain ⟨a1, a2, a3⟩ := N₄.privKeep hIfp i1 i2 hoI
      obtain ⟨b1, b2, b3⟩ := N₄.privKeep hDfp d1 d2 (hk _ _ hDI d3)
      exact ⟨g₄, φ₄, σ₄, ρ₄, i, arr, n', ys, rfl, ⟨N₃.leave N₄ hfrs, R₄, a1, a2, T.frame _ _ _ hA₃ (fun p e => by rw [hoI] at e; cases e; exact a3), b1, b2, b3, N₄.vrs hys, N₄.vr hvv⟩, (List.getElem?_eq_some_iff.mp hxi).1, hyl, hQ₄⟩
  have elem : ∀ (s₂ : Shared) g₂ φ₂ σ₂ ρ₂ i arr n' ys (En : Value → Shared → Prop), CmpI G At s (frz g (cellsOf env own) s.heap) φ cenv (ownOf scope) I D v w g₂ φ₂ σ₂ ρ₂ (i + 1) arr n' ys s₂ → i < xs.length → ys.length ≤ i → We (fun y σ''' => wCompL (aGd v xs) Wa Wi We (xs.drop (i + 1)) (ys ++ [y]) (newL Q) ρ₂ σ''') ρ₂ σ₂ →
      wpAny (model G.prog G.w) A (eval elt cenv) (fun y s₄ => wpAny (model G.prog G.w) A (call (.builtin "list.append") [.ref D, y]) (fun _ s₅ => ∃ m, m < xs.length - i ∧ Inv m s₅) En s₄) En s₂ := by
    rintro s₂ g₂ φ₂ σ₂ ρ₂ i arr n' ys En ⟨N₂, R₂, i1, i2, i3, d1, d2, d3, hys, hvv⟩ hlt hyl hQ
    refine he A cenv _ s₂ g₂ φ₂ σ₂ ρ₂ _ cx eo' R₂ hQ _ _ fun u s₄ g₄ φ₄ σ₄ y N₄ R₄ hy hQ₄ => ?_
    obtain ⟨oI, nI, hoI, _⟩ := T.live _ _ i3
    obtain ⟨a1, a2, a3⟩ := N₄.privKeep (by simp) i1 i2 hoI
    obtain ⟨b1, b2, b3⟩ := N₄.privKeep (by simp) d1 d2 d3
    exact append s₄ g₄ φ₄ σ₄ ρ₂ i arr n' ys y u En ⟨N₂.trans N₄, R₄, a1, a2, T.frame _ _ _ i3 fun p e => (by rw [hoI] at e; cases e; exact a3), b1, b2, b3, N₄.vrs hys, N₄.vr hvv⟩ hlt hyl hy hQ₄
  have main : ∀ (I' : Value), I' = .ref I → codeAny (model G.prog G.w) A (.compLoop (.ListComp elt [⟨t, iter, ifs, 0⟩] scope pos) 0 I' (.ref D) cenv) (P (.ref D) H.objs.size) { s with heap := H4 } := by
    rintro _ rfl
    cases hi with
    | none =>
      refine kcp_loop Inv (fun n s₁ hInv => ?_) xs.length start
      refine wpAny_mono (turn n s₁ _ hInv) (fun r s₂ h => ?_) fun _ _ h => h
      cases r with
      | none => exact h
      | some u =>
        refine wpAny_mono h (fun _ s₃ h => wpAny_mono h (fun _ s₄ h => ?_) fun _ _ h => h) fun _ _ h => h
        obtain ⟨g₂, φ₂, σ₂, ρ₂, i, arr, n', ys, rfl, hC, hlt, hyl, hQ⟩ := h
        exact elem s₄ g₂ φ₂ σ₂ ρ₂ i arr n' ys _ hC hlt hyl (by simpa using hQ)
    | one hc =>
      refine kct_loop Inv (fun n s₁ hInv => ?_) xs.length start
      refine wpAny_mono (turn n s₁ _ hInv) (fun r s₂ h => ?_) fun _ _ h => h
      cases r with
      | none => exact h
      | some u =>
        refine wpAny_mono h (fun _ s₃ h => wpAny_mono h (fun _ s₄ h => ?_) fun _ _ h => h) fun _ _ h => h
        obtain ⟨g₂, φ₂, σ₂, ρ₂, i, arr, n', ys, rfl, ⟨N₂, R₂, i1, i2, i3, d1, d2, d3, hys, hvv⟩, hlt, hyl, hQ⟩ := h
        refine hc A cenv _ s₄ g₂ φ₂ σ₂ ρ₂ _ cx eo' R₂ hQ _ _ fun b s₅ g₅ φ₅ σ₅ N₅ R₅ hQ₅ => ?_
        obtain ⟨oI, nI, hoI, _⟩ := T.live _ _ i3
        obtain ⟨a1, a2, a3⟩ := N₅.privKeep (by simp) i1 i2 hoI
        obtain ⟨b1, b2, b3⟩ := N₅.privKeep (by simp) d1 d2 d3
        have at5 : At (i + 1) s₅.heap := T.frame _ _ _ i3 fun p e => by rw [hoI] at e; cases e; exact a3
        have hC5 : CmpI G At s (frz g (cellsOf env own) s.heap) φ cenv (ownOf scope) I D v w g₅ φ₅ σ₅ ρ₂ (i + 1) arr n' ys s₅ := ⟨N₂.trans N₅, R₅, a1, a2, at5, b1, b2, b3, N₅.vrs hys, N₅.vr hvv⟩
        cases b with
        | true =>
          rw [if_pos rfl] at hQ₅ ⊢
          exact elem s₅ g₅ φ₅ σ₅ ρ₂ i arr n' ys _ hC5 hlt hyl hQ₅
        | false =>
          rw [if_neg (by simp)] at hQ₅ ⊢
          exact ⟨xs.length - (i + 1), sub1_lt hlt, g₅, φ₅, σ₅, ρ₂, i + 1, arr, n', ys, hC5, rfl, hlt, Nat.le_succ_of_le hyl, hQ₅⟩
  refine codeAny_compStart_list (main _ rfl) ?_
  exact T.self A _ 0 _ _ (T.frame _ _ _ hHAt fun p e => keep4 _ _ e) (main _ rfl)


end
section
set_option autoImplicit false

section
variable {G : Glb} {ℓ : Nat} {sc scope : Scope} {own : List Str}

theorem comp_cl {env : Env} {s : Shared} {g : FM} {φ : List Addr} {σ : Sto} {ρ : Rho} (eo : EnvOk sc env) (R : Rel G g φ σ env own ρ s)
    (hfk : ∀ p ∈ scope.names, p.2 = .free → sc.names.lookup p.1 = some .cell ∨ sc.names.lookup p.1 = some .free) (hb : FreeBound scope ρ) :
    ∃ cl, closureFor scope env = pure cl ∧ ∀ x, (x, NameKind.free) ∈ scope.names → cl.lookup x = env.cells.lookup x :=
  closure_spec fun p hp hf => by
    obtain ⟨v, hv⟩ := hb p hp hf
    obtain ⟨c, w, hc, _⟩ := R.fr.cell p.1 v (by unfold Env.kindOf; rw [eo.scope]; exact hfk p hp hf) hv
    exact ⟨c, hc⟩

theorem Ev.comp {t iter elt : Expr} {ifs : List Expr} {pos : Pos} {Wf : WE} {Wa : WA} {Wi : WT} {We : WE} (hf : Ev G ℓ sc iter Wf) (ha : Asg G ℓ (relab scope sc) (ownOf scope) t Wa)
    (hi : Ifs G ℓ (relab scope sc) ifs Wi) (he : Ev G ℓ (relab scope sc) elt We) (hk : scope.kind = .function := by rfl) (hn : NamesOk scope := by unfold NamesOk; decide)
    (hfk : ∀ p ∈ scope.names, p.2 = .free → sc.names.lookup p.1 = some .cell ∨ sc.names.lookup p.1 = some .free := by decide)
    (hs : ∀ env x, foldedSetIterable iter env x = pure x := by intro _ _; rfl) :
    Ev G ℓ sc (.ListComp elt [⟨t, iter, ifs, 0⟩] scope pos) (wComp scope Wf Wa Wi We) := by
  intro A env own s g φ σ ρ Q cx eo R hW K E k
  obtain ⟨hb, hW⟩ := hW
  obtain ⟨cl, hcl, hcs⟩ := comp_cl eo R hfk hb
  rw [eval_ListComp]
  refine wpAny_comprehension_free (use := Option.none) rfl (hs env) hcl hk (fun x hx hl => hl ▸ hn x hx) ?_
  refine hf A env own s g φ σ ρ _ cx eo R hW _ _ fun w s₁ g₁ φ₁ σ₁ v N₁ R₁ hv hQ => ?_
  obtain ⟨xs, hx, hl, hW₁⟩ := hQ
  refine comp_core (P := fun acc C => compPost (model G.prog G.w) A E Option.none K acc C) cx eo R₁ hk hn hfk hcs ha hi he hv hx hl hW₁ fun D C s' g' φ' σ' v' N' R' hv' hQ' c0 c1 c2 c3 => ?_
  obtain ⟨m, hm⟩ := c3
  refine ⟨m, hm, fun h' hs' => ?_⟩
  have hk' : ∀ b p, b ≠ C → s'.heap.get? b = some p → h'.get? b = some p := fun b p q e => hs'.extBut b p q e
  exact k _ _ _ _ _ v' (N₁.trans (N'.priv (I := C) c0 rfl rfl hk')) (R'.priv c1 (alive_fp R₁ c0) c2 hk' R'.ok.toks R'.ok.bare) hv' hQ'

theorem swap_eq {env : Env} (eo : EnvOk sc env) (elt : Expr) (gens : List Comprehension) (pos : Pos) (x : Str) (p : Pos) (l : Nat) :
    swapsWith (.ListComp elt gens scope pos) (some (Expr.Name x p)) l env = pure (sc.names.lookup x == some .local && p.line == (Expr.ListComp elt gens scope pos).pos.line && !(scope.names.any fun (n, k) => n == x && (k == .local || k == .cell))) := by
  have h1 : env.blockKind = .function := by unfold Env.blockKind; rw [eo.scope, eo.kind]; rfl
  show (pure (env.blockKind == .function && env.kindOf x == some .local && p.line == (Expr.ListComp elt gens scope pos).pos.line && !(scope.names.any fun (n, k) => n == x && (k == .local || k == .cell))) : Sem Bool) = _
  rw [h1]
  unfold Env.kindOf
  rw [eo.scope]
  rfl

theorem Sx.assignComp {t iter elt : Expr} {ifs : List Expr} {x : Str} {p pos spos : Pos} {Wf : WE} {Wa : WA} {Wi : WT} {We : WE} (hf : Ev G ℓ sc iter Wf) (ha : Asg G ℓ (relab scope sc) (ownOf scope) t Wa)
    (hi : Ifs G ℓ (relab scope sc) ifs Wi) (he : Ev G ℓ (relab scope sc) elt We) (hx : canStore sc own x) (hk : scope.kind = .function := by rfl) (hn : NamesOk scope := by unfold NamesOk; decide)
    (hfk : ∀ p ∈ scope.names, p.2 = .free → sc.names.lookup p.1 = some .cell ∨ sc.names.lookup p.1 = some .free := by decide)
    (hs : ∀ env x, foldedSetIterable iter env x = pure x := by intro _ _; rfl) :
    Sx G ℓ sc own (.Assign [.Name x p] (.ListComp elt [⟨t, iter, ifs, 0⟩] scope pos) spos) fun Q ρ σ => wComp scope Wf Wa Wi We (fun v σ' => Q .nx (upd ρ x v) σ') ρ σ := by
  intro A env s g φ σ ρ Q cx eo R hW K E k
  have hsw := swap_eq (scope := scope) eo elt [⟨t, iter, ifs, 0⟩] pos x p spos.line
  cases hb : (sc.names.lookup x == some .local && p.line == (Expr.ListComp elt [⟨t, iter, ifs, 0⟩] scope pos).pos.line && !(scope.names.any fun (n, k) => n == x && (k == .local || k == .cell))) with
  | false =>
    rw [hb] at hsw
    refine wpAny_Assign_Name (Ev.comp hf ha hi he hk hn hfk hs A env own s g φ σ ρ _ cx eo R hW _ _ fun w s₁ g₁ φ₁ σ₁ v N R₁ hv hQ => ?_) hsw
    exact store_name eo R₁ hx hv fun s₂ N₂ R₂ => k _ _ _ _ _ _ .nx (N.fp.trans N₂) R₂ rfl hQ
  | true =>
    rw [hb] at hsw
    obtain ⟨hb', hW⟩ := hW
    obtain ⟨cl, hcl, hcs⟩ := comp_cl eo R hfk hb'
    rw [exec_Assign_Name_used _ _ _ _ hsw]
    refine wpAny_bind (wpAny_standAt (wpAny_bind ?_))
    show wpAny _ A (do let _ ← comprehension (.ListComp elt [⟨t, iter, ifs, 0⟩] scope pos) scope env _ (newList []) false (eval iter env) (some (PySem.assign (Expr.Name x p) env))) _ _ s
    refine wpAny_bind (wpAny_mono (wpAny_comprehension_free (use := some (PySem.assign (Expr.Name x p) env)) (Q := fun _ s' => K .next s') rfl (hs env) hcl hk (fun x hx hl => hl ▸ hn x hx) ?_) (fun _ s' hq => wpAny_pure (wpAny_pure hq)) fun _ _ e => e)
    refine hf A env own s g φ σ ρ _ cx eo R hW _ _ fun w s₁ g₁ φ₁ σ₁ v N₁ R₁ hv hQ => ?_
    obtain ⟨xs, hxs, hl, hW₁⟩ := hQ
    refine comp_core (P := fun acc C => compPost (model G.prog G.w) A E (some (PySem.assign (Expr.Name x p) env)) (fun _ s' => K .next s') acc C) cx eo R₁ hk hn hfk hcs ha hi he hv hxs hl hW₁ fun D C s' g' φ' σ' v' N' R' hv' hQ' c0 c1 c2 c3 => ?_
    show wpAny _ A (PySem.assign (Expr.Name x p) env (.ref D)) _ _ _
    refine wpAny_assign_Name (store_name eo R' hx hv' fun s₂ N₂ R₂ => ?_)
    obtain ⟨m, o, es, ep, ho, r⟩ := c3
    obtain ⟨d1, d2, d3⟩ := N₂.privKeep (alive_fp R₁ c0) c1 c2 ho
    refine ⟨m, ⟨o, es, ep, d3, r⟩, fun h' hs' => ?_⟩
    have hk' : ∀ b p, b ≠ C → s₂.heap.get? b = some p → h'.get? b = some p := fun b p q e => hs'.extBut b p q e
    exact k _ _ _ _ _ _ .nx (N₁.fp.trans ((N'.fp.trans N₂).priv (I := C) c0 rfl rfl hk')) (R₂.priv d1 (alive_fp R₁ c0) d2 hk' R₂.ok.toks R₂.ok.bare) rfl hQ'

end

end
section
set_option autoImplicit false

noncomputable abbrev S (l : List Nat) : Str := ⟨l.toArray⟩
noncomputable abbrev L (x : Str) : List Nat := x.cps.toList
theorem L_S (l : List Nat) : L (S l) = l := by simp [L, S]
theorem S_L (x : Str) : S (L x) = x := by cases x; simp [L, S]
theorem S_app (a b : List Nat) : S a ++ S b = S (a ++ b) := by
  show Str.append _ _ = _
  simp [Str.append, S]
theorem str_app (x y : Str) : x ++ y = S (L x ++ L y) := by rw [← S_app, S_L, S_L]
theorem len_L (x : Str) : (L x).length = x.length := by cases x; simp [L, Str.length]

/-- what is wanted behind a step that yields a value -/
noncomputable def Cont (G : Glb) (s : Shared) (g : FM) (φ : List Addr) (Q : V → Sto → Prop) (K : Value → Shared → Prop) : Prop :=
  ∀ w s' g' φ' σ' v, Nx [] s s' g g' φ φ' → SOk s' → SR G g' s'.heap φ' σ' → VR g' φ' v w → Q v σ' → K w s'

section
variable {G : Glb} {g g₁ : FM} {φ φ₁ : List Addr} {σ : Sto} {s s₁ : Shared} {A : Around} {Q : V → Sto → Prop} {K : Value → Shared → Prop} {E : Value → Shared → Prop}

theorem Cont.done (k : Cont G s g φ Q K) (ok : SOk s) (S : SR G g s.heap φ σ) {v : V} {w : Value} (hv : VR g φ v w) (hQ : Q v σ) {tk : Nat} (ht : 1 ≤ tk) : K w { s with toks := tk } :=
  k w _ g φ σ v (Nx.refl rfl) ⟨ht, ok.bare⟩ S hv hQ
theorem Cont.now (k : Cont G s g φ Q K) (ok : SOk s) (S : SR G g s.heap φ σ) {v : V} {w : Value} (hv : VR g φ v w) (hQ : Q v σ) : K w s :=
  k w _ g φ σ v (Nx.refl rfl) ok S hv hQ

theorem Nx.push (o : Obj) (tk : Nat) : Nx [] s { s with heap := s.heap.push o, toks := tk } g g φ φ :=
  ⟨rfl, rfl, fun _ _ e => e, fun _ _ e => .inl e, ⟨[], by simp, by simp⟩, fun b p _ _ e => Heap.get?_push_of_some _ e, fun b e => by
    cases q : s.heap.get? b with
    | none => exact absurd q e
    | some p => show (s.heap.push o).get? b ≠ none; rw [Heap.get?_push_of_some _ q]; simp⟩
theorem SR.push (S : SR G g s.heap φ σ) (o : Obj) : SR G g (s.heap.push o) φ σ := S.keeps fun b p e => Heap.get?_push_of_some _ e
/-- a new list -/
theorem Cont.list (k : Cont G s g φ Q K) (ok : SOk s) (S : SR G g s.heap φ σ) {arr : Array Value} {n : Nat} {ys : List V} (hy : VRs g φ ys arr.toList) (hQ : newL Q ys σ) {tk : Nat} (ht : 1 ≤ tk) :
    K (.ref s.heap.objs.size) { s with heap := s.heap.push (listObj arr n), toks := tk } := by
  have hn := get?_size s.heap
  obtain ⟨h1, h2⟩ := S.un hn
  have ho : (s.heap.push (listObj arr n)).get? s.heap.objs.size = some (listObj arr n) := Heap.get?_push_size _ rfl
  rcases hQ with hQ | hQ
  · exact k _ _ _ _ σ (.list ys) ((Nx.push _ _).addF hn h2) ⟨ht, ok.bare⟩ ((S.push _).addF h1 h2 ho) ⟨_, arr, n, rfl, ins_at, hy.addF h2⟩ hQ
  · exact k _ _ _ _ _ (.ref σ.length) ((Nx.push _ _).addM hn) ⟨ht, ok.bare⟩ ((S.push _).addM (m := .list ys) h1 h2 ⟨arr, n, ho, hy⟩) ⟨_, rfl, at_end S.len⟩ hQ
/-- a new frozen object -/
theorem Cont.frozen (k : Cont G s g φ Q K) (ok : SOk s) (S : SR G g s.heap φ σ) {o : Obj} (ho : (s.heap.push o).get? s.heap.objs.size = some o) {v : V} (hv : VR (ins g s.heap.objs.size o) φ v (.ref s.heap.objs.size)) (hQ : Q v σ) {tk : Nat} (ht : 1 ≤ tk) :
    K (.ref s.heap.objs.size) { s with heap := s.heap.push o, toks := tk } := by
  have hn := get?_size s.heap
  obtain ⟨h1, h2⟩ := S.un hn
  exact k _ _ _ _ σ v ((Nx.push _ _).addF hn h2) ⟨ht, ok.bare⟩ ((S.push _).addF h1 h2 ho) hv hQ
theorem Cont.tup (k : Cont G s g φ Q K) (ok : SOk s) (S : SR G g s.heap φ σ) {arr : Array Value} {n : Nat} {ys : List V} (hy : VRs g φ ys arr.toList) (hQ : Q (.tup ys) σ) {tk : Nat} (ht : 1 ≤ tk) :
    K (.ref s.heap.objs.size) { s with heap := s.heap.push (tupObj arr n), toks := tk } :=
  k.frozen (o := tupObj arr n) (v := .tup ys) ok S (Heap.get?_push_size _ rfl) ⟨_, arr, n, rfl, ins_at, hy.addF (S.un (get?_size s.heap)).2⟩ hQ ht

/-- a list's items, be it frozen or not -/
noncomputable def aList (σ : Sto) : V → Option (List V)
  | .list xs => some xs
  | .ref k => match σ[k]? with | some (.list xs) => some xs | _ => none
  | _ => none
theorem aList_obj (S : SR G g s.heap φ σ) {v : V} {w : Value} {xs : List V} (hv : VR g φ v w) (h : aList σ v = some xs) : ∃ a arr n, w = .ref a ∧ s.heap.get? a = some (listObj arr n) ∧ VRs g φ xs arr.toList := by
  cases v with
  | list ys => cases h; obtain ⟨a, arr, n, rfl, hg, hvs⟩ := hv; exact ⟨a, arr, n, rfl, S.keep _ _ hg, hvs⟩
  | ref i =>
    dsimp only [aList] at h
    split at h
    · rename_i ys hm
      cases h
      obtain ⟨a, rfl, ha⟩ := hv
      obtain ⟨arr, n, ho, hvs⟩ := S.mo _ _ _ ha hm
      exact ⟨a, arr, n, rfl, ho, hvs⟩
    · cases h
  | none => cases h
  | bool b => cases h
  | int i => cases h
  | str x => cases h
  | tup x => cases h
  | rng x => cases h
  | raw x => cases h

theorem VRs.rep {xs : List V} {ws : List Value} (h : VRs g φ xs ws) : ∀ n : Nat, VRs g φ (List.replicate n xs).flatten (List.replicate n ws).flatten
  | 0 => rfl
  | n + 1 => by rw [List.replicate_succ, List.replicate_succ, List.flatten_cons, List.flatten_cons]; exact h.append (h.rep n)

theorem foldl_flat (l : List (Array Value)) : ∀ acc : Array Value, (l.foldl (· ++ ·) acc).toList = acc.toList ++ (l.map Array.toList).flatten := by
  induction l with
  | nil => simp
  | cons a l ih => intro acc; rw [List.foldl_cons, ih]; simp

theorem cps_flat (l : List (Array Nat)) : ∀ acc : Array Nat, (l.foldl (· ++ ·) acc).toList = acc.toList ++ (l.map Array.toList).flatten := by
  induction l with
  | nil => simp
  | cons a l ih => intro acc; rw [List.foldl_cons, ih]; simp

theorem txt_mul (x : Str) (n : Int) : Txt.mul x n = S (List.replicate n.toNat (L x)).flatten := by
  unfold Txt.mul
  by_cases h1 : n < 1
  · rw [if_pos h1]
    have : n.toNat = 0 := by lia
    rw [this]; rfl
  · rw [if_neg h1]
    by_cases h2 : (n == 1 || x.length == 0) = true
    · rw [if_pos h2]
      rcases Bool.or_eq_true_iff.mp h2 with h | h
      · have : n = 1 := by simpa using h
        subst this
        show x = S (List.replicate 1 (L x)).flatten
        simp [S_L]
      · have h0 : x.length = 0 := by simpa using h
        have : L x = [] := by rw [← List.length_eq_zero_iff, len_L]; exact h0
        rw [this]
        rw [← S_L x, this]
        simp
    · rw [if_neg h2]
      have := cps_flat (List.replicate n.toNat x.cps) #[]
      cases hh : (List.replicate n.toNat x.cps).foldl (· ++ ·) #[] with
      | mk l =>
        rw [hh] at this
        simp only [List.map_replicate] at this
        show (⟨⟨l⟩⟩ : Str) = ⟨⟨_⟩⟩
        congr 2

/-- the operators -/
inductive BinR (Q : V → Sto → Prop) (σ : Sto) : Operator → V → V → Prop where
  | addi {a b : Int} (h : Q (.int (a + b)) σ) : BinR Q σ .Add (.int a) (.int b)
  | subi {a b : Int} (h : Q (.int (a - b)) σ) : BinR Q σ .Sub (.int a) (.int b)
  | muli {a b : Int} (h0 : b.natAbs ≤ 2 ^ 20) (h : Q (.int (a * b)) σ) : BinR Q σ .Mult (.int a) (.int b)
  | divi {a b : Int} (h1 : 1 ≤ b) (h2 : b ≤ 2 ^ 20) (h : Q (.int (a / b)) σ) : BinR Q σ .FloorDiv (.int a) (.int b)
  | modi {a b : Int} (h1 : 1 ≤ b) (h : Q (.int (a % b)) σ) : BinR Q σ .Mod (.int a) (.int b)
  | powi {b : Int} (h1 : 0 ≤ b) (h2 : b ≤ 1000) (h : Q (.int (2 ^ b.toNat)) σ) : BinR Q σ .Pow (.int 2) (.int b)
  | adds {x y : Str} (h1 : (L x).length + (L y).length ≤ 2 ^ 24) (h : Q (.str (S (L x ++ L y))) σ) : BinR Q σ .Add (.str x) (.str y)
  | muls {x : Str} {n : Int} (h0 : 0 ≤ n) (h1 : (L x).length ≤ 2 ^ 10) (h2 : n ≤ 2 ^ 10) (h : Q (.str (S (List.replicate n.toNat (L x)).flatten)) σ) : BinR Q σ .Mult (.str x) (.int n)
  | mulL {v : V} {n : Int} (h : ∃ xs, aList σ v = some xs ∧ xs.length ≤ 2 ^ 10 ∧ 0 ≤ n ∧ n ≤ 2 ^ 10 ∧ newL Q (List.replicate n.toNat xs).flatten σ) : BinR Q σ .Mult v (.int n)
  | addL {v u : V} (h : ∃ xs ys, aList σ v = some xs ∧ aList σ u = some ys ∧ xs.length + ys.length ≤ 2 ^ 20 ∧ newL Q (xs ++ ys) σ) : BinR Q σ .Add v u
/-- an operator -/
noncomputable def aBin (op : Operator) (a b : V) (Q : V → Sto → Prop) (σ : Sto) : Prop := BinR Q σ op a b

theorem mul_ok {a b : Int} (h : b.natAbs ≤ 2 ^ 20) : IntMulOk a b := by
  exact IntMulOk.of_right (intBits_le_64 (by lia) (by lia))
theorem pylong_no {a b : Int} (h1 : 1 ≤ b) (h2 : b ≤ 2 ^ 20) : Builtin.divisionGoesByPylong a b = false := by
  unfold Builtin.divisionGoesByPylong
  have : b.natAbs.log2 ≤ 20 := by
    have hb : b.natAbs ≤ 2 ^ 20 := by lia
    rcases Nat.lt_or_ge 20 b.natAbs.log2 with q | q
    · have : 2 ^ 21 ≤ b.natAbs := (Nat.le_log2 (by lia)).mp q
      exact ar192 this hb
    · exact q
  have h3 : (b == 0) = false := by simpa using (by exact ar193 h1 : b ≠ 0)
  simp only [h3]
  have : ¬ (b.natAbs.log2 / 30 + 1 > 300) := by exact ar194 this
  simp [this]

theorem mulOk {x : Str} {n : Int} (h0 : 0 ≤ n) (h1 : (L x).length ≤ 2 ^ 10) (h2 : n ≤ 2 ^ 10) : MulOk x n := by
  rw [len_L] at h1
  refine ⟨?_, fun h3 _ h4 => ?_, fun h3 _ => ?_⟩
  · rw [decide_eq_false (by exact ar195 h0), decide_eq_false (by exact ar196 h2)]; rfl
  · have h5 : (1024 : Int) * n ≤ 2 ^ 63 - 1 := by exact ar197 h2
    have : (1024 : Int) ≤ (2 ^ 63 - 1) / n := (Int.le_ediv_iff_mul_le (by exact ar198 h3)).mpr h5
    exact ar199 h4 this h1
  · unfold Builtin.Str.tooLong sizeLine
    refine decide_eq_false ?_
    have h5 : x.length * n.toNat ≤ 2 ^ 10 * 2 ^ 10 := Nat.mul_le_mul h1 (by lia)
    exact ar200 h5

theorem mulList {l : Addr} {items : Array Value} {k : Nat} {x : Int} {u : Tok} {K : Value → Shared → Prop} (ho : s.heap.get? l = some (listObj items k)) (h1 : -(2 ^ 63 : Int) ≤ x) (h2 : x < 2 ^ 63) (h3 : items.size * x.toNat ≤ 2 ^ 24)
    (h : K (.ref s.heap.objs.size) { s with heap := s.heap.push { cls := .type "list", data := .seq (List.foldl (fun x1 x2 => x1 ++ x2) #[] (List.replicate (if items.isEmpty = true then 0 else x.toNat) items)) } }) :
    wpAny (model G.prog G.w) A (binaryOp .Mult (.ref l) (.int x u)) K E s := by
  have fits : Builtin.List.listFitsIndex x = true := by simp [Builtin.List.listFitsIndex]; exact ar201 h1 h2
  have short : Builtin.List.listTooLong (items.size * x.toNat) = false := by simp [Builtin.List.listTooLong, sizeLine]; lia
  have hT : s.TypeIs (.ref l) "list" := ⟨_, ho, rfl⟩
  have two := call_meets (prog := G.prog) (w := G.w) (A := A) (E := E) (s := s) (Q := K) F.slot_list_mul hT F.entry_list_mul (F.args_list_mul_2 _ _)
    (AutoListH.list___mul___list_int_3 l items k x u (by rw [fits]; decide) (by exact ar202 h3) (by rw [short]; decide)) ⟨ho, h⟩
  exact wpAny_binaryOp_repeat_ref (T := "list") (U := "int") (by decide) ⟨_, ho, rfl⟩ (fun s' => typeIs_int s' x u) noFill_list_mul F.fills_int_mul F.slot_int_rmul repeat_list F.slot_int_index.lookup
    (call_meets F.slot_int_rmul (typeIs_int s x u) F.entry_int_rmul (F.args_int_rmul_2 _ _) (int___rmul___int_list x u l items k) ⟨ho, rfl, ⟨_, ho, rfl⟩, two⟩)

theorem bin_sound (cx : A.handled = none) {op : Operator} {a b : V} {wa wb : Value} (ok : SOk s) (S' : SR G g s.heap φ σ) (ha : VR g φ a wa) (hb : VR g φ b wb) (h : aBin op a b Q σ) (k : Cont G s g φ Q K) :
    wpAny (model G.prog G.w) A (binaryOp op wa wb) K E s := by
  refine of_toks ok.toks ?_
  have mulL : ∀ {v : V} {n : Int}, VR g φ v wa → b = .int n → op = .Mult → (∃ xs, aList σ v = some xs ∧ xs.length ≤ 2 ^ 10 ∧ 0 ≤ n ∧ n ≤ 2 ^ 10 ∧ newL Q (List.replicate n.toNat xs).flatten σ) →
      wpAny (model G.prog G.w) A (binaryOp op wa wb) (fun a s' => 1 ≤ s'.toks → K a s') (fun e s' => E e s') s := by
    rintro v n hv rfl rfl ⟨xs, hx, h1, h2, h3, hQ⟩
    obtain ⟨a', arr, m, rfl, ho, hvs⟩ := aList_obj S' hv hx
    obtain ⟨u, rfl⟩ := hb
    have hl := hvs.length
    rw [Array.length_toList] at hl
    refine mulList ho (by exact ar131 h2) (by exact ar203 h3) (by rw [hl]; have h5 : xs.length * n.toNat ≤ 2 ^ 10 * 2 ^ 10 := Nat.mul_le_mul h1 (by lia); exact ar204 h5) ?_
    intro ht
    refine k.list (n := 0) ok S' ?_ hQ ht
    rw [foldl_flat]
    by_cases he : arr.isEmpty = true
    · have : arr.toList = [] := by simpa using he
      have hx0 : xs = [] := by rw [← List.length_eq_zero_iff, ← hl]; simpa using he
      rw [if_pos he, hx0]
      simp [VRs]
    · rw [if_neg he]
      simpa [List.map_replicate] using hvs.rep n.toNat
  have addL : ∀ {v u : V}, VR g φ v wa → VR g φ u wb → op = .Add → (∃ xs ys, aList σ v = some xs ∧ aList σ u = some ys ∧ xs.length + ys.length ≤ 2 ^ 20 ∧ newL Q (xs ++ ys) σ) →
      wpAny (model G.prog G.w) A (binaryOp op wa wb) (fun a s' => 1 ≤ s'.toks → K a s') (fun e s' => E e s') s := by
    rintro v u hv hu rfl ⟨xs, ys, hx, hy, hl, hQ⟩
    obtain ⟨a', arr, m, rfl, ho, hvs⟩ := aList_obj S' hv hx
    obtain ⟨b', brr, m', rfl, ho', hus⟩ := aList_obj S' hu hy
    have e1 := hvs.length
    have e2 := hus.length
    rw [Array.length_toList] at e1 e2
    refine P.add_list ho ho' ?_ (by show arr.size + brr.size ≤ 2 ^ 24; exact ar205 e1 e2 hl)
    intro ht
    refine k.list (n := 0) ok S' ?_ hQ ht
    rw [Array.toList_append]; exact hvs.append hus
  cases h with
  | addi h =>
    obtain ⟨t, rfl⟩ := ha; obtain ⟨u, rfl⟩ := hb
    exact P.add_int fun ht => k.done (v := .int _) ok S' ⟨_, rfl⟩ h ht
  | subi h =>
    obtain ⟨t, rfl⟩ := ha; obtain ⟨u, rfl⟩ := hb
    exact P.sub_int fun ht => k.done (v := .int _) ok S' ⟨_, rfl⟩ h ht
  | muli h0 h =>
    obtain ⟨t, rfl⟩ := ha; obtain ⟨u, rfl⟩ := hb
    exact P.mul_int (fun ht => k.done (v := .int _) ok S' ⟨_, rfl⟩ h ht) (mul_ok h0)
  | divi h1 h2 hQ =>
    obtain ⟨t, rfl⟩ := ha; obtain ⟨u, rfl⟩ := hb
    refine floordiv_int (by exact ar193 h1) (fun ht => k.done (v := .int _) ok S' ⟨_, rfl⟩ ?_ ht) (.inl (pylong_no h1 h2))
    rw [Int.fdiv_eq_ediv_of_nonneg _ (by exact ar206 h1)]; exact hQ
  | modi h1 hQ =>
    obtain ⟨t, rfl⟩ := ha; obtain ⟨u, rfl⟩ := hb
    refine mod_int' (by exact ar193 h1) fun ht => k.done (v := .int _) ok S' ⟨_, rfl⟩ ?_ ht
    rw [Int.fmod_eq_emod_of_nonneg _ (by exact ar206 h1)]; exact hQ
  | powi h1 h2 hQ =>
    obtain ⟨t, rfl⟩ := ha; obtain ⟨u, rfl⟩ := hb
    refine pow_int h1 ?_ fun ht => k.done (v := .int _) ok S' ⟨_, rfl⟩ hQ ht
    have : Builtin.Int.intBits 2 = 2 := by decide +kernel
    rw [this]; lia
  | adds h1 hQ =>
    obtain ⟨t, rfl⟩ := ha; obtain ⟨u, rfl⟩ := hb
    refine SB.add (fun t' tk ht => k.done (v := .str _) ok S' ⟨_, rfl⟩ ?_ ht) ?_
    · rw [str_app]; exact hQ
    · rw [len_L, len_L] at h1; exact h1
  | muls h0 h1 h2 hQ =>
    obtain ⟨t, rfl⟩ := ha; obtain ⟨u, rfl⟩ := hb
    refine SB.mul (mulOk h0 h1 h2) fun t' tk ht => k.done (v := .str _) ok S' ⟨_, rfl⟩ ?_ ht
    rw [txt_mul]; exact hQ
  | mulL h => exact mulL ha rfl rfl h
  | addL h => exact addL ha hb rfl h
end

theorem Ev.bin {G : Glb} {ℓ : Nat} {sc : Scope} {l r : Expr} {op : Operator} {pos : Pos} {W₁ W₂ : WE} (h₁ : Ev G ℓ sc l W₁) (h₂ : Ev G ℓ sc r W₂) :
    Ev G ℓ sc (.BinOp l op r pos) fun Q ρ σ => W₁ (fun a σ₁ => W₂ (fun b σ₂ => aBin op a b Q σ₂) ρ σ₁) ρ σ := by
  intro A env own s g φ σ ρ Q cx eo R hW K E k
  refine wpAny_BinOp (h₁ A env own s g φ σ ρ _ cx eo R hW _ _ fun wa s₁ g₁ φ₁ σ₁ a N₁ R₁ ha hQ₁ => ?_)
  refine h₂ A env own s₁ g₁ φ₁ σ₁ ρ _ cx eo R₁ hQ₁ _ _ fun wb s₂ g₂ φ₂ σ₂ b N₂ R₂ hb hQ₂ => ?_
  exact bin_sound cx.handled R₂.ok R₂.sr (N₂.vr ha) hb hQ₂ fun w s' g' φ' σ' v N' ok' S' hv hQ => k _ _ _ _ _ v ((N₁.trans N₂).trans N') (R₂.step N' ok' S') hv hQ


end
section
set_option autoImplicit false

noncomputable def strV (v : V) : Prop := ∃ x, v = .str x ∧ PyData.strOk x = true
noncomputable def itemV (v : V) : Prop := strV v ∨ ∃ a b, v = .tup [a, b] ∧ strV a ∧ strV b

theorem reads_str {g : FM} {φ : List Addr} {h : Heap} {v : V} {w : Value} (hv : strV v) (hr : VR g φ v w) : ∃ x t, v = .str x ∧ w = .str x t ∧ Reads h w (.str x) [] ∧ PyData.canLay0 (.str x) = true := by
  obtain ⟨x, rfl, ok⟩ := hv
  obtain ⟨t, rfl⟩ := hr
  exact ⟨x, t, rfl, rfl, .str x t, by rw [PyData.canLay0]; exact ok⟩

/-- two related values of one item read as the same data -/
theorem reads_item {g : FM} {φ : List Addr} {h : Heap} (keep : ∀ b o, g b = some o → h.get? b = some o) {v : V} {w w' : Value} (hv : itemV v) (hr : VR g φ v w) (hr' : VR g φ v w') :
    ∃ d as bs, Reads h w d as ∧ Reads h w' d bs ∧ d.canLay0 = true ∧ d.depth ≤ 3 := by
  rcases hv with hv | ⟨a, b, rfl, ha, hb⟩
  · obtain ⟨x, t, rfl, rfl, h1, h2⟩ := reads_str (h := h) hv hr
    obtain ⟨t', rfl⟩ := hr'
    exact ⟨_, _, _, h1, .str x t', h2, by simp [PyData.depth]⟩
  · obtain ⟨l, arr, n, rfl, hg, u, r, e1, hu, u', r', e2, hu', e3⟩ := hr
    obtain ⟨l', arr', n', rfl, hg', y, q, f1, hy, y', q', f2, hy', f3⟩ := hr'
    have e3' : r' = [] := e3
    have f3' : q' = [] := f3
    subst e3' f3' e2 f2
    obtain ⟨x, t, rfl, rfl, h1, h2⟩ := reads_str (h := h) ha hu
    obtain ⟨t', rfl⟩ := hy
    obtain ⟨x', t'', rfl, rfl, h1', h2'⟩ := reads_str (h := h) hb hu'
    obtain ⟨t3, rfl⟩ := hy'
    refine ⟨.tuple [.str x, .str x'], _, _, .tuple (keep _ _ hg) rfl rfl (by rw [e1]; exact .cons h1 (.cons h1' .nil)), .tuple (keep _ _ hg') rfl rfl (by rw [f1]; exact .cons (.str x t') (.cons (.str x' t3) .nil)), ?_, by simp [PyData.depth, PyData.depthAll]⟩
    simp only [PyData.canLay0, PyData.canLayAll0] at h2 h2' ⊢
    simp [h2, h2']

theorem reads_items {g : FM} {φ : List Addr} {h : Heap} (keep : ∀ b o, g b = some o → h.get? b = some o) : ∀ {vs : List V} {ws ws' : List Value}, (∀ v ∈ vs, itemV v) → VRs g φ vs ws → VRs g φ vs ws' →
    ∃ ds as bs, ReadsAll h ws ds as ∧ ReadsAll h ws' ds bs ∧ PyData.canLayAll0 ds = true ∧ PyData.depthAll ds ≤ 3
  | [], ws, ws', _, hr, hr' => by
    have e1 : ws = [] := hr
    have e2 : ws' = [] := hr'
    subst e1 e2
    exact ⟨[], _, _, .nil, .nil, by simp [PyData.canLayAll0], by simp [PyData.depthAll]⟩
  | v :: vs, ws, ws', hi, hr, hr' => by
    obtain ⟨w, r, rfl, h1, h2⟩ := hr
    obtain ⟨w', r', rfl, h1', h2'⟩ := hr'
    obtain ⟨d, as, bs, a1, a2, a3, a4⟩ := reads_item keep (hi v List.mem_cons_self) h1 h1'
    obtain ⟨ds, as', bs', b1, b2, b3, b4⟩ := reads_items keep (fun u hu => hi u (List.mem_cons_of_mem _ hu)) h2 h2'
    refine ⟨d :: ds, _, _, .cons a1 b1, .cons a2 b2, by simp [PyData.canLayAll0, a3, b3], ?_⟩
    simp only [PyData.depthAll]
    exact Nat.max_le.mpr ⟨by assumption, by assumption⟩

theorem beq_dec (a b : List Nat) : (a == b) = decide (a = b) := by
  by_cases h : a = b
  · subst h; simp
  · rw [decide_eq_false h]; exact beq_eq_false_iff_ne.mpr h
theorem beq_dec' (a b : List Nat) : (a != b) = decide (a ≠ b) := by
  unfold bne
  rw [beq_dec]
  by_cases h : a = b <;> simp [h]
/-- a comparison -/
inductive CmpR (Q : Bool → Sto → Prop) (σ : Sto) : CmpOp → V → V → Prop where
  | eqi {a b : Int} (h : Q (decide (a = b)) σ) : CmpR Q σ .Eq (.int a) (.int b)
  | nei {a b : Int} (h : Q (decide (a ≠ b)) σ) : CmpR Q σ .NotEq (.int a) (.int b)
  | lti {a b : Int} (h : Q (decide (a < b)) σ) : CmpR Q σ .Lt (.int a) (.int b)
  | lei {a b : Int} (h : Q (decide (a ≤ b)) σ) : CmpR Q σ .LtE (.int a) (.int b)
  | gti {a b : Int} (h : Q (decide (a > b)) σ) : CmpR Q σ .Gt (.int a) (.int b)
  | gei {a b : Int} (h : Q (decide (a ≥ b)) σ) : CmpR Q σ .GtE (.int a) (.int b)
  | eqs {a b : Str} (h : Q (decide (L a = L b)) σ) : CmpR Q σ .Eq (.str a) (.str b)
  | nes {a b : Str} (h : Q (decide (L a ≠ L b)) σ) : CmpR Q σ .NotEq (.str a) (.str b)
  | lts {a b : Str} (h : Q (decide (L a < L b)) σ) : CmpR Q σ .Lt (.str a) (.str b)
  | les {a b : Str} (h : Q (!decide (L b < L a)) σ) : CmpR Q σ .LtE (.str a) (.str b)
  | ins {a b : Str} (h : Q (Txt.contains b a) σ) : CmpR Q σ .In (.str a) (.str b)
  | eqb {a b : Bool} (h : Q (decide (a = b)) σ) : CmpR Q σ .Eq (.bool a) (.bool b)
  | neb {a b : Bool} (h : Q (decide (a ≠ b)) σ) : CmpR Q σ .NotEq (.bool a) (.bool b)
  | eqL {a b : V} (h : ∃ xs, aList σ a = some xs ∧ aList σ b = some xs ∧ (∀ x ∈ xs, itemV x) ∧ Q true σ) : CmpR Q σ .Eq a b
  | neL {a b : V} (h : ∃ xs, aList σ a = some xs ∧ aList σ b = some xs ∧ (∀ x ∈ xs, itemV x) ∧ Q false σ) : CmpR Q σ .NotEq a b
noncomputable def aCmp (op : CmpOp) (a b : V) (Q : Bool → Sto → Prop) (σ : Sto) : Prop := CmpR Q σ op a b

section
variable {G : Glb} {g : FM} {φ : List Addr} {σ : Sto} {s : Shared} {A : Around} {E : Value → Shared → Prop}

theorem cmp_sound {ℓ : Nat} (cx : Cx ℓ A) {op : CmpOp} {a b : V} {wa wb : Value} {Q : Bool → Sto → Prop} {K : Value → Shared → Prop} (S : SR G g s.heap φ σ) (ha : VR g φ a wa) (hb : VR g φ b wb) (h : aCmp op a b Q σ)
    (k : ∀ t, Q t σ → K (.bool t) s) : wpAny (model G.prog G.w) A (compareOp op wa wb) K E s := by
  have uni := cx.units
  have lists : (∃ xs, aList σ a = some xs ∧ aList σ b = some xs ∧ (∀ x ∈ xs, itemV x)) → ∃ d as bs, Reads s.heap wa d as ∧ Reads s.heap wb d bs ∧ d.canLay0 = true ∧ A.units + min d.depth d.depth < cLine := by
    rintro ⟨xs, h1, h2, h3⟩
    obtain ⟨a', arr, n, rfl, ho, hvs⟩ := aList_obj S ha h1
    obtain ⟨b', brr, m, rfl, ho', hus⟩ := aList_obj S hb h2
    obtain ⟨ds, as, bs, r1, r2, r3, r4⟩ := reads_items S.keep h3 hvs hus
    refine ⟨.list ds, _, _, .list ho rfl rfl r1, .list ho' rfl rfl r2, by rw [PyData.canLay0]; exact r3, ?_⟩
    rw [Nat.min_self]
    simp only [PyData.depth]
    show _ < 9900
    exact ar207 uni r4
  have eqL : op = .Eq → (∃ xs, aList σ a = some xs ∧ aList σ b = some xs ∧ (∀ x ∈ xs, itemV x) ∧ Q true σ) → wpAny (model G.prog G.w) A (compareOp op wa wb) K E s := by
    rintro rfl ⟨xs, h1, h2, h3, hQ⟩
    obtain ⟨d, as, bs, r1, r2, r3, r4⟩ := lists ⟨xs, h1, h2, h3⟩
    refine SeqAt.compareEq_reads r1 r2 r3 r3 r4 ?_
    rw [SeqAt.eqv_refl d r3]; exact k _ hQ
  have neL : op = .NotEq → (∃ xs, aList σ a = some xs ∧ aList σ b = some xs ∧ (∀ x ∈ xs, itemV x) ∧ Q false σ) → wpAny (model G.prog G.w) A (compareOp op wa wb) K E s := by
    rintro rfl ⟨xs, h1, h2, h3, hQ⟩
    obtain ⟨d, as, bs, r1, r2, r3, r4⟩ := lists ⟨xs, h1, h2, h3⟩
    refine SeqAt.compareNe_reads r1 r2 r3 r3 r4 ?_
    rw [SeqAt.eqv_refl d r3]; exact k _ hQ
  cases h with
  | eqi h => obtain ⟨t, rfl⟩ := ha; obtain ⟨u, rfl⟩ := hb; exact P.eq_int (k _ h)
  | @nei x y h => obtain ⟨t, rfl⟩ := ha; obtain ⟨u, rfl⟩ := hb; refine P.ne_int ?_; have := k _ h; rwa [show (x != y) = decide (x ≠ y) by simp [bne, BEq.beq]]
  | lti h => obtain ⟨t, rfl⟩ := ha; obtain ⟨u, rfl⟩ := hb; exact P.lt_int (k _ h)
  | lei h => obtain ⟨t, rfl⟩ := ha; obtain ⟨u, rfl⟩ := hb; exact P.le_int (k _ h)
  | gti h => obtain ⟨t, rfl⟩ := ha; obtain ⟨u, rfl⟩ := hb; exact P.gt_int (k _ h)
  | gei h => obtain ⟨t, rfl⟩ := ha; obtain ⟨u, rfl⟩ := hb; exact P.ge_int (k _ h)
  | eqs h => obtain ⟨t, rfl⟩ := ha; obtain ⟨u, rfl⟩ := hb; refine P.eq_str ?_; rw [beq_dec]; exact k _ h
  | nes h => obtain ⟨t, rfl⟩ := ha; obtain ⟨u, rfl⟩ := hb; refine P.ne_str ?_; rw [beq_dec']; exact k _ h
  | lts h => obtain ⟨t, rfl⟩ := ha; obtain ⟨u, rfl⟩ := hb; exact P.lt_str (k _ h)
  | les h => obtain ⟨t, rfl⟩ := ha; obtain ⟨u, rfl⟩ := hb; exact P.le_str (k _ h)
  | ins h => obtain ⟨t, rfl⟩ := ha; obtain ⟨u, rfl⟩ := hb; exact SB.contains (k _ h)
  | @eqb x y h => cases ha; cases hb; refine eq_bool ?_; have := k _ h; rwa [show (x == y) = decide (x = y) by cases x <;> cases y <;> rfl]
  | @neb x y h => cases ha; cases hb; refine ne_bool ?_; have := k _ h; rwa [show (x != y) = decide (x ≠ y) by cases x <;> cases y <;> rfl]
  | eqL h => exact eqL rfl h
  | neL h => exact neL rfl h
end

section
variable {G : Glb} {ℓ : Nat} {sc : Scope}

theorem Tt.cmp {l r : Expr} {op : CmpOp} {pos : Pos} {W₁ W₂ : WE} (h₁ : Ev G ℓ sc l W₁) (h₂ : Ev G ℓ sc r W₂) (hm : behindInMarks op r = false := by rfl) :
    Tt G ℓ sc (.Compare l [op] [r] pos) fun Q ρ σ => W₁ (fun a σ₁ => W₂ (fun b σ₂ => aCmp op a b Q σ₂) ρ σ₁) ρ σ := by
  intro A env own s g φ σ ρ Q cx eo R hW K E k
  refine wpAny_isTrue_Compare1 (h₁ A env own s g φ σ ρ _ cx eo R hW _ _ fun wa s₁ g₁ φ₁ σ₁ a N₁ R₁ ha hQ₁ => ?_) hm
  refine h₂ A env own s₁ g₁ φ₁ σ₁ ρ _ cx eo R₁ hQ₁ _ _ fun wb s₂ g₂ φ₂ σ₂ b N₂ R₂ hb hQ₂ => ?_
  exact cmp_sound cx R₂.sr (N₂.vr ha) hb hQ₂ fun t hQ => wpAny_truthy_bool (k _ _ _ _ _ (N₁.trans N₂) R₂ hQ)
theorem Tt.cmp2 {l m r : Expr} {op op' : CmpOp} {pos : Pos} {W₁ W₂ W₃ : WE} (h₁ : Ev G ℓ sc l W₁) (h₂ : Ev G ℓ sc m W₂) (h₃ : Ev G ℓ sc r W₃) (hm : lastMarks [op, op'] [m, r] = false := by rfl) :
    Tt G ℓ sc (.Compare l [op, op'] [m, r] pos) fun Q ρ σ => W₁ (fun a σ₁ => W₂ (fun b σ₂ => aCmp op a b (fun t σ₃ => if t = true then W₃ (fun c σ₄ => aCmp op' b c Q σ₄) ρ σ₃ else Q false σ₃) σ₂) ρ σ₁) ρ σ := by
  intro A env own s g φ σ ρ Q cx eo R hW K E k
  refine isTrue_chain (rs := []) (h₁ A env own s g φ σ ρ _ cx eo R hW _ _ fun wa s₁ g₁ φ₁ σ₁ a N₁ R₁ ha hQ₁ => ?_) hm
  refine test_link (h₂ A env own s₁ g₁ φ₁ σ₁ ρ _ cx eo R₁ hQ₁ _ _ fun wb s₂ g₂ φ₂ σ₂ b N₂ R₂ hb hQ₂ => ?_)
  refine cmp_sound cx R₂.sr (N₂.vr ha) hb hQ₂ fun t hQ => wpAny_truthy_bool ?_
  cases t with
  | false => rw [if_neg (by simp)] at hQ ⊢; exact k _ _ _ _ _ (N₁.trans N₂) R₂ hQ
  | true =>
    rw [if_pos rfl] at hQ ⊢
    refine test_last (h₃ A env own s₂ g₂ φ₂ σ₂ ρ _ cx eo R₂ hQ _ _ fun wc s₃ g₃ φ₃ σ₃ c N₃ R₃ hc hQ₃ => ?_)
    exact cmp_sound cx R₃.sr (N₃.vr hb) hc hQ₃ fun t hQ => wpAny_truthy_bool (k _ _ _ _ _ ((N₁.trans N₂).trans N₃) R₃ hQ)
end

end
section
set_option autoImplicit false

theorem filt_range (l : List Nat) (a : Nat) : ∀ m, a + m ≤ l.length → ((List.range m).map (a + ·)).filterMap (l[·]?) = (l.drop a).take m
  | 0, _ => by simp
  | m + 1, h => by
    rw [List.range_succ, List.map_append, List.filterMap_append, filt_range l a m (by exact ar208 h)]
    have h1 : a + m < l.length := by exact ar209 h
    rw [List.take_succ]
    simp [List.getElem?_drop, h1]

theorem sliceRange_one (a b : Nat) : sliceRange (a : Int) (b : Int) 1 = (List.range (b - a)).map (a + ·) := by
  unfold sliceRange
  simp only [show (1 : Int) > 0 by decide, if_true, Int.ediv_one]
  by_cases h : (a : Int) < b
  · rw [if_pos h]
    have : ((b : Int) - a + 1 - 1).toNat = b - a := by lia
    rw [this]
    refine List.map_congr_left fun k hk => ?_
    lia
  · rw [if_neg h]
    have : b - a = 0 := by exact ar210 h
    rw [this]; rfl

/-- a slice by places that are none or not below nought -/
noncomputable def cut (l : List Nat) (lo hi : Option Int) : List Nat := (hi.elim l fun b => l.take b.toNat).drop (lo.elim 0 Int.toNat)
theorem mm_nat (a n : Nat) : max (0 : Int) (min (a : Int) (n : Int)) = ((min a n : Nat) : Int) := by
  rcases Nat.le_total a n with h | h
  · rw [Nat.min_eq_left h, Int.min_eq_left (Int.ofNat_le.mpr h), Int.max_eq_right (Int.natCast_nonneg a)]
  · rw [Nat.min_eq_right h, Int.min_eq_right (Int.ofNat_le.mpr h), Int.max_eq_right (Int.natCast_nonneg n)]
theorem mm_int {a : Int} (n : Nat) (h : 0 ≤ a) : max 0 (min a (n : Int)) = ((min a.toNat n : Nat) : Int) := by
  obtain ⟨k, rfl⟩ := Int.eq_ofNat_of_zero_le h
  exact mm_nat k n
theorem slice_idx (lo hi : Option Int) (n : Nat) (h1 : ∀ a, lo = some a → 0 ≤ a) (h2 : ∀ b, hi = some b → 0 ≤ b) :
    Builtin.Str.strSliceIndices lo hi 1 n = (List.range (hi.elim n (fun b => min b.toNat n) - min (lo.elim 0 Int.toNat) n)).map (min (lo.elim 0 Int.toNat) n + ·) := by
  rw [← sliceRange_one]
  unfold Builtin.Str.strSliceIndices
  dsimp only
  have p1 : (1 : Int) > 0 := by decide
  congr 1
  · cases lo with
    | none => simp
    | some a =>
      have := h1 a rfl
      dsimp only [Option.elim]
      rw [if_neg (show ¬ a < 0 by exact ar211 this), if_pos p1]; exact mm_int n this
  · cases hi with
    | none => rfl
    | some b =>
      have := h2 b rfl
      dsimp only [Option.elim]
      rw [if_neg (show ¬ b < 0 by exact ar211 this), if_pos p1]; exact mm_int n this
theorem cut_eq (l : List Nat) (lo hi : Option Int) : cut l lo hi = (l.drop (min (lo.elim 0 Int.toNat) l.length)).take (hi.elim l.length (fun b => min b.toNat l.length) - min (lo.elim 0 Int.toNat) l.length) := by
  unfold cut
  have e1 : (hi.elim l fun b => l.take b.toNat) = l.take (hi.elim l.length fun b => min b.toNat l.length) := by
    cases hi with
    | none => exact (List.take_of_length_le (Nat.le_refl _)).symm
    | some b =>
      show l.take b.toNat = l.take (min b.toNat l.length)
      rcases Nat.le_total b.toNat l.length with q | q
      · rw [Nat.min_eq_left q]
      · rw [Nat.min_eq_right q, List.take_of_length_le q, List.take_of_length_le (Nat.le_refl _)]
  rw [e1, List.drop_take]
  generalize lo.elim 0 Int.toNat = a
  rcases Nat.le_total a l.length with q | q
  · rw [Nat.min_eq_left q]
  · rw [Nat.min_eq_right q, List.drop_eq_nil_of_le q, List.drop_eq_nil_of_le (Nat.le_refl _)]; simp
theorem slice_cut (x : Str) (lo hi : Option Int) (h1 : ∀ a, lo = some a → 0 ≤ a) (h2 : ∀ b, hi = some b → 0 ≤ b) : Txt.slice x lo hi = S (cut (L x) lo hi) := by
  have hidx := slice_idx lo hi x.length h1 h2
  have hcut := cut_eq (L x) lo hi
  rw [len_L] at hcut
  have hBl : hi.elim x.length (fun b => min b.toNat x.length) ≤ x.length := by cases hi with
    | none => exact Nat.le_refl _
    | some b => exact Nat.min_le_right _ _
  have hAl : min (lo.elim 0 Int.toNat) x.length ≤ x.length := Nat.min_le_right _ _
  have hlen := len_L x
  generalize min (lo.elim 0 Int.toNat) x.length = A at hidx hcut hAl
  generalize hi.elim x.length (fun b => min b.toNat x.length) = B at hidx hcut hBl
  have hfilt : (Builtin.Str.strSliceIndices lo hi 1 x.length).filterMap (x.cps[·]?) = cut (L x) lo hi := by
    rw [hidx, hcut]
    rcases Nat.le_total A B with q | q
    · rw [← filt_range (L x) A (B - A) (by exact ar212 q hBl hlen)]
      congr 1
      funext i
      simp [L]
    · have : B - A = 0 := by exact ar213 q
      rw [this]; simp
  unfold Txt.slice
  split
  · rename_i hc
    have hl : (Builtin.Str.strSliceIndices lo hi 1 x.length).length = x.length := by simpa using hc
    rw [hidx, List.length_map, List.length_range] at hl
    rw [hcut]
    have hz : x.length = 0 ∨ (A = 0 ∧ B = x.length) := by exact ar214 hl hBl
    rcases hz with hz | ⟨hz, hz'⟩
    · have : L x = [] := by rw [← List.length_eq_zero_iff]; exact ar215 hlen hz
      rw [this]
      conv => lhs; rw [← S_L x, this]
      simp
    · rw [hz, hz', Nat.sub_zero, List.drop_zero, List.take_of_length_le (by exact ar216 hlen), S_L]
  · rw [hfilt]

theorem slice_post {x : Str} {t : Tok} {l u : Option (Int × Tok)} {K : Value → Shared → Prop} {s : Shared} (h1 : ∀ a, l.map (·.1) = some a → 0 ≤ a) (h2 : ∀ b, u.map (·.1) = some b → 0 ≤ b) (hl : (L x).length ≤ 2 ^ 24)
    (h : ∀ t' k, K (.str (S (cut (L x) (l.map (·.1)) (u.map (·.1)))) t') { s with toks := k }) : Made.post (sliceMade x t l u none) K s := by
  rw [← slice_cut x _ _ h1 h2] at h
  have hsz : x.length ≤ sizeLine := by rw [← len_L]; exact hl
  unfold sliceMade
  unfold Txt.slice at h
  have hp : slicePicked x l u none = Builtin.Str.strSliceIndices (l.map (·.1)) (u.map (·.1)) 1 x.length := rfl
  rw [hp]
  show Made.post (if ((1 : Int) == 1 && (Builtin.Str.strSliceIndices (l.map (·.1)) (u.map (·.1)) 1 x.length).length == x.length) = true then _ else _) K s
  split
  · rename_i hc
    rw [if_pos hc] at h
    exact h t s.toks
  · rename_i hc
    rw [if_neg hc] at h
    refine ⟨?_, h _ _⟩
    refine Nat.le_trans ?_ hsz
    show ((Builtin.Str.strSliceIndices (l.map (·.1)) (u.map (·.1)) 1 x.length).filterMap (x.cps[·]?)).toArray.size ≤ x.length
    rw [List.size_toArray]
    exact Nat.le_trans (List.length_filterMap_le _ _) (sliceIndices_le _ _ _)

/-- the parts of a slice -/
inductive Evo (G : Glb) (ℓ : Nat) (sc : Scope) : Option Expr → ((Option Int → Sto → Prop) → Rho → Sto → Prop) → Prop where
  | none : Evo G ℓ sc none fun Q _ σ => Q none σ
  | some {e : Expr} {W : WE} : Ev G ℓ sc e W → Evo G ℓ sc (some e) fun Q ρ σ => W (fun v σ' => ∃ i : Int, v = .int i ∧ 0 ≤ i ∧ Q (some i) σ') ρ σ

section
variable {G : Glb} {ℓ : Nat} {sc : Scope}

theorem Evo.run {o : Option Expr} {W : (Option Int → Sto → Prop) → Rho → Sto → Prop} (h : Evo G ℓ sc o W) {A : Around} {env : Env} {own : List Str} {s : Shared} {g : FM} {φ : List Addr} {σ : Sto} {ρ : Rho} {Q : Option Int → Sto → Prop} (cx : Cx ℓ A) (eo : EnvOk sc env)
    (R : Rel G g φ σ env own ρ s) (hW : W Q ρ σ) {K : Value → Shared → Prop} {E : Value → Shared → Prop}
    (k : ∀ (p : Option (Int × Tok)) s' g' φ' σ', Nx [] s s' g g' φ φ' → Rel G g' φ' σ' env own ρ s' → (∀ a, p.map (·.1) = Option.some a → 0 ≤ a) → Q (p.map (·.1)) σ' → K (partValue p) s') : wpAny (model G.prog G.w) A (evalPart o env) K E s := by
  cases h with
  | none => rw [evalPart_none]; exact wpAny_pure (k Option.none _ _ _ _ (Nx.refl rfl) R (by simp) hW)
  | some h =>
    rw [evalPart_some]
    refine h A env own s g φ σ ρ _ cx eo R hW _ _ fun w s₁ g₁ φ₁ σ₁ v N₁ R₁ hv hQ => ?_
    obtain ⟨i, rfl, h0, hQ⟩ := hQ
    obtain ⟨t, rfl⟩ := hv
    exact k (Option.some (i, t)) _ _ _ _ N₁ R₁ (fun a e => by cases e; exact h0) hQ

theorem Ev.strSlice {e : Expr} {lo hi : Option Expr} {p pos : Pos} {W : WE} {W₁ W₂ : (Option Int → Sto → Prop) → Rho → Sto → Prop} (h : Ev G ℓ sc e W) (h₁ : Evo G ℓ sc lo W₁) (h₂ : Evo G ℓ sc hi W₂)
    (hl : ∀ o r : Value, letTemporaryGo e o r = pure () := by intro _ _; rfl) :
    Ev G ℓ sc (.Subscript e (.Slice lo hi Option.none p) pos) fun Q ρ σ => W (fun v σ₁ => W₁ (fun a σ₂ => W₂ (fun b σ₃ => ∃ x, v = .str x ∧ (L x).length ≤ 2 ^ 24 ∧ Q (.str (S (cut (L x) a b))) σ₃) ρ σ₂) ρ σ₁) ρ σ := by
  intro A env own s g φ σ ρ Q cx eo R hW K E k
  refine wpAny_Subscript_str_slice ?_ hl
  refine h A env own s g φ σ ρ _ cx eo R hW _ _ fun w s₁ g₁ φ₁ σ₁ v N₁ R₁ hv hQ₁ => ?_
  refine h₁.run cx eo R₁ hQ₁ fun pa s₂ g₂ φ₂ σ₂ N₂ R₂ ha hQ₂ => ?_
  refine h₂.run cx eo R₂ hQ₂ fun pb s₃ g₃ φ₃ σ₃ N₃ R₃ hb hQ₃ => ?_
  obtain ⟨x, rfl, hx, hQ⟩ := hQ₃
  obtain ⟨t, rfl⟩ := hv
  refine ⟨x, t, pa, pb, rfl, rfl, rfl, ?_⟩
  have N : Nx [] s { s₃ with heap := s₃.heap.push { cls := .type "slice", data := .fields #[partValue pa, partValue pb, .none] } } g g₃ φ φ₃ := ((N₁.trans N₂).trans N₃).trans (Nx.push _ _)
  have S' := R₃.sr.push { cls := .type "slice", data := .fields #[partValue pa, partValue pb, .none] }
  have post : ∀ t' tk, (1 ≤ tk → K (.str (S (cut (L x) (pa.map (·.1)) (pb.map (·.1)))) t') { s₃ with heap := s₃.heap.push { cls := .type "slice", data := .fields #[partValue pa, partValue pb, .none] }, toks := tk }) := fun t' tk ht =>
    k _ _ g₃ φ₃ σ₃ (.str _) ⟨N.drawn, N.os, N.sub, N.new, N.pre, N.oth, N.ex⟩ (R.step ⟨N.drawn, N.os, N.sub, N.new, N.pre, N.oth, N.ex⟩ ⟨ht, R₃.ok.bare⟩ S') ⟨_, rfl⟩ hQ
  have ht := R₃.ok.toks
  unfold sliceMade
  have := slice_post (x := x) (t := t) (l := pa) (u := pb) (K := fun v s' => 1 ≤ s'.toks → K v s') (s := { s₃ with heap := s₃.heap.push { cls := .type "slice", data := .fields #[partValue pa, partValue pb, .none] } }) ha hb hx post
  unfold sliceMade at this
  split
  · rename_i hc; rw [if_pos hc] at this; exact this ht
  · rename_i hc; rw [if_neg hc] at this; exact ⟨this.1, this.2 (Nat.le_succ_of_le ht)⟩

/-- an item -/
noncomputable def aItem (σ : Sto) : V → V → Option V
  | .str x, .int i => if 0 ≤ i ∧ i < 2 ^ 60 then (L x)[i.toNat]?.map fun c => .str (S [c]) else none
  | v, .int i => match aList σ v with
    | some xs => if 0 ≤ i then (if i < 2 ^ 60 then xs[i.toNat]? else none) else if -(xs.length : Int) ≤ i ∧ -(2 ^ 60) ≤ i then xs[(i + xs.length).toNat]? else none
    | none => none
  | _, _ => none

theorem item_sound {g : FM} {φ : List Addr} {σ : Sto} {s : Shared} {A : Around} {E : Value → Shared → Prop} {Q : V → Sto → Prop} {K : Value → Shared → Prop} {a b u : V} {wa wb : Value} {ve se : Expr} (ok : SOk s) (S' : SR G g s.heap φ σ) (ha : VR g φ a wa) (hb : VR g φ b wb)
    (h : aItem σ a b = some u) (hQ : Q u σ) (k : Cont G s g φ Q K) (hs : ∀ o i : Value, ∃ ops, subscripted se false o i = operate ops (getItem o i)) : wpAny (model G.prog G.w) A (subscriptTail ve se wa wb) K E s := by
  have lists : ∀ i : Int, b = .int i → (match aList σ a with | some xs => if 0 ≤ i then (if i < 2 ^ 60 then xs[i.toNat]? else none) else if -(xs.length : Int) ≤ i ∧ -(2 ^ 60) ≤ i then xs[(i + xs.length).toNat]? else none | none => none) = some u →
      wpAny (model G.prog G.w) A (subscriptTail ve se wa wb) K E s := by
    rintro i rfl hi
    obtain ⟨t, rfl⟩ := hb
    split at hi
    · rename_i xs hx
      obtain ⟨a', arr, n, rfl, ho, hvs⟩ := aList_obj S' ha hx
      obtain ⟨ops, hops⟩ := hs (.ref a') (.int i t)
      have hl := hvs.length
      rw [Array.length_toList] at hl
      by_cases h0 : 0 ≤ i
      · rw [if_pos h0] at hi
        by_cases h1 : i < 2 ^ 60
        · rw [if_pos h1] at hi
          obtain ⟨w, hw, hr⟩ := hvs.get hi
          exact tail_any (T := "list") ⟨_, ho, rfl⟩ slot_list_getitem.lookup (wpAny_getItem_list (isListObj ho) h0 (by exact ar217 h1) (by simpa using hw) (k.now ok S' hr hQ)) hops
        · rw [if_neg h1] at hi; cases hi
      · rw [if_neg h0] at hi
        by_cases h1 : -(xs.length : Int) ≤ i ∧ -(2 ^ 60) ≤ i
        · rw [if_pos h1] at hi
          obtain ⟨w, hw, hr⟩ := hvs.get hi
          exact tail_any (T := "list") ⟨_, ho, rfl⟩ slot_list_getitem.lookup (wpAny_getItem_list_neg (isListObj ho) (by exact ar218 h0) (by rw [hl]; exact h1.1) (by exact ar219 h1) (by rw [hl]; simpa using hw) (k.now ok S' hr hQ)) hops
        · rw [if_neg h1] at hi; cases hi
    · cases hi
  cases a <;> cases b <;> first | (exact lists _ rfl h) | (cases h; done) | skip
  case str.int x i =>
    obtain ⟨t, rfl⟩ := ha; obtain ⟨t', rfl⟩ := hb
    dsimp only [aItem] at h
    by_cases h0 : 0 ≤ i ∧ i < 2 ^ 60
    · rw [if_pos h0] at h
      cases hc : (L x)[i.toNat]? with
      | none => rw [hc] at h; cases h
      | some c =>
        rw [hc] at h; cases h
        obtain ⟨ops, hops⟩ := hs (.str x t) (.int i t')
        have hlt : i.toNat < x.length := by rw [← len_L]; exact (List.getElem?_eq_some_iff.mp hc).1
        refine tail_any (T := "str") (typeIs_str _ _ _) F.slot_str_getitem.lookup (P.getItem_str (c := c) ?_ ?_ ?_) hops
        · rw [decide_eq_false (by exact ar220 h0), decide_eq_false (by exact ar221 h0)]; rfl
        · have : seqIndex? i x.length = some i.toNat := by
            unfold seqIndex?
            simp only [if_neg (show ¬ i < 0 by exact ar222 h0)]
            rw [if_pos (by rw [Bool.and_eq_true]; exact ⟨decide_eq_true (by exact ar223 h0), decide_eq_true (by lia)⟩)]
          rw [this]
          simpa [L] using hc
        · exact k.done (v := .str _) ok S' ⟨_, rfl⟩ hQ (Nat.le_succ_of_le ok.toks)
    · rw [if_neg h0] at h; cases h

theorem Ev.item {e i : Expr} {pos : Pos} {W₁ W₂ : WE} (h₁ : Ev G ℓ sc e W₁) (h₂ : Ev G ℓ sc i W₂) (hs : ∀ o v : Value, ∃ ops, subscripted i false o v = operate ops (getItem o v) := by intro o v; exact ⟨[o, v], rfl⟩) :
    Ev G ℓ sc (.Subscript e i pos) fun Q ρ σ => W₁ (fun a σ₁ => W₂ (fun b σ₂ => ∃ u, aItem σ₂ a b = some u ∧ Q u σ₂) ρ σ₁) ρ σ := by
  intro A env own s g φ σ ρ Q cx eo R hW K E k
  refine Subscript_ (h₁ A env own s g φ σ ρ _ cx eo R hW _ _ fun wa s₁ g₁ φ₁ σ₁ a N₁ R₁ ha hQ₁ => ?_)
  refine h₂ A env own s₁ g₁ φ₁ σ₁ ρ _ cx eo R₁ hQ₁ _ _ fun wb s₂ g₂ φ₂ σ₂ b N₂ R₂ hb hQ₂ => ?_
  obtain ⟨u, hu, hQ⟩ := hQ₂
  exact item_sound R₂.ok R₂.sr (N₂.vr ha) hb hu hQ (fun w s' g' φ' σ' v N' ok' S' hv hQ => k _ _ _ _ _ v ((N₁.trans N₂).trans N') (R₂.step N' ok' S') hv hQ) hs
end

end
section
set_option autoImplicit false

section
variable {G : Glb} {g g₁ : FM} {φ φ₁ : List Addr} {σ : Sto} {s s₁ : Shared} {A : Around} {Q : V → Sto → Prop} {K : Value → Shared → Prop} {E : Value → Shared → Prop}

/-- the heap grows, the rest stays -/
theorem Nx.up {h' : Heap} {tk : Nat} (hk : ∀ b o, s.heap.get? b = some o → h'.get? b = some o) : Nx [] s { s with heap := h', toks := tk } g g φ φ :=
  ⟨rfl, rfl, fun _ _ e => e, fun _ _ e => .inl e, ⟨[], by simp, by simp⟩, fun b p _ _ e => hk b p e, fun b e => by
    cases q : s.heap.get? b with
    | none => exact absurd q e
    | some p => show h'.get? b ≠ none; rw [hk b p q]; simp⟩
theorem Cont.up (k : Cont G s g φ Q K) (ok : SOk s) (S : SR G g s.heap φ σ) {v : V} {w : Value} {h' : Heap} {tk : Nat} (hk : ∀ b o, s.heap.get? b = some o → h'.get? b = some o) (hv : VR g φ v w) (hQ : Q v σ) (ht : 1 ≤ tk) : K w { s with heap := h', toks := tk } :=
  k w _ g φ σ v (Nx.up hk) ⟨ht, ok.bare⟩ (S.keeps hk) hv hQ
theorem Cont.listAt (k : Cont G s g φ Q K) (ok : SOk s) (S : SR G g s.heap φ σ) {h' : Heap} {D : Addr} {arr : Array Value} {n : Nat} {ys : List V} (hk : ∀ b o, s.heap.get? b = some o → h'.get? b = some o) (hD : s.heap.get? D = none)
    (ho : h'.get? D = some (listObj arr n)) (hy : VRs g φ ys arr.toList) (hQ : newL Q ys σ) {tk : Nat} (ht : 1 ≤ tk) : K (.ref D) { s with heap := h', toks := tk } := by
  obtain ⟨h1, h2⟩ := S.un hD
  rcases hQ with hQ | hQ
  · exact k _ _ _ _ σ (.list ys) ((Nx.up hk).addF hD h2) ⟨ht, ok.bare⟩ ((S.keeps hk).addF h1 h2 ho) ⟨_, arr, n, rfl, ins_at, hy.addF h2⟩ hQ
  · exact k _ _ _ _ _ (.ref σ.length) ((Nx.up hk).addM hD) ⟨ht, ok.bare⟩ ((S.keeps hk).addM (m := .list ys) h1 h2 ⟨arr, n, ho, hy⟩) ⟨_, rfl, at_end S.len⟩ hQ
end

section
variable {G : Glb} {ℓ : Nat} {sc : Scope}

theorem Ev.list {es : List Expr} {pos : Pos} {Ws : WL} (h : Evs G ℓ sc es Ws) : Ev G ℓ sc (.List es pos) fun Q ρ σ => Ws (fun vs σ' => vs.length ≤ 2 ^ 20 ∧ newL Q vs σ') ρ σ := by
  intro A env own s g φ σ ρ Q cx eo R hW K E k
  refine wpAny_List (h A env own s g φ σ ρ _ cx eo R hW _ _ _ fun ws s₁ g₁ φ₁ σ₁ vs N₁ R₁ hv hQ => ⟨?_, ?_⟩)
  · rw [hv.length]; exact Nat.le_trans hQ.1 (by decide)
  · have c : Cont G s₁ g₁ φ₁ Q K := fun w s' g' φ' σ' v N' ok' S' hv hQ => k _ _ _ _ _ v (N₁.trans N') (R₁.step N' ok' S') hv hQ
    exact c.list (arr := ws.toArray) (n := 0) R₁.ok R₁.sr (by simpa using hv) hQ.2 R₁.ok.toks
theorem Ev.tuple {es : List Expr} {n : Nat} {pos : Pos} {Ws : WL} (h : Evs G ℓ sc es Ws) : Ev G ℓ sc (.Tuple es n pos) fun Q ρ σ => Ws (fun vs σ' => vs.length ≤ 2 ^ 20 ∧ Q (.tup vs) σ') ρ σ := by
  intro A env own s g φ σ ρ Q cx eo R hW K E k
  refine wpAny_Tuple (h A env own s g φ σ ρ _ cx eo R hW _ _ _ fun ws s₁ g₁ φ₁ σ₁ vs N₁ R₁ hv hQ => ⟨?_, ?_⟩)
  · rw [hv.length]; exact Nat.le_trans hQ.1 (by decide)
  · have c : Cont G s₁ g₁ φ₁ Q K := fun w s' g' φ' σ' v N' ok' S' hv hQ => k _ _ _ _ _ v (N₁.trans N') (R₁.step N' ok' S') hv hQ
    exact c.tup (arr := ws.toArray) (n := 0) R₁.ok R₁.sr (by simpa using hv) hQ.2 R₁.ok.toks

/-- a value that a call may name -/
noncomputable def CallOk (G : Glb) (f : Value) : Prop := ∀ {A : Around} {env : Env} {pos : Pos} {e : Expr} {rest : List Expr} {s : Shared} {Q : Value → Shared → Prop} {E : Value → Shared → Prop},
  starEach (e :: rest) env = (false, eval e env) :: starEach rest env → (backTo pos (starEach rest env)).any (·.1) = false →
  wpAny (model G.prog G.w) A (spliced (backTo pos (starEach (e :: rest) env))) (fun vs s₁ => G.In s₁.heap ∧ wpAny (model G.prog G.w) A (call f vs) Q E s₁) E s → wpAny (model G.prog G.w) A (callWith pos f [] (backTo pos (starEach (e :: rest) env)) []) Q E s
theorem CallOk.builtin {id : String} : CallOk G (.builtin id) := fun h1 h2 h => callWith_builtin1 (wpAny_mono h (fun _ _ x => x.2) fun _ _ x => x) h1 h2
theorem CallOk.type {T : String} : CallOk G (.type T) := fun h1 h2 h => callWith_type1 (wpAny_mono h (fun _ _ x => x.2) fun _ _ x => x) h1 h2
theorem CallOk.def {a : Addr} {o : Obj} {fd : FuncData} (ho : G.base a = some o) (hd : o.data = .func fd) : CallOk G (.ref a) := fun h1 h2 h => callWith_def hd (wpAny_mono h (fun _ _ x => ⟨x.1 _ _ ho, x.2⟩) fun _ _ x => x) h1

theorem Ev.call {f : Value} {id : Str} {np pos : Pos} {e : Expr} {rest : List Expr} {W : List V → (V → Sto → Prop) → Sto → Prop} {Ws : WL} (hn : Ev G ℓ sc (.Name id np) fun Q _ σ => Q (.raw f) σ) (hc : CallOk G f) (hf : FnOk G ℓ f W) (ha : Evs G ℓ sc (e :: rest) Ws)
    (h1 : ∀ env, starEach (e :: rest) env = (false, eval e env) :: starEach rest env := by intro _; rfl) (h2 : ∀ env, (backTo pos (starEach rest env)).any (·.1) = false := by intro _; rfl) :
    Ev G ℓ sc (.Call (.Name id np) (e :: rest) [] pos) fun Q ρ σ => Ws (fun vs σ' => W vs Q σ') ρ σ := by
  intro A env own s g φ σ ρ Q cx eo R hW K E k
  refine wpAny_Call_NameR (hn A env own s g φ σ ρ (fun v σ' => v = .raw f ∧ Ws (fun vs σ' => W vs Q σ') ρ σ') cx eo R ⟨rfl, hW⟩ _ _ fun w s₁ g₁ φ₁ σ₁ v N₁ R₁ hv hQ => ?_)
  obtain ⟨rfl, hQ⟩ := hQ
  have hv' : w = f := hv
  subst hv'
  refine hc (h1 env) (h2 env) (ha A env own s₁ g₁ φ₁ σ₁ ρ _ cx eo R₁ hQ _ _ _ fun ws s₂ g₂ φ₂ σ₂ vs N₂ R₂ hvs hQ₂ => ⟨R₂.sr.inb, ?_⟩)
  exact hf A s₂ g₂ φ₂ σ₂ vs ws _ cx R₂.ok R₂.sr hvs hQ₂ _ _ fun w s' g' φ' σ' v N' ok' S' hv hQ => k _ _ _ _ _ v ((N₁.trans N₂).trans N') (R₂.step N' ok' S') hv hQ

/-- built-in functions -/
noncomputable def aLen (σ : Sto) : V → Option Nat
  | .str x => some (L x).length
  | .list xs => some xs.length
  | .ref k => match σ[k]? with | some (.list xs) => some xs.length | _ => none
  | _ => none
theorem VRs.one {g : FM} {φ : List Addr} {v : V} {ws : List Value} (h : VRs g φ [v] ws) : ∃ w, ws = [w] ∧ VR g φ v w := by
  obtain ⟨w, r, rfl, h1, h2⟩ := h
  have : r = [] := h2
  subst this; exact ⟨w, rfl, h1⟩
theorem VRs.two {g : FM} {φ : List Addr} {v u : V} {ws : List Value} (h : VRs g φ [v, u] ws) : ∃ w x, ws = [w, x] ∧ VR g φ v w ∧ VR g φ u x := by
  obtain ⟨w, r, rfl, h1, h2⟩ := h
  obtain ⟨x, rfl, h3⟩ := VRs.one h2
  exact ⟨w, x, rfl, h1, h3⟩

theorem FnOk.len : FnOk G ℓ (.builtin "len") fun vs Q σ => ∃ v n, vs = [v] ∧ aLen σ v = some n ∧ n < 2 ^ 62 ∧ Q (.int n) σ := by
  intro A s g φ σ vs ws Q cx ok S hv hW K E k
  obtain ⟨v, n, rfl, hn, hlt, hQ⟩ := hW
  obtain ⟨w, rfl, hv1⟩ := hv.one
  have hv := hv1; clear hv1
  have lists : ∀ xs, aList σ v = some xs → xs.length = n → wpAny (model G.prog G.w) A (call (.builtin "len") [w]) K E s := fun xs hx hl => by
    obtain ⟨a, arr, m, rfl, ho, hvs⟩ := aList_obj S hv hx
    have hl' := hvs.length
    rw [Array.length_toList, hl] at hl'
    refine Calls.call_len_list (isListObj ho) (by rw [hl']; exact ar224 hlt) ?_
    rw [hl']
    exact Cont.done k ok S (v := .int _) ⟨_, rfl⟩ hQ (by have := ok.toks; exact ar225)
  cases v with
  | str x =>
    obtain ⟨t, rfl⟩ := hv
    cases hn
    rw [len_L] at hlt hQ
    exact P.len_str (by exact ar226 hlt) (Cont.done k ok S (v := .int _) ⟨_, rfl⟩ hQ (by have := ok.toks; exact ar225))
  | list xs => cases hn; exact lists xs rfl rfl
  | ref i =>
    dsimp only [aLen] at hn
    split at hn
    · rename_i xs hm
      cases hn
      exact lists xs (by dsimp only [aList]; rw [hm]) rfl
    · cases hn
  | none => cases hn
  | bool b => cases hn
  | int i => cases hn
  | tup x => cases hn
  | rng x => cases hn
  | raw x => cases hn

theorem FnOk.range : FnOk G ℓ (.type "range") fun vs Q σ => ∃ n : Nat, vs = [.int n] ∧ Q (.rng n) σ := by
  intro A s g φ σ vs ws Q cx ok S hv hW K E k
  obtain ⟨n, rfl, hQ⟩ := hW
  obtain ⟨w, rfl, t, rfl⟩ := hv.one
  refine call_range_1 ?_
  exact Cont.frozen k ok S (v := .rng n) (Heap.get?_push_size _ rfl) ⟨_, _, _, _, rfl, ins_at⟩ hQ (by have := ok.toks; exact ar225)

end

end
section
set_option autoImplicit false
open Builtin.Str

theorem join_nil : ∀ (ts : List Str), Str.join (S []) ts = S (ts.map L).flatten
  | [] => rfl
  | [p] => by
    show p = _
    simp [S_L]
  | p :: q :: r => by
    show p ++ S [] ++ Str.join (S []) (q :: r) = _
    rw [join_nil (q :: r), str_app, str_app, L_S, L_S, L_S]
    simp
theorem txt_join_nil (ts : List Str) : Txt.join (S []) ts = S (ts.map L).flatten := by
  unfold Txt.join
  rw [StrLaws.glued_eq_join, join_nil]

/-- each `c` becomes `z` -/
noncomputable def repl (c : Nat) (z : List Nat) (l : List Nat) : List Nat := l.flatMap fun a => if a = c then z else [a]
theorem repl_app (c : Nat) (z a b : List Nat) : repl c z (a ++ b) = repl c z a ++ repl c z b := by simp [repl]
theorem repl_free {c : Nat} {z : List Nat} : ∀ {l : List Nat}, c ∉ l → repl c z l = l
  | [], _ => rfl
  | a :: l, h => by
    have h1 : a ≠ c := fun e => h (e ▸ List.mem_cons_self)
    have h2 : c ∉ l := fun m => h (List.mem_cons_of_mem _ m)
    have := repl_free (z := z) h2
    unfold repl at this ⊢
    rw [List.flatMap_cons, if_neg h1, this]; rfl
theorem repl_join (c : Nat) (z : List Nat) : ∀ ts : List Str, (∀ p ∈ ts, c ∉ L p) → repl c z (L (Str.join (S [c]) ts)) = L (Str.join (S z) ts)
  | [], _ => rfl
  | [p], h => repl_free (h p List.mem_cons_self)
  | p :: q :: r, h => by
    have ih := repl_join c z (q :: r) fun a ha => h a (List.mem_cons_of_mem _ ha)
    show repl c z (L (p ++ S [c] ++ Str.join (S [c]) (q :: r))) = L (p ++ S z ++ Str.join (S z) (q :: r))
    rw [str_app, str_app, str_app (p ++ S z), str_app p (S z)]
    simp only [L_S]
    rw [repl_app, repl_app, ih, repl_free (h p List.mem_cons_self)]
    simp [repl]
theorem txt_replace (x : Str) (c : Nat) (z : List Nat) : Txt.replace x (S [c]) (S z) = S (repl c z (L x)) := by
  have h1 := StrLaws.replace_one x (S z) c
  have h2 := repl_join c z (Txt.split x (S [c])) (StrLaws.split_free x c)
  have h3 := StrLaws.join_split x (S [c])
  rw [h3] at h2
  rw [← S_L (Txt.replace x (S [c]) (S z))]
  rw [show Txt.replace x (S [c]) (S z) = Str.join (S z) (Txt.split x (S [c])) from h1, ← h2]
theorem cnt_count (c : Nat) (l : List Nat) : cnt c l = (l.count c : Nat) := by
  induction l with
  | nil => exact cnt_nil _
  | cons a l ih =>
    rw [cnt_cons, ih, List.count_cons]
    by_cases h : a = c
    · subst h; simp; exact ar233
    · simp [h]
theorem txt_count (x : Str) (c : Nat) : Txt.count x (S [c]) = ((L x).count c : Nat) := (count_cnt x c).trans (cnt_count c _)

end
section
set_option autoImplicit false

theorem vrs_strs {g : FM} {φ : List Addr} : ∀ {ts : List Str} {ws : List Value}, VRs g φ (ts.map V.str) ws → ∃ l : List (Str × Tok), ws = strValues l ∧ l.map (·.1) = ts
  | [], ws, h => by
    have : ws = [] := h
    subst this; exact ⟨[], rfl, rfl⟩
  | x :: ts, ws, h => by
    obtain ⟨w, r, rfl, ⟨t, rfl⟩, h2⟩ := h
    obtain ⟨l, rfl, hl⟩ := vrs_strs h2
    exact ⟨(x, t) :: l, rfl, by rw [List.map_cons, hl]⟩
section
variable {G : Glb} {ℓ : Nat}

theorem FnOk.join : FnOk G ℓ (.builtin "str.join") fun vs Q σ => ∃ v ts, vs = [.str (S []), v] ∧ aList σ v = some (List.map V.str ts) ∧ ((ts.map L).flatten).length ≤ 2 ^ 20 ∧ Q (.str (S (ts.map L).flatten)) σ := by
  intro A s g φ σ vs ws Q cx ok S' hv hW K E k
  obtain ⟨v, ts, rfl, hl, hsz, hQ⟩ := hW
  obtain ⟨w, x, rfl, ⟨t, rfl⟩, hv1⟩ := hv.two
  obtain ⟨a, arr, n, rfl, ho, hvs⟩ := aList_obj S' hv1 hl
  obtain ⟨l, hal, ht⟩ := vrs_strs hvs
  have hlist : s.heap.IsList a (strValues l).toArray := by rw [← hal]; exact isListObj ho
  have hok : JoinOk (S []) ts = true := by
    unfold JoinOk
    rw [StrLaws.joinTotal]
    have h0 : (S []).length = 0 := rfl
    have h1 : (ts.map (·.length)).sum = ((ts.map L).flatten).length := by
      rw [List.length_flatten, List.map_map]
      exact congrArg List.sum (List.map_congr_left fun x _ => (len_L x).symm)
    rw [h0, h1, Nat.mul_zero, Nat.add_zero]
    unfold Builtin.Str.tooLong sizeLine
    rw [decide_eq_false (by exact ar248 hsz)]; rfl
  refine of_toks ok.toks (SC.join hlist ht hok fun t' tk htk => ?_)
  rw [txt_join_nil]
  exact Cont.done k ok S' (v := .str _) ⟨_, rfl⟩ hQ htk

theorem FnOk.count : FnOk G ℓ (.builtin "str.count") fun vs Q σ => ∃ (x : Str) (c : Nat), vs = [.str x, .str (S [c])] ∧ Q (.int ((L x).count c : Nat)) σ := by
  intro A s g φ σ vs ws Q cx ok S' hv hW K E k
  obtain ⟨x, c, rfl, hQ⟩ := hW
  obtain ⟨w, y, rfl, ⟨t, rfl⟩, ⟨u, rfl⟩⟩ := hv.two
  refine SC.count ?_
  rw [txt_count]
  exact Cont.done k ok S' (v := .int _) ⟨_, rfl⟩ hQ (by have := ok.toks; exact ar40)
theorem FnOk.index : FnOk G ℓ (.builtin "str.index") fun vs Q σ => ∃ (x y : Str) (i : Nat) (rest : List Nat), vs = [.str x, .str y] ∧ Builtin.Str.occurrences x y 0 x.length 1 = i :: rest ∧ Q (.int (i : Nat)) σ := by
  intro A s g φ σ vs ws Q cx ok S' hv hW K E k
  obtain ⟨x, y, i, rest, rfl, ho, hQ⟩ := hW
  obtain ⟨w, z, rfl, ⟨t, rfl⟩, ⟨u, rfl⟩⟩ := hv.two
  exact SC.index ho (Cont.done k ok S' (v := .int _) ⟨_, rfl⟩ hQ (by have := ok.toks; exact ar40))

/-- a store's object changed in place -/
theorem SR.upd {g : FM} {h h' : Heap} {φ : List Addr} {σ : Sto} (S : SR G g h φ σ) {k : Nat} {a : Addr} {m : MO} (ha : φ[k]? = some a) (hk : ∀ b o, b ≠ a → h.get? b = some o → h'.get? b = some o) (hm : MOR G g φ h' a m) : SR G g h' φ (σ.set k m) := by
  have hka : a ∈ φ := List.mem_of_getElem? ha
  refine ⟨S.base, fun b o e => hk b o (fun q => by rw [q, S.fresh a hka] at e; cases e) (S.keep b o e), by simp [S.len], fun j b mm e1 e2 => ?_, S.fresh, S.nodup⟩
  by_cases hj : j = k
  · subst hj
    rw [ha] at e1; cases e1
    have hlt : j < σ.length := by rw [← S.len]; exact (List.getElem?_eq_some_iff.mp ha).1
    rw [List.getElem?_set_self hlt] at e2
    cases e2; exact hm
  · rw [List.getElem?_set_ne (Ne.symm hj)] at e2
    refine MOR.keeps (fun _ _ e => e) (fun _ _ e => e) (fun o e => hk b o (fun q => ?_) e) (S.mo j b mm e1 e2)
    subst q
    obtain ⟨h1, e3⟩ := List.getElem?_eq_some_iff.mp e1
    obtain ⟨h2, e4⟩ := List.getElem?_eq_some_iff.mp ha
    exact hj ((List.getElem_inj S.nodup).mp (e3.trans e4.symm))
theorem Nx.upd {g : FM} {φ : List Addr} {s : Shared} {h' : Heap} {tk : Nat} {a : Addr} (ha : a ∈ φ) (hk : ∀ b o, b ≠ a → s.heap.get? b = some o → h'.get? b = some o) (hl : h'.get? a ≠ none) : Nx [] s { s with heap := h', toks := tk } g g φ φ :=
  ⟨rfl, rfl, fun _ _ e => e, fun _ _ e => .inl e, ⟨[], by simp, by simp⟩, fun b p _ h2 e => hk b p (fun q => h2 (q ▸ ha)) e, fun b e => by
    by_cases q : b = a
    · rw [q]; exact hl
    · cases z : s.heap.get? b with
      | none => exact absurd z e
      | some p => show h'.get? b ≠ none; rw [hk b p q z]; simp⟩
theorem Cont.upd {g : FM} {φ : List Addr} {σ : Sto} {s : Shared} {Q : V → Sto → Prop} {K : Value → Shared → Prop} (k : Cont G s g φ Q K) (ok : SOk s) (S : SR G g s.heap φ σ) {i : Nat} {a : Addr} {m : MO} {h' : Heap} {tk : Nat} {v : V} {w : Value} (ha : φ[i]? = some a)
    (hk : ∀ b o, b ≠ a → s.heap.get? b = some o → h'.get? b = some o) (hl : h'.get? a ≠ none) (hm : MOR G g φ h' a m) (hv : VR g φ v w) (hQ : Q v (σ.set i m)) (ht : 1 ≤ tk) : K w { s with heap := h', toks := tk } :=
  k w _ g φ _ v (Nx.upd (List.mem_of_getElem? ha) hk hl) ⟨ht, ok.bare⟩ (S.upd ha hk hm) hv hQ

theorem FnOk.append : FnOk G ℓ (.builtin "list.append") fun vs Q σ => ∃ (i : Nat) (v : V) (xs : List V), vs = [.ref i, v] ∧ σ[i]? = some (.list xs) ∧ xs.length ≤ 2 ^ 20 ∧ Q .none (σ.set i (.list (xs ++ [v]))) := by
  intro A s g φ σ vs ws Q cx ok S' hv hW K E k
  obtain ⟨i, v, xs, rfl, hm, hsz, hQ⟩ := hW
  obtain ⟨w, u, rfl, ⟨a, rfl, ha⟩, hv2⟩ := hv.two
  obtain ⟨arr, n, ho, hvs⟩ := S'.mo _ _ _ ha hm
  have hlen := hvs.length
  rw [Array.length_toList] at hlen
  refine wpAny_list_append_plain (items := arr) ⟨n, ho⟩ (fun h' hp hs => ?_) (by rw [hlen]; exact Nat.le_trans hsz (by decide))
  obtain ⟨n', hp⟩ := hp
  exact Cont.upd k ok S' (m := .list (xs ++ [v])) (v := .none) ha (fun b o q e => hs.extBut b o q e) (by rw [hp]; simp) ⟨_, n', hp, by rw [Array.toList_push]; exact hvs.append (VRs.single hv2)⟩ rfl hQ ok.toks
end

section
variable {G : Glb} {ℓ : Nat} {sc : Scope}

/-- a method of a str -/
theorem Ev.methS {name : Str} {id : String} (hs : Slot "str" name id) (hty : typeOf (.builtin id) = pure (.type "method_descriptor")) {o e : Expr} {rest : List Expr} {apos pos : Pos} {Wo : WE} {Ws : WL} {Wf : List V → (V → Sto → Prop) → Sto → Prop}
    (ho : Ev G ℓ sc o Wo) (ha : Evs G ℓ sc (e :: rest) Ws) (hf : FnOk G ℓ (.builtin id) Wf)
    (h0 : ∀ env, attributeBase o name env (eval o env) = eval o env := by intro _; rfl)
    (h1 : ∀ env, starEach (e :: rest) env = (false, eval e env) :: starEach rest env := by intro _; rfl) (h2 : ∀ env, (backTo pos (starEach rest env)).any (·.1) = false := by intro _; rfl)
    (h3 : ∀ env, (((backTo pos (starEach (e :: rest) env)).all fun x => !x.1) && (backToKw pos (keywordEach [] env)).all fun x => x.1.isSome) = true := by intro _; rfl)
    (h4 : decide ((e :: rest).length + ([] : List Keyword).length + (if ([] : List Keyword).isEmpty = true then 0 else 1) < 30) = true := by rfl)
    (h5 : (apos.endLine == pos.line) = true := by rfl) :
    Ev G ℓ sc (.Call (.Attribute o name apos) (e :: rest) [] pos) fun Q ρ σ => Wo (fun ov σ₁ => (∃ x, ov = .str x) ∧ Ws (fun vs σ₂ => Wf (ov :: vs) Q σ₂) ρ σ₁) ρ σ := by
  intro A env own s g φ σ ρ Q cx eo R hW K E k
  refine wpAny_Call_method (h0 env) (by rw [h3 env, h4]; rfl) h5 F.plainAttrs_str hs hty ?_
  refine ho A env own s g φ σ ρ _ cx eo R hW _ _ fun w s₁ g₁ φ₁ σ₁ ov N₁ R₁ hv hQ => ?_
  obtain ⟨⟨x, rfl⟩, hQ⟩ := hQ
  have hv' := hv
  obtain ⟨t, rfl⟩ := hv'
  refine ⟨typeIs_str _ _ _, fun a e => (by cases e), callWith_method1 ?_ (h1 env) (h2 env)⟩
  refine ha A env own s₁ g₁ φ₁ σ₁ ρ _ cx eo R₁ hQ _ _ _ fun ws s₂ g₂ φ₂ σ₂ vs N₂ R₂ hvs hQ₂ => ?_
  exact hf A s₂ g₂ φ₂ σ₂ (.str x :: vs) (.str x t :: ws) _ cx R₂.ok R₂.sr ⟨_, _, rfl, N₂.vr hv, hvs⟩ hQ₂ _ _ fun w s' g' φ' σ' v N' ok' S' hv hQ => k _ _ _ _ _ v ((N₁.trans N₂).trans N') (R₂.step N' ok' S') hv hQ
/-- a method of a list -/
theorem Ev.methL {name : Str} {id : String} (hs : Slot "list" name id) (hty : typeOf (.builtin id) = pure (.type "method_descriptor")) {o e : Expr} {rest : List Expr} {apos pos : Pos} {Wo : WE} {Ws : WL} {Wf : List V → (V → Sto → Prop) → Sto → Prop}
    (ho : Ev G ℓ sc o Wo) (ha : Evs G ℓ sc (e :: rest) Ws) (hf : FnOk G ℓ (.builtin id) Wf)
    (h0 : ∀ env, attributeBase o name env (eval o env) = eval o env := by intro _; rfl)
    (h1 : ∀ env, starEach (e :: rest) env = (false, eval e env) :: starEach rest env := by intro _; rfl) (h2 : ∀ env, (backTo pos (starEach rest env)).any (·.1) = false := by intro _; rfl)
    (h3 : ∀ env, (((backTo pos (starEach (e :: rest) env)).all fun x => !x.1) && (backToKw pos (keywordEach [] env)).all fun x => x.1.isSome) = true := by intro _; rfl)
    (h4 : decide ((e :: rest).length + ([] : List Keyword).length + (if ([] : List Keyword).isEmpty = true then 0 else 1) < 30) = true := by rfl)
    (h5 : (apos.endLine == pos.line) = true := by rfl) :
    Ev G ℓ sc (.Call (.Attribute o name apos) (e :: rest) [] pos) fun Q ρ σ => Wo (fun ov σ₁ => (∃ xs, aList σ₁ ov = some xs) ∧ Ws (fun vs σ₂ => Wf (ov :: vs) Q σ₂) ρ σ₁) ρ σ := by
  intro A env own s g φ σ ρ Q cx eo R hW K E k
  refine wpAny_Call_method (h0 env) (by rw [h3 env, h4]; rfl) h5 F.plainAttrs_list hs hty ?_
  refine ho A env own s g φ σ ρ _ cx eo R hW _ _ fun w s₁ g₁ φ₁ σ₁ ov N₁ R₁ hv hQ => ?_
  obtain ⟨⟨xs, hx⟩, hQ⟩ := hQ
  obtain ⟨a, arr, n, rfl, hoo, _⟩ := aList_obj R₁.sr hv hx
  refine ⟨⟨_, hoo, rfl⟩, fun b e => (by cases e; exact ⟨_, hoo, rfl⟩), callWith_method1 ?_ (h1 env) (h2 env)⟩
  refine ha A env own s₁ g₁ φ₁ σ₁ ρ _ cx eo R₁ hQ _ _ _ fun ws s₂ g₂ φ₂ σ₂ vs N₂ R₂ hvs hQ₂ => ?_
  exact hf A s₂ g₂ φ₂ σ₂ (ov :: vs) (.ref a :: ws) _ cx R₂.ok R₂.sr ⟨_, _, rfl, N₂.vr hv, hvs⟩ hQ₂ _ _ fun w s' g' φ' σ' v N' ok' S' hv hQ => k _ _ _ _ _ v ((N₁.trans N₂).trans N') (R₂.step N' ok' S') hv hQ

/-- replace, with written signs -/
theorem Ev.replace {o : Expr} {a b : Str} {k₁ k₂ : Nat} {p₁ p₂ apos pos : Pos} {Wo : WE} {c : Nat} {z : List Nat} (ho : Ev G ℓ sc o Wo) (hty : typeOf (.builtin "str.replace") = pure (.type "method_descriptor"))
    (ha : a = S [c]) (hb : b = S z) (hz : z.length ≤ 1) (hne : z ≠ [c])
    (h0 : ∀ env, attributeBase o (Str.ofString "replace") env (eval o env) = eval o env := by intro _; rfl)
    (h5 : (apos.endLine == pos.line) = true := by rfl) :
    Ev G ℓ sc (.Call (.Attribute o (Str.ofString "replace") apos) [.Constant (.str a) k₁ p₁, .Constant (.str b) k₂ p₂] [] pos) fun Q ρ σ => Wo (fun ov σ₁ => ∃ x, ov = .str x ∧ (L x).length ≤ 2 ^ 20 ∧ Q (.str (S (repl c z (L x)))) σ₁) ρ σ := by
  intro A env own s g φ σ ρ Q cx eo R hW K E k
  subst ha hb
  refine wpAny_Call_method (h0 env) rfl h5 F.plainAttrs_str F.slot_str_replace hty ?_
  refine ho A env own s g φ σ ρ _ cx eo R hW _ _ fun w s₁ g₁ φ₁ σ₁ ov N₁ R₁ hv hQ => ?_
  obtain ⟨x, rfl, hsz, hQ⟩ := hQ
  have hv' := hv
  obtain ⟨t, rfl⟩ := hv'
  have ht := R₁.ok.toks
  refine ⟨typeIs_str _ _ _, fun a e => (by cases e), callWith_method1 ?_ rfl rfl⟩
  show wpAny _ A (spliced [(false, eval (.Constant (.str (S [c])) k₁ p₁) env), (false, eval (.Constant (.str (S z)) k₂ p₂) env)]) _ E s₁
  show wpAny _ A (do let v ← eval (.Constant (.str (S [c])) k₁ p₁) env; return [v] ++ (← holding [v] (spliced [(false, eval (.Constant (.str (S z)) k₂ p₂) env)]))) _ E s₁
  refine wpAny_bind (wpAny_Constant_str (wpAny_bind (wpAny_holding ?_)))
  show wpAny _ A (do let v ← eval (.Constant (.str (S z)) k₂ p₂) env; return [v] ++ (← holding [v] (spliced []))) _ E _
  refine wpAny_bind (wpAny_Constant_str (wpAny_bind (wpAny_holding (wpAny_pure (wpAny_pure (wpAny_pure ?_))))))
  dsimp only
  have hl := len_L x
  refine of_toks (by show 1 ≤ s₁.toks + 1 + 1; exact ar225) (SC.replace (Nat.ne_of_gt ht) (Nat.succ_ne_zero _) (Nat.ne_of_lt (Nat.lt_succ_self _)) ?_ ?_ fun t' tk htk => ?_)
  · rw [beq_eq_false_iff_ne]
    intro h
    have := congrArg L h
    rw [L_S, L_S] at this
    exact hne this.symm
  · have : (S z).length ≤ 1 := by rw [← len_L, L_S]; exact hz
    have h3 : (x.length + 1) * (S z).length ≤ (x.length + 1) * 1 := Nat.mul_le_mul_left _ this
    exact ar250 h3 hl hsz
  · rw [txt_replace]
    have N : Nx [] s { s₁ with toks := tk } g g₁ φ φ₁ := ⟨N₁.drawn, N₁.os, N₁.sub, N₁.new, N₁.pre, N₁.oth, N₁.ex⟩
    exact k _ _ _ _ _ (.str _) N (R.step N ⟨htk, R₁.ok.bare⟩ R₁.sr) ⟨_, rfl⟩ hQ
end

end
section
set_option autoImplicit false

section
variable {G : Glb} {ℓ : Nat}

theorem upd_list {h : Heap} {a : Addr} {arr : Array Value} {n : Nat} (ho : h.get? a = some (listObj arr n)) (f : Array Value → Array Value) :
    (∃ n', (h.update a (Obj.mapSeq f)).get? a = some (listObj (f arr) n')) ∧ ∀ b o, b ≠ a → h.get? b = some o → (h.update a (Obj.mapSeq f)).get? b = some o := by
  refine ⟨⟨if (f arr).size == arr.size then n else n + 1, ?_⟩, fun b o q e => (Heap.SameBut.update ..).extBut b o q e⟩
  exact Heap.get?_update_self _ ho rfl

theorem FnOk.extend : FnOk G ℓ (.builtin "list.extend") fun vs Q σ => ∃ (i : Nat) (v : V) (xs ys : List V), vs = [.ref i, v] ∧ σ[i]? = some (.list xs) ∧ aList σ v = some ys ∧ xs.length + ys.length ≤ 2 ^ 20 ∧ Q .none (σ.set i (.list (xs ++ ys))) := by
  intro A s g φ σ vs ws Q cx ok S' hv hW K E k
  obtain ⟨i, v, xs, ys, rfl, hm, hy, hsz, hQ⟩ := hW
  obtain ⟨w, u, rfl, ⟨a, rfl, ha⟩, hv2⟩ := hv.two
  obtain ⟨arr, n, ho, hvs⟩ := S'.mo _ _ _ ha hm
  obtain ⟨b, brr, m, rfl, hob, hus⟩ := aList_obj S' hv2 hy
  have e1 := hvs.length
  have e2 := hus.length
  rw [Array.length_toList] at e1 e2
  have hT : s.TypeIs (.ref a) "list" := ⟨_, ho, rfl⟩
  have sl : sizeLine = 2 ^ 24 := rfl
  refine call_meets F.slot_list_extend hT F.entry_list_extend (F.args_list_extend_2 _ _) (AutoSeq1.list_extend_list_list_0 a arr n b brr m (by
    have : Builtin.List.listTooLong (arr.size + brr.size) = false := by unfold Builtin.List.listTooLong; exact decide_eq_false (by exact ar252 e1 e2 sl hsz)
    rw [this, Bool.and_false]; decide) (by exact ar253 e1 sl hsz) (by exact ar254 e1 e2 sl hsz)) ⟨ho, hob, ?_⟩
  obtain ⟨⟨n', ho'⟩, hk⟩ := upd_list ho fun xs => xs ++ brr
  exact Cont.upd k ok S' (m := .list (xs ++ ys)) (v := .none) ha hk (by rw [ho']; simp) ⟨_, n', ho', by rw [Array.toList_append]; exact hvs.append hus⟩ rfl hQ ok.toks
end

section
variable {G : Glb} {ℓ : Nat} {sc : Scope} {own : List Str}
end

end
section
set_option autoImplicit false

/-! the words, named -/
noncomputable def wVal (v : V) : WE := fun Q _ σ => Q v σ
noncomputable def wBin (op : Operator) (W₁ W₂ : WE) : WE := fun Q ρ σ => W₁ (fun a σ₁ => W₂ (fun b σ₂ => aBin op a b Q σ₂) ρ σ₁) ρ σ
noncomputable def tCmp (op : CmpOp) (W₁ W₂ : WE) : WT := fun Q ρ σ => W₁ (fun a σ₁ => W₂ (fun b σ₂ => aCmp op a b Q σ₂) ρ σ₁) ρ σ
noncomputable def tCmp2 (op op' : CmpOp) (W₁ W₂ W₃ : WE) : WT := fun Q ρ σ => W₁ (fun a σ₁ => W₂ (fun b σ₂ => aCmp op a b (fun t σ₃ => if t = true then W₃ (fun c σ₄ => aCmp op' b c Q σ₄) ρ σ₃ else Q false σ₃) σ₂) ρ σ₁) ρ σ
noncomputable def tOr (Wx Wy : WT) : WT := fun Q ρ σ => Wx (fun b σ' => if b = true then Q true σ' else Wy Q ρ σ') ρ σ
noncomputable def tYes : WT := fun Q _ σ => Q true σ
noncomputable def wItem (W₁ W₂ : WE) : WE := fun Q ρ σ => W₁ (fun a σ₁ => W₂ (fun b σ₂ => ∃ u, aItem σ₂ a b = some u ∧ Q u σ₂) ρ σ₁) ρ σ
noncomputable abbrev WO := (Option Int → Sto → Prop) → Rho → Sto → Prop
noncomputable def oNone : WO := fun Q _ σ => Q none σ
noncomputable def oSome (W : WE) : WO := fun Q ρ σ => W (fun v σ' => ∃ i : Int, v = .int i ∧ 0 ≤ i ∧ Q (some i) σ') ρ σ
noncomputable def wSlice (W : WE) (W₁ W₂ : WO) : WE := fun Q ρ σ => W (fun v σ₁ => W₁ (fun a σ₂ => W₂ (fun b σ₃ => ∃ x, v = .str x ∧ (L x).length ≤ 2 ^ 24 ∧ Q (.str (S (cut (L x) a b))) σ₃) ρ σ₂) ρ σ₁) ρ σ
noncomputable def lNil : WL := fun Q _ σ => Q [] σ
noncomputable def lCons (W : WE) (Ws : WL) : WL := fun Q ρ σ => W (fun v σ' => Ws (fun vs σ'' => Q (v :: vs) σ'') ρ σ') ρ σ
noncomputable def wList (Ws : WL) : WE := fun Q ρ σ => Ws (fun vs σ' => vs.length ≤ 2 ^ 20 ∧ newL Q vs σ') ρ σ
noncomputable def wTup (Ws : WL) : WE := fun Q ρ σ => Ws (fun vs σ' => vs.length ≤ 2 ^ 20 ∧ Q (.tup vs) σ') ρ σ
noncomputable abbrev WF := List V → (V → Sto → Prop) → Sto → Prop
noncomputable def wCall (Wf : WF) (Ws : WL) : WE := fun Q ρ σ => Ws (fun vs σ' => Wf vs Q σ') ρ σ
noncomputable def wMethS (Wo : WE) (Ws : WL) (Wf : WF) : WE := fun Q ρ σ => Wo (fun ov σ₁ => (∃ x, ov = .str x) ∧ Ws (fun vs σ₂ => Wf (ov :: vs) Q σ₂) ρ σ₁) ρ σ
noncomputable def wMethL (Wo : WE) (Ws : WL) (Wf : WF) : WE := fun Q ρ σ => Wo (fun ov σ₁ => (∃ xs, aList σ₁ ov = some xs) ∧ Ws (fun vs σ₂ => Wf (ov :: vs) Q σ₂) ρ σ₁) ρ σ
noncomputable def wRepl (c : Nat) (z : List Nat) (Wo : WE) : WE := fun Q ρ σ => Wo (fun ov σ₁ => ∃ x, ov = .str x ∧ (L x).length ≤ 2 ^ 20 ∧ Q (.str (S (repl c z (L x)))) σ₁) ρ σ
noncomputable def aName (x : Str) : WA := fun v Q ρ σ => Q (upd ρ x v) σ
noncomputable def sNil : WS := fun Q ρ σ => Q .nx ρ σ
noncomputable def wAsg (x : Str) (W : WE) : WS := fun Q ρ σ => W (fun v σ' => Q .nx (upd ρ x v) σ') ρ σ
noncomputable def wAsgT (Wa : WA) (W : WE) : WS := fun Q ρ σ => W (fun v σ' => Wa v (fun ρ' σ'' => Q .nx ρ' σ'') ρ σ') ρ σ
noncomputable def wExpr (W : WE) : WS := fun Q ρ σ => W (fun _ σ' => Q .nx ρ σ') ρ σ
noncomputable def wIte (Wt : WT) (Wb Wc : WS) : WS := fun Q ρ σ => Wt (fun y σ' => if y = true then Wb Q ρ σ' else Wc Q ρ σ') ρ σ
noncomputable def wRet (W : WE) : WS := fun Q ρ σ => W (fun v σ' => Q (.rt v) ρ σ') ρ σ
noncomputable def wBrk : WS := fun Q ρ σ => Q .br ρ σ
section
variable {G : Glb} {ℓ : Nat} {sc : Scope} {own : List Str}

theorem r_int {i : Int} {k : Nat} {pos : Pos} : Ev G ℓ sc (.Constant (.int i) k pos) (wVal (.int i)) := Ev.int
theorem r_str {x : Str} {k : Nat} {pos : Pos} : Ev G ℓ sc (.Constant (.str x) k pos) (wVal (.str x)) := Ev.str
theorem r_bool {b : Bool} {k : Nat} {pos : Pos} : Ev G ℓ sc (.Constant (.bool b) k pos) (wVal (.bool b)) := Ev.bool
theorem r_local {x : Str} {pos : Pos} (hk : sc.names.lookup x = some .local) (hd : (x == ("__debug__" : Str)) = false) : Ev G ℓ sc (.Name x pos) (wName x) := Ev.local hk hd
theorem r_cell {x : Str} {pos : Pos} (hk : sc.names.lookup x = some .cell) (hd : (x == ("__debug__" : Str)) = false) : Ev G ℓ sc (.Name x pos) (wName x) := Ev.cell hk hd
theorem r_glob (O : G.Ok) {x : Str} {pos : Pos} {w : Value} {v : V} (hk : sc.names.lookup x = some .globalImplicit) (hm : G.mg x = some w) (hr : ∀ g φ, VR g φ v w) (hd : (x == ("__debug__" : Str)) = false) :
    Ev G ℓ sc (.Name x pos) (wVal v) := Ev.glob O hk hm hr hd
theorem r_builtin (O : G.Ok) {x : Str} {pos : Pos} {w : Value} (hk : sc.names.lookup x = some .globalImplicit) (hm : G.mg x = Option.none) (hb : G.mb x = some w) (hd : (x == ("__debug__" : Str)) = false) :
    Ev G ℓ sc (.Name x pos) (wVal (.raw w)) := Ev.builtin O hk hm hb hd
theorem r_bin {l r : Expr} {op : Operator} {pos : Pos} {W₁ W₂ : WE} (h₁ : Ev G ℓ sc l W₁) (h₂ : Ev G ℓ sc r W₂) : Ev G ℓ sc (.BinOp l op r pos) (wBin op W₁ W₂) := Ev.bin h₁ h₂
theorem t_cmp {l r : Expr} {op : CmpOp} {pos : Pos} {W₁ W₂ : WE} (h₁ : Ev G ℓ sc l W₁) (h₂ : Ev G ℓ sc r W₂) (hm : behindInMarks op r = false := by rfl) : Tt G ℓ sc (.Compare l [op] [r] pos) (tCmp op W₁ W₂) := Tt.cmp h₁ h₂ hm
theorem t_cmp2 {l m r : Expr} {op op' : CmpOp} {pos : Pos} {W₁ W₂ W₃ : WE} (h₁ : Ev G ℓ sc l W₁) (h₂ : Ev G ℓ sc m W₂) (h₃ : Ev G ℓ sc r W₃) (hm : lastMarks [op, op'] [m, r] = false := by rfl) :
    Tt G ℓ sc (.Compare l [op, op'] [m, r] pos) (tCmp2 op op' W₁ W₂ W₃) := Tt.cmp2 h₁ h₂ h₃ hm
theorem t_or {x y : Expr} {pos : Pos} {Wx Wy : WT} (hx : Tt G ℓ sc x Wx) (hy : Tt G ℓ sc y Wy) : Tt G ℓ sc (.BoolOp .Or [x, y] pos) (tOr Wx Wy) := Tt.or hx hy
theorem r_item {e i : Expr} {pos : Pos} {W₁ W₂ : WE} (h₁ : Ev G ℓ sc e W₁) (h₂ : Ev G ℓ sc i W₂) (hs : ∀ o v : Value, ∃ ops, subscripted i false o v = operate ops (getItem o v) := by intro o v; exact ⟨[o, v], rfl⟩) :
    Ev G ℓ sc (.Subscript e i pos) (wItem W₁ W₂) := Ev.item h₁ h₂ hs
theorem o_none : Evo G ℓ sc none oNone := Evo.none
theorem o_some {e : Expr} {W : WE} (h : Ev G ℓ sc e W) : Evo G ℓ sc (some e) (oSome W) := Evo.some h
theorem r_slice {e : Expr} {lo hi : Option Expr} {p pos : Pos} {W : WE} {W₁ W₂ : WO} (h : Ev G ℓ sc e W) (h₁ : Evo G ℓ sc lo W₁) (h₂ : Evo G ℓ sc hi W₂)
    (hl : ∀ o r : Value, letTemporaryGo e o r = pure () := by intro _ _; rfl) : Ev G ℓ sc (.Subscript e (.Slice lo hi none p) pos) (wSlice W W₁ W₂) := Ev.strSlice h h₁ h₂ hl
theorem l_nil : Evs G ℓ sc [] lNil := Evs.nil
theorem l_cons {e : Expr} {es : List Expr} {W : WE} {Ws : WL} (h : Ev G ℓ sc e W) (hs : Evs G ℓ sc es Ws) (hst : ∀ env, starEach (e :: es) env = (false, eval e env) :: starEach es env := by intro _; rfl) :
    Evs G ℓ sc (e :: es) (lCons W Ws) := Evs.cons h hs hst
theorem r_list {es : List Expr} {pos : Pos} {Ws : WL} (h : Evs G ℓ sc es Ws) : Ev G ℓ sc (.List es pos) (wList Ws) := Ev.list h
theorem r_tuple {es : List Expr} {n : Nat} {pos : Pos} {Ws : WL} (h : Evs G ℓ sc es Ws) : Ev G ℓ sc (.Tuple es n pos) (wTup Ws) := Ev.tuple h
theorem r_call {f : Value} {id : Str} {np pos : Pos} {e : Expr} {rest : List Expr} {W : WF} {Ws : WL} (hn : Ev G ℓ sc (.Name id np) (wVal (.raw f))) (hc : CallOk G f) (hf : FnOk G ℓ f W) (ha : Evs G ℓ sc (e :: rest) Ws)
    (h1 : ∀ env, starEach (e :: rest) env = (false, eval e env) :: starEach rest env := by intro _; rfl) (h2 : ∀ env, (backTo pos (starEach rest env)).any (·.1) = false := by intro _; rfl) :
    Ev G ℓ sc (.Call (.Name id np) (e :: rest) [] pos) (wCall W Ws) := Ev.call hn hc hf ha h1 h2
theorem r_comp {scope : Scope} {t iter elt : Expr} {ifs : List Expr} {pos : Pos} {Wf : WE} {Wa : WA} {Wi : WT} {We : WE} (hf : Ev G ℓ sc iter Wf) (ha : Asg G ℓ (relab scope sc) (ownOf scope) t Wa)
    (hi : Ifs G ℓ (relab scope sc) ifs Wi) (he : Ev G ℓ (relab scope sc) elt We) (hk : scope.kind = .function) (hn : NamesOk scope)
    (hfk : ∀ p ∈ scope.names, p.2 = .free → sc.names.lookup p.1 = some .cell ∨ sc.names.lookup p.1 = some .free)
    (hs : ∀ env x, foldedSetIterable iter env x = pure x := by intro _ _; rfl) : Ev G ℓ sc (.ListComp elt [⟨t, iter, ifs, 0⟩] scope pos) (wComp scope Wf Wa Wi We) := Ev.comp hf ha hi he hk hn hfk hs
theorem i_none : Ifs G ℓ sc [] tYes := Ifs.none
theorem a_name {x : Str} {p : Pos} (hx : canStore sc own x) : Asg G ℓ sc own (.Name x p) (aName x) := Asg.name hx
theorem a_pair {x y : Expr} {k : Nat} {p : Pos} {Wx Wy : WA} (hx : Asg G ℓ sc own x Wx) (hy : Asg G ℓ sc own y Wy) (hs : ∀ env, assignEach [x, y] env = [(false, assign x env), (false, assign y env)] := by intro _; rfl) :
    Asg G ℓ sc own (.Tuple [x, y] k p) (wPair Wx Wy) := Asg.pair hx hy hs
theorem s_nil : Sxs G ℓ sc own [] sNil := Sxs.nil
theorem s_cons {st : Stmt} {rest : List Stmt} {W₁ W₂ : WS} (h₁ : Sx G ℓ sc own st W₁) (h₂ : Sxs G ℓ sc own rest W₂) : Sxs G ℓ sc own (st :: rest) (wSeq W₁ W₂) := Sxs.cons h₁ h₂
theorem s_assign {e : Expr} {W : WE} {x : Str} {p pos : Pos} (h : Ev G ℓ sc e W) (hx : canStore sc own x) (hs : ∀ env, swapsWith e (some (.Name x p)) pos.line env = pure false := by intro _; rfl) :
    Sx G ℓ sc own (.Assign [.Name x p] e pos) (wAsg x W) := Sx.assign h hx hs
theorem s_assignComp {scope : Scope} {t iter elt : Expr} {ifs : List Expr} {x : Str} {p pos spos : Pos} {Wf : WE} {Wa : WA} {Wi : WT} {We : WE} (hf : Ev G ℓ sc iter Wf) (ha : Asg G ℓ (relab scope sc) (ownOf scope) t Wa)
    (hi : Ifs G ℓ (relab scope sc) ifs Wi) (he : Ev G ℓ (relab scope sc) elt We) (hx : canStore sc own x) (hk : scope.kind = .function) (hn : NamesOk scope)
    (hfk : ∀ p ∈ scope.names, p.2 = .free → sc.names.lookup p.1 = some .cell ∨ sc.names.lookup p.1 = some .free)
    (hs : ∀ env x, foldedSetIterable iter env x = pure x := by intro _ _; rfl) :
    Sx G ℓ sc own (.Assign [.Name x p] (.ListComp elt [⟨t, iter, ifs, 0⟩] scope pos) spos) (wAsg x (wComp scope Wf Wa Wi We)) := Sx.assignComp hf ha hi he hx hk hn hfk hs
theorem s_expr {e : Expr} {W : WE} {pos : Pos} (h : Ev G ℓ sc e W) (hk : sc.kind = .function) (hs : ∀ env, swapsWith e none pos.line env = pure false := by intro _; rfl) : Sx G ℓ sc own (.Expr e pos) (wExpr W) :=
  Sx.expr h (fun env he => by unfold interactive; rw [he, hk]; rfl) hs
theorem s_ite {t : Expr} {b c : List Stmt} {pos : Pos} {Wt : WT} {Wb Wc : WS} (ht : Tt G ℓ sc t Wt) (hb : Sxs G ℓ sc own b Wb) (hc : Sxs G ℓ sc own c Wc) : Sx G ℓ sc own (.If t b c pos) (wIte Wt Wb Wc) := Sx.ite ht hb hc
theorem s_ret {e : Expr} {W : WE} {pos : Pos} (h : Ev G ℓ sc e W) : Sx G ℓ sc own (.Return (some e) pos) (wRet W) := Sx.ret h
theorem s_brk {pos : Pos} : Sx G ℓ sc own (.Break pos) wBrk := Sx.brk
theorem s_while {t : Expr} {b : List Stmt} {pos : Pos} {Wt : WT} {Wb : WS} (ht : Tt G ℓ sc t Wt) (hb : Sxs G ℓ sc own b Wb) : Sx G ℓ sc own (.While t b [] pos) (wWhile Wt Wb) := Sx.while ht hb
theorem s_for {t iter : Expr} {b : List Stmt} {pos : Pos} {We : WE} {Wa : WA} {Wb : WS} (he : Ev G ℓ sc iter We) (ha : Asg G ℓ sc own t Wa) (hb : Sxs G ℓ sc own b Wb) (hf : ∀ env x, foldedSetIterable iter env x = pure x := by intro _ _; rfl) :
    Sx G ℓ sc own (.For t iter b [] pos) (wForE We Wa Wb) := Sx.for he ha hb hf
end

/-! steps -/
section
variable {Q : V → Sto → Prop} {T : Bool → Sto → Prop} {QL : List V → Sto → Prop} {QS : Fl → Rho → Sto → Prop} {ρ : Rho} {σ : Sto}
theorem upd_same (ρ : Rho) (x : Str) (v : V) : upd ρ x v x = some v := if_pos rfl
theorem upd_other {ρ : Rho} {x y : Str} {v : V} {u : Option V} (h : y ≠ x) (e : ρ y = u) : upd ρ x v y = u := (if_neg h).trans e
theorem p_val {v : V} (h : Q v σ) : wVal v Q ρ σ := h
theorem p_name {x : Str} {v : V} (e : ρ x = some v) (h : Q v σ) : wName x Q ρ σ := ⟨v, e, h⟩
theorem p_bin {op : Operator} {W₁ W₂ : WE} (h : W₁ (fun a σ₁ => W₂ (fun b σ₂ => aBin op a b Q σ₂) ρ σ₁) ρ σ) : wBin op W₁ W₂ Q ρ σ := h
theorem p_tcmp {op : CmpOp} {W₁ W₂ : WE} (h : W₁ (fun a σ₁ => W₂ (fun b σ₂ => aCmp op a b T σ₂) ρ σ₁) ρ σ) : tCmp op W₁ W₂ T ρ σ := h
theorem p_tcmp2 {op op' : CmpOp} {W₁ W₂ W₃ : WE} (h : W₁ (fun a σ₁ => W₂ (fun b σ₂ => aCmp op a b (fun t σ₃ => if t = true then W₃ (fun c σ₄ => aCmp op' b c T σ₄) ρ σ₃ else T false σ₃) σ₂) ρ σ₁) ρ σ) : tCmp2 op op' W₁ W₂ W₃ T ρ σ := h
theorem p_tor {Wx Wy : WT} (h : Wx (fun b σ' => if b = true then T true σ' else Wy T ρ σ') ρ σ) : tOr Wx Wy T ρ σ := h
theorem p_tyes (h : T true σ) : tYes T ρ σ := h
theorem p_item {W₁ W₂ : WE} (h : W₁ (fun a σ₁ => W₂ (fun b σ₂ => ∃ u, aItem σ₂ a b = some u ∧ Q u σ₂) ρ σ₁) ρ σ) : wItem W₁ W₂ Q ρ σ := h
theorem p_onone {QO : Option Int → Sto → Prop} (h : QO none σ) : oNone QO ρ σ := h
theorem p_osome {QO : Option Int → Sto → Prop} {W : WE} (h : W (fun v σ' => ∃ i : Int, v = .int i ∧ 0 ≤ i ∧ QO (some i) σ') ρ σ) : oSome W QO ρ σ := h
theorem p_slice {W : WE} {W₁ W₂ : WO} (h : W (fun v σ₁ => W₁ (fun a σ₂ => W₂ (fun b σ₃ => ∃ x, v = .str x ∧ (L x).length ≤ 2 ^ 24 ∧ Q (.str (S (cut (L x) a b))) σ₃) ρ σ₂) ρ σ₁) ρ σ) : wSlice W W₁ W₂ Q ρ σ := h
theorem p_lnil (h : QL [] σ) : lNil QL ρ σ := h
theorem p_lcons {W : WE} {Ws : WL} (h : W (fun v σ' => Ws (fun vs σ'' => QL (v :: vs) σ'') ρ σ') ρ σ) : lCons W Ws QL ρ σ := h
theorem p_list {Ws : WL} (h : Ws (fun vs σ' => vs.length ≤ 2 ^ 20 ∧ newL Q vs σ') ρ σ) : wList Ws Q ρ σ := h
theorem p_tup {Ws : WL} (h : Ws (fun vs σ' => vs.length ≤ 2 ^ 20 ∧ Q (.tup vs) σ') ρ σ) : wTup Ws Q ρ σ := h
theorem p_call {Wf : WF} {Ws : WL} (h : Ws (fun vs σ' => Wf vs Q σ') ρ σ) : wCall Wf Ws Q ρ σ := h
theorem p_methS {Wo : WE} {Ws : WL} {Wf : WF} (h : Wo (fun ov σ₁ => (∃ x, ov = .str x) ∧ Ws (fun vs σ₂ => Wf (ov :: vs) Q σ₂) ρ σ₁) ρ σ) : wMethS Wo Ws Wf Q ρ σ := h
theorem p_methL {Wo : WE} {Ws : WL} {Wf : WF} (h : Wo (fun ov σ₁ => (∃ xs, aList σ₁ ov = some xs) ∧ Ws (fun vs σ₂ => Wf (ov :: vs) Q σ₂) ρ σ₁) ρ σ) : wMethL Wo Ws Wf Q ρ σ := h
theorem p_repl {c : Nat} {z : List Nat} {Wo : WE} (h : Wo (fun ov σ₁ => ∃ x, ov = .str x ∧ (L x).length ≤ 2 ^ 20 ∧ Q (.str (S (repl c z (L x)))) σ₁) ρ σ) : wRepl c z Wo Q ρ σ := h
theorem p_aname {x : Str} {v : V} {QA : Rho → Sto → Prop} (h : QA (upd ρ x v) σ) : aName x v QA ρ σ := h
theorem p_apair {Wa Wb : WA} {a b : V} {QA : Rho → Sto → Prop} (h : Wa a (fun ρ' σ' => Wb b QA ρ' σ') ρ σ) : wPair Wa Wb (.tup [a, b]) QA ρ σ := ⟨a, b, rfl, h⟩
theorem p_snil (h : QS .nx ρ σ) : sNil QS ρ σ := h
/-- what stands behind a statement -/
noncomputable def seqK (W : WS) (Q : Fl → Rho → Sto → Prop) : Fl → Rho → Sto → Prop := fun fl ρ σ => match fl with | .nx => W Q ρ σ | .br => Q .br ρ σ | .ct => Q .ct ρ σ | .rt v => Q (.rt v) ρ σ
theorem p_seq {W₁ W₂ : WS} (h : W₁ (seqK W₂ QS) ρ σ) : wSeq W₁ W₂ QS ρ σ := by
  show W₁ _ ρ σ
  exact h
theorem p_knx {W : WS} (h : W QS ρ σ) : seqK W QS .nx ρ σ := h
theorem p_kbr {W : WS} (h : QS .br ρ σ) : seqK W QS .br ρ σ := h
theorem p_krt {W : WS} {v : V} (h : QS (.rt v) ρ σ) : seqK W QS (.rt v) ρ σ := h
theorem p_asg {x : Str} {W : WE} (h : W (fun v σ' => QS .nx (upd ρ x v) σ') ρ σ) : wAsg x W QS ρ σ := h
theorem p_asgT {Wa : WA} {W : WE} (h : W (fun v σ' => Wa v (fun ρ' σ'' => QS .nx ρ' σ'') ρ σ') ρ σ) : wAsgT Wa W QS ρ σ := h
theorem p_expr {W : WE} (h : W (fun _ σ' => QS .nx ρ σ') ρ σ) : wExpr W QS ρ σ := h
theorem p_ite {Wt : WT} {Wb Wc : WS} (h : Wt (fun y σ' => if y = true then Wb QS ρ σ' else Wc QS ρ σ') ρ σ) : wIte Wt Wb Wc QS ρ σ := h
theorem p_ret {W : WE} (h : W (fun v σ' => QS (.rt v) ρ σ') ρ σ) : wRet W QS ρ σ := h
theorem p_brk (h : QS .br ρ σ) : wBrk QS ρ σ := h
theorem p_retK {v : V} (h : Q v σ) : retK Q (.rt v) ρ σ := h
theorem p_retN (h : Q .none σ) : retK Q .nx ρ σ := h
theorem p_forE {We : WE} {Wa : WA} {Wb : WS} (h : We (fun v σ' => ∃ xs, aItems σ' v = some xs ∧ wFor (aGd v xs) Wa Wb xs QS ρ σ') ρ σ) : wForE We Wa Wb QS ρ σ := h
theorem p_frozen {ys : List V} (h : Q (.list ys) σ) : newL Q ys σ := .inl h
theorem p_mut {ys : List V} (h : Q (.ref σ.length) (σ ++ [.list ys])) : newL Q ys σ := .inr h
theorem p_comp {scope : Scope} {Wf : WE} {Wa : WA} {Wi : WT} {We : WE} (hb : FreeBound scope ρ) (h : Wf (fun v σ' => ∃ xs, aItems σ' v = some xs ∧ xs.length ≤ 2 ^ 20 ∧ wCompL (aGd v xs) Wa Wi We xs [] (newL Q) (innerRho scope ρ) σ') ρ σ) :
    wComp scope Wf Wa Wi We Q ρ σ := ⟨hb, h⟩
theorem FnOk.mono {G : Glb} {ℓ : Nat} {f : Value} {W W' : WF} (h : FnOk G ℓ f W) (hW : ∀ vs Q σ, W' vs Q σ → W vs Q σ) : FnOk G ℓ f W' :=
  fun A s g φ σ vs ws Q cx ok S hv hw => h A s g φ σ vs ws Q cx ok S hv (hW vs Q σ hw)
end

end
section
set_option autoImplicit false
section
variable {G : Glb} {ℓ : Nat} {sc : Scope} {own : List Str}
theorem r_methS {name : Str} {id : String} (hs : Slot "str" name id) (hty : typeOf (.builtin id) = pure (.type "method_descriptor")) {o e : Expr} {rest : List Expr} {apos pos : Pos} {Wo : WE} {Ws : WL} {Wf : WF}
    (hf : FnOk G ℓ (.builtin id) Wf) (ho : Ev G ℓ sc o Wo) (ha : Evs G ℓ sc (e :: rest) Ws)
    (h0 : ∀ env, attributeBase o name env (eval o env) = eval o env := by intro _; rfl)
    (h1 : ∀ env, starEach (e :: rest) env = (false, eval e env) :: starEach rest env := by intro _; rfl) (h2 : ∀ env, (backTo pos (starEach rest env)).any (·.1) = false := by intro _; rfl)
    (h3 : ∀ env, (((backTo pos (starEach (e :: rest) env)).all fun x => !x.1) && (backToKw pos (keywordEach [] env)).all fun x => x.1.isSome) = true := by intro _; rfl)
    (h4 : decide ((e :: rest).length + ([] : List Keyword).length + (if ([] : List Keyword).isEmpty = true then 0 else 1) < 30) = true := by rfl)
    (h5 : (apos.endLine == pos.line) = true := by rfl) : Ev G ℓ sc (.Call (.Attribute o name apos) (e :: rest) [] pos) (wMethS Wo Ws Wf) := Ev.methS hs hty ho ha hf h0 h1 h2 h3 h4 h5
theorem r_methL {name : Str} {id : String} (hs : Slot "list" name id) (hty : typeOf (.builtin id) = pure (.type "method_descriptor")) {o e : Expr} {rest : List Expr} {apos pos : Pos} {Wo : WE} {Ws : WL} {Wf : WF}
    (hf : FnOk G ℓ (.builtin id) Wf) (ho : Ev G ℓ sc o Wo) (ha : Evs G ℓ sc (e :: rest) Ws)
    (h0 : ∀ env, attributeBase o name env (eval o env) = eval o env := by intro _; rfl)
    (h1 : ∀ env, starEach (e :: rest) env = (false, eval e env) :: starEach rest env := by intro _; rfl) (h2 : ∀ env, (backTo pos (starEach rest env)).any (·.1) = false := by intro _; rfl)
    (h3 : ∀ env, (((backTo pos (starEach (e :: rest) env)).all fun x => !x.1) && (backToKw pos (keywordEach [] env)).all fun x => x.1.isSome) = true := by intro _; rfl)
    (h4 : decide ((e :: rest).length + ([] : List Keyword).length + (if ([] : List Keyword).isEmpty = true then 0 else 1) < 30) = true := by rfl)
    (h5 : (apos.endLine == pos.line) = true := by rfl) : Ev G ℓ sc (.Call (.Attribute o name apos) (e :: rest) [] pos) (wMethL Wo Ws Wf) := Ev.methL hs hty ho ha hf h0 h1 h2 h3 h4 h5
theorem ty_replace : typeOf (.builtin "str.replace") = pure (.type "method_descriptor") := F.type_str_replace
theorem r_repl {o : Expr} {a b : Str} {k₁ k₂ : Nat} {p₁ p₂ apos pos : Pos} {Wo : WE} {c : Nat} {z : List Nat} (ha : a = S [c]) (hb : b = S z) (hz : z.length ≤ 1) (hne : z ≠ [c]) (ho : Ev G ℓ sc o Wo)
    (h0 : ∀ env, attributeBase o (Str.ofString "replace") env (eval o env) = eval o env)
    (h5 : (apos.endLine == pos.line) = true) :
    Ev G ℓ sc (.Call (.Attribute o (Str.ofString "replace") apos) [.Constant (.str a) k₁ p₁, .Constant (.str b) k₂ p₂] [] pos) (wRepl c z Wo) := Ev.replace ho ty_replace ha hb hz hne h0 h5

theorem s_assignT {t value : Expr} {pos : Pos} {W : WE} {Wa : WA} (h : Ev G ℓ sc value W) (ha : Asg G ℓ sc own t Wa) (h1 : ∀ env, swapsWithSole [t] value pos.line env = pure false := by intro _; rfl)
    (h2 : ∀ env, swappedStores [t] value env = pure none := by intro _; rfl) (h3 : ∀ env, assignEach [t] env = [(false, assign t env)] := by intro _; rfl) : Sx G ℓ sc own (.Assign [t] value pos) (wAsgT Wa W) := by
  intro A env s g φ σ ρ Q cx eo R hW K E k
  refine wpAny_Assign_stores (h A env own s g φ σ ρ _ cx eo R hW _ _ fun w s₁ g₁ φ₁ σ₁ v N R₁ hv hQ => ?_) (h1 env) (h2 env)
  rw [h3]
  show wpAny _ A (PySem.assign t env w) _ E s₁
  exact ha A env s₁ g₁ φ₁ σ₁ ρ v w _ cx eo R₁ hv hQ _ _ fun s₂ g₂ φ₂ σ₂ ρ₂ N₂ R₂ hQ₂ => k _ _ _ _ _ _ .nx (N.fp.trans N₂) R₂ rfl hQ₂
end

end
section
set_option autoImplicit false

section
variable {G : Glb} {ℓ : Nat} {sc : Scope} {own : List Str}
noncomputable def sDead : WS := fun _ _ _ => False
theorem s_dead {st : Stmt} : Sx G ℓ sc own st sDead := by
  intro A env s g φ σ ρ Q cx eo R hW
  exact hW.elim
theorem c_any (O : G.Ok) {f : Value} {id : Str} {np pos : Pos} {e : Expr} {rest : List Expr} {W : WF} {Ws : WL} (hm : G.mg id = none) (hb : G.mb id = some f) (hd : (id == ("__debug__" : Str)) = false) (hc : CallOk G f) (hf : FnOk G ℓ f W)
    (hk : sc.names.lookup id = some .globalImplicit) (ha : Evs G ℓ sc (e :: rest) Ws)
    (h1 : ∀ env, starEach (e :: rest) env = (false, eval e env) :: starEach rest env) (h2 : ∀ env, (backTo pos (starEach rest env)).any (·.1) = false) :
    Ev G ℓ sc (.Call (.Name id np) (e :: rest) [] pos) (wCall W Ws) := r_call (r_builtin O hk hm hb hd) hc hf ha h1 h2
theorem c_own (O : G.Ok) {f : Value} {id : Str} {np pos : Pos} {e : Expr} {rest : List Expr} {W : WF} {Ws : WL} (hm : G.mg id = some f) (hd : (id == ("__debug__" : Str)) = false) (hc : CallOk G f) (hf : FnOk G ℓ f W)
    (hk : sc.names.lookup id = some .globalImplicit) (ha : Evs G ℓ sc (e :: rest) Ws)
    (h1 : ∀ env, starEach (e :: rest) env = (false, eval e env) :: starEach rest env) (h2 : ∀ env, (backTo pos (starEach rest env)).any (·.1) = false) :
    Ev G ℓ sc (.Call (.Name id np) (e :: rest) [] pos) (wCall W Ws) := r_call (r_glob O hk hm (fun _ _ => rfl) hd) hc hf ha h1 h2
end

noncomputable def wLen : WF := fun vs Q σ => ∃ v n, vs = [v] ∧ aLen σ v = some n ∧ n < 2 ^ 62 ∧ Q (.int n) σ
noncomputable def wRange : WF := fun vs Q σ => ∃ n : Nat, vs = [.int n] ∧ Q (.rng n) σ
noncomputable def wJoin : WF := fun vs Q σ => ∃ v ts, vs = [.str (S []), v] ∧ aList σ v = some (List.map V.str ts) ∧ ((ts.map L).flatten).length ≤ 2 ^ 20 ∧ Q (.str (S (ts.map L).flatten)) σ
noncomputable def wCount : WF := fun vs Q σ => ∃ (x : Str) (c : Nat), vs = [.str x, .str (S [c])] ∧ Q (.int ((L x).count c : Nat)) σ
noncomputable def wIndex : WF := fun vs Q σ => ∃ (x y : Str) (i : Nat) (rest : List Nat), vs = [.str x, .str y] ∧ Builtin.Str.occurrences x y 0 x.length 1 = i :: rest ∧ Q (.int (i : Nat)) σ
noncomputable def wAppend : WF := fun vs Q σ => ∃ (i : Nat) (v : V) (xs : List V), vs = [.ref i, v] ∧ σ[i]? = some (.list xs) ∧ xs.length ≤ 2 ^ 20 ∧ Q .none (σ.set i (.list (xs ++ [v])))
noncomputable def wExtend : WF := fun vs Q σ => ∃ (i : Nat) (v : V) (xs ys : List V), vs = [.ref i, v] ∧ σ[i]? = some (.list xs) ∧ aList σ v = some ys ∧ xs.length + ys.length ≤ 2 ^ 20 ∧ Q .none (σ.set i (.list (xs ++ ys)))

section
variable {Q : V → Sto → Prop} {T : Bool → Sto → Prop} {ρ : Rho} {σ : Sto}
theorem p_addi {a b : Int} (h : Q (.int (a + b)) σ) : aBin .Add (.int a) (.int b) Q σ := BinR.addi h
theorem p_subi {a b : Int} (h : Q (.int (a - b)) σ) : aBin .Sub (.int a) (.int b) Q σ := BinR.subi h
theorem p_muli {a b : Int} (h0 : b.natAbs ≤ 2 ^ 20) (h : Q (.int (a * b)) σ) : aBin .Mult (.int a) (.int b) Q σ := BinR.muli h0 h
theorem p_divi {a b : Int} (h1 : 1 ≤ b) (h2 : b ≤ 2 ^ 20) (h : Q (.int (a / b)) σ) : aBin .FloorDiv (.int a) (.int b) Q σ := BinR.divi h1 h2 h
theorem p_modi {a b : Int} (h1 : 1 ≤ b) (h : Q (.int (a % b)) σ) : aBin .Mod (.int a) (.int b) Q σ := BinR.modi h1 h
theorem p_adds {x y : Str} (h1 : (L x).length + (L y).length ≤ 2 ^ 24) (h : Q (.str (S (L x ++ L y))) σ) : aBin .Add (.str x) (.str y) Q σ := BinR.adds h1 h
theorem p_muls {x : Str} {n : Int} (h1 : 0 ≤ n) (h2 : (L x).length ≤ 2 ^ 10) (h3 : n ≤ 2 ^ 10) (h : Q (.str (S (List.replicate n.toNat (L x)).flatten)) σ) : aBin .Mult (.str x) (.int n) Q σ := BinR.muls h1 h2 h3 h
theorem p_eqi {a b : Int} (h : T (decide (a = b)) σ) : aCmp .Eq (.int a) (.int b) T σ := CmpR.eqi h
theorem p_nei {a b : Int} (h : T (decide (a ≠ b)) σ) : aCmp .NotEq (.int a) (.int b) T σ := CmpR.nei h
theorem p_lti {a b : Int} (h : T (decide (a < b)) σ) : aCmp .Lt (.int a) (.int b) T σ := CmpR.lti h
theorem p_gti {a b : Int} (h : T (decide (a > b)) σ) : aCmp .Gt (.int a) (.int b) T σ := CmpR.gti h
theorem p_gei {a b : Int} (h : T (decide (a ≥ b)) σ) : aCmp .GtE (.int a) (.int b) T σ := CmpR.gei h
theorem p_eqs {a b : Str} (h : T (decide (L a = L b)) σ) : aCmp .Eq (.str a) (.str b) T σ := CmpR.eqs h
theorem p_nes {a b : Str} (h : T (decide (L a ≠ L b)) σ) : aCmp .NotEq (.str a) (.str b) T σ := CmpR.nes h
theorem p_lts {a b : Str} (h : T (decide (L a < L b)) σ) : aCmp .Lt (.str a) (.str b) T σ := CmpR.lts h
theorem p_les {a b : Str} (h : T (!decide (L b < L a)) σ) : aCmp .LtE (.str a) (.str b) T σ := CmpR.les h
theorem p_ift {c : Bool} {X Y : Prop} (hc : c = true) (h : X) : if c = true then X else Y := by rw [if_pos hc]; exact h
theorem p_iff {c : Bool} {X Y : Prop} (hc : c = false) (h : Y) : if c = true then X else Y := by rw [if_neg (by rw [hc]; simp)]; exact h
theorem p_len {x : Str} (h0 : (L x).length < 2 ^ 62) (h : Q (.int (L x).length) σ) : wLen [.str x] Q σ := ⟨_, _, rfl, rfl, h0, h⟩
end

/-- the reading of a reply's name -/
noncomputable def parseB : List Nat → List Nat
  | [] => []
  | 34 :: 34 :: r => 34 :: parseB r
  | 34 :: _ => []
  | c :: r => c :: parseB r
noncomputable def wParse : WF := fun vs Q σ => ∃ x, vs = [.str x] ∧ (L x).take 3 = [50, 53, 55] ∧ (L x).length ≤ 2 ^ 20 ∧ Q (.str (S (if ((L x).drop 3).take 2 = [32, 34] then parseB ((L x).drop 5) else []))) σ
theorem parseB_q (r : List Nat) : parseB (34 :: 34 :: r) = 34 :: parseB r := by rw [parseB]
theorem parseB_e (r : List Nat) (h : r.head? ≠ some 34) : parseB (34 :: r) = [] := by
  cases r with
  | nil => rfl
  | cons c r => rw [parseB]; intro r' e; injection e with e1 e2; exact h (by rw [e1]; rfl)
theorem parseB_c (c : Nat) (r : List Nat) (h : c ≠ 34) : parseB (c :: r) = c :: parseB r := by
  rw [parseB]
  · intro r' e; exact absurd e h
  · intro e; exact absurd e h

section
variable {G : Glb} {ℓ : Nat} {sc : Scope} {o e : Expr} {rest : List Expr} {apos pos : Pos} {Wo : WE} {Ws : WL}
theorem m_join (ho : Ev G ℓ sc o Wo) (ha : Evs G ℓ sc (e :: rest) Ws)
    (h0 : ∀ env, attributeBase o (Str.ofString "join") env (eval o env) = eval o env) (h1 : ∀ env, starEach (e :: rest) env = (false, eval e env) :: starEach rest env) (h2 : ∀ env, (backTo pos (starEach rest env)).any (·.1) = false)
    (h3 : ∀ env, (((backTo pos (starEach (e :: rest) env)).all fun x => !x.1) && (backToKw pos (keywordEach [] env)).all fun x => x.1.isSome) = true)
    (h4 : decide ((e :: rest).length + ([] : List Keyword).length + (if ([] : List Keyword).isEmpty = true then 0 else 1) < 30) = true) (h5 : (apos.endLine == pos.line) = true) :
    Ev G ℓ sc (.Call (.Attribute o (Str.ofString "join") apos) (e :: rest) [] pos) (wMethS Wo Ws wJoin) := r_methS F.slot_str_join (by first | exact F.type_str_join | exact type_str_join) FnOk.join ho ha h0 h1 h2 h3 h4 h5
theorem m_count (ho : Ev G ℓ sc o Wo) (ha : Evs G ℓ sc (e :: rest) Ws)
    (h0 : ∀ env, attributeBase o (Str.ofString "count") env (eval o env) = eval o env) (h1 : ∀ env, starEach (e :: rest) env = (false, eval e env) :: starEach rest env) (h2 : ∀ env, (backTo pos (starEach rest env)).any (·.1) = false)
    (h3 : ∀ env, (((backTo pos (starEach (e :: rest) env)).all fun x => !x.1) && (backToKw pos (keywordEach [] env)).all fun x => x.1.isSome) = true)
    (h4 : decide ((e :: rest).length + ([] : List Keyword).length + (if ([] : List Keyword).isEmpty = true then 0 else 1) < 30) = true) (h5 : (apos.endLine == pos.line) = true) :
    Ev G ℓ sc (.Call (.Attribute o (Str.ofString "count") apos) (e :: rest) [] pos) (wMethS Wo Ws wCount) := r_methS F.slot_str_count (by first | exact F.type_str_count | exact type_str_count) FnOk.count ho ha h0 h1 h2 h3 h4 h5
theorem m_index (ho : Ev G ℓ sc o Wo) (ha : Evs G ℓ sc (e :: rest) Ws)
    (h0 : ∀ env, attributeBase o (Str.ofString "index") env (eval o env) = eval o env) (h1 : ∀ env, starEach (e :: rest) env = (false, eval e env) :: starEach rest env) (h2 : ∀ env, (backTo pos (starEach rest env)).any (·.1) = false)
    (h3 : ∀ env, (((backTo pos (starEach (e :: rest) env)).all fun x => !x.1) && (backToKw pos (keywordEach [] env)).all fun x => x.1.isSome) = true)
    (h4 : decide ((e :: rest).length + ([] : List Keyword).length + (if ([] : List Keyword).isEmpty = true then 0 else 1) < 30) = true) (h5 : (apos.endLine == pos.line) = true) :
    Ev G ℓ sc (.Call (.Attribute o (Str.ofString "index") apos) (e :: rest) [] pos) (wMethS Wo Ws wIndex) := r_methS F.slot_str_index (by first | exact F.type_str_index | exact type_str_index) FnOk.index ho ha h0 h1 h2 h3 h4 h5
theorem m_append (ho : Ev G ℓ sc o Wo) (ha : Evs G ℓ sc (e :: rest) Ws)
    (h0 : ∀ env, attributeBase o (Str.ofString "append") env (eval o env) = eval o env) (h1 : ∀ env, starEach (e :: rest) env = (false, eval e env) :: starEach rest env) (h2 : ∀ env, (backTo pos (starEach rest env)).any (·.1) = false)
    (h3 : ∀ env, (((backTo pos (starEach (e :: rest) env)).all fun x => !x.1) && (backToKw pos (keywordEach [] env)).all fun x => x.1.isSome) = true)
    (h4 : decide ((e :: rest).length + ([] : List Keyword).length + (if ([] : List Keyword).isEmpty = true then 0 else 1) < 30) = true) (h5 : (apos.endLine == pos.line) = true) :
    Ev G ℓ sc (.Call (.Attribute o (Str.ofString "append") apos) (e :: rest) [] pos) (wMethL Wo Ws wAppend) := r_methL slot_list_append (by first | exact F.type_list_append | exact type_list_append) FnOk.append ho ha h0 h1 h2 h3 h4 h5
theorem m_extend (ho : Ev G ℓ sc o Wo) (ha : Evs G ℓ sc (e :: rest) Ws)
    (h0 : ∀ env, attributeBase o (Str.ofString "extend") env (eval o env) = eval o env) (h1 : ∀ env, starEach (e :: rest) env = (false, eval e env) :: starEach rest env) (h2 : ∀ env, (backTo pos (starEach rest env)).any (·.1) = false)
    (h3 : ∀ env, (((backTo pos (starEach (e :: rest) env)).all fun x => !x.1) && (backToKw pos (keywordEach [] env)).all fun x => x.1.isSome) = true)
    (h4 : decide ((e :: rest).length + ([] : List Keyword).length + (if ([] : List Keyword).isEmpty = true then 0 else 1) < 30) = true) (h5 : (apos.endLine == pos.line) = true) :
    Ev G ℓ sc (.Call (.Attribute o (Str.ofString "extend") apos) (e :: rest) [] pos) (wMethL Wo Ws wExtend) := r_methL F.slot_list_extend (by first | exact F.type_list_extend | exact type_list_extend) FnOk.extend ho ha h0 h1 h2 h3 h4 h5
end

section
variable {Q : V → Sto → Prop} {T : Bool → Sto → Prop} {ρ : Rho} {σ : Sto}
theorem p_oint {i : Int} {X : Int → Prop} (h0 : 0 ≤ i) (h : X i) : ∃ j : Int, V.int i = V.int j ∧ 0 ≤ j ∧ X j := ⟨i, rfl, h0, h⟩
theorem p_sstr {x : Str} {X : Str → Prop} (h0 : (L x).length ≤ 2 ^ 24) (h : X x) : ∃ y : Str, V.str x = V.str y ∧ (L y).length ≤ 2 ^ 24 ∧ X y := ⟨x, rfl, h0, h⟩
theorem p_rstr {x : Str} {X : Str → Prop} (h0 : (L x).length ≤ 2 ^ 20) (h : X x) : ∃ y : Str, V.str x = V.str y ∧ (L y).length ≤ 2 ^ 20 ∧ X y := ⟨x, rfl, h0, h⟩
theorem p_isstr {x : Str} {X : Prop} (h : X) : (∃ y, V.str x = V.str y) ∧ X := ⟨⟨x, rfl⟩, h⟩
end

section
variable {QS : Fl → Rho → Sto → Prop} {ρ : Rho} {σ : Sto}
noncomputable def whK (I : Nat → Rho → Sto → Prop) (m : Nat) (Q : Fl → Rho → Sto → Prop) : Fl → Rho → Sto → Prop := fun fl ρ σ => match fl with | .nx | .ct => ∃ k, k < m ∧ I k ρ σ | .br => Q .nx ρ σ | .rt v => Q (.rt v) ρ σ
theorem p_while {Wt : WT} {Wb : WS} (I : Nat → Rho → Sto → Prop) (n : Nat) (h0 : I n ρ σ) (h : ∀ m ρ σ, I m ρ σ → Wt (fun y σ' => if y = true then Wb (whK I m QS) ρ σ' else QS .nx ρ σ') ρ σ) : wWhile Wt Wb QS ρ σ := ⟨I, n, h0, h⟩
theorem p_whnx {I : Nat → Rho → Sto → Prop} {m : Nat} (k : Nat) (hk : k < m) (h : I k ρ σ) : whK I m QS .nx ρ σ := ⟨k, hk, h⟩
theorem p_whbr {I : Nat → Rho → Sto → Prop} {m : Nat} (h : QS .nx ρ σ) : whK I m QS .br ρ σ := h
end

end
section
set_option autoImplicit false
set_option maxRecDepth 100000
noncomputable def P0 : Params := { strHash := fun _ => 0, shareClass := fun _ => 0, mergeTok := id, idOf := fun _ => 0, idOfShared := fun _ _ => 0, followText := fun _ => false, idOfImm := fun _ => 0 }
noncomputable def fdOf (K : Frag) (a : Addr) : FuncData := match K.lookup a with | some o => (match o.data with | .func f => f | _ => default) | none => default
noncomputable def bodyOf (f : FuncData) : List Stmt := match f.body with | .stmts b => b | _ => []
noncomputable def biT : List (Str × Value) := [("len", .builtin "len"), ("range", .type "range"), ("min", .builtin "min"), ("max", .builtin "max"), ("abs", .builtin "abs"), ("sum", .builtin "sum"), ("str", .type "str"), ("list", .type "list"), ("sorted", .builtin "sorted"), ("super", .type "super")]
noncomputable def fd (a : Addr) : FuncData := fdOf (hd2.heap_39 P0) a
noncomputable def bd (a : Addr) : List Stmt := bodyOf (fd a)
/-- what the top is -/
structure TopG (G : Glb) (P : Params) : Prop where
  O : G.Ok
  K : ∀ a o, (hd2.heap_39 P).lookup a = some o → G.base a = some o
  mg : ∀ x, G.mg x = (match (hd2.heap_39 P).lookup 3 with | some o => (match o.data with | .dict es _ => nsFind es x | _ => none) | none => none)
  mb : ∀ x v, biT.lookup x = some v → G.mb x = some v
section
variable {G : Glb} {P : Params} {ℓ : Nat} {sc : Scope} {np pos apos : Pos} {e o : Expr} {rest : List Expr} {Ws : WL} {Wo : WE}
theorem c_len (T : TopG G P) (hk : sc.names.lookup (Str.ofString "len") = some .globalImplicit) (ha : Evs G ℓ sc (e :: rest) Ws)
    (h1 : ∀ env, starEach (e :: rest) env = (false, eval e env) :: starEach rest env) (h2 : ∀ env, (backTo pos (starEach rest env)).any (·.1) = false) :
    Ev G ℓ sc (.Call (.Name (Str.ofString "len") np) (e :: rest) [] pos) (wCall wLen Ws) := c_any T.O (by rw [T.mg]; rfl) (T.mb _ _ (by decide +kernel)) (by decide +kernel) CallOk.builtin FnOk.len hk ha h1 h2
theorem c_range (T : TopG G P) (hk : sc.names.lookup (Str.ofString "range") = some .globalImplicit) (ha : Evs G ℓ sc (e :: rest) Ws)
    (h1 : ∀ env, starEach (e :: rest) env = (false, eval e env) :: starEach rest env) (h2 : ∀ env, (backTo pos (starEach rest env)).any (·.1) = false) :
    Ev G ℓ sc (.Call (.Name (Str.ofString "range") np) (e :: rest) [] pos) (wCall wRange Ws) := c_any T.O (by rw [T.mg]; rfl) (T.mb _ _ (by decide +kernel)) (by decide +kernel) CallOk.type FnOk.range hk ha h1 h2
end

end
section
set_option autoImplicit false
section
variable {Gd : Sto → Prop} {Wa : WA} {Wi : WT} {We : WE} {Wb : WS} {σ : Sto}

/-- a comprehension that leaves the store as it is -/
theorem comp_over {α : Type} (f : α → V) (I : Rho → Prop) (F : α → List V) {QL : List V → Sto → Prop} : ∀ (vs : List α) (acc : List V) (ρ : Rho), I ρ → Gd σ →
    (∀ v ∈ vs, ∀ (ρ : Rho) (acc : List V) (K : List V → Rho → Sto → Prop), I ρ → (∀ ρ', I ρ' → K (acc ++ F v) ρ' σ) →
      Wa (f v) (fun ρ' σ' => Wi (fun b σ'' => if b = true then We (fun y σ''' => K (acc ++ [y]) ρ' σ''') ρ' σ'' else K acc ρ' σ'') ρ' σ') ρ σ) →
    QL (acc ++ (vs.map F).flatten) σ → wCompL Gd Wa Wi We (vs.map f) acc QL ρ σ
  | [], acc, ρ, hI, hG, _, h => ⟨hG, by simpa using h⟩
  | v :: vs, acc, ρ, hI, hG, step, h => ⟨hG, step v List.mem_cons_self ρ acc (fun a r s => wCompL Gd Wa Wi We (vs.map f) a QL r s) hI fun ρ' hI' =>
      comp_over f I F vs (acc ++ F v) ρ' hI' hG (fun u hu => step u (List.mem_cons_of_mem _ hu)) (by simpa using h)⟩

/-- a loop, by what holds ahead of each turn -/
theorem for_run {QS : Fl → Rho → Sto → Prop} (xs : List V) (J : Nat → Rho → Sto → Prop) (hG : ∀ i ρ σ, i ≤ xs.length → J i ρ σ → Gd σ)
    (step : ∀ (i : Nat) (v : V) ρ σ, xs[i]? = some v → J i ρ σ → ∀ K : Fl → Rho → Sto → Prop, (∀ ρ' σ', J (i + 1) ρ' σ' → K .nx ρ' σ') → (∀ v ρ' σ', QS (.rt v) ρ' σ' → K (.rt v) ρ' σ') → Wa v (fun ρ' σ' => Wb K ρ' σ') ρ σ)
    (fin : ∀ ρ σ, J xs.length ρ σ → QS .nx ρ σ) : ∀ (n i : Nat) (ρ : Rho) (σ : Sto), i + n = xs.length → J i ρ σ → wFor Gd Wa Wb (xs.drop i) QS ρ σ
  | 0, i, ρ, σ, h, hJ => by
    rw [List.drop_of_length_le (by exact ar272 h)]
    exact ⟨hG i ρ σ (by exact ar273 h) hJ, fin ρ σ (by rw [show xs.length = i by exact ar274 h]; exact hJ)⟩
  | n + 1, i, ρ, σ, h, hJ => by
    have hlt : i < xs.length := by exact ar275 h
    rw [List.drop_eq_getElem_cons hlt]
    exact ⟨hG i ρ σ (by exact ar44 hlt) hJ, step i xs[i] ρ σ (List.getElem?_eq_getElem hlt) hJ _ (fun ρ' σ' h' => for_run xs J hG step fin n (i + 1) ρ' σ' (by exact ar277 h) h') fun v ρ' σ' h' => h'⟩
theorem for_all {QS : Fl → Rho → Sto → Prop} {xs : List V} {ρ : Rho} (J : Nat → Rho → Sto → Prop) (hJ : J 0 ρ σ) (hG : ∀ i ρ σ, i ≤ xs.length → J i ρ σ → Gd σ)
    (fin : ∀ ρ σ, J xs.length ρ σ → QS .nx ρ σ)
    (step : ∀ (i : Nat) (v : V) ρ σ, xs[i]? = some v → J i ρ σ → ∀ K : Fl → Rho → Sto → Prop, (∀ ρ' σ', J (i + 1) ρ' σ' → K .nx ρ' σ') → (∀ v ρ' σ', QS (.rt v) ρ' σ' → K (.rt v) ρ' σ') → Wa v (fun ρ' σ' => Wb K ρ' σ') ρ σ) :
    wFor Gd Wa Wb xs QS ρ σ := for_run xs J hG step fin xs.length 0 ρ σ (by exact ar279) hJ
end
section
variable {G : Glb} {ℓ : Nat} {sc : Scope}
end
theorem p_tt {X Y : Prop} (h : X) : if true = true then X else Y := by rw [if_pos rfl]; exact h
theorem p_ff {X Y : Prop} (h : Y) : if false = true then X else Y := by rw [if_neg (by simp)]; exact h
theorem inner_free {scope : Scope} {ρ : Rho} {x : Str} {u : Option V} (h : scope.names.lookup x = some .free) (e : ρ x = u) : innerRho scope ρ x = u := by unfold innerRho; rw [if_pos h]; exact e
theorem fb_nil {ρ : Rho} : ∀ p ∈ ([] : List (Str × NameKind)), p.2 = .free → ∃ v, ρ p.1 = some v := fun _ h => by cases h
theorem fb_skip {ρ : Rho} {x : Str} {k : NameKind} {r : List (Str × NameKind)} (hk : k ≠ .free) (h : ∀ p ∈ r, p.2 = .free → ∃ v, ρ p.1 = some v) : ∀ p ∈ (x, k) :: r, p.2 = .free → ∃ v, ρ p.1 = some v := fun p hp hf => by
  rcases List.mem_cons.mp hp with q | q
  · rw [q] at hf; exact absurd hf hk
  · exact h p q hf
theorem fb_take {ρ : Rho} {x : Str} {r : List (Str × NameKind)} (e : ∃ v, ρ x = some v) (h : ∀ p ∈ r, p.2 = .free → ∃ v, ρ p.1 = some v) : ∀ p ∈ (x, NameKind.free) :: r, p.2 = .free → ∃ v, ρ p.1 = some v := fun p hp hf => by
  rcases List.mem_cons.mp hp with q | q
  · rw [q]; exact e
  · exact h p q hf

end
section
set_option autoImplicit false
theorem cs_l {sc : Scope} {own : List Str} {x : Str} (h : sc.names.lookup x = some .local) : canStore sc own x := .inl h
theorem cs_r {sc : Scope} {own : List Str} {x : Str} (h : sc.names.lookup x = some .cell) (h' : x ∈ own) : canStore sc own x := .inr ⟨h, h'⟩
theorem len2 {α : Type} {l : List α} (h : l.length = 2) : ∃ a b, l = [a, b] := by
  cases l with
  | nil => cases h
  | cons a r => obtain ⟨b, rfl⟩ := List.length_eq_one_iff.mp (Nat.succ.inj h); exact ⟨a, b, rfl⟩
theorem len3 {α : Type} {l : List α} (h : l.length = 3) : ∃ a b c, l = [a, b, c] := by
  cases l with
  | nil => cases h
  | cons a r => obtain ⟨b, c, rfl⟩ := len2 (Nat.succ.inj h); exact ⟨a, b, c, rfl⟩
/-- a step's short word -/
def mkCode (c : String) : Lean.MacroM (Lean.TSyntax `tactic) :=
  if c == "R" then `(tactic| exact rfl) else if c == "R1" then `(tactic| exact fun _ => rfl) else if c == "R2" then `(tactic| exact fun _ _ => rfl)
  else if c == "D" then `(tactic| decide +kernel) else if c == "D0" then `(tactic| decide) else if c == "A" then `(tactic| with_reducible assumption)
  else if c == "T" then `(tactic| exact fun o v => ⟨[o, v], rfl⟩) else `(tactic| walk_at $(Lean.Syntax.mkStrLit c))
def mkId (s : String) : Lean.TSyntax `term := Lean.mkIdent (`Mine ++ s.toName)
/-- one way: a lemma's name and the short words of what it leaves -/
def mkAlt (s : String) : Lean.MacroM (Lean.TSyntax `tactic) := do
  let ws := s.splitOn " "
  let h := ws.headD ""
  let r := (h.drop 1).toString
  let first ← if h.startsWith "!" then `(tactic| with_reducible exact $(mkId r)) else if h.startsWith "?" then `(tactic| with_reducible refine $(mkId r) ?_)
    else if h.startsWith "@" then `(tactic| with_reducible apply $(mkId r) (by assumption)) else if h.startsWith "~" then `(tactic| apply $(mkId r)) else if h.startsWith "#" then mkCode r
    else `(tactic| with_reducible apply $(mkId h))
  let mut acc := first
  for c in ws.tail do
    let t ← mkCode c
    acc ← `(tactic| ($acc:tactic; (focus $t:tactic)))
  return acc
/-- ways, tried one behind the other -/
def mkWays (s : String) : Lean.MacroM (Lean.TSyntax `tactic) := do
  let ws := (s.splitOn "|").filter (· != "")
  let mut acc ← mkAlt (ws.getLastD "")
  for w in ws.dropLast.reverse do
    let t ← mkAlt w
    acc ← `(tactic| first | $t:tactic | $acc:tactic)
  return acc

end
set_option autoImplicit false
set_option maxRecDepth 100000
local macro_rules | `(tactic| walk_at "cs") => mkWays "cs_l D|cs_r D D"
local macro_rules | `(tactic| walk_at "fn") => `(tactic| fail "no function of the text's own")
local macro_rules | `(tactic| walk_at "rp") => `(tactic| ((with_reducible apply r_repl (c := 46) (z := [34])); (focus decide +kernel); (focus decide +kernel); (focus decide); (focus decide); (focus walk_at "ev"); (focus exact fun _ => rfl); (focus exact rfl)))
local macro_rules | `(tactic| walk_at "ev") => mkWays ("!r_int|!r_str|!r_bool|!r_none|!r_neg|r_local D D|r_cell D D|r_free D D D|r_bin ev ev|r_cmp ev ev R|r_slice ev eo eo R2|r_item ev ev T|r_list el|r_tuple el" ++
  "|@c_len D el R1 R1|@c_range D el R1 R1|@c_min D el R1 R1|@c_abs D el R1 R1|@c_sum D el R1 R1|@c_str D el R1 R1|@c_list D el R1 R1" ++
  "|m_join ev el R1 R1 R1 R1 R R|m_split ev el R1 R1 R1 R1 R R|m_count ev el R1 R1 R1 R1 R R|m_index ev el R1 R1 R1 R1 R R|m_append ev el R1 R1 R1 R1 R R|m_remove ev el R1 R1 R1 R1 R R|m_extend ev el R1 R1 R1 R1 R R" ++
  "|#rp|r_comp ev ea ei ev R no no R2|#fn")
local macro_rules | `(tactic| walk_at "no") => `(tactic| first | decide +kernel | (unfold NamesOk; decide +kernel))
local macro_rules | `(tactic| walk_at "ei") => mkWays "!i_none|Ifs.one et"
local macro_rules | `(tactic| walk_at "ea") => mkWays "a_name cs|a_pair ea ea R1"
local macro_rules | `(tactic| walk_at "el") => mkWays "!l_nil|l_cons ev el R1"
local macro_rules | `(tactic| walk_at "eo") => mkWays "!o_none|o_some ev"
local macro_rules | `(tactic| walk_at "et") => mkWays "t_cmp ev ev R|t_cmp2 ev ev ev R|t_not et|t_or et et|t_val ev R2"
local macro_rules | `(tactic| walk_at "es") => mkWays "!s_nil|s_cons e1 es"
local macro_rules | `(tactic| walk_at "dd") => `(tactic| ((with_reducible show Sx _ _ _ _ (Stmt.Raise _ _ _) _); exact s_dead))
local macro_rules | `(tactic| walk_at "e1") => mkWays "s_assignComp ev ea ei ev cs R no no R2|s_assign ev cs R1|s_set ev ev ev R1|s_expr ev R R1|s_ite et es es|s_ret ev|!s_brk|s_while et es|s_for ev ea es R2|s_assignT ev ea R1 R1 R1|#dd"
-- the steps
local macro_rules | `(tactic| walk_at "rho") => mkWays "upd_same|#A|upd_other D rho|inner_free D rho"
local macro_rules | `(tactic| walk_at "ex") => `(tactic| (apply Exists.intro; walk_at "rho"))
local macro_rules | `(tactic| walk_at "fb") => mkWays "~fb_nil|~fb_skip D0 fb|~fb_take ex fb"
local macro_rules | `(tactic| walk_at "co") => `(tactic| ((with_reducible refine p_comp ?_ ?_); (focus (unfold FreeBound; dsimp only; walk_at "fb"))))
local macro_rules | `(tactic| walk_at "sg") => `(tactic| first | assumption | decide | lia | (simp only [L_S, List.length_append, List.length_nil, List.length_cons]; lia))
local macro_rules | `(tactic| walk_at "sn") => `(tactic| fail "no step of the text's own")
local macro_rules | `(tactic| walk_at "st") => mkWays ("p_name rho|p_oint sg|p_sstr sg|p_rstr sg|p_len sg|p_adds sg|?p_tt|?p_ff|?p_set|?p_seq|?p_knx|?p_krt|?p_kbr|?p_snil|?p_whbr|?p_whrt|?p_isstr|?p_bool|?p_asg|?p_asgT|?p_expr|?p_ite|?p_ret|?p_brk|?p_retK|?p_retN" ++
  "|?p_forK|?p_forE|?p_val|?p_bin|?p_cmp|?p_tcmp|?p_tcmp2|?p_tnot|?p_tor|?p_tval|?p_tyes|?p_item|?p_onone|?p_osome|?p_slice|?p_lnil|?p_lcons|?p_list|?p_tup|?p_call|?p_methS|?p_methL|?p_repl|?p_aname|?p_apair" ++
  "|?p_addi|?p_subi|?p_eqi|?p_nei|?p_lti|?p_lei|?p_gti|?p_gei|?p_eqs|?p_nes|?p_lts|?p_les|?p_ins|?p_eqb|?p_neb|#co|#sn")

section
set_option autoImplicit false
set_option maxRecDepth 100000

theorem isDef {G : Glb} {P : Params} (T : TopG G P) (a : Addr) (o : Obj) (h : (hd2.heap_39 P).lookup a = some o) (hd : o.data = .func (fd a)) (hb : (fd a).body = .stmts (bd a)) (hc : (fd a).closure = []) (hg : (fd a).globals = mainGlobals) (hbi : (fd a).builtins = builtinsNs)
    (hcode : ∃ c oc vs tq, (fd a).code = .ref c ∧ (hd2.heap_39 P).lookup c = some oc ∧ oc.data = .fields vs ∧ vs[1]? = some (.str (fd a).qualname tq)) (hco : (fd a).scope.isCoroutine = false) (hgen : (fd a).scope.isGenerator = false) (hk : (fd a).scope.kind = .function) :
    IsDef G a (fd a) (bd a) [] where
  obj := ⟨o, T.K _ _ h, hd⟩
  body := hb
  closure := hc
  globals := hg
  builtins := hbi
  code := fun hh hin => by
    obtain ⟨c, oc, vs, tq, h1, h2, h3, h4⟩ := hcode
    exact ⟨c, oc, vs, tq, h1, hin _ _ (T.K _ _ h2), h3, h4⟩
  co := hco
  gen := hgen
  kind := hk

theorem def153 {G : Glb} {P : Params} (T : TopG G P) : IsDef G 153 (fd 153) (bd 153) [] := isDef T 153 _ rfl rfl rfl rfl rfl rfl ⟨_, _, _, _, rfl, rfl, rfl, rfl⟩ rfl rfl rfl

set_option maxHeartbeats 1000000 in
theorem fn153 {G : Glb} {P : Params} (T : TopG G P) {ℓ : Nat} : FnOk G (ℓ + 1) (.ref 153) wParse := by
  apply FnOk.mono
  apply FnOk.def T.O (def153 T) (ps := ["resp"])
  focus (intro x hx; rw [List.mem_singleton.mp hx]; walk_at "cs")
  focus (intro ws h; obtain ⟨w, rfl⟩ := List.length_eq_one_iff.mp h; rfl)
  focus (apply s_cons; (focus walk_at "e1"); (focus walk_at "es"))
  rintro vs Q σ ⟨x, rfl, h3, hsz, hQ⟩
  refine ⟨_, rfl, ?_⟩
  have e257 : L (Str.ofString "257") = [50, 53, 55] := by decide +kernel
  have esp : L (Str.ofString " \"") = [32, 34] := by decide +kernel
  have eq1 : L (Str.ofString "\"") = [34] := by decide +kernel
  repeat' walk_at "st"
  refine p_iff (decide_eq_false (by rw [L_S, e257]; simpa [cut] using h3)) ?_
  repeat' walk_at "st"
  have hc : L (S (cut (L x) (some 3) (some 5))) = ((L x).drop 3).take 2 := by rw [L_S]; unfold cut; simp [List.drop_take]
  rw [hc, esp]
  by_cases h5 : ((L x).drop 3).take 2 = [32, 34]
  · rw [if_pos h5] at hQ
    refine p_iff (decide_eq_false (by simpa using h5)) ?_
    repeat' walk_at "st"
    have hl5 : 5 ≤ (L x).length := by
      have := congrArg List.length h5
      rw [List.length_take, List.length_drop] at this
      have h2 : [32, 34].length = 2 := rfl
      lia
    refine p_while (fun m ρ σ' => σ' = σ ∧ ∃ (j : Nat) (acc : List Nat), ρ (Str.ofString "resp") = some (.str x) ∧ ρ (Str.ofString "n") = some (.int (L x).length) ∧ ρ (Str.ofString "i") = some (.int j) ∧ ρ (Str.ofString "dirname") = some (.str (S acc)) ∧
      j ≤ (L x).length ∧ acc.length ≤ j ∧ acc ++ parseB ((L x).drop j) = parseB ((L x).drop 5) ∧ m = (L x).length - j) ((L x).length - 5) ⟨rfl, 5, [], ?_, ?_, ?_, ?_, hl5, by simp, rfl, rfl⟩ ?_
    · walk_at "rho"
    · walk_at "rho"
    · show _ = some (V.int 5)
      walk_at "rho"
    · rw [show S [] = Str.ofString "" by decide +kernel]; walk_at "rho"
    rintro m ρ σ' ⟨rfl, j, acc, e1, e2, e3, e4, hj, ha, hp, rfl⟩
    repeat' walk_at "st"
    by_cases hlt : j < (L x).length
    · refine p_ift (decide_eq_true (by exact ar309 hlt)) ?_
      repeat' walk_at "st"
      have hc := List.getElem?_eq_getElem hlt
      have hitem : aItem σ' (.str x) (.int (j : Nat)) = some (.str (S [(L x)[j]])) := by
        dsimp only [aItem]
        rw [if_pos ⟨by exact ar135, by exact ar310 hlt hsz⟩, Int.toNat_natCast, hc]; rfl
      refine ⟨_, hitem, ?_⟩
      repeat' walk_at "st"
      rw [L_S, eq1]
      have hdrop : (L x).drop j = (L x)[j] :: (L x).drop (j + 1) := List.drop_eq_getElem_cons hlt
      by_cases hq : (L x)[j] = 34
      · refine p_ift (decide_eq_true (by rw [hq])) ?_
        repeat' walk_at "st"
        by_cases hend : (L x).length ≤ j + 1
        · refine p_ift (decide_eq_true (by exact ar311 hend)) (p_ift rfl ?_)
          repeat' walk_at "st"
          have : parseB ((L x).drop j) = [] := by rw [hdrop, hq]; exact parseB_e _ (by rw [List.drop_eq_nil_of_le hend]; simp)
          rw [this, List.append_nil] at hp
          rw [← hp] at hQ; exact hQ
        · refine p_iff (decide_eq_false (by exact ar312 hend)) ?_
          repeat' walk_at "st"
          have hlt1 : j + 1 < (L x).length := by exact ar313 hend
          have hc1 := List.getElem?_eq_getElem hlt1
          have hitem1 : aItem σ' (.str x) (.int ((j : Int) + 1)) = some (.str (S [(L x)[j + 1]])) := by
            dsimp only [aItem]
            rw [if_pos ⟨by exact ar314, by exact ar315 hsz hend⟩, show ((j : Int) + 1).toNat = j + 1 by lia, hc1]; rfl
          refine ⟨_, hitem1, ?_⟩
          repeat' walk_at "st"
          rw [L_S, eq1]
          have hdrop1 : (L x).drop (j + 1) = (L x)[j + 1] :: (L x).drop (j + 1 + 1) := List.drop_eq_getElem_cons hlt1
          by_cases hq1 : (L x)[j + 1] = 34
          · refine p_iff (decide_eq_false (by rw [hq1]; simp)) ?_
            repeat' walk_at "st"
            have hl1 : (L (S [(L x)[j]])).length = 1 := by rw [L_S]; rfl
            refine p_whnx ((L x).length - (j + 2)) (by exact ar316 hlt1) ⟨rfl, j + 2, acc ++ [34], ?_, ?_, ?_, ?_, by exact ar317 hlt1, by simp; exact ar147 ha, ?_, rfl⟩
            · walk_at "rho"
            · walk_at "rho"
            · rw [show ((j + 2 : Nat) : Int) = (j : Int) + 1 + 1 by exact ar318]; walk_at "rho"
            · rw [show S (acc ++ [34]) = S (L (S acc) ++ L (S [(L x)[j]])) by rw [L_S, L_S, hq]]; walk_at "rho"
            · rw [← hp, hdrop, hdrop1, hq, hq1, parseB_q]; simp
          · refine p_ift (decide_eq_true (by simpa using hq1)) ?_
            repeat' walk_at "st"
            have : parseB ((L x).drop j) = [] := by rw [hdrop, hq]; exact parseB_e _ (by rw [hdrop1]; simpa using hq1)
            rw [this, List.append_nil] at hp
            rw [← hp] at hQ; exact hQ
      · refine p_iff (decide_eq_false (by simpa using hq)) ?_
        repeat' walk_at "st"
        refine p_whnx ((L x).length - (j + 1)) (by exact ar149 hlt) ⟨rfl, j + 1, acc ++ [(L x)[j]], ?_, ?_, ?_, ?_, hlt, by simp; lia, ?_, rfl⟩
        · walk_at "rho"
        · walk_at "rho"
        · rw [show ((j + 1 : Nat) : Int) = (j : Int) + 1 by exact ar319]; walk_at "rho"
        · rw [show S (acc ++ [(L x)[j]]) = S (L (S acc) ++ L (S [(L x)[j]])) from congrArg S (by rw [L_S acc, L_S [_]])]; walk_at "rho"
        · rw [← hp, hdrop, parseB_c _ _ hq]; simp
    · refine p_iff (decide_eq_false (by exact ar320 hlt)) ?_
      repeat' walk_at "st"
      have : (L x).drop j = [] := List.drop_eq_nil_of_le (by exact ar3 hlt)
      rw [this] at hp
      have hp' : acc = parseB ((L x).drop 5) := by rw [← hp]; show acc = acc ++ []; simp
      rw [← hp'] at hQ; exact hQ
  · rw [if_neg h5] at hQ
    refine p_ift (decide_eq_true h5) ?_
    repeat' walk_at "st"
    exact hQ

end
section
set_option autoImplicit false
open Sre (M)

noncomputable def c1 : Array Nat := #[14, 4, 0, 1, 1, 6, 1, 16, 46, 1]
noncomputable def c2 : Array Nat := #[14, 9, 4, 1, 2, 16, 10, 16, 13, 0, 7, 7, 16, 13, 16, 10, 15, 18, 5, 16, 10, 15, 13, 11, 16, 13, 5, 5, 0, 16, 10, 1, 15, 2, 0, 1]

/-- the machine ends within n steps in a state of which P holds -/
noncomputable def Ends (m : M) (P : M → Prop) (n : Nat) : Prop := ∃ k, k ≤ n ∧ (m.runFor k).outcome.isSome = true ∧ P (m.runFor k)
theorem Ends.now {m : M} {P : M → Prop} (h : m.outcome.isSome = true) (hP : P m) : Ends m P 0 := ⟨0, Nat.le_refl _, h, hP⟩
theorem Ends.step {m m' : M} {P : M → Prop} {n : Nat} (ho : m.outcome = none) (hs : m.step = m') (h : Ends m' P n) : Ends m P (n + 1) := by
  obtain ⟨k, hk, h1, h2⟩ := h
  have e : m.runFor (k + 1) = m'.runFor k := by
    show (if m.outcome.isSome then m else M.runFor k m.step) = _
    rw [ho, hs]; rfl
  exact ⟨k + 1, by exact ar260 hk, by rw [e]; exact h1, by rw [e]; exact h2⟩
theorem Ends.le {m : M} {P : M → Prop} {n n' : Nat} (h : Ends m P n) (hn : n ≤ n') : Ends m P n' := by
  obtain ⟨k, hk, r⟩ := h
  exact ⟨k, by exact ar52 hk hn, r⟩

noncomputable def mk (code text : Array Nat) (ls start pc pos handed : Nat) (om : Bool) (frames : List Sre.Frame) (wt : Nat) (ans : Option Bool) (seen : Sre.Seen) (out : Option Sre.Outcome) : M :=
  { code := code, text := text, lim := text.size, start := start, lastStart := ls, pc := pc, pos := pos, handed := handed, outermost := om, marks := #[], frames := frames, weight := wt, answer := ans, seen := seen, outcome := out }
noncomputable def f1 (s : Nat) (om : Bool) : Sre.Frame := { wait := .nextStart, pc := 5, pos := s, outermost := om }

section
variable {text : Array Nat} {ls s handed pos start : Nat} {om om' : Bool} {seen : Sre.Seen}
theorem s1_atx : ∃ seen', (mk c1 text ls start 5 pos handed om [f1 s om'] 1 none seen none).step = if (pos == 0 || text.getD (pos - 1) 0 == 10) = true then mk c1 text ls start 7 pos handed om [f1 s om'] 1 none seen' none else mk c1 text ls start 5 pos handed om [f1 s om'] 1 (some false) seen' none := ⟨_, rfl⟩
theorem s1_at (h : (pos == 0 || text.getD (pos - 1) 0 == 10) = true) : ∃ seen', (mk c1 text ls start 5 pos handed om [f1 s om'] 1 none seen none).step = mk c1 text ls start 7 pos handed om [f1 s om'] 1 none seen' none := by
  obtain ⟨z, e⟩ := s1_atx (text := text) (ls := ls) (s := s) (handed := handed) (pos := pos) (start := start) (om := om) (om' := om') (seen := seen)
  exact ⟨z, e.trans (if_pos h)⟩
theorem s1_no (h : (pos == 0 || text.getD (pos - 1) 0 == 10) = false) : ∃ seen', (mk c1 text ls start 5 pos handed om [f1 s om'] 1 none seen none).step = mk c1 text ls start 5 pos handed om [f1 s om'] 1 (some false) seen' none := by
  obtain ⟨z, e⟩ := s1_atx (text := text) (ls := ls) (s := s) (handed := handed) (pos := pos) (start := start) (om := om) (om' := om') (seen := seen)
  exact ⟨z, e.trans (if_neg (by rw [h]; decide))⟩
/-- a letter's word at a place of the code -/
noncomputable def LitAt (code : Array Nat) (pc c : Nat) : Prop := ∀ (text : Array Nat) (ls start pos handed : Nat) (om : Bool) (fs : List Sre.Frame) (wt : Nat) (seen : Sre.Seen), (mk code text ls start pc pos handed om fs wt none seen none).step =
  if text.size ≤ pos then mk code text ls start pc pos handed om fs wt (some false) (seen.add (code.getD pc 0)) none else cond (text.getD pos 0 == c) (mk code text ls start (pc + 2) (pos + 1) handed om fs wt none (seen.add (code.getD pc 0)) none) (mk code text ls start pc pos handed om fs wt (some false) (seen.add (code.getD pc 0)) none)
theorem LitAt.yes {code : Array Nat} {pc c : Nat} (L : LitAt code pc c) {fs : List Sre.Frame} {wt : Nat} (h0 : pos < text.size) (h : text.getD pos 0 = c) : ∃ seen', (mk code text ls start pc pos handed om fs wt none seen none).step = mk code text ls start (pc + 2) (pos + 1) handed om fs wt none seen' none := by
  have e := L text ls start pos handed om fs wt seen
  refine ⟨seen.add (code.getD pc 0), e.trans ((if_neg (Nat.not_le_of_lt h0)).trans ?_)⟩
  rw [h, beq_self_eq_true]; rfl
theorem LitAt.no {code : Array Nat} {pc c : Nat} (L : LitAt code pc c) {fs : List Sre.Frame} {wt : Nat} (h : text.getD pos 0 ≠ c ∨ text.size ≤ pos) : ∃ seen', (mk code text ls start pc pos handed om fs wt none seen none).step = mk code text ls start pc pos handed om fs wt (some false) seen' none := by
  have e := L text ls start pos handed om fs wt seen
  rcases Nat.lt_or_ge pos text.size with h0 | h0
  · refine ⟨seen.add (code.getD pc 0), e.trans ((if_neg (Nat.not_le_of_lt h0)).trans ?_)⟩
    rw [beq_false_of_ne (h.resolve_right (Nat.not_le_of_lt h0))]; rfl
  · exact ⟨seen.add (code.getD pc 0), e.trans (if_pos h0)⟩
theorem lit7 : LitAt c1 7 46 := fun text _ _ pos _ _ _ _ _ => by
  show (if text.size ≤ pos then _ else _) = _
  refine congrArg (fun z => if text.size ≤ pos then _ else z) ?_
  show (match Sre.accepts c1 7 (text.getD pos 0) _ with | .error why => _ | .ok (false, seen) => _ | .ok (true, seen) => _) = _
  show (match (Except.ok (text.getD pos 0 == 46, _) : Except String (Bool × Sre.Seen)) with | .error why => _ | .ok (false, seen) => _ | .ok (true, seen) => _) = _
  cases text.getD pos 0 == 46 <;> rfl
theorem s1_lit (h0 : pos < text.size) (h : text.getD pos 0 = 46) : ∃ seen', (mk c1 text ls start 7 pos handed om [f1 s om'] 1 none seen none).step = mk c1 text ls start 9 (pos + 1) handed om [f1 s om'] 1 none seen' none := lit7.yes h0 h
theorem s1_lit_end (h0 : text.size ≤ pos) : ∃ seen', (mk c1 text ls start 7 pos handed om [f1 s om'] 1 none seen none).step = mk c1 text ls start 7 pos handed om [f1 s om'] 1 (some false) seen' none := lit7.no (.inr h0)
theorem s1_lit_no (h0 : pos < text.size) (h : text.getD pos 0 ≠ 46) : ∃ seen', (mk c1 text ls start 7 pos handed om [f1 s om'] 1 none seen none).step = mk c1 text ls start 7 pos handed om [f1 s om'] 1 (some false) seen' none := lit7.no (.inl h)
theorem s1_succ : ∃ seen', (mk c1 text ls start 9 pos handed om [f1 s om'] 1 none seen none).step = mk c1 text ls start 9 pos pos om [f1 s om'] 1 (some true) seen' none := by
  cases om
  · exact ⟨_, rfl⟩
  · exact ⟨_, rfl⟩
theorem s1_yes {pc : Nat} : (mk c1 text ls start pc pos handed om [f1 s om'] 1 (some true) seen none).step = mk c1 text ls start 5 s handed om' [] 0 (some true) seen none := rfl
theorem s_won {code : Array Nat} {pc : Nat} : (mk code text ls start pc pos handed om [] 0 (some true) seen none).step = mk code text ls start pc pos handed om [] 0 (some true) seen (some .matched) := rfl
theorem s_lost {code : Array Nat} {pc : Nat} : (mk code text ls start pc pos handed om [] 0 (some false) seen none).step = mk code text ls start pc pos handed om [] 0 (some false) seen (some .failed) := rfl
theorem s1_next {pc : Nat} (h : s < ls) : (mk c1 text ls start pc pos handed om [f1 s om'] 1 (some false) seen none).step = mk c1 text ls (s + 1) 5 (s + 1) (s + 1) false [f1 (s + 1) false] 1 none seen none := by
  show (if s < ls then _ else _) = _
  rw [if_pos h]
  rfl
theorem s1_last {pc : Nat} (h : ¬ s < ls) : (mk c1 text ls start pc pos handed om [f1 s om'] 1 (some false) seen none).step = mk c1 text ls start 5 s handed om' [] 0 (some false) seen none := by
  show (if s < ls then _ else _) = _
  rw [if_neg h]
  rfl

noncomputable def hit1 (text : Array Nat) (p : Nat) : Prop := p < text.size ∧ (p == 0 || text.getD (p - 1) 0 == 10) = true ∧ text.getD p 0 = 46
noncomputable def Res (hit : Nat → Prop) (e : Nat → Nat) (s : Nat) (m : M) : Prop :=
  (∃ p, s ≤ p ∧ hit p ∧ (∀ q, s ≤ q → q < p → ¬ hit q) ∧ m.outcome = some .matched ∧ m.start = p ∧ m.handed = e p) ∨ ((∀ q, s ≤ q → ¬ hit q) ∧ m.outcome = some .failed)

theorem run1 (text : Array Nat) : ∀ (n s : Nat) (om : Bool) (seen : Sre.Seen), text.size - s = n → s ≤ text.size → Ends (mk c1 text text.size s 5 s s om [f1 s om] 1 none seen none) (Res (hit1 text) (· + 1) s) (3 * n + 10) := by
  intro n
  induction n with
  | zero =>
    intro s om seen hn hs
    have hsz : s = text.size := by exact ar261 hs hn
    have no : ∀ q, s ≤ q → ¬ hit1 text q := fun q hq h => by have := h.1; exact ar262 this hsz hq
    have fin : ∀ (start pc pos handed : Nat) (om : Bool) (seen : Sre.Seen), Ends (mk c1 text text.size start pc pos handed om [f1 s om] 1 (some false) seen none) (Res (hit1 text) (· + 1) s) 2 := fun start pc pos handed om seen =>
      Ends.step rfl (s1_last (by exact ar263 hsz)) (Ends.step rfl s_lost (Ends.now rfl (.inr ⟨no, rfl⟩)))
    cases h : (s == 0 || text.getD (s - 1) 0 == 10) with
    | true =>
      obtain ⟨seen1, e1⟩ := s1_at (text := text) (ls := text.size) (start := s) (handed := s) (om := om) (s := s) (om' := om) (seen := seen) h
      obtain ⟨seen2, e2⟩ := s1_lit_end (text := text) (ls := text.size) (start := s) (handed := s) (om := om) (s := s) (om' := om) (seen := seen1) (pos := s) (by exact ar19 hsz)
      exact (Ends.step rfl e1 (Ends.step rfl e2 (fin _ _ _ _ _ _))).le (by exact ar264)
    | false =>
      obtain ⟨seen1, e1⟩ := s1_no (text := text) (ls := text.size) (start := s) (handed := s) (om := om) (s := s) (om' := om) (seen := seen) h
      exact (Ends.step rfl e1 (fin _ _ _ _ _ _)).le (by exact ar265)
  | succ n ih =>
    intro s om seen hn hs
    have hlt : s < text.size := by exact ar266 hn
    have next : ∀ (start pc pos handed : Nat) (seen : Sre.Seen), ¬ hit1 text s → Ends (mk c1 text text.size start pc pos handed om [f1 s om] 1 (some false) seen none) (Res (hit1 text) (· + 1) s) (3 * n + 11) := fun start pc pos handed seen hno => by
      refine Ends.step rfl (s1_next hlt) ?_
      obtain ⟨k, hk, h1, h2⟩ := ih (s + 1) false seen (by exact ar267 hn) (by exact ar20 hlt)
      refine ⟨k, hk, h1, ?_⟩
      rcases h2 with ⟨p, a1, a2, a3, a4⟩ | ⟨b1, b2⟩
      · refine .inl ⟨p, by lia, a2, fun q q1 q2 => ?_, a4⟩
        rcases Nat.eq_or_lt_of_le q1 with z | z
        · exact z ▸ hno
        · exact a3 q z q2
      · refine .inr ⟨fun q q1 => ?_, b2⟩
        rcases Nat.eq_or_lt_of_le q1 with z | z
        · exact z ▸ hno
        · exact b1 q z
    cases h : (s == 0 || text.getD (s - 1) 0 == 10) with
    | true =>
      obtain ⟨seen1, e1⟩ := s1_at (text := text) (ls := text.size) (start := s) (handed := s) (om := om) (s := s) (om' := om) (seen := seen) h
      by_cases hc : text.getD s 0 = 46
      · obtain ⟨seen2, e2⟩ := s1_lit (text := text) (ls := text.size) (start := s) (handed := s) (om := om) (s := s) (om' := om) (seen := seen1) hlt hc
        obtain ⟨seen3, e3⟩ := s1_succ (text := text) (ls := text.size) (start := s) (handed := s) (om := om) (s := s) (om' := om) (seen := seen2) (pos := s + 1)
        exact (Ends.step rfl e1 (Ends.step rfl e2 (Ends.step rfl e3 (Ends.step rfl s1_yes (Ends.step rfl s_won (Ends.now rfl (.inl ⟨s, Nat.le_refl _, ⟨hlt, h, hc⟩, fun q q1 q2 => by exact (ar269 q2 q1).elim, rfl, rfl, rfl⟩))))))).le (by exact ar268)
      · obtain ⟨seen2, e2⟩ := s1_lit_no (text := text) (ls := text.size) (start := s) (handed := s) (om := om) (s := s) (om' := om) (seen := seen1) hlt hc
        exact (Ends.step rfl e1 (Ends.step rfl e2 (next _ _ _ _ _ fun z => hc z.2.2))).le (by exact ar270)
    | false =>
      obtain ⟨seen1, e1⟩ := s1_no (text := text) (ls := text.size) (start := s) (handed := s) (om := om) (s := s) (om' := om) (seen := seen) h
      exact (Ends.step rfl e1 (next _ _ _ _ _ fun z => by have := z.2.1; rw [h] at this; cases this)).le (by exact ar271)

theorem search1 (text : Array Nat) (s : Nat) (hs : s ≤ text.size) : Ends (Sre.forSearch c1 text 0 s text.size false) (Res (hit1 text) (· + 1) s) (3 * text.size + 20) := by
  by_cases h : s < text.size
  · have e : ∃ seen, Sre.forSearch c1 text 0 s text.size false = mk c1 text text.size s 5 s s true [f1 s true] 1 none seen none := by
      apply Exists.intro
      unfold Sre.forSearch
      show (if (decide (s > text.size) || decide (text.size - s < 1)) = true then _ else _) = _
      rw [if_neg (by simp; exact ar276 h)]
      rfl
    obtain ⟨seen, e⟩ := e
    rw [e]
    exact (run1 text _ s true seen rfl hs).le (by exact ar278)
  · have e : ∃ seen, Sre.forSearch c1 text 0 s text.size false = mk c1 text 0 s 5 s s true [] 0 (some false) seen none := by
      apply Exists.intro
      unfold Sre.forSearch
      show (if (decide (s > text.size) || decide (text.size - s < 1)) = true then _ else _) = _
      rw [if_pos (by simp; exact ar280 h)]
      rfl
    obtain ⟨seen, e⟩ := e
    rw [e]
    exact (Ends.step rfl s_lost (Ends.now rfl (.inr ⟨fun q hq h => by have := h.1; exact ar282 this hq (by assumption), rfl⟩))).le (by exact ar281)
end

end
section
set_option autoImplicit false
open Sre (M)

noncomputable def kp0 : Sre.Kept := { lastmark := -1, lastindex := -1, whole := false, marks := #[] }
noncomputable def f2 (s : Nat) (om : Bool) : Sre.Frame := { wait := .nextStart, pc := 10, pos := s, outermost := om }
noncomputable def nb (pc s : Nat) (om : Bool) : Sre.Frame := { wait := .nextBranch, pc := pc, pos := s, outermost := om, kept := kp0 }
noncomputable def lkn (pos : Nat) (om : Bool) : Sre.Frame := { wait := .lookNot, pc := 26, pos := pos, outermost := om, kept := kp0 }

section
variable {text : Array Nat} {ls s handed pos start : Nat} {om om' om'' : Bool} {seen : Sre.Seen} {fs : List Sre.Frame} {wt : Nat}

theorem lit12 : LitAt c2 12 13 := fun text _ _ pos _ _ _ _ _ => by
  show (if text.size ≤ pos then _ else _) = _
  refine congrArg (fun z => if text.size ≤ pos then _ else z) ?_
  show (match Sre.accepts c2 12 (text.getD pos 0) _ with | .error why => _ | .ok (false, seen) => _ | .ok (true, seen) => _) = _
  show (match (Except.ok (text.getD pos 0 == 13, _) : Except String (Bool × Sre.Seen)) with | .error why => _ | .ok (false, seen) => _ | .ok (true, seen) => _) = _
  cases text.getD pos 0 == 13 <;> rfl
theorem lit14 : LitAt c2 14 10 := fun text _ _ pos _ _ _ _ _ => by
  show (if text.size ≤ pos then _ else _) = _
  refine congrArg (fun z => if text.size ≤ pos then _ else z) ?_
  show (match Sre.accepts c2 14 (text.getD pos 0) _ with | .error why => _ | .ok (false, seen) => _ | .ok (true, seen) => _) = _
  show (match (Except.ok (text.getD pos 0 == 10, _) : Except String (Bool × Sre.Seen)) with | .error why => _ | .ok (false, seen) => _ | .ok (true, seen) => _) = _
  cases text.getD pos 0 == 10 <;> rfl
theorem lit19 : LitAt c2 19 10 := fun text _ _ pos _ _ _ _ _ => by
  show (if text.size ≤ pos then _ else _) = _
  refine congrArg (fun z => if text.size ≤ pos then _ else z) ?_
  show (match Sre.accepts c2 19 (text.getD pos 0) _ with | .error why => _ | .ok (false, seen) => _ | .ok (true, seen) => _) = _
  show (match (Except.ok (text.getD pos 0 == 10, _) : Except String (Bool × Sre.Seen)) with | .error why => _ | .ok (false, seen) => _ | .ok (true, seen) => _) = _
  cases text.getD pos 0 == 10 <;> rfl
theorem lit24 : LitAt c2 24 13 := fun text _ _ pos _ _ _ _ _ => by
  show (if text.size ≤ pos then _ else _) = _
  refine congrArg (fun z => if text.size ≤ pos then _ else z) ?_
  show (match Sre.accepts c2 24 (text.getD pos 0) _ with | .error why => _ | .ok (false, seen) => _ | .ok (true, seen) => _) = _
  show (match (Except.ok (text.getD pos 0 == 13, _) : Except String (Bool × Sre.Seen)) with | .error why => _ | .ok (false, seen) => _ | .ok (true, seen) => _) = _
  cases text.getD pos 0 == 13 <;> rfl
theorem lit29 : LitAt c2 29 10 := fun text _ _ pos _ _ _ _ _ => by
  show (if text.size ≤ pos then _ else _) = _
  refine congrArg (fun z => if text.size ≤ pos then _ else z) ?_
  show (match Sre.accepts c2 29 (text.getD pos 0) _ with | .error why => _ | .ok (false, seen) => _ | .ok (true, seen) => _) = _
  show (match (Except.ok (text.getD pos 0 == 10, _) : Except String (Bool × Sre.Seen)) with | .error why => _ | .ok (false, seen) => _ | .ok (true, seen) => _) = _
  cases text.getD pos 0 == 10 <;> rfl
theorem br0 : ∃ seen', (mk c2 text ls start 10 pos handed om [f2 s om'] 1 none seen none).step = mk c2 text ls start 12 pos pos om [nb 11 pos om, f2 s om'] 2 none seen' none := ⟨_, rfl⟩
theorem jmp16 : ∃ seen', (mk c2 text ls start 16 pos handed om fs wt none seen none).step = mk c2 text ls start 35 pos handed om fs wt none seen' none := ⟨_, rfl⟩
theorem jmp21 : ∃ seen', (mk c2 text ls start 21 pos handed om fs wt none seen none).step = mk c2 text ls start 35 pos handed om fs wt none seen' none := ⟨_, rfl⟩
theorem jmp32 : ∃ seen', (mk c2 text ls start 32 pos handed om fs wt none seen none).step = mk c2 text ls start 35 pos handed om fs wt none seen' none := ⟨_, rfl⟩
theorem succ2 : ∃ seen', (mk c2 text ls start 35 pos handed om fs wt none seen none).step = mk c2 text ls start 35 pos pos om fs wt (some true) seen' none := by
  cases om
  · exact ⟨_, rfl⟩
  · exact ⟨_, rfl⟩
theorem nb_yes {pc bp : Nat} {p : Nat} : (mk c2 text ls start pc pos handed om (nb bp p om' :: fs) 2 (some true) seen none).step = mk c2 text ls start bp p handed om' fs 1 (some true) seen none := rfl
theorem ns_yes {pc : Nat} : (mk c2 text ls start pc pos handed om [f2 s om'] 1 (some true) seen none).step = mk c2 text ls start 10 s handed om' [] 0 (some true) seen none := rfl
theorem nb11_no {pc : Nat} {p : Nat} : (mk c2 text ls start pc pos handed om (nb 11 p om' :: [f2 s om'']) 2 (some false) seen none).step = mk c2 text ls start 19 p p om' (nb 18 p om' :: [f2 s om'']) 2 none seen none := rfl
theorem nb18_no {pc : Nat} {p : Nat} : (mk c2 text ls start pc pos handed om (nb 18 p om' :: [f2 s om'']) 2 (some false) seen none).step = mk c2 text ls start 24 p p om' (nb 23 p om' :: [f2 s om'']) 2 none seen none := rfl
theorem look26 {p : Nat} : ∃ seen', (mk c2 text ls start 26 pos handed om (nb 23 p om' :: [f2 s om'']) 2 none seen none).step = mk c2 text ls start 29 pos pos false (lkn pos om :: nb 23 p om' :: [f2 s om'']) 3 none seen' none := by
  exact ⟨_, rfl⟩
theorem look_no {pc : Nat} {q : Nat} : (mk c2 text ls start pc pos handed om (lkn q om' :: fs) 3 (some false) seen none).step = mk c2 text ls start 32 q handed om' fs 2 none seen none := rfl

noncomputable def hit2 (text : Array Nat) (p : Nat) : Prop := p < text.size ∧ (text.getD p 0 = 10 ∨ text.getD p 0 = 13)
noncomputable def end2 (text : Array Nat) (p : Nat) : Nat := if text.getD p 0 = 13 ∧ p + 1 < text.size ∧ text.getD (p + 1) 0 = 10 then p + 2 else p + 1

/-- from a start that is a hit -/
theorem at2 (h : hit2 text s) : Ends (mk c2 text ls s 10 s s om [f2 s om] 1 none seen none) (fun m => m.outcome = some .matched ∧ m.start = s ∧ m.handed = end2 text s) 20 := by
  obtain ⟨hlt, hc⟩ := h
  obtain ⟨seen1, e1⟩ := br0 (text := text) (ls := ls) (start := s) (pos := s) (handed := s) (om := om) (s := s) (om' := om) (seen := seen)
  have win : ∀ (p pc bp handed : Nat) (seen : Sre.Seen), handed = end2 text s → Ends (mk c2 text ls s 35 p handed om (nb bp s om :: [f2 s om]) 2 (some true) seen none) (fun m => m.outcome = some .matched ∧ m.start = s ∧ m.handed = end2 text s) 3 := fun p pc bp handed seen he =>
    Ends.step rfl nb_yes (Ends.step rfl ns_yes (Ends.step rfl s_won (Ends.now rfl ⟨rfl, rfl, he⟩)))
  refine (Ends.step rfl e1 (n := 19) ?_).le (by exact ar285)
  rcases hc with hc | hc
  · obtain ⟨seen2, e2⟩ := LitAt.no lit12 (text := text) (ls := ls) (start := s) (pos := s) (handed := s) (om := om) (fs := [nb 11 s om, f2 s om]) (wt := 2) (seen := seen1) (.inl (by exact ar286 hc))
    obtain ⟨seen3, e3⟩ := LitAt.yes lit19 (text := text) (ls := ls) (start := s) (pos := s) (handed := s) (om := om) (fs := [nb 18 s om, f2 s om]) (wt := 2) (seen := seen2) hlt hc
    obtain ⟨seen4, e4⟩ := jmp21 (text := text) (ls := ls) (start := s) (pos := s + 1) (handed := s) (om := om) (fs := [nb 18 s om, f2 s om]) (wt := 2) (seen := seen3)
    obtain ⟨seen5, e5⟩ := succ2 (text := text) (ls := ls) (start := s) (pos := s + 1) (handed := s) (om := om) (fs := [nb 18 s om, f2 s om]) (wt := 2) (seen := seen4)
    have he : s + 1 = end2 text s := by unfold end2; rw [if_neg (by exact ar287 hc)]
    exact (Ends.step rfl e2 (Ends.step rfl nb11_no (Ends.step rfl e3 (Ends.step rfl e4 (Ends.step rfl e5 (win _ 0 _ _ _ he)))))).le (by exact ar288)
  · obtain ⟨seen2, e2⟩ := LitAt.yes lit12 (text := text) (ls := ls) (start := s) (pos := s) (handed := s) (om := om) (fs := [nb 11 s om, f2 s om]) (wt := 2) (seen := seen1) hlt hc
    by_cases hn : s + 1 < text.size ∧ text.getD (s + 1) 0 = 10
    · obtain ⟨seen3, e3⟩ := LitAt.yes lit14 (text := text) (ls := ls) (start := s) (pos := s + 1) (handed := s) (om := om) (fs := [nb 11 s om, f2 s om]) (wt := 2) (seen := seen2) hn.1 hn.2
      obtain ⟨seen4, e4⟩ := jmp16 (text := text) (ls := ls) (start := s) (pos := s + 2) (handed := s) (om := om) (fs := [nb 11 s om, f2 s om]) (wt := 2) (seen := seen3)
      obtain ⟨seen5, e5⟩ := succ2 (text := text) (ls := ls) (start := s) (pos := s + 2) (handed := s) (om := om) (fs := [nb 11 s om, f2 s om]) (wt := 2) (seen := seen4)
      have he : s + 2 = end2 text s := by unfold end2; rw [if_pos ⟨hc, hn⟩]
      exact (Ends.step rfl e2 (Ends.step rfl e3 (Ends.step rfl e4 (Ends.step rfl e5 (win _ 0 _ _ _ he))))).le (by exact ar289)
    · have hn' : text.getD (s + 1) 0 ≠ 10 ∨ text.size ≤ s + 1 := by
        rcases Nat.lt_or_ge (s + 1) text.size with q | q
        · exact .inl fun z => hn ⟨q, z⟩
        · exact .inr q
      obtain ⟨seen3, e3⟩ := LitAt.no lit14 (text := text) (ls := ls) (start := s) (pos := s + 1) (handed := s) (om := om) (fs := [nb 11 s om, f2 s om]) (wt := 2) (seen := seen2) hn'
      obtain ⟨seen4, e4⟩ := LitAt.no lit19 (text := text) (ls := ls) (start := s) (pos := s) (handed := s) (om := om) (fs := [nb 18 s om, f2 s om]) (wt := 2) (seen := seen3) (.inl (by exact ar290 hc))
      obtain ⟨seen5, e5⟩ := LitAt.yes lit24 (text := text) (ls := ls) (start := s) (pos := s) (handed := s) (om := om) (fs := [nb 23 s om, f2 s om]) (wt := 2) (seen := seen4) hlt hc
      obtain ⟨seen6, e6⟩ := look26 (text := text) (ls := ls) (start := s) (pos := s + 1) (handed := s) (om := om) (p := s) (om' := om) (s := s) (om'' := om) (seen := seen5)
      obtain ⟨seen7, e7⟩ := LitAt.no lit29 (text := text) (ls := ls) (start := s) (pos := s + 1) (handed := s + 1) (om := false) (fs := lkn (s + 1) om :: nb 23 s om :: [f2 s om]) (wt := 3) (seen := seen6) hn'
      obtain ⟨seen8, e8⟩ := jmp32 (text := text) (ls := ls) (start := s) (pos := s + 1) (handed := s + 1) (om := om) (fs := [nb 23 s om, f2 s om]) (wt := 2) (seen := seen7)
      obtain ⟨seen9, e9⟩ := succ2 (text := text) (ls := ls) (start := s) (pos := s + 1) (handed := s + 1) (om := om) (fs := [nb 23 s om, f2 s om]) (wt := 2) (seen := seen8)
      have he : s + 1 = end2 text s := by unfold end2; rw [if_neg fun z => hn z.2]
      exact (Ends.step rfl e2 (Ends.step rfl e3 (Ends.step rfl nb11_no (Ends.step rfl e4 (Ends.step rfl nb18_no (Ends.step rfl e5 (Ends.step rfl e6 (Ends.step rfl e7 (Ends.step rfl look_no (Ends.step rfl e8 (Ends.step rfl e9 (win _ 0 _ _ _ he)))))))))))).le (by exact ar291)

theorem inSet2 (c : Nat) (sn : Sre.Seen) : ∃ sn', Sre.inSet c2 c c2.size 5 true sn = .ok (decide (c = 10 ∨ c = 13), sn') := by
  by_cases h1 : c = 10
  · subst h1; exact ⟨_, rfl⟩
  · by_cases h2 : c = 13
    · subst h2; exact ⟨_, rfl⟩
    · have e : decide (c = 10 ∨ c = 13) = false := decide_eq_false (by exact ar292 h1 h2)
      rw [e]
      apply Exists.intro
      show (if (c == 10) = true then _ else Sre.inSet c2 c 35 7 true _) = _
      rw [if_neg (by simpa using h1)]
      show (if (c == 13) = true then _ else Sre.inSet c2 c 34 9 true _) = _
      rw [if_neg (by simpa using h2)]
      rfl

theorem adm2 (m : M) (hm : m.code = c2) (ht : m.text = text) (hl : m.lim = text.size) : ∀ (fuel s : Nat) (sn : Sre.Seen), s + fuel = text.size + 1 → ∃ sn', (∃ p, Sre.M.admitted m fuel s sn = .ok (some p, sn') ∧ s ≤ p ∧ hit2 text p ∧ ∀ q, s ≤ q → q < p → ¬ hit2 text q) ∨
    (Sre.M.admitted m fuel s sn = .ok (none, sn') ∧ ∀ q, s ≤ q → ¬ hit2 text q)
  | 0, s, sn, h => ⟨sn, .inr ⟨rfl, fun q hq z => by have := z.1; exact ar293 h hq this⟩⟩
  | fuel + 1, s, sn, h => by
    unfold Sre.M.admitted
    rw [hl]
    by_cases hs : s ≥ text.size
    · rw [if_pos hs]
      exact ⟨sn, .inr ⟨rfl, fun q hq z => by have := z.1; exact ar294 this hq hs⟩⟩
    · rw [if_neg hs, hm, ht]
      obtain ⟨sn1, e⟩ := inSet2 (text.getD s 0) sn
      rw [e]
      by_cases hc : text.getD s 0 = 10 ∨ text.getD s 0 = 13
      · rw [decide_eq_true hc]
        exact ⟨sn1, .inl ⟨s, rfl, Nat.le_refl _, ⟨by exact ar295 hs, hc⟩, fun q q1 q2 => by exact (ar269 q2 q1).elim⟩⟩
      · rw [decide_eq_false hc]
        dsimp only
        obtain ⟨sn2, ih⟩ := adm2 m hm ht hl fuel (s + 1) sn1 (by exact ar296 h)
        refine ⟨sn2, ?_⟩
        have hno : ¬ hit2 text s := fun z => hc z.2
        rcases ih with ⟨p, a1, a2, a3, a4⟩ | ⟨b1, b2⟩
        · refine .inl ⟨p, a1, by exact ar10 a2, a3, fun q q1 q2 => ?_⟩
          rcases Nat.eq_or_lt_of_le q1 with z | z
          · exact z ▸ hno
          · exact a4 q z q2
        · refine .inr ⟨b1, fun q q1 => ?_⟩
          rcases Nat.eq_or_lt_of_le q1 with z | z
          · exact z ▸ hno
          · exact b2 q z

theorem search2 (text : Array Nat) (s : Nat) (hs : s ≤ text.size) : Ends (Sre.forSearch c2 text 0 s text.size false) (Res (hit2 text) (end2 text) s) 30 := by
  by_cases h : s < text.size
  · have e : ∃ seen, Sre.forSearch c2 text 0 s text.size false = (mk c2 text text.size s 10 s s true [] 0 none seen none).attemptFrom s true := by
      apply Exists.intro
      unfold Sre.forSearch
      show (if (decide (s > text.size) || decide (text.size - s < 1)) = true then _ else _) = _
      rw [if_neg (by simp; exact ar276 h)]
      rfl
    obtain ⟨seen, e⟩ := e
    rw [e]
    have e2 : (mk c2 text text.size s 10 s s true [] 0 none seen none).attemptFrom s true = (match Sre.M.admitted (mk c2 text text.size s 10 s s true [] 0 none seen none) (text.size + 1 - s) s seen with
      | .ok (some s', seen') => { mk c2 text text.size s 10 s s true [] 0 none seen none with mustAdvance := false, seen := seen' }.attemptAt s' true
      | .ok (none, seen') => { mk c2 text text.size s 10 s s true [] 0 none seen none with seen := seen' }.say false
      | .error why => (mk c2 text text.size s 10 s s true [] 0 none seen none).stick why) := rfl
    rw [e2]
    obtain ⟨sn', ha⟩ := adm2 (text := text) (mk c2 text text.size s 10 s s true [] 0 none seen none) rfl rfl rfl (text.size + 1 - s) s seen (by exact ar297 h)
    rcases ha with ⟨p, a1, a2, a3, a4⟩ | ⟨b1, b2⟩
    · rw [a1]
      obtain ⟨k, hk, h1, h2, h3, h4⟩ := at2 (text := text) (ls := text.size) (s := p) (om := true) (seen := sn') a3
      exact ⟨k, by exact ar298 hk, h1, .inl ⟨p, a2, a3, a4, h2, h3, h4⟩⟩
    · rw [b1]
      exact (Ends.step (m := mk c2 text text.size s 10 s s true [] 0 (some false) sn' none) rfl s_lost (Ends.now rfl (.inr ⟨b2, rfl⟩))).le (by exact ar299)
  · have e : ∃ seen, Sre.forSearch c2 text 0 s text.size false = mk c2 text 0 s 10 s s true [] 0 (some false) seen none := by
      apply Exists.intro
      unfold Sre.forSearch
      show (if (decide (s > text.size) || decide (text.size - s < 1)) = true then _ else _) = _
      rw [if_pos (by simp; exact ar280 h)]
      rfl
    obtain ⟨seen, e⟩ := e
    rw [e]
    exact (Ends.step rfl s_lost (Ends.now rfl (.inr ⟨fun q hq h => by have := h.1; exact ar282 this hq (by assumption), rfl⟩))).le (by exact ar299)
end

end
section
set_option autoImplicit false
set_option maxRecDepth 100000
open Sre (M)
open PySem.Builtin.Re

theorem runFor_stop {m : M} (h : m.outcome.isSome = true) : ∀ n, m.runFor n = m
  | 0 => rfl
  | n + 1 => by show (if m.outcome.isSome then m else _) = m; rw [if_pos h]
theorem runFor_add : ∀ (a b : Nat) (m : M), m.runFor (a + b) = (m.runFor a).runFor b
  | 0, b, m => by rw [Nat.zero_add]; rfl
  | a + 1, b, m => by
    by_cases h : m.outcome.isSome = true
    · rw [runFor_stop h, runFor_stop h, runFor_stop h]
    · rw [show a + 1 + b = (a + b) + 1 by exact ar300]
      show (if m.outcome.isSome then m else M.runFor (a + b) m.step) = M.runFor b (if m.outcome.isSome then m else M.runFor a m.step)
      rw [if_neg h, if_neg h, runFor_add a b]

section
variable {Mo : Model} {A : Around} {E : Value → Shared → Prop} {s : Shared}
theorem drive_ok {Q : M → Shared → Prop} : ∀ (turns k : Nat) (m : M), k ≤ 4 * turns → 1 ≤ turns → (m.runFor k).outcome.isSome = true → Q (m.runFor k) s → wpAny Mo A (reDrive turns m) Q E s
  | 0, _, _, _, h, _, _ => by exact (ar301 h).elim
  | turns + 1, k, m, hk, _, ho, hQ => by
    show wpAny Mo A (if (m.runFor 4).outcome.isSome then pure (m.runFor 4) else do rule "sre.turn"; reDrive turns (m.runFor 4)) Q E s
    by_cases h : (m.runFor 4).outcome.isSome = true
    · rw [if_pos h]
      have e : m.runFor 4 = m.runFor k := by
        rcases Nat.le_total k 4 with q | q
        · have e4 : 4 = k + (4 - k) := by exact ar302 q
          rw [e4, runFor_add, runFor_stop ho]
        · obtain ⟨d, rfl⟩ : ∃ d, k = 4 + d := ⟨k - 4, by exact ar303 q⟩
          rw [runFor_add, runFor_stop h]
      rw [e]; exact wpAny_pure hQ
    · rw [if_neg h]
      have hk4 : 4 < k := by
        rcases Nat.lt_or_ge 4 k with q | q
        · exact q
        · exfalso
          apply h
          have e4 : 4 = k + (4 - k) := by exact ar304 q
          rw [e4, runFor_add, runFor_stop ho]; exact ho
      have ek : k = 4 + (k - 4) := by exact ar305 hk4
      rw [ek, runFor_add] at ho hQ
      exact wpAny_bind (wpAny_rule (drive_ok turns (k - 4) _ (by exact ar306 hk) (by exact ar307 hk4 hk) ho hQ))

theorem end_ok {Q : Option M → Shared → Prop} {m : M} {P : M → Prop} {n : Nat} (h : Ends m P n) (hn : n ≤ 2 ^ 60) (hm : ∀ m', P m' → m'.outcome = some .matched → Q (some m') s) (hf : ∀ m', P m' → m'.outcome = some .failed → Q none s)
    (hP : ∀ m', P m' → m'.outcome = some .matched ∨ m'.outcome = some .failed) : wpAny Mo A (reRunToEnd m) Q E s := by
  obtain ⟨k, hk, h1, h2⟩ := h
  unfold reRunToEnd
  refine wpAny_bind (drive_ok _ k m (by exact ar308 hk hn) (by decide) h1 ?_)
  have rules : ∀ (l : List Nat) (K : PUnit → Shared → Prop), K ⟨⟩ s → wpAny Mo A (forIn l PUnit.unit fun i r => if (m.runFor k).seen.has i = true then do rule (Sre.names.getD i ""); pure (ForInStep.yield PUnit.unit) else pure (ForInStep.yield PUnit.unit)) K E s := by
    intro l
    induction l with
    | nil => intro K h; rw [List.forIn_nil]; exact wpAny_pure h
    | cons i l ih =>
      intro K h
      rw [List.forIn_cons]
      by_cases q : (m.runFor k).seen.has i = true
      · rw [if_pos q]; exact wpAny_bind (wpAny_bind (wpAny_rule (wpAny_pure (ih K h))))
      · rw [if_neg q]; exact wpAny_bind (wpAny_pure (ih K h))
  refine wpAny_bind (rules _ _ ?_)
  rcases hP _ h2 with q | q
  · rw [q]; exact wpAny_pure (hm _ h2 q)
  · rw [q]; exact wpAny_pure (hf _ h2 q)
end

end
section
set_option autoImplicit false
set_option maxRecDepth 100000

namespace F
open PySem.F
theorem plainAttrs_rep : PlainAttrs "re.Pattern" :=
  ⟨⟨"object.__getattribute__", by rw [typeLookup_type, builtinLookup_eq_fast]; kernel_rfl, by decide +kernel⟩, by rw [typeLookup_type, builtinLookup_eq_fast]; kernel_rfl⟩
theorem slot_rep_sub : Slot "re.Pattern" "sub" "re.Pattern.sub" :=
  .of (owner := "re.Pattern") (n := "sub") (by rw [typeLookup_type, builtinLookup_eq_fast]; kernel_rfl) (by decide +kernel) (by decide +kernel) (by decide +kernel)
    (by first | exact .inl (by decide +kernel) | exact .inr (by decide +kernel)) (by rw [isSubtype_type]; kernel_rfl)
theorem type_rep_sub : typeOf (.builtin "re.Pattern.sub") = pure (.type "method_descriptor") := by show builtinType _ = _; rw [builtinType_eq_fast]; kernel_rfl
theorem entry_rep_sub : entryFor table "re.Pattern.sub" = some Builtin.«re.Pattern.sub» := entryFor_of_tree (by kernel_rfl)
theorem args_rep_sub (a b c : Value) : argsOk "re.Pattern.sub" ⟨[a, b, c], []⟩ := by unfold argsOk; kernel_rfl
theorem plain_rep_loop : plainId "re.Pattern.sub.loop" = true := by decide +kernel
theorem entry_rep_loop : entryFor table "re.Pattern.sub.loop" = some Builtin.«re.Pattern.sub.loop» := entryFor_of_tree (by kernel_rfl)
theorem nocall_str : typeLookup (.type "str") "__call__" = pure none := by rw [typeLookup_type, builtinLookup_eq_fast]; kernel_rfl
end F

open Sre (M)
open PySem.Builtin.Re

/-- what a search engine gives -/
noncomputable def Srch (code : Array Nat) (hit : Array Nat → Nat → Prop) (e : Array Nat → Nat → Nat) : Prop :=
  ∀ (text : Array Nat) (s : Nat), text.size ≤ 2 ^ 20 → s ≤ text.size → Ends (Sre.forSearch code text 0 s text.size false) (Res (hit text) (e text) s) (2 ^ 24)
structure HitOk (hit : Array Nat → Nat → Prop) (e : Array Nat → Nat → Nat) : Prop where
  lt : ∀ t p, hit t p → p < t.size
  up : ∀ t p, hit t p → p < e t p
  le : ∀ t p, hit t p → e t p ≤ t.size

inductive Out (hit : Nat → Prop) (e : Nat → Nat) (rep : List Nat) (text : Array Nat) : Nat → List Nat → Prop
  | fin {s : Nat} : (∀ q, s ≤ q → ¬ hit q) → Out hit e rep text s (text.extract s text.size).toList
  | hit {s p : Nat} {r : List Nat} : s ≤ p → hit p → (∀ q, s ≤ q → q < p → ¬ hit q) → Out hit e rep text (e p) r → Out hit e rep text s ((text.extract s p).toList ++ rep ++ r)

section
variable {prog : Program} {w : World} {A : Around} {E : Value → Shared → Prop} {sh : Shared}
variable {p ct : Addr} {src fl : Value} {items : Array Value} {sl1 sl2 : Array (Option Value)} {n1 : Nat}

noncomputable def patObj (src fl : Value) (ct : Addr) : Obj := { cls := .type "re.Pattern", data := .fields #[src, fl, .int 0 0, .none, .none, .ref ct, .int 0 0] }
noncomputable def codeOf (items : Array Value) : Array Nat := (items.map reRawOf).map (·.toNat)

theorem target_ok {x : Str} {t : Tok} {Q : ReTarget → Shared → Prop} (hp : sh.heap.get? p = some (patObj src fl ct)) (hc : sh.heap.get? ct = some (tupObj items n1))
    (hQ : Q { pattern := .ref p, string := .str x t, code := codeOf items, text := x.cps, kind := 0, groups := 0, pos := 0, lim := x.cps.size } sh) :
    wpAny (model prog w) A (reWholeTarget (.ref p) (.str x t)) Q E sh := by
  unfold reWholeTarget
  refine wpAny_bind (wpAny_fieldsOf hp rfl ?_)
  refine wpAny_bind (wpAny_pure ?_)
  dsimp only
  refine wpAny_bind (wpAny_pure ?_)
  refine wpAny_bind (m := reRawItems (.ref ct)) ?_
  unfold reRawItems
  exact wpAny_bind (wpAny_seqItems hc rfl (wpAny_pure (wpAny_pure hQ)))

theorem pushPiece {D : Addr} {l : List (Str × Tok)} {c : Nat} {x : Str} {t : Tok} {Q : Unit → Shared → Prop} (hD : sh.heap.get? D = some (listObj (strValues l).toArray c)) (hl : l.length ≤ 2 ^ 23)
    (hQ : ∀ h', h'.get? D = some (listObj (strValues (l ++ [(x, t)])).toArray (c + 1)) → Heap.SameBut D sh.heap h' → Q () { sh with heap := h' }) :
    wpAny (model prog w) A (updateSeq D (·.push (.str x t))) Q E sh := by
  have hs : (strValues l).toArray.size ≤ sizeLine := by
    rw [List.size_toArray]; unfold strValues; rw [List.length_map]; unfold sizeLine; exact ar321 hl
  refine wpAny_updateSeq hD rfl (hQ _ ?_ (Heap.SameBut.update ..)) hs (by rw [Array.size_push]; exact ar260 hs)
  rw [Heap.get?_update_self _ hD (by rw [Obj.mapSeq_push_plain]; rfl), Obj.mapSeq_push_plain]
  unfold strValues
  rw [List.map_append]; simp

noncomputable def flat (l : List (Str × Tok)) : List Nat := (l.map fun x => L x.1).flatten
theorem flat_snoc (l : List (Str × Tok)) (x : Str) (t : Tok) : flat (l ++ [(x, t)]) = flat l ++ L x := by unfold flat; simp
theorem flat_join (l : List (Str × Tok)) : ((l.map (·.1)).map L).flatten = flat l := by unfold flat; rw [List.map_map]; rfl

theorem join_ok {D : Addr} {l : List (Str × Tok)} {c : Nat} {t : Tok} {Q : Value → Shared → Prop} (hD : sh.heap.get? D = some (listObj (strValues l).toArray c)) (hl : (flat l).length ≤ 2 ^ 23)
    (hQ : ∀ t' tk, Q (.str (S (flat l)) t') { sh with toks := tk }) : wpAny (model prog w) A (call (.builtin "str.join") [.str (S []) t, .ref D]) Q E sh := by
  have hok : JoinOk (S []) (l.map (·.1)) = true := by
    unfold JoinOk
    rw [StrLaws.joinTotal]
    have h0 : (S []).length = 0 := rfl
    have h1 : ((l.map (·.1)).map (·.length)).sum = (flat l).length := by
      unfold flat
      rw [List.length_flatten, List.map_map, List.map_map]
      exact congrArg List.sum (List.map_congr_left fun x _ => (len_L x.1).symm)
    rw [h0, h1, Nat.mul_zero, Nat.add_zero]
    unfold Builtin.Str.tooLong sizeLine
    rw [decide_eq_false (by exact ar322 hl)]; rfl
  refine SC.join (isListObj hD) rfl hok fun t' tk => ?_
  rw [txt_join_nil, flat_join]
  exact hQ t' tk
end

theorem reSlice0 (text : Array Nat) (b e : Nat) : reSlice text 0 b e = mkStr (S (text.extract b e).toList) := by
  show mkStr ⟨_⟩ = _
  congr 1

theorem sub_loop {prog : Program} {w : World} {A : Around} {code : Array Nat} {hit : Array Nat → Nat → Prop} {e : Array Nat → Nat → Nat} (hS : Srch code hit e) (H : HitOk hit e) {p ct D : Addr} {src fl : Value} {items : Array Value} {n1 : Nat} (hcode : codeOf items = code)
    {x rp : Str} {t t2 : Tok} (hsz : x.cps.size ≤ 2 ^ 20) (hrp : (L rp).length ≤ 2) (hDp : p ≠ D) (hDc : ct ≠ D) {R : Result → Shared → Prop} : ∀ {s : Nat} {out : List Nat}, Out (hit x.cps) (e x.cps) (L rp) x.cps s out → s ≤ x.cps.size →
    ∀ (n : Int) (l : List (Str × Tok)) (c : Nat) (sh : Shared), sh.heap.get? p = some (patObj src fl ct) → sh.heap.get? ct = some (tupObj items n1) → sh.heap.get? D = some (listObj (strValues l).toArray c) →
      l.length ≤ 2 * s → (flat l).length + out.length ≤ 2 ^ 23 →
      (∀ h' tk t', (∀ b o, b ≠ D → sh.heap.get? b = some o → h'.get? b = some o) → R (.ok (.ret (.str (S (flat l ++ out)) t'))) { sh with heap := h', toks := tk }) →
      codeAny (model prog w) A (.builtin "re.Pattern.sub.loop" ⟨[.ref p, .str x t, .str rp t2, rawInt 0, rawInt 0, rawInt n, rawInt s, rawInt s, .bool false, .ref D, .bool false], []⟩) R sh := by
  intro s out hO
  induction hO with
  | @fin s hno =>
    intro hs n l c sh hp hc hD hl hfl hR
    subst hcode
    refine codeAny_builtin F.entry_rep_loop ?_
    rw [Around.under_plainId F.plain_rep_loop _]
    show wpAny _ A.in1 (reWholeTarget (.ref p) (.str x t) >>= _) _ _ sh
    refine wpAny_bind (target_ok hp hc ?_)
    dsimp only
    refine wpAny_bind (wpAny_pure ?_)
    rw [if_neg (by simp)]
    refine wpAny_bind (end_ok (hS x.cps s hsz hs) (by decide) (fun m' hP ho => ?_) (fun m' hP ho => ?_) fun m' hP => ?_)
    · exfalso
      rcases hP with ⟨q, hq, hh, _⟩ | ⟨_, hf⟩
      · exact hno q hq hh
      · rw [ho] at hf; cases hf
    · dsimp only
      rw [Int.toNat_natCast]
      have join : ∀ (h₁ : Heap) (l' : List (Str × Tok)) (c' : Nat), h₁.get? D = some (listObj (strValues l').toArray c') → (flat l').length ≤ 2 ^ 23 → flat l' = flat l ++ (x.cps.extract s x.cps.size).toList → (∀ b o, b ≠ D → sh.heap.get? b = some o → h₁.get? b = some o) →
          ∀ tk, wpAny (model prog w) A.in1 (do
            let joiner ← reSlice x.cps 0 0 0
            let __do_lift ← seqItems? (.ref D)
            let text ← if (__do_lift.getD #[]).isEmpty = true then pure joiner else call (.builtin "str.join") [joiner, .ref D]
            ret text) (fun fin s' => match fin with
              | .done f => R (Except.ok f) s'
              | .again c' => c'.quiet = true ∧ codeAny (model prog w) A c' R s') (fun e s' => R (Except.error e) s') { sh with heap := h₁, toks := tk } := by
        intro h₁ l' c' hD' hlen hfl' hk tk
        rw [reSlice0, show (x.cps.extract 0 0).toList = [] by simp]
        refine wpAny_bind (wpAny_mkStr ?_ (by decide))
        refine wpAny_bind (wpAny_seqItems hD' rfl ?_)
        dsimp only [Option.getD]
        by_cases hE : (strValues l').toArray.isEmpty = true
        · rw [if_pos hE]
          refine wpAny_bind (wpAny_pure (wpAny_pure ?_))
          have : l' = [] := by
            cases l' with
            | nil => rfl
            | cons a r => cases hE
          rw [← hfl', this] at hR
          exact hR _ _ _ hk
        · rw [if_neg hE]
          refine wpAny_bind (join_ok hD' hlen fun t' tk => wpAny_pure ?_)
          rw [hfl']
          exact hR _ _ _ hk
      by_cases hlt : s < x.cps.size
      · rw [if_pos hlt]
        rw [reSlice0]
        have hex : (x.cps.extract s x.cps.size).toList.length ≤ x.cps.size := by simp
        refine wpAny_bind (wpAny_mkStr ?_ (by rw [← len_L, L_S]; unfold sizeLine; exact ar323 hfl))
        have hfl2 : flat (l ++ [(S (x.cps.extract s x.cps.size).toList, sh.toks)]) = flat l ++ (x.cps.extract s x.cps.size).toList := by rw [flat_snoc, L_S]
        refine wpAny_bind (pushPiece hD (by exact ar324 hl hlt hsz) fun h' hD' hb => ?_)
        exact join _ _ _ hD' (by rw [hfl2, List.length_append]; lia) hfl2 (fun b o q z => (hb.2 b q).trans z) _
      · rw [if_neg hlt]
        refine join _ _ _ hD (by exact ar325 hfl) ?_ (fun _ _ _ e => e) _
        have : x.cps.extract s x.cps.size = #[] := by simp; exact ar3 hlt
        rw [this]; simp
    · rcases hP with ⟨q, hq, hh, _, z, _⟩ | ⟨_, z⟩
      · exact .inl z
      · exact .inr z
  | @hit s q r h1 h2 h3 hr ih =>
    intro hs n l c sh hp hc hD hl hfl hR
    subst hcode
    refine codeAny_builtin F.entry_rep_loop ?_
    rw [Around.under_plainId F.plain_rep_loop _]
    show wpAny _ A.in1 (reWholeTarget (.ref p) (.str x t) >>= _) _ _ sh
    refine wpAny_bind (target_ok hp hc ?_)
    dsimp only
    refine wpAny_bind (wpAny_pure ?_)
    rw [if_neg (by simp)]
    refine wpAny_bind (end_ok (hS x.cps s hsz hs) (by decide) (fun m' hP ho => ?_) (fun m' hP ho => ?_) fun m' hP => ?_)
    · have hm : m'.start = q ∧ m'.handed = e x.cps q := by
        rcases hP with ⟨q', a1, a2, a3, _, a4, a5⟩ | ⟨a1, a2⟩
        · have : q' = q := by
            rcases Nat.lt_trichotomy q q' with z | z | z
            · exact absurd h2 (a3 q h1 z)
            · exact z.symm
            · exact absurd a2 (h3 q' a1 z)
          subst this
          exact ⟨a4, a5⟩
        · exact absurd h2 (a1 q h1)
      obtain ⟨hm1, hm2⟩ := hm
      have hup := H.up _ _ h2
      have hle := H.le _ _ h2
      have hlt := H.lt _ _ h2
      dsimp only
      rw [Int.toNat_natCast, hm1, hm2, show (e x.cps q == q) = false by rw [beq_eq_false_iff_ne]; exact ar326 hup]
      have next : ∀ (h₁ : Heap) (l' : List (Str × Tok)) (c' : Nat), h₁.get? D = some (listObj (strValues l').toArray c') → l'.length ≤ l.length + 1 → flat l' = flat l ++ (x.cps.extract s q).toList → (∀ b o, b ≠ D → sh.heap.get? b = some o → h₁.get? b = some o) →
          ∀ tk, wpAny (model prog w) A.in1 (do
            let item ← (pure (.str rp t2) : Sem Value)
            if (item != Value.none) = true then do
              updateSeq D fun x => x.push item
              again (.builtin "re.Pattern.sub.loop" ⟨[.ref p, .str x t, .str rp t2, rawInt 0, rawInt 0, rawInt (n + 1), rawInt (e x.cps q), rawInt (e x.cps q), .bool false, .ref D, .bool false], []⟩)
            else again (.builtin "re.Pattern.sub.loop" ⟨[.ref p, .str x t, .str rp t2, rawInt 0, rawInt 0, rawInt (n + 1), rawInt (e x.cps q), rawInt (e x.cps q), .bool false, .ref D, .bool false], []⟩)) (fun fin s' => match fin with
              | .done f => R (Except.ok f) s'
              | .again c' => c'.quiet = true ∧ codeAny (model prog w) A c' R s') (fun e s' => R (Except.error e) s') { sh with heap := h₁, toks := tk } := by
        intro h₁ l' c' hD' hlen hfl' hk tk
        refine wpAny_bind (wpAny_pure ?_)
        rw [if_pos (show (Value.str rp t2 != Value.none) = true from rfl)]
        refine wpAny_bind (pushPiece hD' (by exact ar327 hlen hl h1 hlt hsz) fun h' hD2 hb => ?_)
        have hk2 : ∀ b o, b ≠ D → sh.heap.get? b = some o → h'.get? b = some o := fun b o z y => (hb.2 b z).trans (hk b o z y)
        have hfl2 : flat (l' ++ [(rp, t2)]) = flat l ++ ((x.cps.extract s q).toList ++ L rp) := by rw [flat_snoc, hfl', List.append_assoc]
        refine wpAny_pure ⟨plainId_quiet F.plain_rep_loop _, ih hle (n + 1) _ _ { sh with heap := h', toks := tk } (hk2 _ _ hDp hp) (hk2 _ _ hDc hc) hD2 (by rw [List.length_append]; simp; exact ar328 hlen hl h1 hup) ?_ fun h3 tk3 t3 hk3 => ?_⟩
        · rw [hfl2]
          simp only [List.length_append] at hfl ⊢
          exact ar329 hfl
        · have := hR h3 tk3 t3 fun b o z y => hk3 b o z (hk2 b o z y)
          rw [hfl2]
          rw [← List.append_assoc, List.append_assoc, ← List.append_assoc] at this
          simpa [List.append_assoc] using this
      by_cases hsq : s < q
      · rw [if_pos hsq, reSlice0]
        have hex : (x.cps.extract s q).toList.length ≤ x.cps.size := by simp; lia
        refine wpAny_bind (wpAny_mkStr ?_ (by rw [← len_L, L_S]; unfold sizeLine; exact ar330 hex hsz))
        have hfl2 : flat (l ++ [(S (x.cps.extract s q).toList, sh.toks)]) = flat l ++ (x.cps.extract s q).toList := by rw [flat_snoc, L_S]
        refine wpAny_bind (pushPiece hD (by exact ar331 hl hsq hup hle hsz) fun h' hD' hb => ?_)
        rw [if_pos (show ((0 : Int) == 0) = true from rfl)]
        exact next _ _ _ hD' (by rw [List.length_append]; simp) hfl2 (fun b o q z => (hb.2 b q).trans z) _
      · rw [if_neg hsq, if_pos (show ((0 : Int) == 0) = true from rfl)]
        have : q = s := by exact ar105 h1 hsq
        refine next _ _ _ hD (by exact ar166) ?_ (fun _ _ _ e => e) _
        rw [this]; simp
    · exfalso
      rcases hP with ⟨q', a1, a2, a3, a0, a4, a5⟩ | ⟨a1, a2⟩
      · rw [ho] at a0; cases a0
      · exact a1 q h1 h2
    · rcases hP with ⟨q, hq, hh, _, z, _⟩ | ⟨_, z⟩
      · exact .inl z
      · exact .inr z

end
section
set_option autoImplicit false
set_option maxRecDepth 100000
open Sre (M)
open PySem.Builtin.Re

theorem named_ok (a b : Value) : reNamed "re.Pattern.sub" "sub" ["repl", "string", "count"] 2 [a, b] [] = pure [some a, some b, none] := by rfl

theorem sub_call {prog : Program} {w : World} {A : Around} {hit : Array Nat → Nat → Prop} {e : Array Nat → Nat → Nat} {p ct : Addr} {src fl : Value} {items : Array Value} {n1 : Nat} {sh : Shared} {E : Value → Shared → Prop} {Q : Value → Shared → Prop}
    (hS : Srch (codeOf items) hit e) (H : HitOk hit e) {x rp : Str} {t t2 : Tok} (hsz : x.cps.size ≤ 2 ^ 20) (hrp : (L rp).length ≤ 2) (h92 : rp.cps.contains 92 = false) {out : List Nat} (hO : Out (hit x.cps) (e x.cps) (L rp) x.cps 0 out) (hout : out.length ≤ 2 ^ 23)
    (hp : sh.heap.get? p = some (patObj src fl ct)) (hc : sh.heap.get? ct = some (tupObj items n1))
    (hQ : ∀ h' tk t', (∀ b o, sh.heap.get? b = some o → h'.get? b = some o) → Q (.str (S out) t') { sh with heap := h', toks := tk }) :
    wpAny (model prog w) A (call (.builtin "re.Pattern.sub") [.ref p, .str rp t2, .str x t]) Q E sh := by
  refine wpAny_call (codeAny_call_builtin F.slot_rep_sub.plain F.entry_rep_sub (F.slot_rep_sub.check _ _ _ _ _ _ _ _ ⟨_, hp, rfl⟩ (F.args_rep_sub _ _ _) ?_))
  show wpAny _ _ (reSubstitute "re.Pattern.sub" "sub" false ⟨[.ref p, .str rp t2, .str x t], []⟩) _ _ sh
  unfold reSubstitute
  dsimp only
  rw [named_ok]
  refine wpAny_bind (wpAny_pure ?_)
  dsimp only
  refine wpAny_bind (wpAny_pure ?_)
  refine wpAny_bind (wpAny_specialOf_val rfl F.nocall_str ?_)
  dsimp only [Option.isSome]
  rw [if_neg (by decide)]
  refine wpAny_bind (wpAny_pure ?_)
  dsimp only
  refine wpAny_bind (wpAny_pure ?_)
  rw [if_neg (by decide), if_pos (show (!rp.cps.contains 92) = true by rw [h92]; rfl)]
  refine wpAny_bind (wpAny_pure ?_)
  dsimp only
  refine wpAny_bind (wpAny_holding (target_ok hp hc ?_))
  rw [if_neg (by decide)]
  refine wpAny_bind (wpAny_newList ?_ (by decide))
  have hfr : ∀ o, sh.heap.get? sh.heap.objs.size ≠ some o := fun o z => absurd (Heap.lt_size z) (Nat.lt_irrefl _)
  have hk : ∀ b o, sh.heap.get? b = some o → (sh.heap.push (listObj [].toArray 0)).get? b = some o := fun b o z => Heap.get?_push_of_some _ z
  refine wpAny_pure ⟨plainId_quiet F.plain_rep_loop _, sub_loop (D := sh.heap.objs.size) hS H rfl hsz hrp (fun z => hfr _ (z ▸ hp)) (fun z => hfr _ (z ▸ hc)) hO (Nat.zero_le _) 0 [] 0 { sh with heap := sh.heap.push (listObj [].toArray 0) } (hk _ _ hp) (hk _ _ hc) (Heap.get?_push_size _ rfl) (Nat.zero_le _) ?_ fun h' tk t' hk' => ?_⟩
  · show 0 + out.length ≤ _
    exact ar332 hout
  · have := hQ h' tk t' fun b o z => hk' b o (fun q => hfr o (q ▸ z)) (hk b o z)
    exact this

end
section
set_option autoImplicit false
set_option maxRecDepth 100000

section
variable {hit : Nat → Prop} {e : Nat → Nat} {rep : List Nat} {text : Array Nat}
theorem ext_cons {s p : Nat} (h : s < p) (hs : s < text.size) : (text.extract s p).toList = text[s] :: (text.extract (s + 1) p).toList := by
  rw [Array.toList_extract, Array.toList_extract]
  unfold List.extract
  rw [List.drop_eq_getElem_cons (by simpa using hs)]
  rw [show p - s = (p - (s + 1)) + 1 by exact ar333 h, List.take_succ_cons]
  rfl
theorem Out.next {s : Nat} {r : List Nat} (hs : s < text.size) (h : ¬ hit s) (hlt : ∀ p, hit p → p < text.size) (o : Out hit e rep text (s + 1) r) : Out hit e rep text s (text[s] :: r) := by
  cases o with
  | fin hno =>
    rw [← ext_cons hs hs]
    refine .fin fun q hq => ?_
    rcases Nat.eq_or_lt_of_le hq with z | z
    · exact z ▸ h
    · exact hno q z
  | @hit _ p r h1 h2 h3 h4 =>
    have : text[s] :: ((text.extract (s + 1) p).toList ++ rep ++ r) = (text.extract s p).toList ++ rep ++ r := by
      rw [ext_cons (by exact ar167 h1) hs]; rfl
    rw [this]
    exact .hit (by exact ar10 h1) h2 (fun q q1 q2 => by
      rcases Nat.eq_or_lt_of_le q1 with z | z
      · exact z ▸ h
      · exact h3 q z q2) h4
theorem Out.at {s : Nat} {r : List Nat} (h : hit s) (o : Out hit e rep text (e s) r) : Out hit e rep text s (rep ++ r) := by
  have := Out.hit (e := e) (rep := rep) (text := text) (Nat.le_refl s) h (fun q h1 h2 => absurd h2 (by exact ar5 h1)) o
  rw [show (text.extract s s).toList = [] by simp] at this
  exact this
theorem Out.end {s : Nat} (hs : text.size ≤ s) (hlt : ∀ p, hit p → p < text.size) : Out hit e rep text s [] := by
  have := Out.fin (hit := hit) (e := e) (rep := rep) (text := text) (s := s) fun q hq h => absurd (hlt q h) (by exact ar334 hs hq)
  rw [show (text.extract s text.size).toList = [] by simp; exact ar335 hs] at this
  exact this
end

noncomputable def crlfy : List Nat → List Nat
  | [] => []
  | 13 :: 10 :: r => 13 :: 10 :: crlfy r
  | c :: r => if c = 13 ∨ c = 10 then 13 :: 10 :: crlfy r else c :: crlfy r
noncomputable def dotify : Bool → List Nat → List Nat
  | _, [] => []
  | b, c :: r => if b = true ∧ c = 46 then 46 :: 46 :: dotify false r else c :: dotify (c == 10) r

theorem dotify_out (text : Array Nat) : ∀ (l : List Nat) (s : Nat), text.toList.drop s = l → Out (hit1 text) (· + 1) [46, 46] text s (dotify (s == 0 || text.getD (s - 1) 0 == 10) l)
  | [], s, h => Out.end (by have := List.drop_eq_nil_iff.mp h; simpa using this) fun p h => h.1
  | c :: r, s, h => by
    have hs : s < text.size := by
      rcases Nat.lt_or_ge s text.size with z | z
      · exact z
      · rw [List.drop_eq_nil_of_le (by simpa using z)] at h; cases h
    have hd := List.drop_eq_getElem_cons (l := text.toList) (i := s) (by simpa using hs)
    rw [h] at hd
    have hc : c = text[s] := by have := (List.cons.inj hd).1; simpa using this
    have hr : text.toList.drop (s + 1) = r := ((List.cons.inj hd).2).symm
    have hg : text.getD s 0 = c := by rw [hc]; simp [Array.getD, hs]
    have ih := dotify_out text r (s + 1) hr
    have hb : (s + 1 == 0 || text.getD (s + 1 - 1) 0 == 10) = (c == 10) := by rw [Nat.add_sub_cancel, hg]; rfl
    rw [hb] at ih
    unfold dotify
    by_cases q : (s == 0 || text.getD (s - 1) 0 == 10) = true ∧ c = 46
    · rw [if_pos q]
      refine Out.at (e := (· + 1)) (rep := [46, 46]) (r := dotify false r) ⟨hs, q.1, hg.trans q.2⟩ ?_
      rw [q.2] at ih
      exact ih
    · rw [if_neg q]
      have := Out.next (hit := hit1 text) hs (fun z => q ⟨z.2.1, by rw [← hg]; exact z.2.2⟩) (fun p h => h.1) ih
      rw [← hc] at this
      exact this

theorem crlfy_out (text : Array Nat) : ∀ (n : Nat) (l : List Nat) (s : Nat), l.length ≤ n → text.toList.drop s = l → Out (hit2 text) (end2 text) [13, 10] text s (crlfy l)
  | _, [], s, _, h => Out.end (by have := List.drop_eq_nil_iff.mp h; simpa using this) fun p h => h.1
  | 0, c :: r, s, hn, h => by simp at hn
  | n + 1, c :: r, s, hn, h => by
    have hs : s < text.size := by
      rcases Nat.lt_or_ge s text.size with z | z
      · exact z
      · rw [List.drop_eq_nil_of_le (by simpa using z)] at h; cases h
    have hd := List.drop_eq_getElem_cons (l := text.toList) (i := s) (by simpa using hs)
    rw [h] at hd
    have hc : c = text[s] := by have := (List.cons.inj hd).1; simpa using this
    have hr : text.toList.drop (s + 1) = r := ((List.cons.inj hd).2).symm
    have hg : text.getD s 0 = c := by rw [hc]; simp [Array.getD, hs]
    have hg1 : ∀ c' r', r = c' :: r' → s + 1 < text.size ∧ text.getD (s + 1) 0 = c' ∧ text.toList.drop (s + 2) = r' := fun c' r' e => by
      have hs1 : s + 1 < text.size := by
        rcases Nat.lt_or_ge (s + 1) text.size with z | z
        · exact z
        · rw [List.drop_eq_nil_of_le (by simpa using z)] at hr; rw [← hr] at e; cases e
      have hd1 := List.drop_eq_getElem_cons (l := text.toList) (i := s + 1) (by simpa using hs1)
      rw [hr, e] at hd1
      have : c' = text[s + 1] := by have := (List.cons.inj hd1).1; simpa using this
      exact ⟨hs1, by rw [this]; simp [Array.getD, hs1], ((List.cons.inj hd1).2).symm⟩
    by_cases h13 : c = 13 ∧ ∃ r', r = 10 :: r'
    · obtain ⟨e13, r', e10⟩ := h13
      obtain ⟨z1, z2, z3⟩ := hg1 10 r' e10
      subst e10; subst e13
      rw [crlfy]
      have ee : end2 text s = s + 2 := by unfold end2; rw [if_pos ⟨hg, z1, z2⟩]
      refine Out.at (e := end2 text) (rep := [13, 10]) (r := crlfy r') ⟨hs, .inr hg⟩ ?_
      rw [ee]
      exact crlfy_out text n r' (s + 2) (by simp at hn; exact ar10 hn) z3
    · have hcr : crlfy (c :: r) = if c = 13 ∨ c = 10 then 13 :: 10 :: crlfy r else c :: crlfy r := by
        rw [crlfy]
        intro r' e1 e2
        exact h13 ⟨e1, r', e2⟩
      have ih := crlfy_out text n r (s + 1) (by simp at hn; lia) hr
      rw [hcr]
      by_cases q : c = 13 ∨ c = 10
      · rw [if_pos q]
        have ee : end2 text s = s + 1 := by
          unfold end2
          rw [if_neg]
          rintro ⟨y1, y2, y3⟩
          refine h13 ⟨by rw [← hg]; exact y1, ?_⟩
          have hd1 := List.drop_eq_getElem_cons (l := text.toList) (i := s + 1) (by simpa using y2)
          rw [hr] at hd1
          have e0 : text.toList[s + 1] = 10 := by
            rw [← y3]; simp [Array.getD, y2]
          exact ⟨_, by rw [e0] at hd1; exact hd1⟩
        refine Out.at (e := end2 text) (rep := [13, 10]) (r := crlfy r) ⟨hs, by rw [hg]; exact q.symm⟩ ?_
        rw [ee]; exact ih
      · rw [if_neg q]
        have := Out.next (hit := hit2 text) hs (fun z => q (by rw [← hg]; exact z.2.symm)) (fun p h => h.1) ih
        rw [← hc] at this
        exact this

theorem hitOk1 : HitOk hit1 (fun _ p => p + 1) := ⟨fun _ _ h => h.1, fun _ _ _ => Nat.lt_succ_self _, fun _ _ h => h.1⟩
theorem hitOk2 : HitOk hit2 end2 := ⟨fun _ _ h => h.1, fun t p h => by unfold end2; split <;> (first | exact ar336 | exact ar337), fun t p h => by
  unfold end2
  split
  · rename_i q; exact q.2.1
  · exact h.1⟩
theorem srch1 : Srch c1 hit1 (fun _ p => p + 1) := fun text s h hs => (search1 text s hs).le (by exact ar338 h)
theorem srch2 : Srch c2 hit2 end2 := fun text s h hs => (search2 text s hs).le (by exact ar339)

theorem crlfy_len : ∀ (n : Nat) (l : List Nat), l.length ≤ n → (crlfy l).length ≤ 2 * l.length
  | _, [], _ => by simp [crlfy]
  | 0, c :: r, h => by simp at h
  | n + 1, c :: r, h => by
    have ih := crlfy_len n r (by simp at h; lia)
    unfold crlfy
    split
    · rename_i r' e
      cases e
    · rename_i r' e
      cases e
      have := crlfy_len n r' (by simp at h; exact ar10 h)
      simp; exact ar340 this
    · rename_i c' r' hh e
      cases e
      split <;> simp <;> (first | exact ar341 ih | exact ar342 ih)
theorem dotify_len : ∀ (b : Bool) (l : List Nat), (dotify b l).length ≤ 2 * l.length
  | _, [] => by simp [dotify]
  | b, c :: r => by
    unfold dotify
    have h1 := dotify_len false r
    have h2 := dotify_len (c == 10) r
    split <;> simp <;> (first | exact ar341 h1 | exact ar342 h2)

end
section
set_option autoImplicit false
set_option maxRecDepth 100000

/-- a pattern of the text's own -/
structure Pat (G : Glb) (p : Addr) (rep : List Nat) (f : List Nat → List Nat) : Prop where
  obj : ∃ o, G.base p = some o ∧ o.cls = .type "re.Pattern" ∧ o.dict = none
  run : ∀ {A : Around} {sh : Shared} {E Q : Value → Shared → Prop} {x : Str} {t t2 : Tok}, G.In sh.heap → x.cps.size ≤ 2 ^ 20 →
    (∀ h' tk t', (∀ b o, sh.heap.get? b = some o → h'.get? b = some o) → Q (.str (S (f (L x))) t') { sh with heap := h', toks := tk }) →
    wpAny (model G.prog G.w) A (call (.builtin "re.Pattern.sub") [.ref p, .str (S rep) t2, .str x t]) Q E sh

theorem Pat.dots {G : Glb} {p ct : Addr} {src fl : Value} {items : Array Value} {n : Nat} (h1 : G.base p = some (patObj src fl ct)) (h2 : G.base ct = some (tupObj items n)) (hc : codeOf items = c1) : Pat G p [46, 46] (dotify true) where
  obj := ⟨_, h1, rfl, rfl⟩
  run := fun {A sh E Q x t t2} hin hsz hQ => by
    have hl := dotify_len true (L x)
    have hx : (L x).length = x.cps.size := by simp [L]
    refine sub_call (hc ▸ srch1) hitOk1 hsz (by rw [L_S]; decide) (by decide +kernel) (out := dotify true (L x)) ?_ (by exact ar346 hl hx hsz) (hin _ _ h1) (hin _ _ h2) hQ
    have := dotify_out x.cps (L x) 0 rfl
    rw [L_S]; exact this
theorem Pat.ends {G : Glb} {p ct : Addr} {src fl : Value} {items : Array Value} {n : Nat} (h1 : G.base p = some (patObj src fl ct)) (h2 : G.base ct = some (tupObj items n)) (hc : codeOf items = c2) : Pat G p [13, 10] crlfy where
  obj := ⟨_, h1, rfl, rfl⟩
  run := fun {A sh E Q x t t2} hin hsz hQ => by
    have hl := crlfy_len _ (L x) (Nat.le_refl _)
    have hx : (L x).length = x.cps.size := by simp [L]
    refine sub_call (hc ▸ srch2) hitOk2 hsz (by rw [L_S]; decide) (by decide +kernel) (out := crlfy (L x)) ?_ (by exact ar346 hl hx hsz) (hin _ _ h1) (hin _ _ h2) hQ
    have := crlfy_out x.cps _ (L x) 0 (Nat.le_refl _) rfl
    rw [L_S]; exact this

noncomputable def wSub (rep : List Nat) (f : List Nat → List Nat) (Ws : WL) : WE := fun Q ρ σ => Ws (fun vs σ' => ∃ x, vs = [.str (S rep), .str x] ∧ (L x).length ≤ 2 ^ 20 ∧ Q (.str (S (f (L x)))) σ') ρ σ
section
variable {G : Glb} {ℓ : Nat} {sc : Scope}
theorem r_sub (O : G.Ok) {x : Str} {np apos pos : Pos} {e : Expr} {rest : List Expr} {p : Addr} {rep : List Nat} {f : List Nat → List Nat} {Ws : WL} (P : Pat G p rep f) (hm : G.mg x = some (.ref p))
    (hk : sc.names.lookup x = some .globalImplicit) (hd : (x == ("__debug__" : Str)) = false) (ha : Evs G ℓ sc (e :: rest) Ws)
    (h0 : ∀ env, attributeBase (.Name x np) (Str.ofString "sub") env (eval (.Name x np) env) = eval (.Name x np) env)
    (h1 : ∀ env, starEach (e :: rest) env = (false, eval e env) :: starEach rest env) (h2 : ∀ env, (backTo pos (starEach rest env)).any (·.1) = false)
    (h3 : ∀ env, (((backTo pos (starEach (e :: rest) env)).all fun x => !x.1) && (backToKw pos (keywordEach [] env)).all fun x => x.1.isSome) = true)
    (h4 : decide ((e :: rest).length + ([] : List Keyword).length + (if ([] : List Keyword).isEmpty = true then 0 else 1) < 30) = true)
    (h5 : (apos.endLine == pos.line) = true) :
    Ev G ℓ sc (.Call (.Attribute (.Name x np) (Str.ofString "sub") apos) (e :: rest) [] pos) (wSub rep f Ws) := by
  intro A env own s g φ σ ρ Q cx eo R hW K E k
  obtain ⟨o, ho, hcls, hdn⟩ := P.obj
  refine wpAny_Call_method (h0 env) (by rw [h3 env, h4]; rfl) h5 F.plainAttrs_rep F.slot_rep_sub F.type_rep_sub ?_
  refine Ev.glob (ℓ := ℓ) O hk hm (v := .raw (.ref p)) (fun _ _ => rfl) hd A env own s g φ σ ρ (fun v σ' => v = .raw (.ref p) ∧ Ws (fun vs σ' => ∃ x, vs = [.str (S rep), .str x] ∧ (L x).length ≤ 2 ^ 20 ∧ Q (.str (S (f (L x)))) σ') ρ σ') cx eo R ⟨rfl, hW⟩ _ _ fun w s₁ g₁ φ₁ σ₁ ov N₁ R₁ hv hQ => ?_
  obtain ⟨rfl, hQ⟩ := hQ
  have hv' : w = .ref p := hv
  subst hv'
  have hp := R₁.sr.inb _ _ ho
  refine ⟨⟨_, hp, hcls⟩, fun b e => (by cases e; exact ⟨_, hp, hdn⟩), callWith_method1 ?_ (h1 env) (h2 env)⟩
  refine ha A env own s₁ g₁ φ₁ σ₁ ρ _ cx eo R₁ hQ _ _ _ fun ws s₂ g₂ φ₂ σ₂ vs N₂ R₂ hvs hQ₂ => ?_
  obtain ⟨y, rfl, hsz, hQ₂⟩ := hQ₂
  obtain ⟨w1, w2, rfl, ⟨t1, rfl⟩, ⟨t2, rfl⟩⟩ := hvs.two
  refine of_toks R₂.ok.toks (P.run R₂.sr.inb (by simpa [L] using hsz) fun h' tk t' hk htk => ?_)
  have c : Cont G s₂ g₂ φ₂ Q K := fun w s' g' φ' σ' v N' ok' S' hv hQ => k _ _ _ _ _ v ((N₁.trans N₂).trans N') (R₂.step N' ok' S') hv hQ
  exact c.up R₂.ok R₂.sr hk (v := .str _) ⟨_, rfl⟩ hQ₂ htk
end

end
section
set_option autoImplicit false
set_option maxRecDepth 100000

section
variable {G : Glb} {P : Params} {ℓ : Nat} {sc : Scope} {np pos apos : Pos} {e o : Expr} {rest : List Expr} {Ws : WL} {Wo : WE}
theorem pat158 (T : TopG G P) : Pat G 158 [46, 46] (dotify true) := Pat.dots (T.K 158 _ rfl) (T.K 157 _ rfl) (by decide +kernel)
theorem pat163 (T : TopG G P) : Pat G 163 [13, 10] crlfy := Pat.ends (T.K 163 _ rfl) (T.K 162 _ rfl) (by decide +kernel)
theorem c_sub1 (T : TopG G P) (hk : sc.names.lookup (Str.ofString "_twin_re_1") = some .globalImplicit) (ha : Evs G ℓ sc (e :: rest) Ws)
    (h0 : ∀ env, attributeBase (.Name (Str.ofString "_twin_re_1") np) (Str.ofString "sub") env (eval (.Name (Str.ofString "_twin_re_1") np) env) = eval (.Name (Str.ofString "_twin_re_1") np) env)
    (h1 : ∀ env, starEach (e :: rest) env = (false, eval e env) :: starEach rest env) (h2 : ∀ env, (backTo pos (starEach rest env)).any (·.1) = false)
    (h3 : ∀ env, (((backTo pos (starEach (e :: rest) env)).all fun x => !x.1) && (backToKw pos (keywordEach [] env)).all fun x => x.1.isSome) = true)
    (h4 : decide ((e :: rest).length + ([] : List Keyword).length + (if ([] : List Keyword).isEmpty = true then 0 else 1) < 30) = true)
    (h5 : (apos.endLine == pos.line) = true) :
    Ev G ℓ sc (.Call (.Attribute (.Name (Str.ofString "_twin_re_1") np) (Str.ofString "sub") apos) (e :: rest) [] pos) (wSub [46, 46] (dotify true) Ws) :=
  r_sub T.O (pat158 T) (by rw [T.mg]; rfl) hk (by decide +kernel) ha h0 h1 h2 h3 h4 h5
theorem c_sub2 (T : TopG G P) (hk : sc.names.lookup (Str.ofString "_twin_re_2") = some .globalImplicit) (ha : Evs G ℓ sc (e :: rest) Ws)
    (h0 : ∀ env, attributeBase (.Name (Str.ofString "_twin_re_2") np) (Str.ofString "sub") env (eval (.Name (Str.ofString "_twin_re_2") np) env) = eval (.Name (Str.ofString "_twin_re_2") np) env)
    (h1 : ∀ env, starEach (e :: rest) env = (false, eval e env) :: starEach rest env) (h2 : ∀ env, (backTo pos (starEach rest env)).any (·.1) = false)
    (h3 : ∀ env, (((backTo pos (starEach (e :: rest) env)).all fun x => !x.1) && (backToKw pos (keywordEach [] env)).all fun x => x.1.isSome) = true)
    (h4 : decide ((e :: rest).length + ([] : List Keyword).length + (if ([] : List Keyword).isEmpty = true then 0 else 1) < 30) = true)
    (h5 : (apos.endLine == pos.line) = true) :
    Ev G ℓ sc (.Call (.Attribute (.Name (Str.ofString "_twin_re_2") np) (Str.ofString "sub") apos) (e :: rest) [] pos) (wSub [13, 10] crlfy Ws) :=
  r_sub T.O (pat163 T) (by rw [T.mg]; rfl) hk (by decide +kernel) ha h0 h1 h2 h3 h4 h5
theorem c_crlf (T : TopG G P) (hk : sc.names.lookup (Str.ofString "CRLF") = some .globalImplicit) : Ev G ℓ sc (.Name (Str.ofString "CRLF") np) (wVal (.str (S [13, 10]))) := by
  have e : S [13, 10] = Str.ofString "\r\n" := by decide +kernel
  rw [e]
  exact r_glob T.O hk (by rw [T.mg]; rfl) (fun _ _ => ⟨_, rfl⟩) (by decide +kernel)
end
local macro_rules | `(tactic| walk_at "fn") => mkWays "@c_crlf D|@c_sub1 D el R1 R1 R1 R1 R R|@c_sub2 D el R1 R1 R1 R1 R R"

theorem p_sub {rep : List Nat} {f : List Nat → List Nat} {Ws : WL} {Q : V → Sto → Prop} {ρ : Rho} {σ : Sto} (h : Ws (fun vs σ' => ∃ x, vs = [.str (S rep), .str x] ∧ (L x).length ≤ 2 ^ 20 ∧ Q (.str (S (f (L x)))) σ') ρ σ) : wSub rep f Ws Q ρ σ := h
theorem p_subk {rp x : Str} {rep : List Nat} {X : Str → Prop} (h1 : rp = S rep) (h2 : (L x).length ≤ 2 ^ 20) (h : X x) : ∃ y, [V.str rp, V.str x] = [.str (S rep), .str y] ∧ (L y).length ≤ 2 ^ 20 ∧ X y := ⟨x, by rw [h1], h2, h⟩
local macro_rules | `(tactic| walk_at "sn") => mkWays "?p_sub|p_subk D sg"

noncomputable def wQuote : WF := fun vs Q σ => ∃ x, vs = [.str x] ∧ (L x).length ≤ 2 ^ 19 ∧ Q (.str (S (dotify true (crlfy (L x))))) σ
theorem def170 {G : Glb} {P : Params} (T : TopG G P) : IsDef G 170 (fd 170) (bd 170) [] := isDef T 170 _ rfl rfl rfl rfl rfl rfl ⟨_, _, _, _, rfl, rfl, rfl, rfl⟩ rfl rfl rfl

set_option maxHeartbeats 1000000 in
theorem fn170 {G : Glb} {P : Params} (T : TopG G P) {ℓ : Nat} : FnOk G (ℓ + 1) (.ref 170) wQuote := by
  apply FnOk.mono
  apply FnOk.def T.O (def170 T) (ps := ["data"])
  focus (intro x hx; rw [List.mem_singleton.mp hx]; walk_at "cs")
  focus (intro ws h; obtain ⟨w, rfl⟩ := List.length_eq_one_iff.mp h; rfl)
  focus (apply s_cons; (focus walk_at "e1"); (focus walk_at "es"))
  rintro vs Q σ ⟨x, rfl, hsz, hQ⟩
  refine ⟨_, rfl, ?_⟩
  have hl := crlfy_len _ (L x) (Nat.le_refl _)
  repeat' walk_at "st"
  exact hQ

end
section
set_option autoImplicit false
/-- the state with one token more -/
noncomputable abbrev up1 (s : Shared) : Shared := { s with toks := s.toks + 1 }
theorem up1_ok {s : Shared} (hb : AllBare s.gens) : SOk (up1 s) := ⟨Nat.le_add_left _ _, hb⟩

section
variable {G : Glb} {g g' : FM} {φ φ' : List Addr} {σ σ' : Sto} {env : Env} {own : List Str} {ρ : Rho} {s s' : Shared} {A : Around} {E : Value → Shared → Prop}
theorem Nx.of_up {fp : List Addr} (N : Nx fp (up1 s) s' g g' φ φ') : Nx fp s s' g g' φ φ' := ⟨N.drawn, N.os, N.sub, N.new, N.pre, N.oth, N.ex⟩
/-- the frame of a def of one argument, a local name, set up -/
theorem enter1 (O : G.Ok) {ℓ : Nat} {a : Addr} {fd : FuncData} {body : List Stmt} {x : Str} (D : IsDef G a fd body [])
    (hx : fd.scope.names.lookup x = some .local) (hb : ∀ w : Value, bindArgs fd ⟨[w], []⟩ = pure [(x, w)])
    (cx : Cx (ℓ + 1) A) (bare : AllBare s.gens) (S : SR G g s.heap φ σ) {v : V} {w : Value} (hv : VR g φ v w) {K : Value → Shared → Prop}
    (h : ∀ (env : Env) (s₁ : Shared), EnvOk fd.scope env → env.frame = some env.locals → Cx ℓ (A.deeper env) → (∀ b ∈ fpOf env (ownOf fd.scope), s.heap.get? b = none) → Nx [] s s₁ g g φ φ → Rel G g φ σ env (ownOf fd.scope) (upd (fun _ => none) x v) s₁ →
      ∀ E' : Value → Shared → Prop, wpAny (model G.prog G.w) (A.deeper env) (execs body env) (fun f s' => (f = .next → K .none s') ∧ (∀ w, f = .ret w → K w s') ∧ (f = .next ∨ ∃ w, f = .ret w)) E' s₁) :
    wpAny (model G.prog G.w) A (call (.ref a) [w]) K E s := by
  obtain ⟨o, hbase, hdata⟩ := D.obj
  have inb : G.In s.heap := fun b o e => S.keep b o (S.base b o e)
  have dep := cx.depth
  have uni := cx.units
  refine wpAny_call (codeAny_call_function (by show A.depth < 1000; exact ar168 dep) (inb _ _ hbase) hdata D.co D.gen D.body (D.code _ inb) (BindsTo.of_eq (hb w) _ _ _ _ ?_))
  rw [D.closure]
  simp only [newFunctionEnv, Option.isSome_none, Bool.false_eq_true, if_false]
  refine wpAny_bind (wpAny_alloc ?_)
  refine wpAny_bind (wpAny_layCells _ (fun name kind cells => by cases kind == NameKind.cell <;> simp) _ _ _ _ ?_)
  rw [show ({ s with heap := s.heap.push { cls := .type "frame", data := .dict #[] } } : Shared).heap.objs.size = s.heap.objs.size + 1 from Heap.size_push ..]
  generalize hE : ({ scope := fd.scope, locals := s.heap.objs.size, globals := fd.globals, cells := cellsFrom (s.heap.objs.size + 1) fd.scope.names [], qual := fd.qualname ++ ".<locals>.", func := some a, code := fd.code, frame := some s.heap.objs.size, builtins := fd.builtins } : Env) = env
  have eo : EnvOk fd.scope env := ⟨by rw [← hE], D.kind, by rw [← hE]; exact D.globals, by rw [← hE]; exact D.builtins⟩
  obtain ⟨R₁, N₁, hfr⟩ := Rel.frame (s := up1 s) (cls := .type "frame") (sc := fd.scope) (sc' := fd.scope) (cl := []) (ρ₀ := fun _ => none) (env' := env) (up1_ok bare) S (fun x v h => by cases h) eo.scope (by rw [← hE]) (by rw [← hE])
  rw [List.forIn_cons]
  refine wpAny_bind (wpAny_bind (wpAny_bind (store_local0 eo bare R₁.sr R₁.fr hx hv fun s₂ N₂ R₂ => wpAny_pure ?_)))
  dsimp only
  rw [List.forIn_nil]
  refine wpAny_pure (wpAny_pure ⟨O.nolimit _ R₂.sr.inb, codeAny_func ?_⟩)
  have cx' : Cx ℓ (A.deeper env) := ⟨cx.handled, by show A.depth + 1 + 10 * ℓ ≤ 900; exact ar169 dep, by show A.units + 3 + 100 * ℓ ≤ 9000; exact ar170 uni⟩
  have N : Nx [] s s₂ g g φ φ := by
    have := (N₁.leave (fp := fpOf env (ownOf fd.scope)) (s₂ := s₂) ⟨N₂.drawn, N₂.os, N₂.sub, N₂.new, N₂.pre, N₂.oth, N₂.ex⟩ hfr).of_up
    exact this
  refine wpAny_mono (h env s₂ eo (by rw [← hE]) cx' hfr N R₂ _) (fun f s' q => ?_) fun _ _ q => q
  rcases q.2.2 with rfl | ⟨w, rfl⟩
  · exact q.1 rfl
  · exact q.2.1 _ rfl

end

end
section
set_option autoImplicit false
set_option maxRecDepth 100000


theorem aList_app {σ : Sto} {v : V} {xs : List V} (τ : Sto) (h : aList σ v = some xs) : aList (σ ++ τ) v = some xs := by
  cases v with
  | list ys => exact h
  | ref k =>
    dsimp only [aList] at h ⊢
    cases e : σ[k]? with
    | none => rw [e] at h; cases h
    | some m => rw [List.getElem?_append_left (List.getElem?_eq_some_iff.mp e).1, e]; rw [e] at h; exact h
  | _ => cases h

theorem flat_single {α β : Type} (f : α → β) (l : List α) : (l.map fun a => [f a]).flatten = l.map f := by
  induction l with
  | nil => rfl
  | cons a l ih => rw [List.map_cons, List.flatten_cons, ih]; rfl
section
variable {Q : V → Sto → Prop} {σ : Sto}
theorem item_at {σ : Sto} {xs : List V} {v : V} (h : aList σ v = some xs) {i : Nat} (hi : i < 2 ^ 60) : aItem σ v (.int (i : Nat)) = xs[i]? := by
  have e : (0 : Int) ≤ (i : Nat) ∧ ((i : Nat) : Int) < 2 ^ 60 := ⟨by exact ar135, by exact ar365 hi⟩
  cases v with
  | list ys => dsimp only [aItem]; rw [h]; dsimp only; rw [if_pos e.1, if_pos e.2, Int.toNat_natCast]
  | ref k => dsimp only [aItem]; rw [h]; dsimp only; rw [if_pos e.1, if_pos e.2, Int.toNat_natCast]
  | _ => cases h
theorem set_end {σ : Sto} {m m' : MO} : (σ ++ [m]).set σ.length m' = σ ++ [m'] := by rw [List.set_append_right _ _ (Nat.le_refl _), Nat.sub_self]; rfl
theorem aList_end {σ : Sto} {xs : List V} : aList (σ ++ [.list xs]) (.ref σ.length) = some xs := by dsimp only [aList]; rw [List.getElem?_append_right (Nat.le_refl _), Nat.sub_self]; rfl
theorem aLen_list {σ : Sto} {v : V} {xs : List V} (h : aList σ v = some xs) : aLen σ v = some xs.length := by
  cases v with
  | list ys => cases h; rfl
  | ref k =>
    dsimp only [aList, aLen] at h ⊢
    split at h <;> simp_all
  | _ => cases h
end
local macro_rules | `(tactic| walk_at "sn") => mkWays "?p_range6|?p_items6l|?p_items6|p_divi D0 D0|p_modi D0"

end
section
set_option autoImplicit false
set_option maxRecDepth 100000

namespace F
open PySem.F
theorem slot_mdget : Slot "method_descriptor" "__get__" "method_descriptor.__get__" :=
  .of (owner := "method_descriptor") (n := "__get__") (by rw [typeLookup_type, builtinLookup_eq_fast]; kernel_rfl) (by decide +kernel) (by decide +kernel) (by decide +kernel)
    (by first | exact .inl (by decide +kernel) | exact .inr (by decide +kernel)) (by rw [isSubtype_type]; kernel_rfl)
theorem entry_mdget : entryFor table "method_descriptor.__get__" = some Builtin.«method_descriptor.__get__» := entryFor_of_tree (by kernel_rfl)
theorem args_mdget (a b c : Value) : argsOk "method_descriptor.__get__" ⟨[a, b, c], []⟩ := by unfold argsOk; kernel_rfl
theorem slot_wdget : Slot "wrapper_descriptor" "__get__" "wrapper_descriptor.__get__" :=
  .of (owner := "wrapper_descriptor") (n := "__get__") (by rw [typeLookup_type, builtinLookup_eq_fast]; kernel_rfl) (by decide +kernel) (by decide +kernel) (by decide +kernel)
    (by first | exact .inl (by decide +kernel) | exact .inr (by decide +kernel)) (by rw [isSubtype_type]; kernel_rfl)
theorem entry_wdget : entryFor table "wrapper_descriptor.__get__" = some Builtin.«wrapper_descriptor.__get__» := entryFor_of_tree (by kernel_rfl)
theorem args_wdget (a b c : Value) : argsOk "wrapper_descriptor.__get__" ⟨[a, b, c], []⟩ := by unfold argsOk; kernel_rfl
theorem type_lpop : typeOf (.builtin "list.pop") = pure (.type "method_descriptor") := by show builtinType _ = _; rw [builtinType_eq_fast]; kernel_rfl
theorem type_llen : typeOf (.builtin "list.__len__") = pure (.type "wrapper_descriptor") := by show builtinType _ = _; rw [builtinType_eq_fast]; kernel_rfl
theorem type_linit : typeOf (.builtin "list.__init__") = pure (.type "wrapper_descriptor") := by show builtinType _ = _; rw [builtinType_eq_fast]; kernel_rfl
theorem type_lapp : typeOf (.builtin "list.append") = pure (.type "method_descriptor") := by show builtinType _ = _; rw [builtinType_eq_fast]; kernel_rfl
end F

section
variable {prog : Program} {w : World} {A : Around} {E : Value → Shared → Prop} {s : Shared} {K : Frag} {name : Str} {x C : Addr} {ox : Obj} {od : Option Obj} {pl : Sem Bool} {Q : Value × List Value → Shared → Prop}
/-- a built-in method that an instance's class has from its base -/
theorem method_bi {f : String} (X : K.In s.heap) (I : InstAt s.heap x ox C od) (hga : findIn K (.ref C) "__getattribute__" = some (some (.builtin "list.__getattribute__"))) (hk : findIn K (.ref C) "__getattr__" = some none)
    (hf : findIn K (.ref C) name = some (some (.builtin f))) (ht : typeOf (.builtin f) = pure (.type "method_descriptor")) (hs : shadowIn od name = some false) (h : Q (.builtin f, [.ref x]) s) :
    wpAny (model prog w) A (getMethod (.ref x) name pl) Q E s := by
  have hcan : Manifest.canonical "list.__getattribute__" = "object.__getattribute__" := by decide +kernel
  unfold getMethod specialOf
  refine wpAny_bind (wpAny_bind (I.type.here ((looks_findIn X hga).here ?_)))
  dsimp only
  rw [hcan, if_neg (by decide)]
  refine wpAny_bind (wpAny_bind (I.type.here ((looks_findIn X hk).here ?_)))
  refine wpAny_bind (wpAny_bind (I.type.here ((looks_findIn X hf).here (wpAny_bind (wpAny_of_eq ht ?_)))))
  rw [if_neg (by decide +kernel)]
  refine wpAny_bind (wpAny_loadPart I.at_ ?_)
  have hd := I.dict
  cases e : ox.dict with
  | none => exact wpAny_bind (wpAny_rule (wpAny_pure h))
  | some dx =>
    cases od with
    | none => rw [e] at hd; exact hd.elim
    | some o =>
      rw [e] at hd
      obtain ⟨r, a, b⟩ := Option.map_eq_some_iff.mp hs
      refine wpAny_bind (wpAny_bind (wpAny_loadPart hd ?_))
      rw [nsLook_of a]
      refine wpAny_pure ?_
      rw [b]
      exact wpAny_bind (wpAny_rule (wpAny_pure h))
/-- a method of the class's own -/
theorem method_own {f : Addr} (X : K.In s.heap) (I : InstAt s.heap x ox C od) (hga : findIn K (.ref C) "__getattribute__" = some (some (.builtin "list.__getattribute__"))) (hk : findIn K (.ref C) "__getattr__" = some none)
    (hf : findIn K (.ref C) name = some (some (.ref f))) (ht : typeIn K (.ref f) = some (.type "function")) (hs : shadowIn od name = some false) (h : Q (.ref f, [.ref x]) s) :
    wpAny (model prog w) A (getMethod (.ref x) name pl) Q E s := by
  have hcan : Manifest.canonical "list.__getattribute__" = "object.__getattribute__" := by decide +kernel
  unfold getMethod specialOf
  refine wpAny_bind (wpAny_bind (I.type.here ((looks_findIn X hga).here ?_)))
  dsimp only
  rw [hcan, if_neg (by decide)]
  refine wpAny_bind (wpAny_bind (I.type.here ((looks_findIn X hk).here ?_)))
  refine wpAny_bind (wpAny_bind (I.type.here ((looks_findIn X hf).here (wpAny_bind ((looks_typeIn X ht).here ?_)))))
  rw [if_neg (by decide +kernel)]
  refine wpAny_bind (wpAny_loadPart I.at_ ?_)
  have hd := I.dict
  cases e : ox.dict with
  | none => exact wpAny_bind (wpAny_rule (wpAny_pure h))
  | some dx =>
    cases od with
    | none => rw [e] at hd; exact hd.elim
    | some o =>
      rw [e] at hd
      obtain ⟨r, a, b⟩ := Option.map_eq_some_iff.mp hs
      refine wpAny_bind (wpAny_bind (wpAny_loadPart hd ?_))
      rw [nsLook_of a]
      refine wpAny_pure ?_
      rw [b]
      exact wpAny_bind (wpAny_rule (wpAny_pure h))
end

noncomputable abbrev boundObj (T : String) (id : String) (x : Addr) : Obj := { cls := .type T, dict := none, data := .fields #[.builtin id, .ref x], slots := #[] }
section
variable {M : Model} {A : Around} {E : Value → Shared → Prop} {s : Shared} {x C : Addr} {P : PySem.Fin → Shared → Prop}
theorem getW {id n : String} (ho : (kfb_private% "ownerAndName") id = ("list", n)) (hi : Looks M s.heap (isInstance (.ref x) (.type "list")) true)
    (h : P (.done (.ret (.ref s.heap.objs.size))) { s with heap := s.heap.push (boundObj "method-wrapper" id x) }) :
    wpAny M A (Builtin.«wrapper_descriptor.__get__» ⟨[.builtin id, .ref x, .ref C], []⟩) P E s := by
  unfold Builtin.«wrapper_descriptor.__get__»
  refine wpAny_bind (wpAny_of_eq (a := (.builtin id, some (.ref x), some (.ref C))) rfl ?_)
  dsimp only
  refine wpAny_bind (m := (kfb_private% "checkInstance") (.builtin id) (.ref x)) ?_
  refine wpAny_bind (wpAny_of_eq (a := (Str.ofString n, .type "list")) ?_ ?_)
  · show (pure (Str.ofString ((kfb_private% "ownerAndName") id).2, Value.type ((kfb_private% "ownerAndName") id).1) : Sem (Str × Value)) = _
    rw [ho]
  dsimp only
  refine wpAny_bind (hi.here ?_)
  rw [if_neg (by decide)]
  refine wpAny_pure ?_
  exact wpAny_bind (wpAny_newObj_type (wpAny_pure h))
end
theorem own_len : (kfb_private% "ownerAndName") "list.__len__" = ("list", "__len__") := by first | decide +kernel | kernel_rfl
theorem own_init : (kfb_private% "ownerAndName") "list.__init__" = ("list", "__init__") := by first | decide +kernel | kernel_rfl

/-- a bound built-in that super() gives -/
structure SupB (id : String) (T : String) (gid : String) (gb : Builtin) : Prop where
  typ : typeOf (.builtin id) = pure (.type (if T = "method-wrapper" then "wrapper_descriptor" else "method_descriptor"))
  slot : Slot (if T = "method-wrapper" then "wrapper_descriptor" else "method_descriptor") "__get__" gid
  entry : entryFor table gid = some gb
  args : ∀ a b c : Value, argsOk gid ⟨[a, b, c], []⟩
  run : ∀ {M : Model} {A : Around} {E : Value → Shared → Prop} {s : Shared} {x C : Addr} {P : PySem.Fin → Shared → Prop}, Looks M s.heap (isInstance (.ref x) (.type "list")) true →
    P (.done (.ret (.ref s.heap.objs.size))) { s with heap := s.heap.push (boundObj T id x) } → wpAny M A (gb ⟨[.builtin id, .ref x, .ref C], []⟩) P E s
theorem supLen : SupB "list.__len__" "method-wrapper" "wrapper_descriptor.__get__" Builtin.«wrapper_descriptor.__get__» := ⟨F.type_llen, F.slot_wdget, F.entry_wdget, F.args_wdget, fun hi h => getW own_len hi h⟩
theorem supInit : SupB "list.__init__" "method-wrapper" "wrapper_descriptor.__get__" Builtin.«wrapper_descriptor.__get__» := ⟨F.type_linit, F.slot_wdget, F.entry_wdget, F.args_wdget, fun hi h => getW own_init hi h⟩

end
section
set_option autoImplicit false
set_option maxRecDepth 100000
noncomputable abbrev supObj (D x C : Addr) : Obj := { cls := .type "super", dict := none, data := .fields #[.ref D, .ref x, .ref C], slots := #[] }
section
variable {prog : Program} {w : World} {M : Model} {A : Around} {E : Value → Shared → Prop} {h : Heap} {g : Array GenState} {d : Drawn} {t : Nat} {os : OsState}
theorem sup_ga {so D x C : Addr} {l₀ l : List Value} {K : Frag} {name : Str} {tk : Tok} {Q : PySem.Fin → Shared → Prop} {id T gid : String} {gb : Builtin} (SB : SupB id T gid gb)
    (hso : h.get? so = some (supObj D x C)) (hno : Looks (model prog w) h (opaqueClassAbove (.ref C)) none)
    (hC : Looks (model prog w) h (mroOf (.ref C)) l₀) (hl : (l₀.dropWhile (· != .ref D)).drop 1 = l) (X : K.In h)
    (hf : alongIn K name l = some (some (.builtin id))) (hi : Looks (model prog w) h (isInstance (.ref x) (.type "list")) true) (hxC : x ≠ C) (hn : (name == ("__class__" : Str)) = false)
    (hq : Q (.done (.ret (.ref h.objs.size))) ⟨h.push (boundObj T id x), g, d, t, os⟩) :
    wpAny (model prog w) A (Builtin.«super.__getattribute__» ⟨[.ref so, .str name tk], []⟩) Q E ⟨h, g, d, t, os⟩ := by
  have hlk := SB.slot.lookup
  have hne : (Value.ref x == Value.ref C) = false := by simp [hxC]
  have htf : typeOf (.builtin id) = pure (.type (if T = "method-wrapper" then "wrapper_descriptor" else "method_descriptor")) := SB.typ
  have hT : ∀ st : Shared, st.TypeIs (.builtin id) (if T = "method-wrapper" then "wrapper_descriptor" else "method_descriptor") := fun _ => htf
  have hdt : (supObj D x C).data = .fields #[.ref D, .ref x, .ref C] := rfl
  have f0 : (#[.ref D, .ref x, .ref C] : Array Value)[0]? = some (.ref D) := rfl
  have f1 : (#[.ref D, .ref x, .ref C] : Array Value)[1]? = some (.ref x) := rfl
  have f2 : (#[.ref D, .ref x, .ref C] : Array Value)[2]? = some (.ref C) := rfl
  unfold Builtin.«super.__getattribute__»
  repeat (first
    | (with_reducible refine wpAny_field hso hdt f0 ?_) | (with_reducible refine wpAny_field hso hdt f1 ?_) | (with_reducible refine wpAny_field hso hdt f2 ?_)
    | (with_reducible refine ks_wpAny_notOpaque hno ?_)
    | (with_reducible refine Looks.at hC ?_; rw [hl])
    | (refine ks_forIn_along X (fun _ _ => rfl) rfl ?_ hf)
    | (with_reducible refine wpAny_of_eq htf ?_)
    | (with_reducible refine wpAny_of_eq hlk ?_)
    | (with_reducible refine wpAny_call_entry SB.slot (hT _) SB.entry ?_ (SB.args _ _ _))
    | (with_reducible refine SB.run hi ?_)
    | (with_reducible refine ⟨_, rfl, ?_⟩)
    | (simp only [hn, hne, Bool.or_false, Bool.false_eq_true, if_false])
    | wp_step
    | dsimp only)
  all_goals exact hq

theorem sup_method {so D x C : Addr} {l₀ l : List Value} {K : Frag} {name : Str} {pl : Sem Bool} {Q : Value × List Value → Shared → Prop} {id T gid : String} {gb : Builtin} (SB : SupB id T gid gb)
    (hso : h.get? so = some (supObj D x C)) (hno : Looks (model prog w) h (opaqueClassAbove (.ref C)) none)
    (hC : Looks (model prog w) h (mroOf (.ref C)) l₀) (hl : (l₀.dropWhile (· != .ref D)).drop 1 = l) (X : K.In h)
    (hf : alongIn K name l = some (some (.builtin id))) (hi : Looks (model prog w) h (isInstance (.ref x) (.type "list")) true) (hxC : x ≠ C) (hn : (name == ("__class__" : Str)) = false)
    (hq : Q (.ref h.objs.size, []) ⟨h.push (boundObj T id x), g, d, t + 1, os⟩) :
    wpAny (model prog w) A (getMethod (.ref so) name pl) Q E ⟨h, g, d, t, os⟩ := by
  have hlk := F.ks_slot_super_ga.lookup
  have hcan := F.ks_canon_super_ga
  have hT : ∀ t', (⟨h, g, d, t', os⟩ : Shared).TypeIs (.ref so) "super" := fun _ => ⟨_, hso, rfl⟩
  unfold getMethod
  refine wpAny_bind (wpAny_specialOf (hT _) hlk ?_)
  show wpAny _ _ (if (Manifest.canonical "super.__getattribute__" != "object.__getattribute__") = true then _ else _) _ _ _
  rw [if_pos hcan]
  unfold getAttr getAttrBy
  refine wpAny_bind (wpAny_bind (wpAny_mkText (wpAny_holding (wpAny_bind (wpAny_typeOf (hT _) (wpAny_bind (wpAny_of_eq hlk ?_)))))))
  show wpAny _ _ (getAttrByItsOwn (.ref so) (.str name t) (.type "super") (.builtin "super.__getattribute__") true false) _ _ _
  unfold getAttrByItsOwn hookBefore callGetattribute boundAndCalled
  refine wpAny_bind (wpAny_of_eq (show (if onTheHeap (.type "super") then typeLookup (.type "super") "__getattr__" else pure none) = pure none from rfl) ?_)
  refine wpAny_bind (wpAny_attempt (wpAny_holding ?_))
  show wpAny _ _ (bindSpecial (.builtin "super.__getattribute__") (.ref so) >>= _) _ _ _
  refine wpAny_bind (wpAny_of_eq (F.ks_slot_super_ga.bind _) ?_)
  refine wpAny_mono (Q := fun v s' => v = .ref h.objs.size ∧ s' = ⟨h.push (boundObj T id x), g, d, t + 1, os⟩) (E := fun _ _ => False)
    (wpAny_call_entry F.ks_slot_super_ga (hT _) F.ks_entry_super_ga (sup_ga SB hso hno hC hl X hf hi hxC hn ⟨_, rfl, rfl, rfl⟩) (F.ks_gaArgs_super _ _)) (fun v s' hv => ?_) fun _ _ z => z.elim
  obtain ⟨rfl, rfl⟩ := hv
  exact wpAny_pure (wpAny_pure hq)
theorem callWith_bound0 {T id : String} {pos : Pos} {b x : Addr} {env : Env} {s : Shared} {Q : Value → Shared → Prop} (hT : T = "builtin_function_or_method" ∨ T = "method-wrapper") (hb : s.heap.get? b = some (boundObj T id x))
    (hc : wpAny M A (call (.ref b) []) Q E s) : wpAny M A (callWith pos (.ref b) [] (backTo pos (starEach [] env)) []) Q E s := by
  have he : backTo pos (starEach [] env) = [] := rfl
  rw [he]
  unfold callWith
  refine wpAny_bind (wpAny_holding ?_)
  refine wpAny_of_eq (a := (⟨[], []⟩ : Args)) rfl ?_
  refine wpAny_bind (wpAny_standAt ?_)
  refine wpAny_bind (m := keeperOf (.ref b)) ?_
  unfold keeperOf
  refine wpAny_bind (wpAny_load hb ?_)
  rcases hT with rfl | rfl
  · exact wpAny_pure (wpAny_bind (wpAny_mono hc (fun r s₂ hr => wpAny_bind (wpAny_holding (wpAny_point (wpAny_pure hr)))) fun _ _ x => x))
  · exact wpAny_pure (wpAny_bind (wpAny_mono hc (fun r s₂ hr => wpAny_bind (wpAny_holding (wpAny_point (wpAny_pure hr)))) fun _ _ x => x))
theorem call_bound0 {T id : String} {b x : Addr} {s : Shared} {Q : Value → Shared → Prop} {B : Builtin} (hT : T = "builtin_function_or_method" ∨ T = "method-wrapper") (hb : s.heap.get? b = some (boundObj T id x)) (hB : entryFor table id = some B) (hp : plainId id = true)
    (hck : ∀ (A : Around) (E : Value → Shared → Prop) (Q : Unit → Shared → Prop), Q () s → wpAny (model prog w) A (checkBoundCall id ⟨[.ref x], []⟩) Q E s)
    (hc : wpAny (model prog w) A.in1 (B ⟨[.ref x], []⟩) (fun fin s' => ∃ v, fin = .done (.ret v) ∧ Q v s') E s) : wpAny (model prog w) A (call (.ref b) []) Q E s := by
  refine wpAny_call (codeAny_of_tree ?_)
  show wpAny _ A.in1 (callAny (.ref b) ⟨[], []⟩) _ _ s
  simp only [callAny]
  refine wpAny_bind (wpAny_load hb ?_)
  rcases hT with rfl | rfl
  all_goals
    show wpAny _ _ (checkBoundCall id ⟨[.ref x], []⟩ >>= fun _ => again (.builtin id ⟨[.ref x], []⟩) >>= fun r => pure r) _ _ s
    refine wpAny_bind (hck _ _ _ ?_)
    refine wpAny_bind (wpAny_pure (wpAny_pure ⟨plainId_quiet hp _, codeAny_builtin hB ?_⟩))
    rw [Around.under_plainId hp _]
    refine wpAny_mono hc (fun fin s' h' => ?_) fun _ _ z => z
    obtain ⟨v, rfl, hv⟩ := h'
    exact hv
end

end
section
set_option autoImplicit false
set_option maxRecDepth 100000

/-- the class's facts -/
structure AccG (G : Glb) (K : Frag) (cc : Addr) (cd : ClassData) : Prop where
  O : G.Ok
  inn : ∀ a o, K.lookup a = some o → G.base a = some o
  cls : clsIn K G.C = some cd
  mro : cd.mro = [.ref G.C, .type "list", .type "object"]
  cell : ∃ o, K.lookup cc = some o ∧ o.data = .cell (some (.ref G.C))
  mgs : G.mg "super" = none
  mbs : G.mb "super" = some (.type "super")
  ga : findIn K (.ref G.C) "__getattribute__" = some (some (.builtin "list.__getattribute__"))
  gat : findIn K (.ref G.C) "__getattr__" = some none
  opq : nsIn K cStatics "thirdparty.any" = some none
  sub : mroIn K G.C (.ref G.C) = some true
  subl : mroIn K G.C (.type "list") = some true
  subm : mroIn K G.C (.type "module") = some false
  metac : typeIn K (.ref G.C) = some (.type "type")
  popc : ∀ x : Addr, Bind.checkArgs "list.pop" ⟨.positional, s!"{cd.qualname.toString}.{Bind.lastOf "list.pop"}", "pop", .self, [⟨"index", .posOnly, false⟩]⟩ ⟨[.ref x], []⟩ = pure ()
  top : (G.prog.main.scope.names.lookup ("super" : Str)).isSome = false
/-- a method that says super() -/
structure SupFn (G : Glb) (K : Frag) (cc : Addr) (a : Addr) (fd : FuncData) (body : List Stmt) : Prop where
  obj : ∃ o, K.lookup a = some o ∧ o.data = .func fd
  body : fd.body = .stmts body
  closure : fd.closure = [(Str.ofString "__class__", cc)]
  globals : fd.globals = mainGlobals
  builtins : fd.builtins = builtinsNs
  first : ∃ ar, (fd.params.posonlyargs ++ fd.params.args).head? = some ar ∧ ar.arg = "self"
  code : ∃ c oc vs file tf tq, fd.code = .ref c ∧ K.lookup c = some oc ∧ oc.data = .fields vs ∧ vs[2]? = some (.str file tf) ∧ ((G.prog.main.file : Str) == file) = true ∧ vs[1]? = some (.str fd.qualname tq)
  co : fd.scope.isCoroutine = false
  gen : fd.scope.isGenerator = false
  kind : fd.scope.kind = .function
  nocell : ∀ x ∈ fd.scope.names, x.2 ≠ .cell
  ks : fd.scope.names.lookup ("super" : Str) = some .globalImplicit
  kc : fd.scope.names.lookup ("__class__" : Str) = some .free
  kself : fd.scope.names.lookup ("self" : Str) = some .local

section
variable {G : Glb} {K : Frag} {cc : Addr} {cd : ClassData}
theorem AccG.X (T : AccG G K cc cd) {h : Heap} (hin : G.In h) : K.In h := fun a o e => hin a o (T.inn a o e)

/-- an accumulator stands at x -/
noncomputable def AccAt (G : Glb) (h : Heap) (x dx : Addr) (arr : Array Value) (n : Nat) (od : Obj) : Prop := h.get? x = some (accObj G.C dx arr n) ∧ h.get? dx = some od ∧ lookIn "append" od = some none

theorem super_at {A : Around} {E : Value → Shared → Prop} {s : Shared} (T : AccG G K cc cd) {a x dx : Addr} {fd : FuncData} {bd body : List Stmt} {env : Env} {arr : Array Value} {n : Nat} {od : Obj} {m : Str → Option Value} {p0 p1 : Pos} {attr : Str} {whole : Sem Value} {Q : Value → Shared → Prop}
    (F : SupFn G K cc a fd bd) (hin : G.In s.heap) (I : AccAt G s.heap x dx arr n od) (hs : env.scope = fd.scope) (hf : env.func = some a) (hc : env.code = fd.code) (hcl : env.cells = fd.closure) (hg : env.globals = mainGlobals) (hb : env.builtins = builtinsNs)
    (hns : s.heap.Ns env.locals m) (hv : m "self" = some (.ref x)) (hat : (attr == ("__class__" : Str)) = false)
    (h : ∀ h', h'.get? s.heap.objs.size = some (supObj G.C x G.C) → (∀ b o, s.heap.get? b = some o → h'.get? b = some o) → Q (.ref s.heap.objs.size) { s with heap := h' }) :
    _root_.PySem.wpAt (model G.prog G.w) A (.func body env) (attributeBase (.Call (.Name "super" p0) [] [] p1) attr env whole) Q E s := by
  have X := T.X hin
  obtain ⟨hh, g, d, t, os⟩ := s
  obtain ⟨of, hof, hofd⟩ := F.obj
  obtain ⟨ar, har, harg⟩ := F.first
  obtain ⟨c, oc, vs, file, tf, tq, e1, e2, e3, e4, e5, e6⟩ := F.code
  obtain ⟨ocl, hocl, hocd⟩ := T.cell
  obtain ⟨oD, hD1, hD2⟩ : ∃ oD, hh.get? G.C = some oD ∧ oD.data = .cls cd := by
    have := T.cls
    unfold clsIn at this
    split at this
    · rename_i c d cd' sl ho
      cases this
      exact ⟨_, X _ _ ho, rfl⟩
    · cases this
  have hkf : env.scope.kind = .function := by rw [hs]; exact F.kind
  have hks : env.kindOf "super" = some .globalImplicit := by unfold Env.kindOf; rw [hs]; exact F.ks
  have hkc : env.kindOf "__class__" = some .free := by unfold Env.kindOf; rw [hs]; exact F.kc
  have hkv : env.kindOf "self" = some .local := by unfold Env.kindOf; rw [hs]; exact F.kself
  refine ks_wpAt_super_base (env := env) hks hkc hat hf (X _ _ hof) hofd har (hc.trans e1) (X _ _ e2) e3 e4 e5 T.top ?_
  refine ks_loadName_global hkf hks (Calls.loadGlobal_builtin (env := env) (by rw [hg]; exact T.O.nsg _ hin) T.mgs (by rw [hb]; exact T.O.nsb _ hin) T.mbs ⟨rfl, ?_⟩)
  refine wpAny_loadName_free hkf hkc (c := cc) (by rw [hcl, F.closure]; rfl) ⟨_, X _ _ hocl, hocd⟩ ?_
  rw [harg]
  refine wpAny_loadName_local hkf hkv hns hv ?_
  refine ks_wpAny_isType_cls hD1 hD2 ⟨rfl, ?_⟩
  exact ks_wpAny_call_super hD1 hD2 I.1 rfl (fun c e => by cases e) (looks_mroIn X T.sub) h
end

end
section
set_option autoImplicit false
set_option maxRecDepth 100000

/-- an accumulator of the store, in the heap -/
theorem acc_obj {G : Glb} {g : FM} {φ : List Addr} {σ : Sto} {h : Heap} (S : SR G g h φ σ) {i : Nat} {xs : List V} {w : Value} (hv : VR g φ (.ref i) w) (hm : σ[i]? = some (.acc xs)) :
    ∃ a dx arr n od, w = .ref a ∧ φ[i]? = some a ∧ h.get? a = some (accObj G.C dx arr n) ∧ h.get? dx = some od ∧ VRs g φ xs arr.toList ∧ (∀ name : Str, name ≠ Str.ofString "_initial_size" → lookIn name od = some none) ∧
      MOR G g φ h a (.acc xs) := by
  obtain ⟨a, rfl, ha⟩ := hv
  have hM := S.mo _ _ _ ha hm
  have hM' := hM
  obtain ⟨d, arr, n, od, ho, hvs, hgd, h1, h2⟩ := hM
  exact ⟨a, d, arr, n, od, rfl, ha, ho, S.keep _ _ hgd, hvs, h1, hM'⟩

section
variable {prog : Program} {w : World} {A : Around} {E : Value → Shared → Prop} {s : Shared}
theorem len_body {x C d : Addr} {arr : Array Value} {n : Nat} {Q : Value → Shared → Prop} (hx : s.heap.get? x = some (accObj C d arr n)) (hQ : Q (.int arr.size s.toks) { s with toks := s.toks + 1 }) :
    wpAny (model prog w) A (Builtin.«list.__len__» ⟨[.ref x], []⟩) (fun fin s' => ∃ v, fin = .done (.ret v) ∧ Q v s') E s := by
  show wpAny _ _ (do retInt (← seqSize x)) _ _ s
  unfold seqSize
  refine wpAny_bind (wpAny_bind (wpAny_loadPart hx ?_))
  exact wpAny_pure (wpAny_bind (wpAny_mkInt (wpAny_pure ⟨_, rfl, hQ⟩)))
theorem check_len {x : Value} {Q : Unit → Shared → Prop} (hQ : Q () s) : wpAny (model prog w) A (checkBoundCall "list.__len__" ⟨[x], []⟩) Q E s := by
  refine wpAny_of_eq (a := ()) ?_ hQ
  kernel_rfl
theorem check_init {x : Value} {Q : Unit → Shared → Prop} (hQ : Q () s) : wpAny (model prog w) A (checkBoundCall "list.__init__" ⟨[x], []⟩) Q E s := by
  refine wpAny_of_eq (a := ()) ?_ hQ
  kernel_rfl
theorem plain_len : plainId "list.__len__" = true := by decide +kernel
theorem plain_linit : plainId "list.__init__" = true := by decide +kernel
end

noncomputable def wPc : WF := fun vs Q σ => ∃ (k : Nat) (xs : List V), vs = [.ref k] ∧ σ[k]? = some (.acc xs) ∧ Q (.int xs.length) σ

section
variable {G : Glb} {K : Frag} {cc : Addr} {cd : ClassData} {ℓ : Nat}
theorem AccG.mroL (T : AccG G K cc cd) {M : Model} {h : Heap} (X : K.In h) : Looks M h (mroOf (.ref G.C)) [.ref G.C, .type "list", .type "object"] := by
  rw [← T.mro]
  exact fun A Q E s k q => wpAny_bind ((looks_clsIn X T.cls) A _ E s k (wpAny_pure q))
theorem AccG.ne (T : AccG G K cc cd) {h : Heap} (X : K.In h) {x dx : Addr} {arr : Array Value} {n : Nat} (hx : h.get? x = some (accObj G.C dx arr n)) : x ≠ G.C := by
  rintro rfl
  have := T.cls
  unfold clsIn at this
  split at this
  · rename_i c d cd' sl ho
    have e := X _ _ ho
    rw [hx] at e
    cases e
  · cases this

noncomputable def MethEq (o : Expr) (name : Str) (apos pos : Pos) (args : List Expr) (pl : Env → Sem Bool) : Prop := ∀ env : Env, eval (.Call (.Attribute o name apos) args [] pos) env = (do
      let ov ← attributeBase o name env (eval o env)
      standAt apos.atName
      let (f, first) ← holding [ov] (getMethod ov name (pl env))
      callWith pos f first (backTo pos (starEach args env)) [])
theorem fn_pc (T : AccG G K cc cd) {a : Addr} {fd : FuncData} {p0 p1 p2 p3 p4 : Pos} (F : SupFn G K cc a fd [.Return (some (.Call (.Attribute (.Call (.Name "super" p0) [] [] p1) "__len__" p2) [] [] p3)) p4])
    {pl : Env → Sem Bool} (he : MethEq (.Call (.Name "super" p0) [] [] p1) "__len__" p2 p3 [] pl) (hb : ∀ s w, BindsTo s fd ⟨[w], []⟩ [(Str.ofString "self", w)]) : FnOk G (ℓ + 1) (.ref a) wPc := by
  intro A s g φ σ vs ws Q cx ok S hv hW Kc E k
  obtain ⟨i, xs, rfl, hm, hQ⟩ := hW
  obtain ⟨w', hw1, hv1⟩ := hv.one
  subst hw1
  obtain ⟨x, dx, arr, n, od, rfl, hφ, hx, hdx, hvs, hlk, hM⟩ := acc_obj S hv1 hm
  obtain ⟨of, hof, hofd⟩ := F.obj
  obtain ⟨c, oc, vs', file, tf, tq, e1, e2, e3, e4, e5, e6⟩ := F.code
  have hin := S.inb
  have X := T.X hin
  have dep := cx.depth
  obtain ⟨hh, gg, d, t, os⟩ := s
  have hlen := hvs.length
  rw [Array.length_toList] at hlen
  refine wpAny_call (ks_codeAny_call_defAt (fd := fd) (binds := [(Str.ofString "self", .ref x)]) (by show A.depth < 1000; exact ar168 dep) (X _ _ hof) hofd (T.O.nolimit _ hin) ⟨c, oc, vs', tq, e1, X _ _ e2, e3, e6⟩ F.body (hb _ _) F.nocell
    (fun y hy => by rw [List.mem_singleton.mp hy]; exact F.kself) (fun h₀ hns hk => ?_) F.co F.gen F.kind)
  have hin₀ : G.In h₀ := fun b o e => hk b o (hin b o e)
  have X₀ := T.X hin₀
  refine ks_wpAt_execs_cons (ks_wpAt_Return_some (ks_wpAt_MethodCall (super_at T (x := x) (dx := dx) (arr := arr) (n := n) (od := od) F hin₀ ⟨hk _ _ hx, hk _ _ hdx, hlk _ (by decide +kernel)⟩ rfl rfl rfl rfl F.globals F.builtins hns (by simp) (by decide +kernel) fun h₁ ho₁ hk₁ => ?_) (he _)))
  have X₁ : K.In h₁ := fun b o e => hk₁ b o (X₀ b o e)
  have hx₁ := hk₁ _ _ (hk _ _ hx)
  refine sup_method supLen ho₁ (looks_opaque X₁ T.opq) (T.mroL X₁) (l := [.type "list", .type "object"]) (by simp [List.dropWhile]) X₁ (by rfl) ((Looks.ld hx₁).andThen (looks_mroIn X₁ T.subl)) (T.ne X₁ hx₁) (by decide +kernel) ?_
  have hx₂ : (h₁.push (boundObj "method-wrapper" "list.__len__" x)).get? x = some (accObj G.C dx arr n) := Heap.get?_push_of_some _ hx₁
  refine callWith_bound0 (.inr rfl) (T := "method-wrapper") (id := "list.__len__") (x := x) (Heap.get?_push_size _ rfl) ?_
  refine call_bound0 (.inr rfl) (T := "method-wrapper") (x := x) (Heap.get?_push_size _ rfl) entry_list_len plain_len (fun _ _ _ q => check_len q) (len_body hx₂ ?_)
  rw [hlen]
  exact Cont.up (s := ⟨hh, gg, d, t, os⟩) k ok S (v := .int xs.length) (fun b o e => Heap.get?_push_of_some _ (hk₁ _ _ (hk _ _ e))) ⟨_, rfl⟩ hQ (by have := ok.toks; show 1 ≤ _ + 1; exact ar40)
end

end
section
set_option autoImplicit false
set_option maxRecDepth 100000

theorem check_meth {M : Model} {A : Around} {E : Value → Shared → Prop} {s : Shared} {i owner n : String} {self : Value} {rest : List Value} {kw : List (Str × Value)} {Q : Unit → Shared → Prop}
    (hk : builtinKind i = some .method) (hs : splitId i = some (owner, n)) (hi : Looks M s.heap (isInstance self (.type owner)) true) (ha : argsOk i ⟨self :: rest, kw⟩) (q : Q () s) :
    wpAny M A (checkBuiltinCall i ⟨self :: rest, kw⟩) Q E s := by
  simp only [checkBuiltinCall, hk, hs]
  refine wpAny_bind (hi.here ?_)
  simp only [Bool.not_true, Bool.false_eq_true, if_false]
  cases hsig : Manifest.signature? i with
  | none => exact wpAny_pure q
  | some sig =>
    simp only [argsOk, hsig] at ha
    have h2 : Bind.checkArgs i sig ⟨self :: rest, kw⟩ = pure () := ha
    show wpAny M A (Bind.checkArgs i sig ⟨self :: rest, kw⟩) Q E s
    rw [h2]; exact wpAny_pure q

section
variable {G : Glb} {K : Frag} {cc : Addr} {cd : ClassData} {ℓ : Nat} {sc : Scope}
theorem AccG.isL (T : AccG G K cc cd) {M : Model} {h : Heap} (hin : G.In h) {x dx : Addr} {arr : Array Value} {n : Nat} (hx : h.get? x = some (accObj G.C dx arr n)) : Looks M h (isInstance (.ref x) (.type "list")) true :=
  (Looks.ld hx).andThen (looks_mroIn (T.X hin) T.subl)

theorem upd_acc {G : Glb} {h : Heap} {x dx : Addr} {arr : Array Value} {n : Nat} (hx : h.get? x = some (accObj G.C dx arr n)) (f : Array Value → Array Value) : ∃ m, (h.update x (Obj.mapSeq f)).get? x = some (accObj G.C dx (f arr) m) := by
  exact ⟨_, (Heap.get?_update_self _ hx (by rfl)).trans rfl⟩

noncomputable def wAppendA : WF := fun vs Q σ => ∃ (i : Nat) (v : V) (xs : List V), vs = [.ref i, v] ∧ σ[i]? = some (.acc xs) ∧ xs.length ≤ 2 ^ 20 ∧ Q .none (σ.set i (.acc (xs ++ [v])))
theorem FnOk.appendA (T : AccG G K cc cd) : FnOk G ℓ (.builtin "list.append") wAppendA := by
  intro A s g φ σ vs ws Q cx ok S' hv hW Kc E k
  obtain ⟨i, v, xs, rfl, hm, hsz, hQ⟩ := hW
  obtain ⟨w, u, rfl, hv1, hv2⟩ := hv.two
  obtain ⟨x, dx, arr, n, od, rfl, hφ, hx, hdx, hvs, hlk, hM⟩ := acc_obj S' hv1 hm
  have hlen := hvs.length
  rw [Array.length_toList] at hlen
  refine wpAny_call (codeAny_call_builtin slot_list_append.plain entry_list_append (check_meth (owner := "list") (n := "append") (by decide +kernel) (by decide +kernel) (T.isL S'.inb hx) (args_list_append _ _) ?_))
  show wpAny _ _ (updateSeq x (·.push u) >>= fun _ => ret .none) _ _ s
  refine wpAny_bind (wpAny_updateSeq hx rfl (wpAny_pure ?_) (by rw [hlen]; exact Nat.le_trans hsz (by decide)) (by rw [Array.size_push, hlen]; unfold sizeLine; exact ar367 hsz))
  obtain ⟨m, hm'⟩ := upd_acc hx (·.push u)
  obtain ⟨d, arr', n', od', ho, hvs', hgd, hr⟩ := hM
  rw [hx] at ho
  cases ho
  exact Cont.upd k ok S' (m := .acc (xs ++ [v])) (v := .none) hφ (fun b o q e => (Heap.SameBut.update ..).extBut b o q e) (by rw [hm']; simp) ⟨dx, _, m, od', hm', by rw [Array.toList_push]; exact hvs.append (VRs.single hv2), hgd, hr⟩ rfl hQ ok.toks

/-- a method of an accumulator that is built in -/
noncomputable def wMethA (Wo : WE) (Ws : WL) (Wf : WF) : WE := fun Q ρ σ => Wo (fun ov σ₁ => (∃ i xs, ov = .ref i ∧ σ₁[i]? = some (.acc xs)) ∧ Ws (fun vs σ₂ => Wf (ov :: vs) Q σ₂) ρ σ₁) ρ σ
theorem r_accB (T : AccG G K cc cd) {name : Str} {id : String} (hf : findIn K (.ref G.C) name = some (some (.builtin id))) (hty : typeOf (.builtin id) = pure (.type "method_descriptor")) (hn : name ≠ Str.ofString "_initial_size")
    {o e : Expr} {rest : List Expr} {apos pos : Pos} {Wo : WE} {Ws : WL} {Wf : WF} (hF : FnOk G ℓ (.builtin id) Wf) {pl : Env → Sem Bool} (he : MethEq o name apos pos (e :: rest) pl) (ho : Ev G ℓ sc o Wo) (ha : Evs G ℓ sc (e :: rest) Ws)
    (h0 : ∀ env, attributeBase o name env (eval o env) = eval o env)
    (h1 : ∀ env, starEach (e :: rest) env = (false, eval e env) :: starEach rest env) (h2 : ∀ env, (backTo pos (starEach rest env)).any (·.1) = false) :
    Ev G ℓ sc (.Call (.Attribute o name apos) (e :: rest) [] pos) (wMethA Wo Ws Wf) := by
  intro A env own s g φ σ ρ Q cx eo R hW Kc E k
  rw [he, h0]
  refine wpAny_bind (ho A env own s g φ σ ρ _ cx eo R hW _ _ fun w s₁ g₁ φ₁ σ₁ ov N₁ R₁ hv hQ => ?_)
  obtain ⟨⟨i, xs, rfl, hm⟩, hQ⟩ := hQ
  obtain ⟨x, dx, arr, n, od, rfl, hφ, hx, hdx, hvs, hlk, hM⟩ := acc_obj R₁.sr hv hm
  have X := T.X R₁.sr.inb
  refine wpAny_bind (wpAny_standAt (wpAny_bind (wpAny_holding (method_bi (s := s₁) X (C := G.C) (ox := accObj G.C dx arr n) (od := some od) ⟨hx, rfl, rfl, hdx⟩ T.ga T.gat hf hty (by show Option.map _ (lookIn name od) = _; rw [hlk _ hn]; rfl) ?_))))
  refine callWith_method1 ?_ (h1 env) (h2 env)
  refine ha A env own s₁ g₁ φ₁ σ₁ ρ _ cx eo R₁ hQ _ _ _ fun ws s₂ g₂ φ₂ σ₂ vs N₂ R₂ hvs hQ₂ => ?_
  exact hF A s₂ g₂ φ₂ σ₂ (.ref i :: vs) (.ref x :: ws) _ cx R₂.ok R₂.sr ⟨_, _, rfl, N₂.vr hv, hvs⟩ hQ₂ _ _ fun w s' g' φ' σ' v N' ok' S' hv hQ => k _ _ _ _ _ v ((N₁.trans N₂).trans N') (R₂.step N' ok' S') hv hQ
/-- a method of an accumulator, of the text's own -/
theorem r_accM (T : AccG G K cc cd) {name : Str} {f : Addr} {fo : Obj} {fd : FuncData} (hf : findIn K (.ref G.C) name = some (some (.ref f))) (hty : typeIn K (.ref f) = some (.type "function")) (hfo : K.lookup f = some fo) (hfd : fo.data = .func fd) (hn : name ≠ Str.ofString "_initial_size")
    {o e : Expr} {rest : List Expr} {apos pos : Pos} {Wo : WE} {Ws : WL} {Wf : WF} (hF : FnOk G ℓ (.ref f) Wf) {pl : Env → Sem Bool} (he : MethEq o name apos pos (e :: rest) pl) (ho : Ev G ℓ sc o Wo) (ha : Evs G ℓ sc (e :: rest) Ws)
    (h0 : ∀ env, attributeBase o name env (eval o env) = eval o env)
    (h1 : ∀ env, starEach (e :: rest) env = (false, eval e env) :: starEach rest env) (h2 : ∀ env, (backTo pos (starEach rest env)).any (·.1) = false) :
    Ev G ℓ sc (.Call (.Attribute o name apos) (e :: rest) [] pos) (wMethA Wo Ws Wf) := by
  intro A env own s g φ σ ρ Q cx eo R hW Kc E k
  rw [he, h0]
  refine wpAny_bind (ho A env own s g φ σ ρ _ cx eo R hW _ _ fun w s₁ g₁ φ₁ σ₁ ov N₁ R₁ hv hQ => ?_)
  obtain ⟨⟨i, xs, rfl, hm⟩, hQ⟩ := hQ
  obtain ⟨x, dx, arr, n, od, rfl, hφ, hx, hdx, hvs, hlk, hM⟩ := acc_obj R₁.sr hv hm
  have X := T.X R₁.sr.inb
  refine wpAny_bind (wpAny_standAt (wpAny_bind (wpAny_holding (method_own (s := s₁) X (C := G.C) (ox := accObj G.C dx arr n) (od := some od) ⟨hx, rfl, rfl, hdx⟩ T.ga T.gat hf hty (by show Option.map _ (lookIn name od) = _; rw [hlk _ hn]; rfl) ?_))))
  dsimp only
  rw [h1]
  refine Calls.callWith_function (o := fo) (fd := fd) (Calls.evalArgs_plain ?_)
  have := ha A env own s₁ g₁ φ₁ σ₁ ρ (fun vs σ₂ => Wf (.ref i :: vs) Q σ₂) cx eo R₁ hQ pos (fun vs s₂ => (s₂.heap.get? f = some fo ∧ fo.data = .func fd) ∧ wpAny (model G.prog G.w) A (call (.ref f) (.ref x :: vs)) Kc E s₂) E fun ws s₂ g₂ φ₂ σ₂ vs N₂ R₂ hvs hQ₂ => ?_
  · rw [h1] at this
    exact wpAny_mono this (fun vs s₂ h₂ => by simpa using h₂) fun _ _ z => z
  · refine ⟨⟨T.X R₂.sr.inb _ _ hfo, hfd⟩, ?_⟩
    exact hF A s₂ g₂ φ₂ σ₂ (.ref i :: vs) (.ref x :: ws) _ cx R₂.ok R₂.sr ⟨_, _, rfl, N₂.vr hv, hvs⟩ hQ₂ _ _ fun w s' g' φ' σ' v N' ok' S' hv hQ => k _ _ _ _ _ v ((N₁.trans N₂).trans N') (R₂.step N' ok' S') hv hQ
/-- the same, with no argument -/
theorem r_accM0 (T : AccG G K cc cd) {name : Str} {f : Addr} {fo : Obj} {fd : FuncData} (hf : findIn K (.ref G.C) name = some (some (.ref f))) (hty : typeIn K (.ref f) = some (.type "function")) (hfo : K.lookup f = some fo) (hfd : fo.data = .func fd) (hn : name ≠ Str.ofString "_initial_size")
    {o : Expr} {apos pos : Pos} {Wo : WE} {Wf : WF} (hF : FnOk G ℓ (.ref f) Wf) {pl : Env → Sem Bool} (he : MethEq o name apos pos [] pl) (ho : Ev G ℓ sc o Wo)
    (h0 : ∀ env, attributeBase o name env (eval o env) = eval o env) :
    Ev G ℓ sc (.Call (.Attribute o name apos) [] [] pos) (wMethA Wo lNil Wf) := by
  intro A env own s g φ σ ρ Q cx eo R hW Kc E k
  rw [he, h0]
  refine wpAny_bind (ho A env own s g φ σ ρ _ cx eo R hW _ _ fun w s₁ g₁ φ₁ σ₁ ov N₁ R₁ hv hQ => ?_)
  obtain ⟨⟨i, xs, rfl, hm⟩, hQ⟩ := hQ
  obtain ⟨x, dx, arr, n, od, rfl, hφ, hx, hdx, hvs, hlk, hM⟩ := acc_obj R₁.sr hv hm
  have X := T.X R₁.sr.inb
  refine wpAny_bind (wpAny_standAt (wpAny_bind (wpAny_holding (method_own (s := s₁) X (C := G.C) (ox := accObj G.C dx arr n) (od := some od) ⟨hx, rfl, rfl, hdx⟩ T.ga T.gat hf hty (by show Option.map _ (lookIn name od) = _; rw [hlk _ hn]; rfl) ?_))))
  refine callWith_meth0 hfd (X _ _ hfo) ?_
  exact hF A s₁ g₁ φ₁ σ₁ [.ref i] [.ref x] _ cx R₁.ok R₁.sr ⟨_, _, rfl, hv, rfl⟩ hQ _ _ fun w s' g' φ' σ' v N' ok' S' hv hQ => k _ _ _ _ _ v (N₁.trans N') (R₁.step N' ok' S') hv hQ
end

end
section
set_option autoImplicit false
set_option maxRecDepth 100000
section
variable {prog : Program} {w : World} {A : Around} {E : Value → Shared → Prop} {s : Shared}
end
section
variable {G : Glb} {K : Frag} {cc : Addr} {cd : ClassData} {ℓ : Nat} {sc : Scope}
end

end
section
set_option autoImplicit false
set_option maxRecDepth 100000

/-- what the frame of such a method is -/
structure EnvAt (a : Addr) (fd : FuncData) (env : Env) : Prop where
  scope : env.scope = fd.scope
  func : env.func = some a
  code : env.code = fd.code
  cells : env.cells = fd.closure
  globals : env.globals = mainGlobals
  builtins : env.builtins = builtinsNs

section
variable {G : Glb} {K : Frag} {cc : Addr} {cd : ClassData} {ℓ : Nat} {sc : Scope}
end

end
section
set_option autoImplicit false
set_option maxRecDepth 100000

theorem ln_kind : builtinKind "list.__new__" = some .builtinFn := by decide +kernel
theorem ln_split : splitId "list.__new__" = some ("list", "__new__") := by decide +kernel
theorem ln_sig : Manifest.signature? "list.__new__" = some ⟨.any, "list", "list", .cls, [⟨"args", .varPos, false⟩, ⟨"kwargs", .varKw, false⟩]⟩ := by
  rw [signature?_of (id := "list.__new__") (n := ['_', '_', 'w', 'e', 'n', '_', '_']) (o := ['t', 's', 'i', 'l']) (by kernel_rfl) F.owner_list]; kernel_rfl

noncomputable def makesInL (K : Frag) (C : Addr) : Bool := match K.lookup C with
  | some ⟨_, _, .cls cd, sl⟩ => !cd.abstract && !cd.hasDel && (sl.toList[4]?).join == some (.builtin "list.__new__") && !cd.mro.isEmpty && cd.mro.contains (.ref C) && cd.mro.contains (.type "list") &&
      specialIn K (.ref C) "__call__" == some (some (.builtin "type.__call__")) && instIn K (.ref C) (.type "type") == some true
  | _ => false
structure MakesL (M : Model) (h : Heap) (C : Addr) : Prop where
  obj : ∃ oc od cd sl, h.get? C = some ⟨oc, od, .cls cd, sl⟩ ∧ cd.abstract = false ∧ cd.hasDel = false ∧ cd.mro.isEmpty = false
  made : Looks M h (Bind.madeBy (.ref C)) (some "list.__new__")
  base : Looks M h (Bind.staticBase (.ref C)) (.ref C)
  self : Looks M h (isSubtype (.ref C) (.ref C)) true
  top : Looks M h (isSubtype (.ref C) (.type "list")) true
  call : Looks M h (specialOf (.ref C) "__call__") (some (.builtin "type.__call__"))
  typ : Looks M h (isInstance (.ref C) (.type "type")) true
theorem makesL_of {K : Frag} {M : Model} {h : Heap} (X : K.In h) {C : Addr} (e : makesInL K C = true) : MakesL M h C := by
  unfold makesInL at e
  split at e
  · rename_i oc od cd sl ho
    simp only [Bool.and_eq_true, Bool.not_eq_true', beq_iff_eq] at e
    obtain ⟨⟨⟨⟨⟨⟨⟨e1, e2⟩, e3⟩, e4⟩, e5⟩, e6⟩, e7⟩, e8⟩ := e
    have hc : clsIn K C = some cd := by unfold clsIn; rw [ho]
    have hm : Looks M h (mroOf (.ref C)) cd.mro := (looks_clsIn X hc).andThen .now
    obtain ⟨c, l, hl⟩ : ∃ c l, cd.mro = c :: l := by cases q : cd.mro with | nil => rw [q] at e4; cases e4 | cons c l => exact ⟨c, l, rfl⟩
    have made : Looks M h (Bind.madeBy (.ref C)) (some "list.__new__") := by
      intro A Q E s k q
      unfold Bind.madeBy
      refine wpAny_bind (hm A _ E s k ?_)
      rw [hl, List.forIn_cons]
      refine wpAny_bind (wpAny_bind (wpAny_bind (wpAny_bind (wpAny_loadPart (k _ _ (X _ _ ho)) (wpAny_pure ?_)))))
      dsimp only
      rw [← Array.getElem?_toList, e3]
      exact wpAny_pure (wpAny_pure (wpAny_pure q))
    refine ⟨⟨oc, od, cd, sl, X _ _ ho, e1, e2, e4⟩, made, ?_, looks_mroIn X ?_, looks_mroIn X ?_, looks_specialIn X e7, looks_instIn X e8⟩
    · intro A Q E s k q
      unfold Bind.staticBase
      refine wpAny_bind (hm A _ E s k ?_)
      rw [hl, List.forIn_cons]
      exact wpAny_bind (wpAny_bind (wpAny_bind (made A _ E s k (wpAny_pure (wpAny_pure (wpAny_pure q))))))
    · unfold mroIn; rw [hc, Option.bind_some, if_neg (by rw [e4]; decide), e5]
    · unfold mroIn; rw [hc, Option.bind_some, if_neg (by rw [e4]; decide), e6]
  · cases e

noncomputable abbrev newAcc (C dx : Addr) : Obj := accObj C dx #[] 0

section
variable {prog : Program} {w : World} {A : Around} {K : Frag} {C : Addr} {R : Result → Shared → Prop} {h : Heap} {g : Array GenState} {d : Drawn} {t : Nat} {os : OsState}
theorem new_L (Y : MakesL (model prog w) h C) (hq : R (.ok (.ret (.ref (h.objs.size + 1)))) ⟨(h.push emptyDict).push (newAcc C h.objs.size), g, d, t, os⟩) :
    codeAny (model prog w) A (.call (.builtin "list.__new__") ⟨[.ref C], []⟩) R ⟨h, g, d, t, os⟩ := by
  obtain ⟨⟨oc, od, cd, sl, hC, e1, e2, e4⟩, made, base, self, top, call, typ⟩ := Y
  refine codeAny_call_builtin_code (plainId_quiet F.plain_list_new _) ?_
  simp only [checkBuiltinCall, ln_kind, ln_split, ln_sig]
  have args : Bind.checkArgs "list.__new__" ⟨.any, "list", "list", .cls, [⟨"args", .varPos, false⟩, ⟨"kwargs", .varKw, false⟩]⟩ ⟨[.ref C], []⟩ = pure () := by kernel_rfl
  rw [args]
  repeat (first | simp only [bne_self_eq_false, Bool.false_eq_true, if_false] | lk)
  refine codeAny_builtin_stack F.entry_list_new rfl fun p st => ?_
  rw [Around.under_plainId F.plain_list_new _]
  simp only [owner_list_new]
  have hC' := Heap.get?_push_of_some (newAcc C (h.push emptyDict).objs.size.pred) (Heap.get?_push_of_some emptyDict hC)
  refine wpAny_bind (ks_wpAny_isType_cls hC rfl ?_)
  simp only [Bool.not_true, Bool.false_eq_true, if_false]
  refine wpAny_bind (top.at ?_)
  simp only [Bool.not_true, Bool.false_eq_true, if_false]
  refine wpAny_bind (wpAny_pure ?_)
  rw [if_neg (by simp [typeHasDict])]
  refine wpAny_bind (wpAny_newObj_type ?_)
  dsimp only
  refine wpAny_bind ?_
  show wpAny _ _ (newObj (.ref C) (.seq #[]) (some h.objs.size)) _ _ _
  unfold newObj
  dsimp only
  rw [if_neg (by decide)]
  show wpAny _ _ (newObjAsIs _ _ _) _ _ _
  unfold newObjAsIs classHasDel
  refine wpAny_bind (wpAny_alloc (wpAny_bind (wpAny_bind (wpAny_load (Heap.get?_push_of_some _ (Heap.get?_push_of_some _ hC)) (wpAny_pure ?_)))))
  rw [e2]
  refine wpAny_pure (wpAny_pure ?_)
  show R _ _
  rw [Heap.size_push]
  exact hq

theorem make_L {init : Value} (Y : MakesL (model prog w) h C) (hi : Looks (model prog w) h (typeLookup (.ref C) "__init__") (some init))
    (hb : ∀ self, Looks (model prog w) h (bindSpecial init self) (init, [self]))
    (hq : codeAny (model prog w) (A.under (.builtin "type.__call__" ⟨[.ref C], []⟩)) (.call init ⟨[.ref (h.objs.size + 1)], []⟩) (InitBack (h.objs.size + 1) R) ⟨(h.push emptyDict).push (newAcc C h.objs.size), g, d, t, os⟩) :
    codeAny (model prog w) A (.call (.ref C) ⟨[], []⟩) R ⟨h, g, d, t, os⟩ := by
  have Y' := Y
  obtain ⟨⟨oc, od, cd, sl, hC, e1, e2, e4⟩, made, base, self, top, call, typ⟩ := Y
  refine codeAny_of_tree ?_
  show wpAny _ _ (callAny (.ref C) _) _ _ _
  refine nd_load hC ?_
  show wpAny _ _ (callAny.viaDunder (.ref C) _) _ _ _
  unfold callAny.viaDunder
  refine wpAny_bind (call.at ?_)
  dsimp only
  rw [tc_bind]
  refine wpAny_bind (wpAny_pure (wpAny_bind (wpAny_pure ?_)))
  refine wpAny_pure (a := Fin.again (.call (.builtin "type.__call__") ⟨[.ref C], []⟩)) (And.intro rfl ?_)
  refine codeAny_call_builtin_at (Code.quiet_builtin _ (by decide +kernel)) entry_typeCall (check_slot tc_kind tc_split typ (tc_args _ _ _) ?_)
  unfold Builtin.«type.__call__»
  have hm : Looks (model prog w) h (mroOf (.ref C)) cd.mro := ((Looks.ld (part := none) hC).andThen .now).andThen .now
  repeat (first | simp only [e4, Bool.false_eq_true, if_false] | with_reducible refine wpAny_call ?_ | lk)
  refine new_L Y' ?_
  have k : ∀ b o, h.get? b = some o → ((h.push emptyDict).push (newAcc C h.objs.size)).get? b = some o := fun b o e => Heap.get?_push_of_some _ (Heap.get?_push_of_some _ e)
  have hx : ((h.push emptyDict).push (newAcc C h.objs.size)).get? (h.objs.size + 1) = some (newAcc C h.objs.size) := by heap_get
  have t1 : Looks (model prog w) ((h.push emptyDict).push (newAcc C h.objs.size)) (typeOf (.ref (h.objs.size + 1))) (.ref C) := (Looks.ld hx).andThen .now
  have s1 := self.keeps k
  have i1 := hi.keeps k
  have b1 := (hb (.ref (h.objs.size + 1))).keeps k
  unfold isInstance callSpecial? specialOf
  repeat (first | with_reducible refine wpAny_call ?_ | lk)
  refine codeAny_mono hq fun r s' z => ?_
  rcases r with e | (v | _ | _ | _) <;> first | exact z | exact z.elim | skip
  obtain ⟨rfl, z⟩ := z
  exact wpAny_pure (wpAny_pure z)
end

end
section
set_option autoImplicit false
set_option maxRecDepth 100000
namespace F
open PySem.F
theorem store_list : StoreFacts "list" [.type "list", .type "object"] "object.__setattr__" "object" where
  mro := by kernel_rfl
  slot := .of (owner := "object") (n := "__setattr__") (by rw [typeLookup_type, builtinLookup_eq_fast]; kernel_rfl) (by decide +kernel) (by decide +kernel) (by decide +kernel)
    (by first | exact .inl (by decide +kernel) | exact .inr (by decide +kernel)) (by rw [isSubtype_type]; kernel_rfl)
  entry := entry_object_sa
  kind := by decide +kernel
  split := by decide +kernel
  hasOwner := by decide +kernel
  args := fun a b c => by unfold argsOk; kernel_rfl
  passes := fun self => by kernel_rfl
theorem nolook_is : typeLookup (.type "list") (Str.ofString "_initial_size") = pure none := by rw [typeLookup_type, builtinLookup_eq_fast]; kernel_rfl
end F

theorem look_ns {h : Heap} {a : Addr} {m : Str → Option Value} (hn : h.Ns a m) : ∃ od, h.get? a = some od ∧ ∀ name, lookIn name od = some (m name) := by
  obtain ⟨o, es, ep, ho, hd, hk, hf⟩ := hn
  refine ⟨o, ho, fun name => ?_⟩
  unfold lookIn
  rw [hd]
  dsimp only
  have hr : es.toList.any (·.refKey) = false := by
    rw [List.any_eq_false]
    intro e he
    obtain ⟨n, t, hk'⟩ := hk e (by simpa using he)
    unfold DictEntry.refKey
    rw [hk']; simp
  rw [← hf name]
  have : nsFind es name = (es.toList.find? (·.key.isStr name)).map (·.val) := by
    unfold nsFind findBy
    obtain ⟨l⟩ := es
    simp only [List.find?_toArray]
  rw [this]
  cases q : es.toList.find? (·.key.isStr name) with
  | some e => rfl
  | none => simp [hr]

section
variable {prog : Program} {w : World} {A : Around} {E : Value → Shared → Prop} {s : Shared}
theorem init_body {x C d : Addr} {n : Nat} {Q : Value → Shared → Prop} (hx : s.heap.get? x = some (accObj C d #[] n))
    (hQ : ∀ h' m, h'.get? x = some (accObj C d #[] m) → Heap.SameBut x s.heap h' → Q .none { s with heap := h' }) :
    wpAny (model prog w) A (Builtin.«list.__init__» ⟨[.ref x], []⟩) (fun fin s' => ∃ v, fin = .done (.ret v) ∧ Q v s') E s := by
  unfold Builtin.«list.__init__»
  dsimp only
  rw [if_neg (by decide), if_neg (by decide)]
  refine wpAny_bind (wpAny_bind (wpAny_seqItems hx rfl (wpAny_pure ?_)))
  refine wpAny_bind (wpAny_updateSeq hx rfl ?_ (by decide) (by decide))
  have hu : ∃ m, (s.heap.update x (Obj.mapSeq fun _ => #[])).get? x = some (accObj C d #[] m) := ⟨_, (Heap.get?_update_self _ hx (by rfl)).trans rfl⟩
  obtain ⟨m, hu⟩ := hu
  refine wpAny_bind (wpAny_letGo ?_)
  exact wpAny_pure ⟨_, rfl, hQ _ m hu (Heap.SameBut.update ..)⟩
end

/-- the class, as an object -/
structure AccC (K : Frag) (C N : Addr) : Prop where
  obj : ∃ nm q bs sn sub ab col dd k0 k1 k2 k3 k5, K.lookup C = some (excClassObj nm q C N bs [.type "list", .type "object"] true sn sub ab col dd k0 k1 k2 k3 k5 "list.__new__")
  ns : ∃ o es ep, K.lookup N = some o ∧ o.data = .dict es ep ∧ StrKeys es ∧ nsFind es (Str.ofString "__setattr__") = none ∧ nsFind es (Str.ofString "_initial_size") = none

section
variable {G : Glb} {K : Frag} {cc : Addr} {cd : ClassData}
noncomputable abbrev initBody (p0 p1 p2 p3 p4 q0 q1 q2 q3 : Pos) : List Stmt := [.Assign [.Attribute (.Name "self" q0) "_initial_size" q1] (.Name "initial_size" q2) q3, .Expr (.Call (.Attribute (.Call (.Name "super" p0) [] [] p1) "__init__" p2) [] [] p3) p4]
theorem init_run (T : AccG G K cc cd) {N : Addr} (CL : AccC K G.C N) {a : Addr} {fd : FuncData} {p0 p1 p2 p3 p4 q0 q1 q2 q3 : Pos} (F : SupFn G K cc a fd (initBody p0 p1 p2 p3 p4 q0 q1 q2 q3))
    {pl : Env → Sem Bool} (he : MethEq (.Call (.Name "super" p0) [] [] p1) "__init__" p2 p3 [] pl) {t0 : Tok} (hb : ∀ s x, G.In s.heap → BindsTo s fd ⟨[.ref x], []⟩ [(Str.ofString "self", .ref x), (Str.ofString "initial_size", .int 0 t0)])
    (hki : fd.scope.names.lookup ("initial_size" : Str) = some .local) (hint : ∀ env : Env, env.scope = fd.scope → interactive env = false)
    (hs1 : ∀ env, swapsWith (.Name "initial_size" q2) (some (.Attribute (.Name "self" q0) "_initial_size" q1)) q3.line env = pure false)
    (hs2 : ∀ env, swapsWith (.Call (.Attribute (.Call (.Name "super" p0) [] [] p1) "__init__" p2) [] [] p3) none p4.line env = pure false)
    {A : Around} {hh : Heap} {g : Array GenState} {d : Drawn} {t : Nat} {os : OsState} {x dx : Addr} {n : Nat} {R : Result → Shared → Prop} (hroom : A.depth < recursionLimit) (hin : G.In hh)
    (hx : hh.get? x = some (accObj G.C dx #[] n)) (hdx : hh.get? dx = some emptyDict) (hne : dx ≠ x) (hbx : G.base x = none) (hbd : G.base dx = none)
    (hR : ∀ h' tk, (∀ b o, b ≠ x → b ≠ dx → hh.get? b = some o → h'.get? b = some o) → (∃ m, h'.get? x = some (accObj G.C dx #[] m)) →
      (∃ od, h'.get? dx = some od ∧ (∀ name : Str, name ≠ Str.ofString "_initial_size" → lookIn name od = some none) ∧ ∃ t, lookIn (Str.ofString "_initial_size") od = some (some (.int 0 t))) → R (.ok (.ret (.ref x))) ⟨h', g, d, tk, os⟩) :
    codeAny (model G.prog G.w) A (.call (.ref a) ⟨[.ref x], []⟩) (InitBack x R) ⟨hh, g, d, t, os⟩ := by
  have X := T.X hin
  obtain ⟨of, hof, hofd⟩ := F.obj
  obtain ⟨c, oc, cvs, file, tf, tq, e1, e2, e3, e4, e5, e6⟩ := F.code
  obtain ⟨nm, q, bs, sn, sub, ab, col, dd, k0, k1, k2, k3, k5, hC⟩ := CL.obj
  obtain ⟨oN, esN, epN, hN, hNd, hNk, hN1, hN2⟩ := CL.ns
  refine ks_codeAny_call_defAt (fd := fd) (binds := [(Str.ofString "self", .ref x), (Str.ofString "initial_size", .int 0 t0)]) hroom (X _ _ hof) hofd (T.O.nolimit _ hin) ⟨c, oc, cvs, tq, e1, X _ _ e2, e3, e6⟩ F.body (hb _ _ hin) F.nocell
    (fun y hy => by
      rcases List.mem_cons.mp hy with z | z
      · rw [z]; exact F.kself
      · rw [List.mem_singleton.mp z]; exact hki) (fun h₀ hns hk => ?_) F.co F.gen F.kind
  have hin₀ : G.In h₀ := fun b o e => hk b o (hin b o e)
  have X₀ := T.X hin₀
  have hx₀ := hk _ _ hx
  have hdx₀ := hk _ _ hdx
  have hfs : ∀ o, hh.get? hh.objs.size ≠ some o := fun o z => absurd (Heap.lt_size z) (Nat.lt_irrefl _)
  have hxs : hh.objs.size ≠ x := fun z => hfs _ (z ▸ hx)
  have hds : hh.objs.size ≠ dx := fun z => hfs _ (z ▸ hdx)
  have hkf : (callEnv fd hh.objs.size a).scope.kind = .function := F.kind
  refine ks_wpAt_execs_cons (ks_wpAt_Assign_Attr (wpAt_of_wpAny ?_) (hs1 _))
  refine wpAny_Name (wpAny_loadName_local hkf hki hns (v := .int 0 t0) rfl ?_) (by decide +kernel)
  refine wpAny_Name (wpAny_loadName_local hkf F.kself hns (v := .ref x) rfl ?_) (by decide +kernel)
  have hxC : x ≠ G.C := T.ne X₀ hx₀
  refine store_attr Mine.F.store_list (X₀ _ _ hC) (mN := fun y => nsFind esN y) ⟨oN, esN, epN, X₀ _ _ hN, hNd, hNk, fun _ => rfl⟩ hN1 hN2 Mine.F.nolook_is hxC (mA := fun _ => none) ⟨_, hx₀, rfl, (fun c e => by cases e), .inr ⟨dx, rfl, hne, Heap.Ns1.of_empty ⟨_, #[], _, hdx₀, rfl, fun e he => absurd he (by simp), fun _ => rfl⟩⟩⟩
    (fun h₁ tk₁ I₁ hk₁ ho₁ => ?_) (ns := []) Within.nil (by decide)
  have hk1 : ∀ b o, b ≠ x → b ≠ dx → h₀.get? b = some o → h₁.get? b = some o := fun b o z y e => hk₁ b o z (fun o₀ dx' h1 h2 => by
    rw [hx₀] at h1; cases h1; cases h2; exact y) e
  have hx₁ : h₁.get? x = some (accObj G.C dx #[] n) := by
    obtain ⟨⟨c1, d1, da1, sl1⟩, z1, z2, z3, z4, z5⟩ := ho₁ _ hx₀
    have z6 := z5 dx rfl
    dsimp only at z2 z3 z4 z6
    rw [z1, z2, z3, z4, z6]
  have hod : ∃ od, h₁.get? dx = some od ∧ (∀ name : Str, name ≠ Str.ofString "_initial_size" → lookIn name od = some none) ∧ ∃ t, lookIn (Str.ofString "_initial_size") od = some (some (.int 0 t)) := by
    obtain ⟨o, z1, z2, z3, z4⟩ := I₁
    rw [hx₁] at z1
    cases z1
    rcases z4 with ⟨z4, _⟩ | ⟨d', z4, _, z5⟩
    · cases z4
    · cases z4
      obtain ⟨od, y1, y2⟩ := look_ns z5.ns
      exact ⟨od, y1, fun name hn => by rw [y2, if_neg hn], t0, by rw [y2, if_pos rfl]⟩
  obtain ⟨od, hod1, hod2, hod3⟩ := hod
  have hin₁ : G.In h₁ := fun b o e => hk1 b o (fun z => by rw [z, hbx] at e; cases e) (fun z => by rw [z, hbd] at e; cases e) (hin₀ b o e)
  have X₁ := T.X hin₁
  have hns₁ : h₁.Ns hh.objs.size (fun y => ([(Str.ofString "self", Value.ref x), (Str.ofString "initial_size", Value.int 0 t0)] : List (Str × Value)).reverse.lookup y) := by
    obtain ⟨oF, esF, epF, z1, z2⟩ := hns
    exact ⟨oF, esF, epF, hk1 _ _ hxs hds z1, z2⟩
  have hit := hint (callEnv fd hh.objs.size a) rfl
  refine ks_wpAt_execs_cons (ks_wpAt_Expr_any (ks_wpAt_MethodCall (super_at T (x := x) (dx := dx) (arr := #[]) (n := n) (od := od) F hin₁ ⟨hx₁, hod1, hod2 _ (by decide +kernel)⟩ rfl rfl rfl rfl F.globals F.builtins hns₁ rfl (by decide +kernel) fun h₂ ho₂ hk₂ => ?_) (he _)) hit (hs2 _))
  have X₂ : K.In h₂ := fun b o e => hk₂ b o (X₁ b o e)
  have hx₂ := hk₂ _ _ hx₁
  refine sup_method supInit ho₂ (looks_opaque X₂ T.opq) (T.mroL X₂) (l := [.type "list", .type "object"]) (by simp [List.dropWhile]) X₂ (by rfl) ((Looks.ld hx₂).andThen (looks_mroIn X₂ T.subl)) (T.ne X₂ hx₂) (by decide +kernel) ?_
  have hx₃ : (h₂.push (boundObj "method-wrapper" "list.__init__" x)).get? x = some (accObj G.C dx #[] n) := Heap.get?_push_of_some _ hx₂
  refine callWith_bound0 (.inr rfl) (T := "method-wrapper") (id := "list.__init__") (x := x) (Heap.get?_push_size _ rfl) ?_
  refine call_bound0 (.inr rfl) (T := "method-wrapper") (x := x) (Heap.get?_push_size _ rfl) PySem.F.entry_list_init plain_linit (fun _ _ _ q => check_init q) (init_body hx₃ fun h₄ m hx₄ hs₄ => ?_)
  refine wpAt_of_wpAny (wpAny_execs_nil ?_)
  refine ⟨rfl, hR _ _ (fun b o z y e => ?_) ⟨m, hx₄⟩ ⟨od, ?_, hod2, hod3⟩⟩
  · exact (hs₄.2 b z).trans (Heap.get?_push_of_some _ (hk₂ _ _ (hk1 _ _ z y (hk _ _ e))))
  · exact (hs₄.2 dx hne).trans (Heap.get?_push_of_some _ (hk₂ _ _ hod1))
end

end
section
set_option autoImplicit false
set_option maxRecDepth 100000

noncomputable def wNew : WF := fun vs Q σ => vs = [] ∧ Q (.ref σ.length) (σ ++ [.acc []])
noncomputable def wCall0 (Wf : WF) : WE := fun Q _ σ => Wf [] Q σ
section
variable {G : Glb} {K : Frag} {cc : Addr} {cd : ClassData} {ℓ : Nat} {sc : Scope}
theorem FnOk.new (T : AccG G K cc cd) {N : Addr} (CL : AccC K G.C N) {a : Addr} {fd : FuncData} {p0 p1 p2 p3 p4 q0 q1 q2 q3 : Pos} (F : SupFn G K cc a fd (initBody p0 p1 p2 p3 p4 q0 q1 q2 q3))
    (hm : makesInL K G.C = true) (hinit : findIn K (.ref G.C) "__init__" = some (some (.ref a))) (hft : typeIn K (.ref a) = some (.type "function"))
    {pl : Env → Sem Bool} (he : MethEq (.Call (.Name "super" p0) [] [] p1) "__init__" p2 p3 [] pl) {t0 : Tok} (hb : ∀ s x, G.In s.heap → BindsTo s fd ⟨[.ref x], []⟩ [(Str.ofString "self", .ref x), (Str.ofString "initial_size", .int 0 t0)])
    (hki : fd.scope.names.lookup ("initial_size" : Str) = some .local) (hint : ∀ env : Env, env.scope = fd.scope → interactive env = false)
    (hs1 : ∀ env, swapsWith (.Name "initial_size" q2) (some (.Attribute (.Name "self" q0) "_initial_size" q1)) q3.line env = pure false)
    (hs2 : ∀ env, swapsWith (.Call (.Attribute (.Call (.Name "super" p0) [] [] p1) "__init__" p2) [] [] p3) none p4.line env = pure false) : FnOk G ℓ (.ref G.C) wNew := by
  intro A s g φ σ vs ws Q cx ok S hv hW Kc E k
  obtain ⟨rfl, hQ⟩ := hW
  have hws : ws = [] := hv
  subst hws
  have dep := cx.depth
  have hin := S.inb
  have X := T.X hin
  refine of_toks ok.toks ?_
  obtain ⟨hh, gg, d, t, os⟩ := s
  have fr0 : hh.get? hh.objs.size = none := get?_size hh
  have fr1 : hh.get? (hh.objs.size + 1) = none := by
    cases z : hh.get? (hh.objs.size + 1) with
    | none => rfl
    | some o => exact absurd (Heap.lt_size z) (Nat.not_lt.mpr (Nat.le_succ _))
  have nb : ∀ b, hh.get? b = none → G.base b = none := fun b hb => by
    cases z : G.base b with
    | none => rfl
    | some o => rw [hin b o z] at hb; cases hb
  have hk : ∀ b o, hh.get? b = some o → ((hh.push emptyDict).push (newAcc G.C hh.objs.size)).get? b = some o := fun b o e => Heap.get?_push_of_some _ (Heap.get?_push_of_some _ e)
  refine wpAny_call (make_L (makesL_of X hm) (looks_findIn X hinit) (fun self => bind_fn X self hft) (init_run T CL F he hb hki hint hs1 hs2 (by show A.depth + 1 < 1000; exact ar370 dep) (fun b o e => hk b o (hin b o e)) (x := hh.objs.size + 1) (dx := hh.objs.size) (n := 0) (by heap_get) (by heap_get) (Nat.ne_of_lt (Nat.lt_succ_self _)) (nb _ fr1) (nb _ fr0)
    fun h' tk hk' hx' hd' htk => ?_))
  obtain ⟨m, hx'⟩ := hx'
  obtain ⟨od, hd', hl1, hl2⟩ := hd'
  have up : ∀ b o, hh.get? b = some o → h'.get? b = some o := fun b o e => hk' b o (fun z => by rw [z, fr1] at e; cases e) (fun z => by rw [z, fr0] at e; cases e) (hk b o e)
  obtain ⟨u1, u2⟩ := S.un fr0
  obtain ⟨v1, v2⟩ := S.un fr1
  have v2' : ins g hh.objs.size od (hh.objs.size + 1) = none := by unfold ins; rw [if_neg (Nat.ne_of_gt (Nat.lt_succ_self _))]; exact v2
  have S' : SR G g h' φ σ := S.keeps up
  refine k _ _ _ _ _ (.ref σ.length) (((Nx.up (s := ⟨hh, gg, d, t, os⟩) up).addF fr0 u2).addM fr1) ⟨htk, ok.bare⟩ ((S'.addF u1 u2 hd').addM (m := .acc []) v1 v2' ?_) ⟨_, rfl, at_end S.len⟩ hQ
  exact ⟨hh.objs.size, #[], m, od, hx', rfl, ins_at, hl1, hl2⟩

theorem r_new (T : AccG G K cc cd) {id : Str} {np pos : Pos} (hn : FnOk G ℓ (.ref G.C) wNew) (hg : G.mg id = some (.ref G.C)) (hkp : keepIn K (.ref G.C) = true) (hk : sc.names.lookup id = some .globalImplicit) (hd : (id == ("__debug__" : Str)) = false) :
    Ev G ℓ sc (.Call (.Name id np) [] [] pos) (wCall0 wNew) := by
  intro A env own s g φ σ ρ Q cx eo R hW Kc E k
  refine wpAny_Call_NameR (Ev.glob (ℓ := ℓ) T.O hk hg (v := .raw (.ref G.C)) (fun _ _ => rfl) hd A env own s g φ σ ρ (fun v σ' => v = .raw (.ref G.C) ∧ wNew [] Q σ') cx eo R ⟨rfl, hW⟩ _ _ fun w s₁ g₁ φ₁ σ₁ v N₁ R₁ hv hQ => ?_)
  obtain ⟨rfl, hQ⟩ := hQ
  have hv' : w = .ref G.C := hv
  subst hv'
  refine callWith_K0 (T.X R₁.sr.inb) hkp ?_
  exact hn A s₁ g₁ φ₁ σ₁ [] [] _ cx R₁.ok R₁.sr rfl hQ _ _ fun w s' g' φ' σ' v N' ok' S' hv hQ => k _ _ _ _ _ v (N₁.trans N') (R₁.step N' ok' S') hv hQ
end

end
section
set_option autoImplicit false
set_option maxRecDepth 100000

section
variable {G : Glb} {K : Frag} {cc : Addr} {cd : ClassData} {ℓ : Nat} {sc : Scope}
end

end
section
set_option autoImplicit false
set_option maxRecDepth 100000

structure TopA (G : Glb) (P : Params) : Prop where
  T : TopG G P
  C : G.C = 117
  file : ((G.prog.main.file : Str) == Str.ofString "/claim/cut.py") = true
  top : (G.prog.main.scope.names.lookup ("super" : Str)).isSome = false
noncomputable def cd1 : ClassData := match (hd2.heap_39 P0).lookup 117 with | some o => (match o.data with | .cls c => c | _ => default) | none => default

set_option maxHeartbeats 4000000 in
theorem acc1 {G : Glb} {P : Params} (T : TopA G P) : AccG G (hd2.heap_39 P) 42 cd1 where
  O := T.T.O
  inn := T.T.K
  cls := by rw [T.C]; rfl
  mro := by rw [T.C]; rfl
  cell := ⟨_, rfl, by rw [T.C]⟩
  mgs := by rw [T.T.mg]; rfl
  mbs := T.T.mb _ _ (by decide +kernel)
  ga := by rw [T.C]; kernel_rfl
  gat := by rw [T.C]; kernel_rfl
  opq := by kernel_rfl
  sub := by rw [T.C]; kernel_rfl
  subl := by rw [T.C]; kernel_rfl
  subm := by rw [T.C]; kernel_rfl
  metac := by rw [T.C]; kernel_rfl
  popc := fun x => by kernel_rfl
  top := T.top

end
section
set_option autoImplicit false
set_option maxRecDepth 100000

section
variable {G : Glb} {P : Params} {ℓ : Nat}
theorem sup114 (T : TopA G P) : SupFn G (hd2.heap_39 P) 42 114 (fd 114) (bd 114) where
  obj := ⟨_, rfl, rfl⟩
  body := rfl
  closure := rfl
  globals := rfl
  builtins := rfl
  first := ⟨_, rfl, rfl⟩
  code := ⟨_, _, _, _, _, _, rfl, rfl, rfl, rfl, T.file, rfl⟩
  co := rfl
  gen := rfl
  kind := rfl
  nocell := by decide +kernel
  ks := by decide +kernel
  kc := by decide +kernel
  kself := by decide +kernel
theorem fn114 (T : TopA G P) : FnOk G (ℓ + 1) (.ref 114) wPc := fn_pc (acc1 T) (sup114 T) (fun _ => rfl) (fun s w => BindsTo.of_eq rfl)
theorem sup55 (T : TopA G P) : SupFn G (hd2.heap_39 P) 42 55 (fd 55) (bd 55) where
  obj := ⟨_, rfl, rfl⟩
  body := rfl
  closure := rfl
  globals := rfl
  builtins := rfl
  first := ⟨_, rfl, rfl⟩
  code := ⟨_, _, _, _, _, _, rfl, rfl, rfl, rfl, T.file, rfl⟩
  co := rfl
  gen := rfl
  kind := rfl
  nocell := by decide +kernel
  ks := by decide +kernel
  kc := by decide +kernel
  kself := by decide +kernel

noncomputable def keysB (es : Array DictEntry) : Bool := es.toList.all fun e => match e.key with | .str _ _ => true | _ => false
theorem keys_of {es : Array DictEntry} (h : keysB es = true) : StrKeys es := fun e he => by
  have := List.all_eq_true.mp h e (by simpa using he)
  cases hk : e.key with
  | str n t => exact ⟨n, t, rfl⟩
  | _ => rw [hk] at this; cases this
theorem accC1 (T : TopA G P) : AccC (hd2.heap_39 P) G.C 116 where
  obj := by rw [T.C]; exact ⟨_, _, _, _, _, _, _, _, _, _, _, _, _, rfl⟩
  ns := ⟨_, _, _, rfl, rfl, keys_of (by kernel_rfl), by kernel_rfl, by kernel_rfl⟩
theorem ownNew (T : TopA G P) : FnOk G ℓ (.ref G.C) wNew :=
  FnOk.new (acc1 T) (accC1 T) (sup55 T) (by rw [T.C]; kernel_rfl) (by rw [T.C]; kernel_rfl) (by kernel_rfl) (fun _ => rfl)
    (fun s x hin => BindsTo.of_defaults rfl (hin _ _ (T.T.K _ _ rfl)) rfl rfl rfl) (by decide +kernel) (fun env he => by unfold interactive; rw [he]; rfl) (fun _ => rfl) (fun _ => rfl)
theorem def62 (T : TopA G P) : IsDef G 62 (fd 62) (bd 62) [] := isDef T.T 62 _ rfl rfl rfl rfl rfl rfl ⟨_, _, _, _, rfl, rfl, rfl, rfl⟩ rfl rfl rfl
noncomputable def wPush : WF := fun vs Q σ => ∃ (i : Nat) (xs : List V) (a b : V), vs = [.ref i, a, b] ∧ σ[i]? = some (.acc xs) ∧ xs.length ≤ 2 ^ 20 ∧ Q .none (σ.set i (.acc (xs ++ [.tup [a, b]])))
theorem p_methA {Wo : WE} {Ws : WL} {Wf : WF} {Q : V → Sto → Prop} {ρ : Rho} {σ : Sto} (h : Wo (fun ov σ₁ => (∃ i xs, ov = .ref i ∧ σ₁[i]? = some (.acc xs)) ∧ Ws (fun vs σ₂ => Wf (ov :: vs) Q σ₂) ρ σ₁) ρ σ) : wMethA Wo Ws Wf Q ρ σ := h
theorem fn62 (T : TopA G P) : FnOk G (ℓ + 1) (.ref 62) wPush := by
  apply FnOk.mono
  apply FnOk.def T.T.O (def62 T) (ps := ["self", "fws", "string"])
  focus (intro x hx; simp only [List.mem_cons, List.not_mem_nil, or_false] at hx; rcases hx with rfl | rfl | rfl <;> walk_at "cs")
  focus (intro ws h; obtain ⟨a, b, c, rfl⟩ := len3 h; rfl)
  focus (apply s_cons; (focus (apply s_expr; (focus (apply r_accB (acc1 T) (by rw [T.C]; kernel_rfl) Mine.F.type_lapp (by decide +kernel) (FnOk.appendA (acc1 T)) (fun _ => rfl); (focus walk_at "ev"); (focus walk_at "el"); (focus exact fun _ => rfl); (focus exact fun _ => rfl); (focus exact fun _ => rfl))); (focus exact rfl); (focus exact fun _ => rfl))); (focus walk_at "es"))
  rintro vs Q σ ⟨i, xs, a, b, rfl, hm, hl, hQ⟩
  refine ⟨_, rfl, ?_⟩
  repeat' walk_at "st"
  refine p_methA ?_
  repeat' walk_at "st"
  refine ⟨⟨i, xs, rfl, hm⟩, ?_⟩
  repeat' walk_at "st"
  refine ⟨by simp, ?_⟩
  repeat' walk_at "st"
  refine ⟨i, _, xs, rfl, hm, hl, ?_⟩
  repeat' walk_at "st"
  exact hQ
end

end
section
set_option autoImplicit false
section
variable {Gd : Sto → Prop} {Wa : WA} {Wi : WT} {We : WE}
end

end
section
set_option autoImplicit false
set_option maxRecDepth 100000

noncomputable abbrev bmExc : List Value := [.type "Exception", .type "BaseException", .type "object"]
/-- a class of exceptions of the text's own -/
inductive ErrObj (G : Glb) (C : Addr) : Prop
  | mk (bm N nm q bs hdct sn sub ab col dd k0 k1 k2 k3 k5 mN) (h1 : G.base C = some (excClassObj nm q C N bs bm hdct sn sub ab col dd k0 k1 k2 k3 k5 "Exception.__new__")) (h2 : ∀ h, G.In h → h.Ns N mN) (h3 : ∀ n ∈ quietNames, mN n = none) (h4 : ∀ h, G.In h → OwnTailQ h bmExc bm) : ErrObj G C
structure ErrG (G : Glb) (x : Str) (C : Addr) : Prop where
  bound : G.mg x = some (.ref C)
  obj : ErrObj G C
theorem tailQ_has {h : Heap} {bm : List Value} (T : OwnTailQ h bmExc bm) : bm.contains (.type "BaseException") = true := by
  induction T with
  | base => decide
  | own _ _ _ _ ih => rw [List.contains_cons, ih, Bool.or_true]
noncomputable def FF (h : Heap) (l : List Env) : Prop := ∀ env ∈ l, env.scope.kind ≠ .module ∧ ∃ L o, env.frame = some L ∧ h.get? L = some o ∧ ∀ vs, o.data ≠ .fields vs
noncomputable abbrev frs (l : List Env) : List Addr := l.filterMap (·.frame)
theorem ff_fun {h base : Heap} : ∀ {l : List Env}, FF h l → (∀ L ∈ frs l, base.get? L = none) → h.FunFrames base l
  | [], _, _ => trivial
  | env :: l, hF, hb => by
    obtain ⟨h1, L, o, h2, h3, h4⟩ := hF env List.mem_cons_self
    have e : frs (env :: l) = L :: frs l := by unfold frs; rw [List.filterMap_cons, h2]
    rw [e] at hb
    exact ⟨h1, ⟨L, o, h2, hb L List.mem_cons_self, h3, h4⟩, ff_fun (fun v hv => hF v (List.mem_cons_of_mem _ hv)) fun L' hL' => hb L' (List.mem_cons_of_mem _ hL')⟩
theorem SR.keepsOn {G : Glb} {g : FM} {h h' : Heap} {φ : List Addr} {σ : Sto} (S : SR G g h φ σ) (hk : ∀ b o, (b ∈ φ ∨ ∃ o', g b = some o') → h.get? b = some o → h'.get? b = some o) : SR G g h' φ σ :=
  ⟨S.base, fun b o e => hk b o (.inr ⟨o, e⟩) (S.keep b o e), S.len, fun k a m h1 h2 => MOR.keeps (fun _ _ e => e) (fun _ _ e => e) (fun o e => hk a o (.inl (List.mem_of_getElem? h1)) e) (S.mo k a m h1 h2), S.fresh, S.nodup⟩
/-- an exception on its way -/
structure Flies (h : Heap) (e T : Addr) (cls : Value) : Prop where
  ne : T ≠ e
  there : ∃ oe vs oT ts a0, h.get? e = some oe ∧ oe.cls = cls ∧ vs[0]? = some a0 ∧ oe.data = .fields vs ∧ vs[1]? = some (.ref T) ∧ h.get? T = some oT ∧ oT.data = .fields ts ∧ ts[3]? = some .none

section
variable {G : Glb} {ℓ : Nat}
/-- a call that raises at once: `if test: raise X(args)` at the head of the body -/
theorem call_raises (O : G.Ok) {a : Addr} {fd : FuncData} {test : Expr} {x : Str} {np cpos rpos ipos : Pos} {e₁ : Expr} {er : List Expr} {rest : List Stmt} {ps : List Str} {Wt : WT} {Ws : WL} {C : Addr}
    (D : IsDef G a fd (.If test [.Raise (some (.Call (.Name x np) (e₁ :: er) [] cpos)) none rpos] [] ipos :: rest) []) (hp : ∀ x ∈ ps, canStore fd.scope (ownOf fd.scope) x)
    (hb : ∀ ws : List Value, ws.length = ps.length → bindArgs fd ⟨ws, []⟩ = pure (ps.zip ws)) (ht : Tt G ℓ fd.scope test Wt) (ha : Evs G ℓ fd.scope (e₁ :: er) Ws)
    (hC : ErrG G x C) (hk : fd.scope.names.lookup x = some .globalImplicit) (hd : (x == ("__debug__" : Str)) = false)
    (h1 : ∀ env, starEach (e₁ :: er) env = (false, eval e₁ env) :: starEach er env) (h2 : ∀ env, (backTo cpos (starEach (e₁ :: er) env)).any (·.1) = false)
    {A : Around} {s : Shared} {g : FM} {φ : List Addr} {σ : Sto} {vs : List V} {ws : List Value} {K E : Value → Shared → Prop} (cx : Cx (ℓ + 1) A) (ok : SOk s) (S : SR G g s.heap φ σ) (hv : VRs g φ vs ws) (hl : vs.length = ps.length)
    {ρ : Rho} (hρ : bindRho ps vs (fun _ => none) = some ρ) (hW : Wt (fun b σ' => b = true ∧ Ws (fun us σx => us.length ≤ 2 ^ 20 ∧ σx = σ) ρ σ') ρ σ)
    {outer : List Env} (hfr : A.frames = some outer) (hff : FF s.heap outer) (hfg : ∀ L ∈ frs outer, L ∉ φ ∧ g L = none)
    (hE : ∀ s' e T g' φ', SOk s' → s'.drawn = s.drawn → s'.os = s.os → Flies s'.heap e T (.ref C) → s.heap.get? e = none → s.heap.get? T = none → SR G g' s'.heap φ' σ → (∀ b o, b ∉ φ → b ∉ frs outer → s.heap.get? b = some o → s'.heap.get? b = some o) →
      (∀ b ∈ frs outer, ∀ o, s.heap.get? b = some o → ∃ sl, s'.heap.get? b = some { o with slots := sl }) →
      (∀ b o, g b = some o → g' b = some o) → (∀ b o, g' b = some o → g b = some o ∨ s.heap.get? b = none) → (∃ r, φ' = φ ++ r ∧ ∀ a ∈ r, s.heap.get? a = none) → g' e = none → g' T = none → e ∉ φ' → T ∉ φ' → E (.ref e) s') :
    wpAny (model G.prog G.w) A (call (.ref a) ws) K E s := by
  obtain ⟨o, hbase, hdata⟩ := D.obj
  have inb : G.In s.heap := S.inb
  have dep := cx.depth
  have uni := cx.units
  have hbind : BindsTo s fd ⟨ws, []⟩ (ps.zip ws) := BindsTo.of_eq (hb ws (hv.length.trans hl))
  refine wpAny_call (codeAny_call_function (by show A.depth < 1000; exact ar168 dep) (inb _ _ hbase) hdata D.co D.gen D.body (D.code _ inb) (hbind _ _ _ _ ?_))
  rw [D.closure]
  simp only [newFunctionEnv, Option.isSome_none, Bool.false_eq_true, if_false]
  refine wpAny_bind (wpAny_alloc ?_)
  refine wpAny_bind (wpAny_layCells _ (fun name kind cells => by cases kind == NameKind.cell <;> simp) _ _ _ _ ?_)
  rw [show ({ s with heap := s.heap.push { cls := .type "frame", data := .dict #[] } } : Shared).heap.objs.size = s.heap.objs.size + 1 from Heap.size_push ..]
  generalize hEnv : ({ scope := fd.scope, locals := s.heap.objs.size, globals := fd.globals, cells := cellsFrom (s.heap.objs.size + 1) fd.scope.names [], qual := fd.qualname ++ ".<locals>.", func := some a, code := fd.code, frame := some s.heap.objs.size, builtins := fd.builtins } : Env) = env
  have eo : EnvOk fd.scope env := ⟨by rw [← hEnv], D.kind, by rw [← hEnv]; exact D.globals, by rw [← hEnv]; exact D.builtins⟩
  have hfrm : env.frame = some s.heap.objs.size := by rw [← hEnv]
  have hloc : env.locals = s.heap.objs.size := by rw [← hEnv]
  obtain ⟨R₁, N₁, hfresh⟩ := Rel.frame (cls := .type "frame") (sc := fd.scope) (sc' := fd.scope) (cl := []) (ρ₀ := fun _ => none) (env' := env) ok S (fun x v h => by cases h) eo.scope (by rw [← hEnv]) (by rw [← hEnv])
  refine wpAny_bind (stores eo _ (fun _ _ _ => rfl) ps vs ws _ g φ σ _ ρ _ _ hp R₁ (N₁.vrs hv) hρ fun s₂ N₂ R₂ => ?_)
  refine wpAny_pure ⟨O.nolimit _ R₂.sr.inb, codeAny_func ?_⟩
  have cx' : Cx ℓ (A.deeper env) := ⟨cx.handled, by show A.depth + 1 + 10 * ℓ ≤ 900; exact ar169 dep, by show A.units + 3 + 100 * ℓ ≤ 9000; exact ar170 uni⟩
  refine wpAny_execs_cons (wpAny_If (ht (A.deeper env) env _ s₂ g φ σ ρ _ cx' eo R₂ hW _ _ fun b s₃ g₃ φ₃ σ₃ N₃ R₃ hQ => ?_))
  obtain ⟨rfl, hQ⟩ := hQ
  rw [if_pos rfl]
  refine wpAny_execs_cons ?_
  obtain ⟨bm, Nn, nm, q, bs, hdct, sn, sub, ab, col, dd, k0, k1, k2, k3, k5, mN, hCo, hN, hq, TQ⟩ := hC.obj
  have hnil : wpAny (model G.prog G.w) (A.deeper env) (exec (.Raise (some (.Call (.Name x np) (e₁ :: er) [] cpos)) none rpos) env) (fun _ _ => False) (fun e s' =>
      wpAny (model G.prog G.w) (A.deeper env) (leaving env e) (fun _ s'' => E e s'') (fun e' s'' => E e' s'') s') s₃ := ?_
  · exact wpAny_mono hnil (fun _ _ z => z.elim) fun _ _ z => z
  refine wpAny_Raise_call_subT (nm := nm) (q := q) (C := C) (N := Nn) (bs := bs) (hdct := hdct) (sn := sn) (sub := sub) (ab := ab) (col := col) (dd := dd) (k0 := k0) (k1 := k1) (k2 := k2) (k3 := k3) (k5 := k5) PySem.F.excBase_Exception (tailQ_has (TQ _ R₃.sr.inb)) cx'.handled (h2 env) (hq _ (.head _)) ?_
  refine Ev.glob (ℓ := ℓ) O hk hC.bound (v := .raw (.ref C)) (fun _ _ => rfl) hd (A.deeper env) env _ s₃ g₃ φ₃ σ₃ ρ (fun v σ' => v = .raw (.ref C) ∧ Ws (fun us σx => us.length ≤ 2 ^ 20 ∧ σx = σ) ρ σ') cx' eo R₃ ⟨rfl, hQ⟩ _ _ fun w s₄ g₄ φ₄ σ₄ v N₄ R₄ hv4 hQ4 => ?_
  obtain ⟨rfl, hQ4⟩ := hQ4
  refine ⟨hv4, ?_⟩
  have hargs := ha (A.deeper env) env _ s₄ g₄ φ₄ σ₄ ρ (fun us σx => us.length ≤ 2 ^ 20 ∧ σx = σ) cx' eo R₄ hQ4 cpos
  rw [h1] at hargs ⊢
  refine Calls.evalArgs_plain (hargs _ _ fun us s₅ g₅ φ₅ σ₅ vs5 N₅ R₅ hus hlen => ?_)
  obtain ⟨hlen, hσ⟩ := hlen
  subst hσ
  have hin5 := R₅.sr.inb
  refine ⟨rfl, ?_, hin5 _ _ hCo, hN _ hin5, (TQ _ hin5).tail, fun h6 e M => ?_⟩
  · show us.length ≤ sizeLine
    rw [hus.length]
    exact Nat.le_trans hlen (by decide)
  have N : Nx [] s s₅ g g₅ φ φ₅ := (((N₁.leave N₂ hfresh).trans N₃).trans N₄).trans N₅
  obtain ⟨t, he6, ht1, ht2⟩ := M.there
  obtain ⟨ue1, ue2⟩ := R₅.sr.un M.new
  have nb : ∀ b, s₅.heap.get? b = none → s.heap.get? b = none := fun b hb => by
    cases z : s.heap.get? b with
    | none => rfl
    | some o => exact absurd hb (N.ex b (by rw [z]; simp))
  have hLs : s.heap.get? s.heap.objs.size = none := get?_size s.heap
  have hff6 : FF h6 (env :: outer) := fun v hv => by
    rcases List.mem_cons.mp hv with rfl | hv
    · obtain ⟨m, ⟨oF, esF, epF, hoF, hdF, _⟩, _⟩ := R₅.fr.ns
      refine ⟨by rw [eo.scope, eo.kind]; decide, s.heap.objs.size, oF, hfrm, M.keeps _ _ (hloc ▸ hoF), fun vs q => by rw [hdF] at q; cases q⟩
    · obtain ⟨z1, Lf, oF, z2, z3, z4⟩ := hff v hv
      have hm : Lf ∈ frs outer := List.mem_filterMap.mpr ⟨v, hv, z2⟩
      exact ⟨z1, Lf, oF, z2, M.keeps _ _ (N.oth _ _ (by simp) (hfg Lf hm).1 z3), z4⟩
  have hfrl : frs (env :: outer) = s.heap.objs.size :: frs outer := by unfold frs; rw [List.filterMap_cons, hfrm]
  refine wpAny_leaving_firstW (base := hideAll h6 (e :: frs (env :: outer))) (outer := outer) (L := s.heap.objs.size) (by show A.frames.map _ = _; rw [hfr]; rfl) (ff_fun hff6 fun L hL => hideAll_none _ (.tail _ hL)) hfrm he6 (fun b o hb => of_hideAll _ hb) (hideAll_none _ (.head _)) rfl rfl rfl fun h7 LW => ?_
  obtain ⟨st, ff, tr, up⟩ := LW
  have kp : ∀ b o, b ≠ e → b ∉ frs (env :: outer) → h6.get? b = some o → h7.get? b = some o := fun b o z1 z2 z3 => st b o (hideAll_get _ z3 fun q => by
    rcases List.mem_cons.mp q with q | q
    · exact z1 q
    · exact z2 q)
  obtain ⟨oe, vse, T, oT, ts, y1, ⟨y2, y3⟩, y4, y5, y6, y7, y8, y9, y10⟩ := tr
  have hT6 : h6.get? T = none := by
    cases z : h6.get? T with
    | none => rfl
    | some o =>
      exfalso
      have hTf : T ∈ frs (env :: outer) := by
        by_cases hm : T ∈ frs (env :: outer)
        · exact hm
        · rw [hideAll_get _ z (fun q => by
            rcases List.mem_cons.mp q with q | q
            · exact y7 q
            · exact hm q)] at y6
          cases y6
      obtain ⟨_, o', ho', hnf⟩ := ff.mem hTf
      rw [y8] at ho'; cases ho'
      exact hnf ts y9
  have hT5 : s₅.heap.get? T = none := by
    cases z : s₅.heap.get? T with
    | none => rfl
    | some o => rw [M.keeps _ _ z] at hT6; cases hT6
  obtain ⟨uT1, uT2⟩ := R₅.sr.un hT5
  have frm : ∀ b ∈ frs (env :: outer), b ∉ φ₅ ∧ g₅ b = none := fun b hb => by
    rw [hfrl] at hb
    rcases List.mem_cons.mp hb with q | q
    · rw [q, ← hloc]; exact ⟨R₅.fr.Lφ, R₅.fr.Lg⟩
    · obtain ⟨w1, w2⟩ := hfg b q
      obtain ⟨v, hv, hvf⟩ := List.mem_filterMap.mp q
      obtain ⟨_, Lf, oF, z2, z3, _⟩ := hff v hv
      rw [hvf] at z2; cases z2
      refine ⟨fun hm => ?_, ?_⟩
      · obtain ⟨r, hr, hr2⟩ := N.pre
        rw [hr] at hm
        rcases List.mem_append.mp hm with q | q
        · exact w1 q
        · rw [hr2 b q] at z3; cases z3
      · cases z : g₅ b with
        | none => rfl
        | some o =>
          rcases N.new b o z with q | q
          · rw [w2] at q; cases q
          · rw [q] at z3; cases z3
  refine hE ⟨h7, s₅.gens, s₅.drawn, s₅.toks, s₅.os⟩ e T g₅ φ₅ ⟨R₅.ok.toks, R₅.ok.bare⟩ N.drawn N.os ⟨y7, oe, vse, oT, ts, _, y1, y2, y3, y4, y5, y8, y9, y10⟩ (nb _ M.new) (nb _ hT5) ((R₅.sr.keeps M.keeps).keepsOn fun b o hb hbo => ?_) (fun b o hb1 hb2 hbo => ?_) (fun b hb o hbo => ?_) N.sub N.new N.pre ue2 uT2 ue1 uT1
  · refine kp b o (fun q => ?_) (fun q => ?_) hbo
    · subst q
      rcases hb with hb | ⟨o', hb⟩
      · exact ue1 hb
      · rw [ue2] at hb; cases hb
    · obtain ⟨w1, w2⟩ := frm b q
      rcases hb with hb | ⟨o', hb⟩
      · exact w1 hb
      · rw [w2] at hb; cases hb
  · refine kp b o (fun q => ?_) (fun q => ?_) (M.keeps _ _ (N.oth _ _ (by simp) hb1 hbo))
    · subst q; rw [nb _ M.new] at hbo; cases hbo
    · rw [hfrl] at q
      rcases List.mem_cons.mp q with q | q
      · rw [q, hLs] at hbo; cases hbo
      · exact hb2 q
  · obtain ⟨v, hv, hvf⟩ := List.mem_filterMap.mp hb
    obtain ⟨_, Lf, oF, z2, z3, z4⟩ := hff v hv
    rw [hvf] at z2; cases z2
    rw [hbo] at z3; cases z3
    exact up b o (M.keeps _ _ (N.oth _ _ (by simp) (hfg b hb).1 hbo)) z4
end

end
section
set_option autoImplicit false
set_option maxRecDepth 100000
section
variable {M : Model} {A : Around} {E : Value → Shared → Prop} {s : Shared}
theorem note_next {base : Heap} {env : Env} {outer : List Env} {L e : Addr} {cls a0 : Value} {Q : Unit → Shared → Prop}
    (hfr : A.frames = some (env :: outer)) (hl : s.heap.FunFrames base (env :: outer)) (hf : env.frame = some L) (ht : s.heap.TracedW base e cls a0) (hkb : base.StaysIn s.heap) (hen : base.get? e = none)
    (h : ∀ h', Heap.LeftW base (env :: outer) e cls a0 s.heap h' → Q () { s with heap := h' }) : wpAny M A (noteFrame (.ref e) env) (fun _ s' => wpAny M A (setFlight (.ref e) none) Q E s') E s := by
  obtain ⟨oe, vs, T, oT, ts, he, ⟨hcls, h0⟩, hd, h1, hnT, hTe, hT, hdT, h3⟩ := ht
  subst hcls
  unfold noteFrame
  simp only [hf]
  refine wpAny_bind (wpAny_field he hd h1 ?_)
  rw [if_pos (show (Value.ref T != Value.none) = true from by simp)]
  refine wpAny_bind (wpAny_field hT hdT h3 ?_)
  rw [if_neg (show ¬ ((Value.none == rawInt L) = true) from by simp [rawInt])]
  refine wpAny_bind (wpAny_setField hT hdT (Array.getElem?_eq_some_iff.mp h3).1 ?_)
  have other : ∀ b, b ≠ T → (s.heap.update T (Obj.mapFields (·.setIfInBounds 3 Value.none))).get? b = s.heap.get? b := fun b hb => Heap.get?_update_other _ _ (Ne.symm hb)
  have noRecord : ∀ b o, s.heap.get? b = some o → (∀ vs, o.data ≠ .fields vs) → b ≠ T := fun b o hb hnf q => by
    rw [q, hT] at hb; injection hb with hb; subst hb; exact hnf ts hdT
  refine wpAny_newEntryW hfr (hl.of_keeps fun b o hb hnf => ⟨o, (other b (noRecord b o hb hnf)).trans hb, rfl⟩) hf ((other e (Ne.symm hTe)).trans he)
    (fun b o hbo => (other b fun q => by rw [q, hnT] at hbo; cases hbo).trans (hkb b o hbo)) hen hd (Array.getElem?_eq_some_iff.mp h1).1 h0
    fun h' ⟨x1, x2, x3, x4⟩ => h h' ⟨x1, x2, x3, fun b o hb hnf => x4 b o ((other b (noRecord b o hb hnf)).trans hb) hnf⟩
/-- the flight's mark is taken off -/
theorem flight_off {e T : Addr} {cls : Value} {Q : Unit → Shared → Prop} (F : Flies s.heap e T cls) (h : ∀ h', (∀ b o, b ≠ T → s.heap.get? b = some o → h'.get? b = some o) → Flies h' e T cls → Q () { s with heap := h' }) : wpAny M A (setFlight (.ref e) none) Q E s := by
  obtain ⟨ne, oe, vs, oT, ts, a0, he, hc, h0, hd, h1, hT, hdT, h3⟩ := F
  unfold setFlight
  refine wpAny_bind (wpAny_field he hd h1 ?_)
  rw [if_pos (show (Value.ref T != Value.none) = true from by simp)]
  have hsz := (Array.getElem?_eq_some_iff.mp h3).1
  have hd' := Obj.data_mapFields hdT (·.setIfInBounds 3 ((none : Option Addr).elim Value.none fun f => rawInt f))
  refine wpAny_setField hT hdT hsz (h _ (fun b o hb ho => (Heap.get?_update_other _ _ (Ne.symm hb)).trans ho) ⟨ne, oe, vs, _, _, a0, (Heap.get?_update_other _ _ ne).trans he, hc, h0, hd, h1, Heap.get?_update_self _ hT (Obj.isFreed_of_fields hd'), hd', ?_⟩)
  simp [hsz]
end

section
variable {G : Glb}
theorem ErrG.ownQ {x : Str} {C : Addr} (H : ErrG G x C) {h : Heap} (hin : G.In h) : OwnClsQ x C bmExc "Exception.__new__" G.mg h := by
  obtain ⟨bm, Nn, nm, q, bs, hdct, sn, sub, ab, col, dd, k0, k1, k2, k3, k5, mN, hCo, hN, hq, TQ⟩ := H.obj
  exact ⟨H.bound, bm, Nn, nm, q, bs, hdct, sn, sub, ab, col, dd, k0, k1, k2, k3, k5, mN, hin _ _ hCo, hN _ hin, hq, TQ _ hin⟩
theorem caught (O : G.Ok) {sc : Scope} {env : Env} {outer : List Env} {A : Around} {s : Shared} {g : FM} {φ : List Addr} {σ : Sto} {e T C L : Addr} {x : Str} {xp p1 q1 hp : Pos} {k1 : Nat} {Q : Flow → Shared → Prop} {E : Value → Shared → Prop}
    (H : ErrG G x C) (eo : EnvOk sc env) (hk : sc.names.lookup x = some .globalImplicit) (hd : (x == ("__debug__" : Str)) = false) (hfr : A.frames = some (env :: outer)) (hf : env.frame = some L) (hFF : FF s.heap (env :: outer)) (hfg : ∀ L ∈ frs (env :: outer), L ∉ φ ∧ g L = none)
    (ok : SOk s) (S : SR G g s.heap φ σ) (F : Flies s.heap e T (.ref C)) (hge : g e = none) (hgT : g T = none) (heφ : e ∉ φ) (hTφ : T ∉ φ)
    (hQ : ∀ s', SOk s' → s'.drawn = s.drawn → s'.os = s.os → SR G g s'.heap φ σ → (∀ b o, b ≠ e → b ≠ T → b ∉ frs (env :: outer) → s.heap.get? b = some o → s'.heap.get? b = some o) →
      (∀ b ∈ frs (env :: outer), ∀ o, s.heap.get? b = some o → ∃ sl, s'.heap.get? b = some { o with slots := sl }) → Q (.ret (.bool true)) s') :
    wpAny (model G.prog G.w) A (noteFrame (.ref e) env) (fun _ s₂ => wpAny (model G.prog G.w) A (setFlight (.ref e) none) (fun _ s₃ => wpAny (model G.prog G.w) A (handleBy (.ref e) env [.ExceptHandler (some (.Name x xp)) none [.Return (some (.Constant (.bool true) k1 p1)) q1] hp]) Q E s₃) E s₂) E s := by
  obtain ⟨ne, oe, vs, oT, ts, a0, he, hc, h0, hde, h1, hT, hdT, h3⟩ := F
  refine note_next (base := hideAll s.heap (e :: T :: frs (env :: outer))) (outer := outer) (cls := .ref C) (a0 := a0) hfr (ff_fun hFF fun L hL => hideAll_none _ (.tail _ (.tail _ hL))) hf
    ⟨oe, vs, T, oT, ts, he, ⟨hc, h0⟩, hde, h1, hideAll_none _ (.tail _ (.head _)), ne, hT, hdT, h3⟩ (fun b o hb => of_hideAll _ hb) (hideAll_none _ (.head _)) fun h₁ LW => ?_
  obtain ⟨st, ff, tr, up⟩ := LW
  have kp : ∀ b o, b ≠ e → b ≠ T → b ∉ frs (env :: outer) → s.heap.get? b = some o → h₁.get? b = some o := fun b o z1 z2 z3 z4 => st b o (hideAll_get _ z4 fun q => by
    rcases List.mem_cons.mp q with q | q
    · exact z1 q
    · rcases List.mem_cons.mp q with q | q
      · exact z2 q
      · exact z3 q)
  obtain ⟨oe1, vs1, T1, oT1, ts1, y1, ⟨y2, y3⟩, y4, y5, y6, y7, y8, y9, y10⟩ := tr
  have F1 : Flies h₁ e T1 (.ref C) := ⟨y7, oe1, vs1, oT1, ts1, _, y1, y2, y3, y4, y5, y8, y9, y10⟩
  have hT1f : T1 ∉ frs (env :: outer) := fun hm => by
    obtain ⟨_, o', ho', hnf⟩ := ff.mem hm
    rw [y8] at ho'; cases ho'
    exact hnf ts1 y9
  have hT1 : T1 = T ∨ s.heap.get? T1 = none := by
    by_cases q : T1 = T
    · exact .inl q
    · refine .inr ?_
      cases z : s.heap.get? T1 with
      | none => rfl
      | some o =>
        rw [hideAll_get _ z (fun q' => by
          rcases List.mem_cons.mp q' with q' | q'
          · exact y7 q'
          · rcases List.mem_cons.mp q' with q' | q'
            · exact q q'
            · exact hT1f q')] at y6
        cases y6
  have hT1φ : T1 ∉ φ ∧ g T1 = none := by
    rcases hT1 with q | q
    · rw [q]; exact ⟨hTφ, hgT⟩
    · exact S.un q
  have S1 : SR G g h₁ φ σ := S.keepsOn fun b o hb hbo => by
    refine kp b o (fun q => ?_) (fun q => ?_) (fun q => ?_) hbo
    · subst q
      rcases hb with hb | ⟨o', hb⟩
      · exact heφ hb
      · rw [hge] at hb; cases hb
    · subst q
      rcases hb with hb | ⟨o', hb⟩
      · exact hTφ hb
      · rw [hgT] at hb; cases hb
    · obtain ⟨w1, w2⟩ := hfg b q
      rcases hb with hb | ⟨o', hb⟩
      · exact w1 hb
      · rw [w2] at hb; cases hb
  have notT1 : ∀ b, (b ∈ φ ∨ ∃ o', g b = some o') → b ≠ T1 := fun b hb q => by
    subst q
    rcases hb with hb | ⟨o', hb⟩
    · exact hT1φ.1 hb
    · rw [hT1φ.2] at hb; cases hb
  refine handleBy_own (x := x) (C := C) (bmB := bmExc) (newId := "Exception.__new__") (mg := G.mg) (by decide) ?_
  refine wpAny_Name (ks_loadName_global (by rw [eo.scope]; exact eo.kind) (by unfold Env.kindOf; rw [eo.scope]; exact hk) (Calls.loadGlobal_global (by rw [eo.globals]; exact O.nsg _ S1.inb) H.bound ?_)) hd
  refine ⟨rfl, H.ownQ S1.inb, ?_, ?_⟩
  · obtain ⟨_, oe2, _, _, _, _, z1, z2, _⟩ := F1
    exact ⟨oe2, z1, z2⟩
  refine flight_off (s := { s with heap := h₁ }) F1 fun h₃ hk₃ F3 => ?_
  have S3 : SR G g h₃ φ σ := S1.keepsOn fun b o hb hbo => hk₃ b o (notT1 b hb) hbo
  refine wpAny_execs_cons (wpAny_Return_some (wpAny_Constant_bool ?_))
  have k3 : ∀ b o, b ≠ T1 → h₁.get? b = some o → h₃.get? b = some o := fun b o z1 z2 => hk₃ b o z1 z2
  refine hQ ⟨h₃, s.gens, s.drawn, s.toks, s.os⟩ ⟨ok.toks, ok.bare⟩ rfl rfl S3 (fun b o z1 z2 z3 z4 => k3 b o (fun q => ?_) (kp b o z1 z2 z3 z4)) (fun b hb o hbo => ?_)
  · rcases hT1 with q' | q'
    · exact z2 (q.trans q')
    · rw [q, q'] at z4; cases z4
  · obtain ⟨v, hv, hvf⟩ := List.mem_filterMap.mp hb
    obtain ⟨_, Lf, oF, w2, w3, w4⟩ := hFF v hv
    rw [hvf] at w2; cases w2
    rw [hbo] at w3; cases w3
    obtain ⟨sl, hsl⟩ := up b o hbo w4
    exact ⟨sl, k3 b _ (fun q => hT1f (q ▸ hb)) hsl⟩
end

end
section
set_option autoImplicit false
set_option maxRecDepth 100000
/-- a call, down to the body -/
theorem call_body {G : Glb} {ℓ : Nat} (O : G.Ok) {a : Addr} {fd : FuncData} {body : List Stmt} {ps : List Str} (D : IsDef G a fd body []) (hp : ∀ x ∈ ps, canStore fd.scope (ownOf fd.scope) x)
    (hb : ∀ ws : List Value, ws.length = ps.length → bindArgs fd ⟨ws, []⟩ = pure (ps.zip ws))
    {A : Around} {s : Shared} {g : FM} {φ : List Addr} {σ : Sto} {vs : List V} {ws : List Value} {K E : Value → Shared → Prop} (cx : Cx (ℓ + 1) A) (ok : SOk s) (S : SR G g s.heap φ σ) (hv : VRs g φ vs ws) (hl : vs.length = ps.length)
    {ρ : Rho} (hρ : bindRho ps vs (fun _ => none) = some ρ)
    (h : ∀ env s₂, EnvOk fd.scope env → env.frame = some env.locals → s.heap.get? env.locals = none → Cx ℓ (A.deeper env) → Rel G g φ σ env (ownOf fd.scope) ρ s₂ → Nx [] s s₂ g g φ φ → (∀ a ∈ fpOf env (ownOf fd.scope), s.heap.get? a = none) →
      wpAny (model G.prog G.w) (A.deeper env) (execs body env) (fun f s' => K (match f with | .ret v => v | _ => .none) s') (fun e s' => wpAny (model G.prog G.w) (A.deeper env) (leaving env e) (fun _ s'' => E e s'') (fun e' s'' => E e' s'') s') s₂) :
    wpAny (model G.prog G.w) A (call (.ref a) ws) K E s := by
  obtain ⟨o, hbase, hdata⟩ := D.obj
  have inb : G.In s.heap := S.inb
  have dep := cx.depth
  have uni := cx.units
  have hbind : BindsTo s fd ⟨ws, []⟩ (ps.zip ws) := BindsTo.of_eq (hb ws (hv.length.trans hl))
  refine wpAny_call (codeAny_call_function (by show A.depth < 1000; exact ar168 dep) (inb _ _ hbase) hdata D.co D.gen D.body (D.code _ inb) (hbind _ _ _ _ ?_))
  rw [D.closure]
  simp only [newFunctionEnv, Option.isSome_none, Bool.false_eq_true, if_false]
  refine wpAny_bind (wpAny_alloc ?_)
  refine wpAny_bind (wpAny_layCells _ (fun name kind cells => by cases kind == NameKind.cell <;> simp) _ _ _ _ ?_)
  rw [show ({ s with heap := s.heap.push { cls := .type "frame", data := .dict #[] } } : Shared).heap.objs.size = s.heap.objs.size + 1 from Heap.size_push ..]
  generalize hEnv : ({ scope := fd.scope, locals := s.heap.objs.size, globals := fd.globals, cells := cellsFrom (s.heap.objs.size + 1) fd.scope.names [], qual := fd.qualname ++ ".<locals>.", func := some a, code := fd.code, frame := some s.heap.objs.size, builtins := fd.builtins } : Env) = env
  have eo : EnvOk fd.scope env := ⟨by rw [← hEnv], D.kind, by rw [← hEnv]; exact D.globals, by rw [← hEnv]; exact D.builtins⟩
  have hloc : env.locals = s.heap.objs.size := by rw [← hEnv]
  have hfrm : env.frame = some env.locals := by rw [← hEnv]
  obtain ⟨R₁, N₁, hfresh⟩ := Rel.frame (cls := .type "frame") (sc := fd.scope) (sc' := fd.scope) (cl := []) (ρ₀ := fun _ => none) (env' := env) ok S (fun x v h => by cases h) eo.scope (by rw [← hEnv]) (by rw [← hEnv])
  refine wpAny_bind (stores eo _ (fun _ _ _ => rfl) ps vs ws _ g φ σ _ ρ _ _ hp R₁ (N₁.vrs hv) hρ fun s₂ N₂ R₂ => ?_)
  refine wpAny_pure ⟨O.nolimit _ R₂.sr.inb, codeAny_func ?_⟩
  have cx' : Cx ℓ (A.deeper env) := ⟨cx.handled, by show A.depth + 1 + 10 * ℓ ≤ 900; exact ar169 dep, by show A.units + 3 + 100 * ℓ ≤ 9000; exact ar170 uni⟩
  exact h env s₂ eo hfrm (by rw [hloc]; exact get?_size s.heap) cx' R₂ (N₁.leave N₂ hfresh) hfresh

end
section
set_option autoImplicit false
set_option maxRecDepth 100000

theorem err144 {G : Glb} {P : Params} (T : TopG G P) : ErrG G (Str.ofString "error_reply") 144 where
  bound := by rw [T.mg]; rfl
  obj := by
    have hN : ∀ (N : Addr) (o : Obj) (es : Array DictEntry) (ep : Nat), (hd2.heap_39 P).lookup N = some o → o.data = .dict es ep → keysB es = true → ∀ h, G.In h → h.Ns N (fun y => nsFind es y) :=
      fun N o es ep h1 h2 h3 h hin => ⟨o, es, ep, hin _ _ (T.K _ _ h1), h2, keys_of h3, fun _ => rfl⟩
    refine ⟨_, _, _, _, _, _, _, _, _, _, _, _, _, _, _, _, _, T.K 144 _ rfl, fun h hin => hN 143 _ _ _ rfl rfl (by kernel_rfl) h hin, fun n hn => ?_, fun h hin => ?_⟩
    · simp only [quietNames, List.mem_cons, List.not_mem_nil, or_false] at hn
      rcases hn with rfl | rfl | rfl | rfl <;> kernel_rfl
    · refine .own (hin _ _ (T.K 131 _ rfl)) (hN 130 _ _ _ rfl rfl (by kernel_rfl) h hin) (fun n hn => ?_) .base
      simp only [quietNames, List.mem_cons, List.not_mem_nil, or_false] at hn
      rcases hn with rfl | rfl | rfl | rfl <;> kernel_rfl

theorem raise153 {G : Glb} {P : Params} (T : TopG G P) {ℓ : Nat} {A : Around} {s : Shared} {g : FM} {φ : List Addr} {σ : Sto} {x : Str} {w : Value} {K E : Value → Shared → Prop} (cx : Cx (ℓ + 1) A) (ok : SOk s) (S : SR G g s.heap φ σ) (hv : VR g φ (.str x) w)
    (h3 : (L x).take 3 ≠ [50, 53, 55]) (hsz : (L x).length ≤ 2 ^ 20) {outer : List Env} (hfr : A.frames = some outer) (hff : FF s.heap outer) (hfg : ∀ L ∈ frs outer, L ∉ φ ∧ g L = none)
    (hE : ∀ s' e T g' φ', SOk s' → s'.drawn = s.drawn → s'.os = s.os → Flies s'.heap e T (.ref 144) → s.heap.get? e = none → s.heap.get? T = none → SR G g' s'.heap φ' σ → (∀ b o, b ∉ φ → b ∉ frs outer → s.heap.get? b = some o → s'.heap.get? b = some o) →
      (∀ b ∈ frs outer, ∀ o, s.heap.get? b = some o → ∃ sl, s'.heap.get? b = some { o with slots := sl }) →
      (∀ b o, g b = some o → g' b = some o) → (∀ b o, g' b = some o → g b = some o ∨ s.heap.get? b = none) → (∃ r, φ' = φ ++ r ∧ ∀ a ∈ r, s.heap.get? a = none) → g' e = none → g' T = none → e ∉ φ' → T ∉ φ' → E (.ref e) s') :
    wpAny (model G.prog G.w) A (call (.ref 153) [w]) K E s := by
  have e257 : L (Str.ofString "257") = [50, 53, 55] := by decide +kernel
  refine call_raises (ℓ := ℓ) T.O (def153 T) (ps := ["resp"]) (C := 144) (vs := [.str x]) (Wt := tCmp .NotEq (wSlice (wName (Str.ofString "resp")) oNone (oSome (wVal (.int 3)))) (wVal (.str (Str.ofString "257")))) (Ws := lCons (wName (Str.ofString "resp")) lNil) ?hp ?hb (ht := ?ht) (ha := ?ha) (hC := err144 T) (hk := ?hk) (hd := ?hd) (h1 := fun _ => rfl) (h2 := fun _ => rfl) cx ok S (VRs.single hv) rfl rfl ?hW hfr hff hfg hE
  case hp => intro y hy; rw [List.mem_singleton.mp hy]; walk_at "cs"
  case hb => intro ws h; obtain ⟨w, rfl⟩ := List.length_eq_one_iff.mp h; rfl
  case hk => decide +kernel
  case hd => decide +kernel
  case ht => walk_at "et"
  case ha => walk_at "el"
  case hW =>
    repeat' walk_at "st"
    rw [L_S, e257]
    refine ⟨decide_eq_true (by simpa [cut] using h3), ?_⟩
    repeat' walk_at "st"
    exact ⟨by simp, rfl⟩

theorem def196 {G : Glb} {P : Params} (T : TopG G P) : IsDef G 196 (fd 196) (bd 196) [] := isDef T 196 _ rfl rfl rfl rfl rfl rfl ⟨_, _, _, _, rfl, rfl, rfl, rfl⟩ rfl rfl rfl
/-- _law_refused -/
theorem refused {G : Glb} {P : Params} (T : TopG G P) {ℓ : Nat} {A : Around} {s : Shared} {g : FM} {φ : List Addr} {σ : Sto} {x : Str} {w : Value} {K E : Value → Shared → Prop} (cx : Cx (ℓ + 2) A) (ok : SOk s) (S : SR G g s.heap φ σ) (hv : VR g φ (.str x) w)
    (hsz : (L x).length ≤ 2 ^ 20) {outer : List Env} (hfr : A.frames = some outer) (hff : FF s.heap outer) (hfg : ∀ L ∈ frs outer, L ∉ φ ∧ g L = none)
    (hK : ∀ s' g' φ', SOk s' → s'.drawn = s.drawn → s'.os = s.os → SR G g' s'.heap φ' σ → (∀ b o, b ∉ φ → b ∉ frs outer → s.heap.get? b = some o → s'.heap.get? b = some o) →
      (∀ b ∈ frs outer, ∀ o, s.heap.get? b = some o → ∃ sl, s'.heap.get? b = some { o with slots := sl }) →
      (∀ b o, g b = some o → g' b = some o) → (∀ b o, g' b = some o → g b = some o ∨ s.heap.get? b = none) → (∃ r, φ' = φ ++ r ∧ ∀ a ∈ r, s.heap.get? a = none) → K (.bool (decide ((L x).take 3 ≠ [50, 53, 55]))) s') :
    wpAny (model G.prog G.w) A (call (.ref 196) [w]) K E s := by
  refine call_body (ℓ := ℓ + 1) T.O (def196 T) (ps := ["reply"]) (vs := [.str x]) ?hp ?hb cx ok S (VRs.single hv) rfl rfl fun env s₂ eo hfrm hloc cx' R₂ N₂ hfp => ?_
  case hp => intro y hy; rw [List.mem_singleton.mp hy]; walk_at "cs"
  case hb => intro ws h; obtain ⟨w, rfl⟩ := List.length_eq_one_iff.mp h; rfl
  refine wpAny_execs_cons (wpAny_Try_except ?_)
  refine wpAny_execs_cons (wpAny_Expr_any ?_ (by unfold interactive; rw [eo.scope]; rfl) rfl)
  refine wpAny_Call_NameR (Ev.glob (ℓ := ℓ + 1) T.O (by decide +kernel) (by rw [T.mg]; rfl) (v := .raw (.ref 153)) (fun _ _ => rfl) (by decide +kernel) (A.deeper env) env _ s₂ g φ σ _ (fun v σ' => v = .raw (.ref 153) ∧ σ' = σ) cx' eo R₂ ⟨rfl, rfl⟩ _ _ fun wf s₃ g₃ φ₃ σ₃ v N₃ R₃ hv3 hQ3 => ?_)
  obtain ⟨rfl, rfl⟩ := hQ3
  have hw : wf = .ref 153 := hv3
  subst hw
  refine CallOk.def (G := G) (T.K 153 _ rfl) rfl rfl rfl ?_
  have hargs (pos : Pos) : Evs G (ℓ + 1) (fd 196).scope [.Name (Str.ofString "reply") pos] (lCons (wName (Str.ofString "reply")) lNil) := by
    walk_at "el"
  refine hargs _ (A.deeper env) env _ s₃ g₃ φ₃ σ₃ _ (fun vs σ' => vs = [.str x] ∧ σ' = σ₃) cx' eo R₃ ⟨_, by walk_at "rho", ⟨rfl, rfl⟩⟩ _ _ _ fun ws s₄ g₄ φ₄ σ₄ vs N₄ R₄ hv4 hQ4 => ?_
  obtain ⟨rfl, rfl⟩ := hQ4
  refine ⟨R₄.sr.inb, ?_⟩
  have N : Nx [] s s₄ g g₄ φ φ₄ := (N₂.trans N₃).trans N₄
  by_cases h3 : (L x).take 3 = [50, 53, 55]
  · refine fn153 T (ℓ := ℓ) (A.deeper env) s₄ g₄ φ₄ σ₄ [.str x] ws (fun _ σ' => σ' = σ₄) cx' R₄.ok R₄.sr hv4 ⟨x, rfl, h3, hsz, ?_⟩ _ _ fun w s₅ g₅ φ₅ σ₅ v N₅ ok₅ S₅ hv5 hQ5 => ?_
    · rfl
    · subst hQ5
      refine wpAny_execs_nil ?_
      refine wpAny_execs_nil ?_
      refine wpAny_execs_cons (wpAny_Return_some (wpAny_Constant_bool ?_))
      have N₆ : Nx [] s s₅ g g₅ φ φ₅ := N.trans N₅
      rw [h3] at hK
      exact hK s₅ g₅ φ₅ ok₅ N₆.drawn N₆.os S₅ (fun b o h1 _ h2 => N₆.oth b o (by simp) h1 h2) (fun b hb o ho => ⟨o.slots, N₆.oth b o (by simp) (hfg b hb).1 ho⟩) N₆.sub N₆.new N₆.pre
  · obtain ⟨w4, rfl⟩ : ∃ w4, ws = [w4] := by obtain ⟨w4, r, rfl, _, h⟩ := hv4; rw [h]; exact ⟨w4, rfl⟩
    have hv4' : VR g₄ φ₄ (.str x) w4 := by obtain ⟨w5, r, e, h, _⟩ := hv4; cases e; exact h
    have hloc4 : frs (env :: outer) = env.locals :: frs outer := by unfold frs; rw [List.filterMap_cons, hfrm]
    have hff4 : FF s₄.heap (env :: outer) := fun v hv => by
      rcases List.mem_cons.mp hv with rfl | hv
      · obtain ⟨m, ⟨oF, esF, epF, hoF, hdF, _⟩, _⟩ := R₄.fr.ns
        refine ⟨by rw [eo.scope, eo.kind]; decide, v.locals, oF, hfrm, hoF, fun vs q => by rw [hdF] at q; cases q⟩
      · obtain ⟨z1, Lf, oF, z2, z3, z4⟩ := hff v hv
        have hm : Lf ∈ frs outer := List.mem_filterMap.mpr ⟨v, hv, z2⟩
        exact ⟨z1, Lf, oF, z2, N.oth _ _ (by simp) (hfg Lf hm).1 z3, z4⟩
    have hfg4 : ∀ L ∈ frs (env :: outer), L ∉ φ₄ ∧ g₄ L = none := fun b hb => by
      rw [hloc4] at hb
      rcases List.mem_cons.mp hb with q | q
      · rw [q]; exact ⟨R₄.fr.Lφ, R₄.fr.Lg⟩
      · obtain ⟨w1, w2⟩ := hfg b q
        obtain ⟨v, hv, hvf⟩ := List.mem_filterMap.mp q
        obtain ⟨_, Lf, oF, z2, z3, _⟩ := hff v hv
        rw [hvf] at z2; cases z2
        refine ⟨fun hm => ?_, ?_⟩
        · obtain ⟨r, hr, hr2⟩ := N.pre
          rw [hr] at hm
          rcases List.mem_append.mp hm with q | q
          · exact w1 q
          · rw [hr2 b q] at z3; cases z3
        · cases z : g₄ b with
          | none => rfl
          | some o =>
            rcases N.new b o z with q | q
            · rw [w2] at q; cases q
            · rw [q] at z3; cases z3
    have hfr4 : (A.deeper env).frames = some (env :: outer) := by show A.frames.map _ = _; rw [hfr]; rfl
    refine raise153 T (ℓ := ℓ) cx' R₄.ok R₄.sr hv4' h3 hsz hfr4 hff4 hfg4 fun s₅ e Te g₅ φ₅ ok₅ hdr hos F heN hTN S₅ oth₅ up₅ sub₅ new₅ pre₅ ge gT eφ Tφ => ?_
    have hff5 : FF s₅.heap (env :: outer) := fun v hv => by
      obtain ⟨z1, Lf, oF, z2, z3, z4⟩ := hff4 v hv
      obtain ⟨sl, hsl⟩ := up₅ Lf (List.mem_filterMap.mpr ⟨v, hv, z2⟩) oF z3
      exact ⟨z1, Lf, _, z2, hsl, z4⟩
    have hfg5 : ∀ L ∈ frs (env :: outer), L ∉ φ₅ ∧ g₅ L = none := fun b hb => by
      obtain ⟨w1, w2⟩ := hfg4 b hb
      obtain ⟨v, hv, hvf⟩ := List.mem_filterMap.mp hb
      obtain ⟨_, Lf, oF, z2, z3, _⟩ := hff4 v hv
      rw [hvf] at z2; cases z2
      refine ⟨fun hm => ?_, ?_⟩
      · obtain ⟨r, hr, hr2⟩ := pre₅
        rw [hr] at hm
        rcases List.mem_append.mp hm with q | q
        · exact w1 q
        · rw [hr2 b q] at z3; cases z3
      · cases z : g₅ b with
        | none => rfl
        | some o =>
          rcases new₅ b o z with q | q
          · rw [w2] at q; cases q
          · rw [q] at z3; cases z3
    refine caught T.O (err144 T) eo (by decide +kernel) (by decide +kernel) hfr4 hfrm hff5 hfg5 ok₅ S₅ F ge gT eφ Tφ fun s₆ ok₆ dr₆ os₆ S₆ oth₆ up₆ => ?_
    have nb : ∀ b, s₄.heap.get? b = none → s.heap.get? b = none := fun b hb => by
      cases z : s.heap.get? b with
      | none => rfl
      | some o => exact absurd hb (N.ex b (by rw [z]; simp))
    have hLs : s.heap.get? env.locals = none := hloc
    have hdec : decide ((L x).take 3 ≠ [50, 53, 55]) = true := decide_eq_true h3
    rw [hdec] at hK
    refine hK s₆ g₅ φ₅ ok₆ (dr₆.trans (hdr.trans N.drawn)) (os₆.trans (hos.trans N.os)) S₆ (fun b o h1 h2 h4 => ?_) (fun b hb o ho => ?_) (fun b o q => sub₅ b o (N.sub b o q)) (fun b o q => ?_) ?_
    · have hbf : b ∉ frs (env :: outer) := fun q => by
        rw [hloc4] at q
        rcases List.mem_cons.mp q with q | q
        · rw [q, hLs] at h4; cases h4
        · exact h2 q
      have h5 : s₄.heap.get? b = some o := N.oth b o (by simp) h1 h4
      refine oth₆ b o (fun q => ?_) (fun q => ?_) hbf (oth₅ b o (fun q => ?_) hbf h5)
      · rw [q, heN] at h5; cases h5
      · rw [q, hTN] at h5; cases h5
      · obtain ⟨r, hr, hr2⟩ := N.pre
        rw [hr] at q
        rcases List.mem_append.mp q with q | q
        · exact h1 q
        · rw [hr2 b q] at h4; cases h4
    · have hm : b ∈ frs (env :: outer) := by rw [hloc4]; exact .tail _ hb
      obtain ⟨sl, h5⟩ := up₅ b hm o (N.oth b o (by simp) (hfg b hb).1 ho)
      obtain ⟨sl', h6⟩ := up₆ b hm _ h5
      exact ⟨sl', h6⟩
    · rcases new₅ b o q with q | q
      · exact N.new b o q
      · exact .inr (nb b q)
    · obtain ⟨r, hr, hr2⟩ := N.pre
      obtain ⟨r', hr', hr2'⟩ := pre₅
      refine ⟨r ++ r', by rw [hr', hr]; simp, fun a ha => ?_⟩
      rcases List.mem_append.mp ha with q | q
      · exact hr2 a q
      · exact nb a (hr2' a q)

end
section
set_option autoImplicit false
noncomputable def KasT.ev {α : Type} (lt : Nat → Nat → Bool) : KasT α → α
  | .ret a => a
  | .ask i j k => KasT.ev lt (k (lt i j))
theorem ev_bind {α β : Type} {lt : Nat → Nat → Bool} {f : α → KasT β} : ∀ t : KasT α, KasT.ev lt (t.bind f) = KasT.ev lt (f (KasT.ev lt t))
  | .ret _ => rfl
  | .ask i j k => ev_bind (k (lt i j))
section
variable {key : Nat → Nat} {lt : Nat → Nat → Bool}
noncomputable def Kx (key : Nat → Nat) (p : Array Nat) (i : Nat) : Nat := key (p.getD i 0)
theorem Kx_congr {p q : Array Nat} {i j : Nat} (h : p[i]? = q[j]?) : Kx key p i = Kx key q j := by unfold Kx; rw [Array.getD_eq_getD_getElem?, Array.getD_eq_getD_getElem?, h]
theorem Kx_bubble {xs : Array Nat} {src d : Nat} (hs : src < xs.size) (hd : d ≤ src) (k : Nat) :
    Kx key (bubble xs src d) k = if k = src - d then Kx key xs src else if src - d < k ∧ k ≤ src then Kx key xs (k - 1) else Kx key xs k := by
  have e := getElem?_bubble hs d hd k
  by_cases h1 : k = src - d
  · rw [if_pos h1] at e ⊢; exact Kx_congr e
  · rw [if_neg h1] at e ⊢
    by_cases h2 : src - d < k ∧ k ≤ src
    · rw [if_pos h2] at e ⊢; exact Kx_congr e
    · rw [if_neg h2] at e ⊢; exact Kx_congr e
theorem Kx_rev {xs : Array Nat} {i j : Nat} (hj : j ≤ xs.size) (k : Nat) : Kx key (kas_rev xs i j) k = if i ≤ k ∧ k < j then Kx key xs (i + j - 1 - k) else Kx key xs k := by
  have e := getElem?_mirror_all (i := i) hj k
  unfold kas_rev
  by_cases h1 : i ≤ k ∧ k < j
  · rw [if_pos h1] at e ⊢; exact Kx_congr e
  · rw [if_neg h1] at e ⊢; exact Kx_congr e
theorem Kx_rev_eq {xs : Array Nat} {i j : Nat} (hj : j ≤ xs.size) (heq : ∀ k, i ≤ k → k < j → Kx key xs k = Kx key xs (j - 1)) (k : Nat) : Kx key (kas_rev xs i j) k = Kx key xs k := by
  rw [Kx_rev hj]
  split
  · rw [heq _ (by exact ar28 (by assumption)) (by exact ar29 (by assumption)), heq k (by exact ar30 (by assumption)) (by exact ar31 (by assumption))]
  · rfl
noncomputable def Asc (key : Nat → Nat) (p : Array Nat) (n : Nat) : Prop := ∀ i j, i ≤ j → j < n → Kx key p i ≤ Kx key p j
noncomputable def Down (key : Nat → Nat) (p : Array Nat) (n : Nat) : Prop := ∀ i j, i ≤ j → j < n → Kx key p j ≤ Kx key p i
theorem Asc.succ {p : Array Nat} {n : Nat} (h : Asc key p n) (h1 : 1 ≤ n) (h2 : Kx key p (n - 1) ≤ Kx key p n) : Asc key p (n + 1) := fun i j hij hj => by
  by_cases q : j = n
  · subst q
    by_cases r : i = j
    · subst r; exact Nat.le_refl _
    · exact Nat.le_trans (h i (j - 1) (by exact ar33 hij r) (by exact ar34 h1)) h2
  · exact h i j hij (by exact ar35 hj q)
theorem Down.succ {p : Array Nat} {n : Nat} (h : Down key p n) (h1 : 1 ≤ n) (h2 : Kx key p n ≤ Kx key p (n - 1)) : Down key p (n + 1) := fun i j hij hj => by
  by_cases q : j = n
  · subst q
    by_cases r : i = j
    · subst r; exact Nat.le_refl _
    · exact Nat.le_trans h2 (h i (j - 1) (by exact ar33 hij r) (by exact ar34 h1))
  · exact h i j hij (by exact ar35 hj q)
theorem Down.rev {p : Array Nat} {n : Nat} (h : Down key p n) (hn : n ≤ p.size) : Asc key (kas_rev p 0 n) n := fun i j hij hj => by
  rw [Kx_rev hn, Kx_rev hn, if_pos ⟨Nat.zero_le _, by exact ar36 hij hj⟩, if_pos ⟨Nat.zero_le _, hj⟩]
  exact h _ _ (by exact ar37 hij) (by exact ar38 hj)
variable (hlt : ∀ i j, lt i j = decide (key i < key j))
include hlt
theorem asc_ok {p : Array Nat} : ∀ (f n : Nat), 1 ≤ n → Asc key p n → n ≤ KasT.ev lt (kas_asc p f n) ∧ KasT.ev lt (kas_asc p f n) ≤ n + f ∧ Asc key p (KasT.ev lt (kas_asc p f n)) ∧
    (KasT.ev lt (kas_asc p f n) < n + f → Kx key p (KasT.ev lt (kas_asc p f n)) < Kx key p (KasT.ev lt (kas_asc p f n) - 1))
  | 0, n, h1, h => ⟨Nat.le_refl _, Nat.le_refl _, h, fun q => absurd q (Nat.lt_irrefl _)⟩
  | f + 1, n, h1, h => by
    have e : KasT.ev lt (kas_asc p (f + 1) n) = KasT.ev lt (if lt (p.getD n 0) (p.getD (n - 1) 0) = true then .ret n else kas_asc p f (n + 1)) := rfl
    rw [e]
    by_cases q : lt (p.getD n 0) (p.getD (n - 1) 0) = true
    · rw [if_pos q]
      rw [hlt, decide_eq_true_eq] at q
      exact ⟨Nat.le_refl _, by show n ≤ _; exact ar39, h, fun _ => q⟩
    · rw [if_neg q]
      rw [hlt, decide_eq_true_eq] at q
      obtain ⟨a, b, c, d⟩ := asc_ok f (n + 1) (by exact ar40) (h.succ h1 (by unfold Kx; exact ar3 q))
      exact ⟨by exact ar10 a, by exact ar41 b, c, fun z => d (by exact ar42 z)⟩
theorem desc_ok : ∀ (f : Nat) (p : Array Nat) (n q : Nat), 1 ≤ n → n + f ≤ p.size → q + 1 ≤ n → Down key p n → (∀ k, n - (q + 1) ≤ k → k < n → Kx key p k = Kx key p (n - 1)) →
    ∃ p' n' q', KasT.ev lt (kas_desc f p n q) = (p', n', q') ∧ n ≤ n' ∧ n' ≤ n + f ∧ q' + 1 ≤ n' ∧ Down key p' n' ∧ (∀ k, n' - (q' + 1) ≤ k → k < n' → Kx key p' k = Kx key p' (n' - 1)) ∧ p'.Perm p
  | 0, p, n, q, h1, hz, hq, h, hb => ⟨p, n, q, rfl, Nat.le_refl _, Nat.le_refl _, hq, h, hb, Array.Perm.refl _⟩
  | f + 1, p, n, q, h1, hz, hq, h, hb => by
    have e : KasT.ev lt (kas_desc (f + 1) p n q) = KasT.ev lt (if lt (p.getD n 0) (p.getD (n - 1) 0) = true then (if q > 0 then kas_desc f (kas_rev p (n - (q + 1)) n) (n + 1) 0 else kas_desc f p (n + 1) 0)
      else .ask (p.getD (n - 1) 0) (p.getD n 0) fun d => if d = true then .ret (p, n, q) else kas_desc f p (n + 1) (q + 1)) := rfl
    rw [e]
    by_cases c : lt (p.getD n 0) (p.getD (n - 1) 0) = true
    · rw [if_pos c]
      rw [hlt, decide_eq_true_eq] at c
      by_cases hq0 : q > 0
      · rw [if_pos hq0]
        have K := Kx_rev_eq (xs := p) (i := n - (q + 1)) (j := n) (by exact ar43 hz) hb
        have hs : (kas_rev p (n - (q + 1)) n).size = p.size := mirror_size _ _ _ _
        have D : Down key (kas_rev p (n - (q + 1)) n) (n + 1) := Down.succ (fun i j hij hj => by rw [K, K]; exact h i j hij hj) h1 (by rw [K, K]; unfold Kx; exact ar44 c)
        obtain ⟨p', n', q', e', a, b, c', d, d', d''⟩ := desc_ok f (kas_rev p (n - (q + 1)) n) (n + 1) 0 (by exact ar40) (by rw [hs]; exact ar45 hz) (by exact ar46) D (fun k k1 k2 => by rw [show k = n + 1 - 1 by exact ar47 k2 k1])
        exact ⟨p', n', q', e', by exact ar10 a, by exact ar41 b, c', d, d', d''.trans (mirror_perm _ _ _ _)⟩
      · rw [if_neg hq0]
        obtain ⟨p', n', q', e', a, b, c', d, d', d''⟩ := desc_ok f p (n + 1) 0 (by exact ar40) (by exact ar45 hz) (by exact ar46) (h.succ h1 (by unfold Kx; exact ar44 c)) (fun k k1 k2 => by rw [show k = n + 1 - 1 by exact ar47 k2 k1])
        exact ⟨p', n', q', e', by exact ar10 a, by exact ar41 b, c', d, d', d''⟩
    · rw [if_neg c]
      have e2 : KasT.ev lt (.ask (p.getD (n - 1) 0) (p.getD n 0) fun d => if d = true then .ret (p, n, q) else kas_desc f p (n + 1) (q + 1)) = KasT.ev lt (if lt (p.getD (n - 1) 0) (p.getD n 0) = true then .ret (p, n, q) else kas_desc f p (n + 1) (q + 1)) := rfl
      rw [e2]
      rw [hlt, decide_eq_true_eq] at c
      by_cases c2 : lt (p.getD (n - 1) 0) (p.getD n 0) = true
      · rw [if_pos c2]
        exact ⟨p, n, q, rfl, Nat.le_refl _, by exact ar39, hq, h, hb, Array.Perm.refl _⟩
      · rw [if_neg c2]
        rw [hlt, decide_eq_true_eq] at c2
        have eq : Kx key p n = Kx key p (n - 1) := by unfold Kx; exact ar48 c c2
        obtain ⟨p', n', q', e', a, b, c', d, d', d''⟩ := desc_ok f p (n + 1) (q + 1) (by exact ar40) (by exact ar45 hz) (by exact ar49 hq) (h.succ h1 (Nat.le_of_eq eq)) (fun k k1 k2 => by
          rw [show n + 1 - 1 = n by exact ar50]
          by_cases z : k = n
          · rw [z]
          · rw [eq]; exact hb k (by exact ar51 k1) (by exact ar35 k2 z))
        exact ⟨p', n', q', e', by exact ar10 a, by exact ar41 b, c', d, d', d''⟩
theorem tail3_ok {p : Array Nat} {n nrem : Nat} (h1 : 1 ≤ n) (hn : n ≤ nrem) (hz : nrem ≤ p.size) (h : Down key p n) :
    ∃ m p', KasT.ev lt (kas_tail3 n nrem p) = (m, p') ∧ 1 ≤ m ∧ m ≤ nrem ∧ Asc key p' m ∧ p'.Perm p := by
  have U := h.rev (by exact ar52 hn hz)
  obtain ⟨a, b, c, _⟩ := asc_ok hlt (p := kas_rev p 0 n) (nrem - n) n h1 U
  refine ⟨_, kas_rev p 0 n, by unfold kas_tail3; rw [ev_bind]; rfl, by exact ar53 h1 a, by exact ar54 b hn, c, mirror_perm _ _ _ _⟩
theorem descPart_ok {p : Array Nat} {n nrem : Nat} (h1 : 1 ≤ n) (hn : n + 1 ≤ nrem) (hz : nrem ≤ p.size) (h : Down key p (n + 1)) :
    ∃ m p', KasT.ev lt (kas_descPart n nrem p) = (m, p') ∧ 1 ≤ m ∧ m ≤ nrem ∧ Asc key p' m ∧ p'.Perm p := by
  obtain ⟨p', n', q', e', a, b, c', d, d', d''⟩ := desc_ok hlt (nrem - (n + 1)) p (n + 1) 0 (by exact ar40) (by exact ar55 hn hz) (by exact ar46) h (fun k k1 k2 => by rw [show k = n + 1 - 1 by exact ar47 k2 k1])
  have hs : p'.size = p.size := d''.size_eq
  unfold kas_descPart
  rw [ev_bind, e']
  dsimp only
  by_cases hq : q' > 0
  · rw [if_pos hq]
    have K := Kx_rev_eq (xs := p') (i := n' - (q' + 1)) (j := n') (by exact ar56 b hs hn hz) d'
    have hs2 : (kas_rev p' (n' - (q' + 1)) n').size = p'.size := mirror_size _ _ _ _
    obtain ⟨m, p'', e'', x, y, z, u⟩ := tail3_ok hlt (p := kas_rev p' (n' - (q' + 1)) n') (n := n') (nrem := nrem) (by exact ar57 c') (by exact ar58 b hn) (by exact ar59 hz hs2 hs) (fun i j hij hj => by rw [K, K]; exact d i j hij hj)
    exact ⟨m, p'', e'', x, y, z, (u.trans (mirror_perm _ _ _ _)).trans d''⟩
  · rw [if_neg hq]
    obtain ⟨m, p'', e'', x, y, z, u⟩ := tail3_ok hlt (p := p') (n := n') (nrem := nrem) (by exact ar57 c') (by exact ar58 b hn) (by exact ar60 hz hs) d
    exact ⟨m, p'', e'', x, y, z, u.trans d''⟩
theorem count_ok {p : Array Nat} {nrem : Nat} (h1 : 1 ≤ nrem) (hz : nrem ≤ p.size) : ∃ m p', KasT.ev lt (kas_count nrem p) = (m, p') ∧ 1 ≤ m ∧ m ≤ nrem ∧ Asc key p' m ∧ p'.Perm p := by
  obtain ⟨a, b, c, d⟩ := asc_ok hlt (p := p) (nrem - 1) 1 (Nat.le_refl _) (fun i j hij hj => by rw [show i = j by exact ar61 hij hj]; exact Nat.le_refl _)
  unfold kas_count
  rw [ev_bind]
  generalize KasT.ev lt (kas_asc p (nrem - 1) 1) = n at a b c d
  by_cases q : (n == nrem) = true
  · rw [if_pos q]
    exact ⟨n, p, rfl, a, by exact ar62 h1 b, c, Array.Perm.refl _⟩
  · rw [if_neg q]
    have q' : n ≠ nrem := fun e => q (by simp [e])
    have hd := d (by exact ar63 h1 q' b)
    by_cases r : n > 1
    · rw [if_pos r]
      have e2 : KasT.ev lt (.ask (p.getD 0 0) (p.getD (n - 1) 0) fun c => if c = true then .ret (n, p) else kas_descPart n nrem (kas_rev p 0 n)) = KasT.ev lt (if lt (p.getD 0 0) (p.getD (n - 1) 0) = true then .ret (n, p) else kas_descPart n nrem (kas_rev p 0 n)) := rfl
      rw [e2]
      by_cases t : lt (p.getD 0 0) (p.getD (n - 1) 0) = true
      · rw [if_pos t]
        exact ⟨n, p, rfl, a, by exact ar62 h1 b, c, Array.Perm.refl _⟩
      · rw [if_neg t]
        rw [hlt, decide_eq_true_eq] at t
        have flat : ∀ k, k < n → Kx key p k = Kx key p (n - 1) := fun k hk => by
          have z1 := c 0 k (Nat.zero_le _) hk
          have z2 := c k (n - 1) (by exact ar64 hk) (by exact ar65 r)
          have z3 : Kx key p (n - 1) ≤ Kx key p 0 := by unfold Kx; exact ar3 t
          exact ar66 z2 z3 z1
        have K := Kx_rev_eq (key := key) (xs := p) (i := 0) (j := n) (by exact ar67 h1 b hz) (fun k _ hk => flat k hk)
        have hs : (kas_rev p 0 n).size = p.size := mirror_size _ _ _ _
        obtain ⟨m, p', e, x, y, z, u⟩ := descPart_ok hlt (p := kas_rev p 0 n) (n := n) (nrem := nrem) (by lia) (by exact ar68 h1 q' b) (by exact ar60 hz hs) (Down.succ (fun i j hij hj => by
          rw [K, K, flat i (by exact ar36 hij hj), flat j hj]; exact Nat.le_refl _) (by lia) (by rw [K, K]; exact Nat.le_of_lt hd))
        exact ⟨m, p', e, x, y, z, u.trans (mirror_perm _ _ _ _)⟩
    · rw [if_neg r]
      have hn1 : n = 1 := by exact ar69 a r
      subst hn1
      exact descPart_ok hlt (Nat.le_refl _) (by exact ar70 q' h1) hz (Down.succ (fun i j hij hj => by rw [show i = j by exact ar61 hij hj]; exact Nat.le_refl _) (Nat.le_refl _) (Nat.le_of_lt hd))
theorem place_ok {p : Array Nat} {k : Nat} : ∀ (f l r : Nat), r - l ≤ f → l ≤ r → r ≤ k → (∀ i, i < l → Kx key p i ≤ Kx key p k) → (∀ i, r ≤ i → i < k → Kx key p k < Kx key p i) → Asc key p k →
    ∃ m, KasT.ev lt (kas_place p k f l r) = m ∧ m ≤ k ∧ (∀ i, i < m → Kx key p i ≤ Kx key p k) ∧ (∀ i, m ≤ i → i < k → Kx key p k < Kx key p i)
  | 0, l, r, hf, hl, hr, ha, hb, hu => ⟨l, rfl, by exact ar52 hl hr, ha, fun i h1 h2 => hb i (by exact ar71 hf h1) h2⟩
  | f + 1, l, r, hf, hl, hr, ha, hb, hu => by
    have e : KasT.ev lt (kas_place p k (f + 1) l r) = KasT.ev lt (if l ≥ r then .ret l else .ask (p.getD k 0) (p.getD ((l + r) / 2) 0) fun c => if c = true then kas_place p k f l ((l + r) / 2) else kas_place p k f ((l + r) / 2 + 1) r) := rfl
    rw [e]
    by_cases q : l ≥ r
    · rw [if_pos q]
      exact ⟨l, rfl, by exact ar52 hl hr, ha, fun i h1 h2 => hb i (by exact ar72 h1 q) h2⟩
    · rw [if_neg q]
      have e2 : KasT.ev lt (.ask (p.getD k 0) (p.getD ((l + r) / 2) 0) fun c => if c = true then kas_place p k f l ((l + r) / 2) else kas_place p k f ((l + r) / 2 + 1) r) =
        KasT.ev lt (if lt (p.getD k 0) (p.getD ((l + r) / 2) 0) = true then kas_place p k f l ((l + r) / 2) else kas_place p k f ((l + r) / 2 + 1) r) := rfl
      rw [e2]
      have hm : l ≤ (l + r) / 2 ∧ (l + r) / 2 < r := by exact ar73 q
      by_cases c : lt (p.getD k 0) (p.getD ((l + r) / 2) 0) = true
      · rw [if_pos c]
        rw [hlt, decide_eq_true_eq] at c
        exact place_ok f l ((l + r) / 2) (by exact ar74 hf) (by exact ar75 hm) (by exact ar76 hm hr) ha (fun i h1 h2 => Nat.lt_of_lt_of_le (by exact c) (hu _ i h1 h2)) hu
      · rw [if_neg c]
        rw [hlt, decide_eq_true_eq] at c
        exact place_ok f ((l + r) / 2 + 1) r (by exact ar77 hf) (by exact ar78 hm) hr (fun i hi => Nat.le_trans (hu i ((l + r) / 2) (by exact ar79 hi) (by exact ar80 hm hr)) (Nat.le_of_not_lt c)) hb hu
theorem bin_ok : ∀ (f : Nat) (p : Array Nat) (k : Nat), k + f ≤ p.size → Asc key p k → ∃ p', KasT.ev lt (kas_bin f p k) = p' ∧ Asc key p' (k + f) ∧ p'.Perm p
  | 0, p, k, hz, hu => ⟨p, rfl, hu, Array.Perm.refl _⟩
  | f + 1, p, k, hz, hu => by
    have e : KasT.ev lt (kas_bin (f + 1) p k) = KasT.ev lt (kas_bin f (bubble p k (k - KasT.ev lt (kas_place p k k 0 k))) (k + 1)) := by
      show KasT.ev lt ((kas_place p k k 0 k).bind _) = _
      rw [ev_bind]
    obtain ⟨m, hm, hmk, ha, hb⟩ := place_ok hlt (p := p) (k := k) k 0 k (by exact ar81) (Nat.zero_le _) (Nat.le_refl _) (fun i hi => absurd hi (Nat.not_lt_zero _)) (fun i h1 h2 => absurd h1 (by exact ar15 h2)) hu
    rw [e, hm]
    have hs : (bubble p k (k - m)).size = p.size := bubble_size _ _ _
    have K : ∀ i, Kx key (bubble p k (k - m)) i = if i = m then Kx key p k else if m < i ∧ i ≤ k then Kx key p (i - 1) else Kx key p i := fun i => by
      rw [Kx_bubble (by exact ar82 hz) (by exact ar83), show k - (k - m) = m by exact ar84 hmk]
    obtain ⟨p', e', u, v⟩ := bin_ok f (bubble p k (k - m)) (k + 1) (by exact ar85 hz hs) (fun i j hij hj => by
      rw [K, K]
      by_cases i1 : i = m
      · rw [if_pos i1]
        by_cases j1 : j = m
        · rw [if_pos j1]; exact Nat.le_refl _
        · rw [if_neg j1, if_pos (by exact ar86 hj i1 hij j1)]; exact Nat.le_of_lt (hb _ (by exact ar87 i1 hij j1) (by exact ar89 hj i1 hij j1))
      · rw [if_neg i1]
        by_cases i2 : m < i ∧ i ≤ k
        · rw [if_pos i2, if_neg (by exact ar90 i2 hij), if_pos (by exact ar91 i2 hj hij)]; exact hu _ _ (by exact ar92 hij) (by exact ar94 hj i2)
        · rw [if_neg i2]
          by_cases j1 : j = m
          · rw [if_pos j1]; exact ha i (by exact ar95 hij j1 i1)
          · rw [if_neg j1]
            by_cases j2 : m < j ∧ j ≤ k
            · rw [if_pos j2]; exact hu _ _ (by exact ar97 hij j2 i2) (by exact ar99 j2)
            · rw [if_neg j2]; exact hu _ _ hij (by exact ar100 hj hmk j2 j1))
    exact ⟨p', e', by rw [show k + (f + 1) = k + 1 + f by exact ar102]; exact u, v.trans (bubble_perm _ _ _)⟩
/-- the sort sorts -/
theorem sort_ok {n : Nat} (h1 : 1 ≤ n) : ∃ p, KasT.ev lt (kas_sort n) = p ∧ Asc key p n ∧ p.Perm (List.toArray (List.range n)) := by
  have hz : (List.toArray (List.range n)).size = n := by simp
  obtain ⟨m, p', e, x, y, z, u⟩ := count_ok hlt (p := List.toArray (List.range n)) (nrem := n) h1 (by exact ar19 hz)
  have hs : p'.size = n := u.size_eq.trans hz
  unfold kas_sort
  rw [ev_bind, e]
  dsimp only
  by_cases q : m < n
  · rw [if_pos q, show max m 1 = m from Nat.max_eq_left (by lia)]
    obtain ⟨p'', e', u', v⟩ := bin_ok hlt (n - m) p' m (by exact ar103 q hs) z
    exact ⟨p'', e', by rw [show m + (n - m) = n by exact ar104 q] at u'; exact u', v.trans u⟩
  · rw [if_neg q]
    exact ⟨p', rfl, by rw [show n = m by exact ar105 y q]; exact z, u⟩
end

end
section
set_option autoImplicit false
set_option maxRecDepth 100000
/-- all that is asked lies below N, and what comes out is P -/
noncomputable def KasT.Bd {α : Type} (N : Nat) (P : α → Prop) : KasT α → Prop
  | .ret a => P a
  | .ask i j k => (i < N ∧ j < N) ∧ ∀ b, KasT.Bd N P (k b)
theorem bd_bind {α β : Type} {N : Nat} {P : α → Prop} {P' : β → Prop} {f : α → KasT β} : ∀ t : KasT α, KasT.Bd N P t → (∀ a, P a → KasT.Bd N P' (f a)) → KasT.Bd N P' (t.bind f)
  | .ret a, h, hf => hf a h
  | .ask i j k, h, hf => ⟨h.1, fun b => bd_bind (k b) (h.2 b) hf⟩
theorem bd_wp {α : Type} {N : Nat} {P : α → Prop} {lt : Nat → Nat → Bool} {cmp : Nat → Nat → (Bool → Shared → Prop) → Shared → Prop} {Q : α → Shared → Prop} {s : Shared} (hc : ∀ i j C, i < N → j < N → C (lt i j) s → cmp i j C s) :
    ∀ (t : KasT α), KasT.Bd N P t → Q (KasT.ev lt t) s → t.kasWp cmp Q s
  | .ret _, _, h => h
  | .ask i j k, b, h => hc i j _ b.1.1 b.1.2 (bd_wp hc (k (lt i j)) (b.2 _) h)
section
variable {N : Nat}
noncomputable def Below (N : Nat) (p : Array Nat) : Prop := 0 < N ∧ ∀ x ∈ p, x < N
theorem Below.at {p : Array Nat} (h : Below N p) (i : Nat) : p.getD i 0 < N := by
  rw [Array.getD_eq_getD_getElem?]
  cases e : p[i]? with
  | none => exact h.1
  | some x => exact h.2 x (Array.mem_of_getElem? e)
theorem Below.perm {p q : Array Nat} (h : Below N p) (u : q.Perm p) : Below N q := ⟨h.1, fun x hx => h.2 x (u.mem_iff.mp hx)⟩
theorem bd_asc {p : Array Nat} (h : Below N p) : ∀ (f n : Nat), KasT.Bd N (fun _ => True) (kas_asc p f n)
  | 0, n => trivial
  | f + 1, n => ⟨⟨h.at _, h.at _⟩, fun b => by
    cases b with
    | true => exact trivial
    | false => exact bd_asc h f (n + 1)⟩
theorem bd_desc : ∀ (f : Nat) (p : Array Nat) (n q : Nat), Below N p → KasT.Bd N (fun r => Below N r.1) (kas_desc f p n q)
  | 0, p, n, q, h => h
  | f + 1, p, n, q, h => ⟨⟨h.at _, h.at _⟩, fun b => by
    cases b with
    | true =>
      show KasT.Bd N _ (if q > 0 then kas_desc f (kas_rev p (n - (q + 1)) n) (n + 1) 0 else kas_desc f p (n + 1) 0)
      split
      · exact bd_desc f _ _ _ (h.perm (mirror_perm _ _ _ _))
      · exact bd_desc f _ _ _ h
    | false => exact ⟨⟨h.at _, h.at _⟩, fun b => by
      cases b with
      | true => exact h
      | false => exact bd_desc f _ _ _ h⟩⟩
theorem bd_tail3 {p : Array Nat} {n nrem : Nat} (h : Below N p) : KasT.Bd N (fun r => Below N r.2) (kas_tail3 n nrem p) :=
  bd_bind _ (bd_asc (h.perm (mirror_perm _ _ _ _)) _ _) fun _ _ => h.perm (mirror_perm _ _ _ _)
theorem bd_descPart {p : Array Nat} {n nrem : Nat} (h : Below N p) : KasT.Bd N (fun r => Below N r.2) (kas_descPart n nrem p) :=
  bd_bind _ (bd_desc _ _ _ _ h) fun r hr => by
    show KasT.Bd N _ (if r.2.2 > 0 then kas_tail3 r.2.1 nrem (kas_rev r.1 (r.2.1 - (r.2.2 + 1)) r.2.1) else kas_tail3 r.2.1 nrem r.1)
    split
    · exact bd_tail3 (hr.perm (mirror_perm _ _ _ _))
    · exact bd_tail3 hr
theorem bd_count {p : Array Nat} {nrem : Nat} (h : Below N p) : KasT.Bd N (fun r => Below N r.2) (kas_count nrem p) :=
  bd_bind _ (bd_asc h _ _) fun n _ => by
    show KasT.Bd N _ (if (n == nrem) = true then .ret (n, p) else if n > 1 then .ask (p.getD 0 0) (p.getD (n - 1) 0) fun c => if c = true then .ret (n, p) else kas_descPart n nrem (kas_rev p 0 n) else kas_descPart n nrem p)
    split
    · exact h
    · split
      · exact ⟨⟨h.at _, h.at _⟩, fun b => by
          cases b with
          | true => exact h
          | false => exact bd_descPart (h.perm (mirror_perm _ _ _ _))⟩
      · exact bd_descPart h
theorem bd_place {p : Array Nat} {k : Nat} (h : Below N p) : ∀ (f l r : Nat), KasT.Bd N (fun _ => True) (kas_place p k f l r)
  | 0, l, r => trivial
  | f + 1, l, r => by
    show KasT.Bd N _ (if l ≥ r then .ret l else .ask (p.getD k 0) (p.getD ((l + r) / 2) 0) fun c => if c = true then kas_place p k f l ((l + r) / 2) else kas_place p k f ((l + r) / 2 + 1) r)
    split
    · exact trivial
    · exact ⟨⟨h.at _, h.at _⟩, fun b => by
        cases b with
        | true => exact bd_place h f _ _
        | false => exact bd_place h f _ _⟩
theorem bd_bin : ∀ (f : Nat) (p : Array Nat) (k : Nat), Below N p → KasT.Bd N (fun _ => True) (kas_bin f p k)
  | 0, p, k, h => trivial
  | f + 1, p, k, h => bd_bind _ (bd_place h _ _ _) fun l _ => bd_bin f _ _ (h.perm (bubble_perm _ _ _))
theorem bd_sort {n : Nat} (h : 0 < n) : KasT.Bd n (fun _ => True) (kas_sort n) :=
  bd_bind _ (bd_count ⟨h, fun x hx => by simpa using hx⟩) fun r hr => by
    show KasT.Bd n _ (if r.1 < n then kas_bin (n - max r.1 1) r.2 (max r.1 1) else .ret r.2)
    split
    · exact bd_bin _ _ _ hr
    · exact trivial
end

end
section
set_option autoImplicit false
set_option maxRecDepth 100000
section
variable {prog : Program} {w : World} {A : Around} {E : Value → Shared → Prop} {s : Shared} {K : Frag} {x C : Addr} {ox : Obj} {od : Option Obj}
/-- a special method that an instance's class has from a built-in base -/
theorem special_bi {M : Model} {name : Str} {id T : String} {args : List Value} {Q : Option Value → Shared → Prop} (X : K.In s.heap) (I : InstAt s.heap x ox C od) (hs : findIn K (.ref C) name = some (some (.builtin id)))
    (hty : typeOf (.builtin id) = pure (.type T)) (hT : (T == "method_descriptor" || T == "wrapper_descriptor") = true) (h : wpAny M A (call (.builtin id) (.ref x :: args)) (fun v => Q (some v)) E s) : wpAny M A (callSpecial? (.ref x) name args) Q E s := by
  refine wpAny_bind (wpAny_bind (I.type.here ((looks_findIn X hs).here (wpAny_holding (wpAny_bind ?_)))))
  unfold bindSpecial
  rw [hty]
  refine wpAny_bind (wpAny_pure ?_)
  have hc : (Value.type T == Value.type "function" || Value.type T == Value.type "method_descriptor" || Value.type T == Value.type "wrapper_descriptor") = true := by
    rcases Bool.or_eq_true_iff.mp hT with q | q
    · rw [eq_of_beq q]; decide
    · rw [eq_of_beq q]; decide
  rw [if_pos hc]
  exact wpAny_pure (wpAny_bind (wpAny_mono h (fun _ _ z => wpAny_pure z) fun _ _ z => z))
theorem getitemIn_bi {M : Model} {id : String} {Q : Bool → Shared → Prop} (X : K.In s.heap) (I : InstAt s.heap x ox C od) (hs : findIn K (.ref C) "__getitem__" = some (some (.builtin id))) (h : Q false s) : wpAny M A (getitemInPython (.ref x)) Q E s := by
  unfold getitemInPython
  refine wpAny_bind (wpAny_bind (I.type.here ((looks_findIn X hs).here ?_)))
  exact wpAny_pure h
theorem subscriptTail_inst {M : Model} {value slice : Expr} {i : Value} {id : String} {ops : List Value} {Q : Value → Shared → Prop} (X : K.In s.heap) (I : InstAt s.heap x ox C od) (hs : findIn K (.ref C) "__getitem__" = some (some (.builtin id)))
    (h : wpAny M A (getItem (.ref x) i) Q E s) (he : subscripted slice false (.ref x) i = operate ops (getItem (.ref x) i)) (ht : ∀ r, letTemporaryGo value (.ref x) r = pure ()) : wpAny M A (subscriptTail value slice (.ref x) i) Q E s := by
  unfold subscriptTail
  refine wpAny_bind (getitemIn_bi X I hs ?_)
  rw [he]
  exact wpAny_bind (wpAny_operating (wpAny_mono h (fun r s₃ h₃ => wpAny_bind (wpAny_of_eq (ht r) (wpAny_pure h₃))) fun _ _ y => y))
theorem seqKey_inst {M : Model} {i : Value} {name : Str} {Q : Value → Shared → Prop} (X : K.In s.heap) (I : InstAt s.heap x ox C od) (hq : noSeq K C = true) (h : Q i s) : wpAny M A (sequenceKey (.ref x) i name) Q E s := by
  unfold sequenceKey
  refine wpAny_bind (I.type.here ?_)
  refine wpAny_bind ((anyM_none X hq).here ?_)
  rw [if_pos (show (!false) = true from rfl)]
  exact wpAny_pure h

/-- the slice's parts are read -/
theorem sliceOf {sl : Addr} {lo : Option Int} {vl : Value} {R : Value × Value × Value → Shared → Prop} (hs : s.heap.IsSliceOf sl vl .none .none) (pl : IsPart vl lo) (h : R (rawPart lo, rawPart none, rawPart none) s) :
    wpAny (model prog w) A (Builtin.List.listSliceParts (.ref sl)) R E s := by
  obtain ⟨os, hos, hcs, hds⟩ := id hs
  rw [listSliceParts_eq]
  refine wpAny_bind (wpAny_field hos hds (x := .none) rfl (wpAny_bind (wpAny_listPart .none ?_)))
  rw [if_neg (show ¬ ((rawPart none == rawInt 0) = true) from Bool.false_ne_true)]
  refine wpAny_bind (wpAny_field hos hds (x := vl) rfl (wpAny_bind (wpAny_listPart pl ?_)))
  exact wpAny_bind (wpAny_field hos hds (x := .none) rfl (wpAny_bind (wpAny_listPart .none (wpAny_pure h))))
theorem notIndex {sl : Addr} {vl : Value} {R : Option Int → Shared → Prop} (hs : s.heap.IsSliceOf sl vl .none .none) (h : R none s) : wpAny (model prog w) A (Builtin.List.listSubscript? (.ref sl)) R E s := by
  obtain ⟨os, hos, hcs, hds⟩ := id hs
  have hTs : s.TypeIs (.ref sl) "slice" := ⟨os, hos, hcs⟩
  unfold Builtin.List.listSubscript?
  refine wpAny_bind (wpAny_specialOf hTs slice_no_index ?_)
  simp only [Option.isNone_none, if_true]
  exact wpAny_pure h
theorem getItem_body {sl d : Addr} {arr : Array Value} {n : Nat} {lo : Option Int} {vl : Value} {Q : Value → Shared → Prop} (hx : s.heap.get? x = some (accObj C d arr n)) (hs : s.heap.IsSliceOf sl vl .none .none) (pl : IsPart vl lo) (hsz : arr.size ≤ sizeLine)
    (h : Q (.ref s.heap.objs.size) { s with heap := s.heap.push { cls := .type "list", data := .seq (slicePick arr lo none none) } }) :
    wpAny (model prog w) A (Builtin.«list.__getitem__» ⟨[.ref x, .ref sl], []⟩) (fun fin s' => ∃ v, fin = .done (.ret v) ∧ Q v s') E s := by
  obtain ⟨os, hos, hcs, hds⟩ := id hs
  have hTs : s.TypeIs (.ref sl) "slice" := ⟨os, hos, hcs⟩
  show wpAny _ _ (Builtin.List.listSubscript? (.ref sl) >>= _) _ _ s
  refine wpAny_bind (notIndex hs ?_)
  show wpAny _ _ (typeOf (.ref sl) >>= _) _ _ s
  refine wpAny_bind (wpAny_typeOf hTs ?_)
  rw [if_neg (by decide)]
  refine wpAny_bind (sliceOf hs pl ?_)
  refine wpAny_bind (m := Builtin.List.listItems (.ref x)) ?_
  unfold Builtin.List.listItems
  refine wpAny_bind (wpAny_seqItems hx rfl (wpAny_pure ?_))
  refine wpAny_bind (wpAny_of_eq (sliceIndices_raw lo none none arr.size (by simp)) ?_)
  exact wpAny_bind (wpAny_newObj_type (wpAny_pure ⟨_, rfl, h⟩) (Nat.le_trans (slicePick_size_le arr lo none none) hsz))
theorem setItem_body {sl d l : Addr} {arr : Array Value} {n m : Nat} {k : Nat} {t : Tok} {Q : Value → Shared → Prop} (hx : s.heap.get? x = some (accObj C d arr n)) (hs : s.heap.IsSliceOf sl (.int k t) .none .none) (hl : s.heap.get? l = some (listObj #[] m)) (hsz : arr.size ≤ sizeLine) (hk : k ≤ arr.size)
    (h : ∀ h' m, h'.get? x = some (accObj C d (arr.extract 0 k) m) → Heap.SameBut x s.heap h' → Q .none { s with heap := h' }) :
    wpAny (model prog w) A (Builtin.«list.__setitem__» ⟨[.ref x, .ref sl, .ref l], []⟩) (fun fin s' => ∃ v, fin = .done (.ret v) ∧ Q v s') E s := by
  obtain ⟨os, hos, hcs, hds⟩ := id hs
  have hTs : s.TypeIs (.ref sl) "slice" := ⟨os, hos, hcs⟩
  have hTl : s.TypeIs (.ref l) "list" := ⟨_, hl, rfl⟩
  have hne : (l == x) = false := by rw [beq_eq_false_iff_ne]; intro q; rw [q, hx] at hl; cases hl
  unfold Builtin.«list.__setitem__»
  refine wpAny_bind (wpAny_of_eq (a := (.ref x, [.ref sl, .ref l])) rfl ?_)
  dsimp only
  refine wpAny_bind (notIndex hs ?_)
  dsimp only
  refine wpAny_bind (wpAny_typeOf hTs ?_)
  rw [if_neg (by decide)]
  refine wpAny_bind (sliceOf hs (.int k t) ?_)
  dsimp only
  have hsame : Builtin.List.listSameRef (.ref x) (.ref l) = false := by
    show (x == l) = false
    rw [beq_eq_false_iff_ne] at hne ⊢; exact fun q => hne q.symm
  rw [hsame]
  simp only [Bool.false_eq_true, if_false]
  refine wpAny_bind (m := Builtin.List.listAllItems (.ref l) _) ?_
  unfold Builtin.List.listAllItems Builtin.List.listItems
  refine wpAny_bind (wpAny_typeOf hTl ?_)
  rw [if_pos (by decide)]
  refine wpAny_bind (wpAny_seqItems hl rfl (wpAny_pure ?_))
  refine wpAny_bind (wpAny_bind (wpAny_seqItems hx rfl (wpAny_pure ?_)))
  refine wpAny_bind (wpAny_of_eq (sliceIndices_raw (some k) none none arr.size (by simp)) ?_)
  have hb : sliceBounds (some (k : Int)) none none arr.size = ((k : Int), (arr.size : Int), (1 : Int)) := by
    unfold sliceBounds
    simp
    rw [if_neg (Int.not_lt.mpr (Int.natCast_nonneg k)), mm_nat, Nat.min_eq_left hk]
  rw [hb]
  dsimp only
  rw [if_pos (by decide)]
  refine wpAny_bind (wpAny_rule ?_)
  have hlong : Builtin.List.listTooLong (arr.size + (#[] : Array Value).size) = false := by
    unfold Builtin.List.listTooLong; rw [Array.size_empty]; exact decide_eq_false (by exact ar371 hsz)
  rw [hlong]
  simp only [Bool.false_eq_true, if_false]
  have hf : (fun xs : Array Value => xs.extract 0 (k : Int).toNat ++ #[] ++ xs.extract (max (k : Int) (arr.size : Int)).toNat xs.size) arr = arr.extract 0 k := by
    dsimp only
    have : (max (k : Int) (arr.size : Int)).toNat = arr.size := by rw [Int.max_eq_right (Int.ofNat_le.mpr hk)]; rfl
    rw [this]; simp
  refine wpAny_bind (wpAny_updateSeq hx rfl ?_ hsz ?_)
  · refine wpAny_bind (wpAny_letGo (wpAny_pure ⟨_, rfl, ?_⟩))
    obtain ⟨m, hu⟩ : ∃ m, (s.heap.update x (Obj.mapSeq fun xs => xs.extract 0 (k : Int).toNat ++ #[] ++ xs.extract (max (k : Int) (arr.size : Int)).toNat xs.size)).get? x = some (accObj C d ((fun xs : Array Value => xs.extract 0 (k : Int).toNat ++ #[] ++ xs.extract (max (k : Int) (arr.size : Int)).toNat xs.size) arr) m) := ⟨_, (Heap.get?_update_self _ hx (by rfl)).trans rfl⟩
    rw [hf] at hu
    exact h _ m hu (Heap.SameBut.update ..)
  · have := congrArg Array.size hf
    dsimp only at this
    rw [this, Array.size_extract]
    exact Nat.le_trans (Nat.sub_le _ _) (Nat.le_succ_of_le (Nat.le_trans (Nat.min_le_right _ _) hsz))
end

end
section
set_option autoImplicit false
set_option maxRecDepth 100000
/-- the class's items are the list's -/
structure AccI (G : Glb) (K : Frag) : Prop where
  seq : noSeq K G.C = true
  gi : findIn K (.ref G.C) "__getitem__" = some (some (.builtin "list.__getitem__"))
  si : findIn K (.ref G.C) "__setitem__" = some (some (.builtin "list.__setitem__"))
theorem type_lset : typeOf (.builtin "list.__setitem__") = pure (.type "wrapper_descriptor") := by show builtinType _ = _; rw [builtinType_eq_fast]; kernel_rfl
theorem check_slot {M : Model} {A : Around} {E : Value → Shared → Prop} {s : Shared} {i owner n : String} {self : Value} {rest : List Value} {kw : List (Str × Value)} {Q : Unit → Shared → Prop}
    (hk : builtinKind i = some .slot) (hs : splitId i = some (owner, n)) (hi : Looks M s.heap (isInstance self (.type owner)) true) (ha : argsOk i ⟨self :: rest, kw⟩) (q : Q () s) :
    wpAny M A (checkBuiltinCall i ⟨self :: rest, kw⟩) Q E s := by
  simp only [checkBuiltinCall, hk, hs]
  refine wpAny_bind (hi.here ?_)
  simp only [Bool.not_true, Bool.false_eq_true, if_false]
  cases hsig : Manifest.signature? i with
  | none => exact wpAny_pure q
  | some sig =>
    simp only [argsOk, hsig] at ha
    have h2 : Bind.checkArgs i sig ⟨self :: rest, kw⟩ = pure () := ha
    show wpAny M A (Bind.checkArgs i sig ⟨self :: rest, kw⟩) Q E s
    rw [h2]; exact wpAny_pure q
section
variable {G : Glb} {K : Frag} {cc : Addr} {cd : ClassData} {ℓ : Nat} {sc : Scope} {own : List Str}
/-- `o[i:]` of an accumulator -/
noncomputable def wSliceA (Wo Wi : WE) : WE := fun Q ρ σ => Wo (fun ov σ₁ => Wi (fun v σ₂ => ∃ (i : Nat) (xs : List V) (k : Nat), ov = .ref i ∧ v = .int k ∧ σ₂[i]? = some (.acc xs) ∧ xs.length ≤ 2 ^ 20 ∧ k ≤ xs.length ∧ newL Q (xs.drop k) σ₂) ρ σ₁) ρ σ
theorem inst_of {g : FM} {φ : List Addr} {σ : Sto} {h : Heap} (S : SR G g h φ σ) {x dx : Addr} {arr : Array Value} {n : Nat} {od : Obj} (hx : h.get? x = some (accObj G.C dx arr n)) (hd : h.get? dx = some od) : InstAt h x (accObj G.C dx arr n) G.C (some od) := ⟨hx, rfl, rfl, hd⟩
set_option maxHeartbeats 4000000 in
theorem Ev.sliceA (T : AccG G K cc cd) (I : AccI G K) {o e : Expr} {p pos : Pos} {Wo Wi : WE} (ho : Ev G ℓ sc o Wo) (hi : Ev G ℓ sc e Wi) (hl : ∀ o' r : Value, letTemporaryGo o o' r = pure ()) (he : ∀ x i : Value, subscripted (.Slice (some e) Option.none Option.none p) false x i = operate [i, x] (getItem x i)) :
    Ev G ℓ sc (.Subscript o (.Slice (some e) Option.none Option.none p) pos) (wSliceA Wo Wi) := by
  intro A env own s g φ σ ρ Q cx eo R hW Kc E k
  refine Subscript_ ?_
  refine ho A env own s g φ σ ρ _ cx eo R hW _ _ fun ow s₁ g₁ φ₁ σ₁ ov N₁ R₁ hov hQ₁ => ?_
  refine wpAny_Slice ?_
  rw [evalPart_some]
  refine hi A env own s₁ g₁ φ₁ σ₁ ρ _ cx eo R₁ hQ₁ _ _ fun iw s₂ g₂ φ₂ σ₂ iv N₂ R₂ hiv hQ₂ => ?_
  rw [evalPart_none]
  refine wpAny_pure (wpAny_pure ?_)
  obtain ⟨i, xs, j, rfl, rfl, hm, hsz, hj, hQ⟩ := hQ₂
  obtain ⟨t, rfl⟩ := hiv
  obtain ⟨x, dx, arr, n, od, rfl, hφ, hx, hdx, hvs, hlk, hM⟩ := acc_obj R₂.sr (N₂.vr hov) hm
  have hlen := hvs.length
  rw [Array.length_toList] at hlen
  have keep : ∀ b o, s₂.heap.get? b = some o → (s₂.heap.push { cls := .type "slice", data := .fields #[.int j t, .none, .none] }).get? b = some o := fun b o e => Heap.get?_push_of_some _ e
  have S' := R₂.sr.push { cls := .type "slice", data := .fields #[.int j t, .none, .none] }
  have X := T.X S'.inb
  have Ii := inst_of S' (keep _ _ hx) (keep _ _ hdx)
  refine subscriptTail_inst X Ii I.gi ?_ (he _ _) (hl _)
  unfold getItem
  refine wpAny_holding (wpAny_bind (seqKey_inst X Ii I.seq (wpAny_bind (special_bi X Ii I.gi F.type_list_getitem (by decide) ?_))))
  have hlk := T.isL (M := model G.prog G.w) S'.inb (keep _ _ hx)
  have hao := args_list_getitem (.ref x) (.ref s₂.heap.objs.size)
  refine wpAny_call ?_
  refine codeAny_call_builtin (id := "list.__getitem__") slot_list_getitem.plain entry_list_getitem ?_
  refine check_meth (i := "list.__getitem__") (owner := "list") (n := "__getitem__") (by decide +kernel) (by decide +kernel) hlk hao ?_
  have hs24 : arr.size ≤ sizeLine := by rw [hlen]; exact Nat.le_trans hsz (by decide)
  refine wpAny_mono (getItem_body (Q := fun v s' => Kc v s') (keep _ _ hx) (Heap.IsSliceOf.new ..) (.int j t) hs24 ?_) (fun fin s' hf => ?_) (fun _ _ q => q)
  · rw [slicePick_from _ _ (by exact ar60 hj hlen)]
    have c : Cont G s₂ g₂ φ₂ Q Kc := fun w s' g' φ' σ' v N' ok' S' hv hQ => k _ _ _ _ _ v ((N₁.trans N₂).trans N') (R₂.step N' ok' S') hv hQ
    refine c.listAt (n := 0) (arr := (arr.toList.drop j).toArray) (ys := xs.drop j) R₂.ok R₂.sr (fun b o e => Heap.get?_push_of_some _ (keep b o e)) ?_ (Heap.get?_push_size _ rfl) ?_ hQ R₂.ok.toks
    · cases z : s₂.heap.get? (s₂.heap.push { cls := .type "slice", data := .fields #[.int j t, .none, .none] }).objs.size with
      | none => rfl
      | some o => exact absurd (Heap.lt_size (keep _ _ z)) (Nat.lt_irrefl _)
    · rw [List.toList_toArray]; exact hvs.drop j
  · obtain ⟨v, rfl, hq⟩ := hf
    exact wpAny_pure hq
/-- `o[i:] = []` of an accumulator -/
noncomputable def wCutA (Wv Wo Wi : WE) : WS := fun Q ρ σ => Wv (fun v σ₁ => Wo (fun ov σ₂ => Wi (fun iv σ₃ => ∃ (i : Nat) (xs : List V) (k : Nat), v = .list [] ∧ ov = .ref i ∧ iv = .int k ∧ σ₃[i]? = some (.acc xs) ∧ xs.length ≤ 2 ^ 20 ∧ k ≤ xs.length ∧ Q .nx ρ (σ₃.set i (.acc (xs.take k)))) ρ σ₂) ρ σ₁) ρ σ
set_option maxHeartbeats 1000000 in
theorem Sx.cutA (T : AccG G K cc cd) (I : AccI G K) {value o e : Expr} {p p' pos : Pos} {Wv Wo Wi : WE} (hv : Ev G ℓ sc value Wv) (ho : Ev G ℓ sc o Wo) (hi : Ev G ℓ sc e Wi)
    (hs : ∀ env, swapsWith value (some (.Subscript o (.Slice (some e) Option.none Option.none p) p')) pos.line env = pure false) :
    Sx G ℓ sc own (.Assign [.Subscript o (.Slice (some e) Option.none Option.none p) p'] value pos) (wCutA Wv Wo Wi) := by
  intro A env s g φ σ ρ Q cx eo R hW Kc E k
  refine wpAny_Assign_Subscript ?_ (hs env)
  refine hv A env own s g φ σ ρ _ cx eo R hW _ _ fun w s₀ g₀ φ₀ σ₀ v N₀ R₀ hv hQ₀ => ?_
  refine ho A env own s₀ g₀ φ₀ σ₀ ρ _ cx eo R₀ hQ₀ _ _ fun ow s₁ g₁ φ₁ σ₁ ov N₁ R₁ hov hQ₁ => ?_
  refine wpAny_Slice ?_
  rw [evalPart_some]
  refine hi A env own s₁ g₁ φ₁ σ₁ ρ _ cx eo R₁ hQ₁ _ _ fun iw s₂ g₂ φ₂ σ₂ iv N₂ R₂ hiv hQ₂ => ?_
  rw [evalPart_none]
  refine wpAny_pure (wpAny_pure ?_)
  obtain ⟨i, xs, j, rfl, rfl, rfl, hm, hsz, hj, hQ⟩ := hQ₂
  obtain ⟨t, rfl⟩ := hiv
  obtain ⟨l, larr, ln, rfl, hgl, hlv⟩ := (N₁.trans N₂).vr hv
  have hl0 : larr = #[] := by have : larr.toList = [] := hlv; simpa using this
  subst hl0
  have hlo := R₂.sr.keep _ _ hgl
  obtain ⟨x, dx, arr, n, od, rfl, hφ, hx, hdx, hvs, hlk, hM⟩ := acc_obj R₂.sr (N₂.vr hov) hm
  have hlen := hvs.length
  rw [Array.length_toList] at hlen
  have keep : ∀ b o, s₂.heap.get? b = some o → (s₂.heap.push { cls := .type "slice", data := .fields #[.int j t, .none, .none] }).get? b = some o := fun b o e => Heap.get?_push_of_some _ e
  have S' := R₂.sr.push { cls := .type "slice", data := .fields #[.int j t, .none, .none] }
  have X := T.X S'.inb
  have Ii := inst_of S' (keep _ _ hx) (keep _ _ hdx)
  unfold PySem.setItem
  refine wpAny_holding (wpAny_bind (seqKey_inst X Ii I.seq (wpAny_bind (special_bi X Ii I.si type_lset (by decide) ?_))))
  have hlk := T.isL (M := model G.prog G.w) S'.inb (keep _ _ hx)
  have hao := args_list_setitem (.ref x) (.ref s₂.heap.objs.size) (.ref l)
  refine wpAny_call ?_
  refine codeAny_call_builtin (id := "list.__setitem__") slot_list_setitem.plain entry_list_setitem ?_
  refine check_slot (i := "list.__setitem__") (owner := "list") (n := "__setitem__") (by decide +kernel) (by decide +kernel) hlk hao ?_
  have hs24 : arr.size ≤ sizeLine := by rw [hlen]; exact Nat.le_trans hsz (by decide)
  refine wpAny_mono (setItem_body (Q := fun _ s' => Kc .next s') (keep _ _ hx) (Heap.IsSliceOf.new ..) (keep _ _ hlo) hs24 (by rw [hlen]; exact hj) fun h' m hx' hs' => ?_) (fun fin s' hf => ?_) (fun _ _ q => q)
  · obtain ⟨d, arr', n', od', ho, hvs', hgd, hr⟩ := hM
    rw [hx] at ho
    cases ho
    have hka : ∀ b o, b ≠ x → (s₂.heap.push { cls := .type "slice", data := .fields #[.int j t, .none, .none] }).get? b = some o → h'.get? b = some o := fun b o q e => hs'.extBut b o q e
    have N3 : Nx [] s₂ { s₂ with heap := s₂.heap.push { cls := .type "slice", data := .fields #[.int j t, .none, .none] } } g₂ g₂ φ₂ φ₂ := Nx.push _ _
    have N4 : Nx [] { s₂ with heap := s₂.heap.push { cls := .type "slice", data := .fields #[.int j t, .none, .none] } } { s₂ with heap := h' } g₂ g₂ φ₂ φ₂ := Nx.upd (tk := s₂.toks) (s := { s₂ with heap := s₂.heap.push { cls := .type "slice", data := .fields #[.int j t, .none, .none] } }) (List.mem_of_getElem? hφ) hka (by rw [hx']; simp)
    have S4 := S'.upd (m := .acc (xs.take j)) hφ hka ⟨dx, _, m, od', hx', by rw [Array.toList_extract]; simpa using hvs.take j, hgd, hr⟩
    have N := (((N₀.trans N₁).trans N₂).trans N3).trans N4
    exact k _ _ _ _ _ _ .nx N.fp (R.step N ⟨R₂.ok.toks, R₂.ok.bare⟩ S4) rfl hQ
  · obtain ⟨v, rfl, hq⟩ := hf
    exact wpAny_pure hq
end

end
section
set_option autoImplicit false
set_option maxRecDepth 100000
/-- items stand at a, whatever its class -/
noncomputable def SeqAt' (h : Heap) (a : Addr) (items : Array Value) : Prop := ∃ o n, h.get? a = some o ∧ o.data = .seq items n
theorem SeqAt'.at' {h h' : Heap} {a : Addr} {items : Array Value} (x : SeqAt' h a items) (k : ∀ o, h.get? a = some o → h'.get? a = some o) : SeqAt' h' a items := let ⟨o, n, ho, hd⟩ := x; ⟨o, n, k o ho, hd⟩
section
variable {prog : Program} {w : World} {A : Around} {E : Value → Shared → Prop} {s : Shared}
theorem next_item {it l : Addr} {i : Nat} {items : Array Value} {x : Value} {Q : Option Value → Shared → Prop} (hit : s.heap.IsListIter it l i)
    (hl : SeqAt' s.heap l items) (hx : items[i]? = some x)
    (hQ : ∀ h', h'.IsListIter it l (i + 1) → Heap.SameBut it s.heap h' → Q (some x) { s with heap := h' }) :
    wpAny (model prog w) A (pyNext (.ref it)) Q E s := by
  obtain ⟨o, ho, hc, hd⟩ := id hit
  obtain ⟨ol, nl, hol, hdl⟩ := hl
  unfold pyNext
  refine wpAny_bind (wpAny_attempt (wpAny_callSpecial?_slot (name := Str.ofString "__next__") hit.typeIs slot_listiter_next
    (wpAny_call_entry slot_listiter_next hit.typeIs entry_listiter_next ?_ (args_listiter_next _))))
  show wpAny _ _ (field (.ref it) 0 >>= _) _ _ s
  refine wpAny_bind (wpAny_field ho hd (x := .ref l) rfl ?_)
  show wpAny _ _ (if (Value.ref l == Value.none) = true then _ else _) _ _ s
  rw [if_neg (show ¬ ((Value.ref l == Value.none) = true) from Bool.false_ne_true)]
  show wpAny _ _ (field (.ref it) 1 >>= _) _ _ s
  refine wpAny_bind (wpAny_field ho hd (x := .int i 0) rfl ?_)
  show wpAny _ _ (seqItems? (.ref l) >>= _) _ _ s
  refine wpAny_bind (wpAny_seqItems hol hdl ?_)
  simp only [Int.toNat_natCast, hx]
  refine wpAny_bind (wpAny_setField ho hd (by simp) (wpAny_pure ⟨x, rfl, wpAny_pure (hQ _ ?_ (Heap.SameBut.update ..))⟩))
  exact ⟨_, Heap.get?_update_self _ ho (Obj.isFreed_of_fields (Obj.data_mapFields hd _)), (Obj.cls_mapFields ..).trans hc, by
    rw [Obj.data_mapFields hd]; simp [rawInt]⟩
theorem next_end {it l : Addr} {i : Nat} {items : Array Value} {Q : Option Value → Shared → Prop} (hh : A.handled = none)
    (hit : s.heap.IsListIter it l i) (hl : SeqAt' s.heap l items) (hx : items[i]? = none)
    (hQ : ∀ h', Heap.ExtBut it s.heap h' → Q none { s with heap := h' }) : wpAny (model prog w) A (pyNext (.ref it)) Q E s := by
  obtain ⟨o, ho, hc, hd⟩ := id hit
  obtain ⟨ol, nl, hol, hdl⟩ := hl
  unfold pyNext
  refine wpAny_bind (wpAny_attempt (wpAny_callSpecial?_slot (name := Str.ofString "__next__") hit.typeIs slot_listiter_next
    (wpAny_call_entry slot_listiter_next hit.typeIs entry_listiter_next ?_ (args_listiter_next _))))
  show wpAny _ _ (field (.ref it) 0 >>= _) _ _ s
  refine wpAny_bind (wpAny_field ho hd (x := .ref l) rfl ?_)
  show wpAny _ _ (if (Value.ref l == Value.none) = true then _ else _) _ _ s
  rw [if_neg (show ¬ ((Value.ref l == Value.none) = true) from Bool.false_ne_true)]
  show wpAny _ _ (field (.ref it) 1 >>= _) _ _ s
  refine wpAny_bind (wpAny_field ho hd (x := .int i 0) rfl ?_)
  show wpAny _ _ (seqItems? (.ref l) >>= _) _ _ s
  refine wpAny_bind (wpAny_seqItems hol hdl ?_)
  simp only [Int.toNat_natCast, hx]
  refine wpAny_bind (wpAny_rule (wpAny_bind (wpAny_setField ho hd (by simp) ?_)))
  show wpAny _ _ (newExc (.type "StopIteration") [] >>= _) _ _ _
  refine wpAny_bind ?_
  simp only [newExc, newTuple]
  refine wpAny_bind (wpAny_newObj_type ?_ (by size_fits))
  refine wpAny_bind (m := firstArgMember _ _) (wpAny_of_eq (a := Value.none) (by first | rfl | (simp only [firstArgMember]; rfl)) ?_)
  refine wpAny_newObj_type ?_ (by size_fits)
  simp only [raiseNew]
  refine wpAny_bind (wpAny_handled ?_)
  rw [show A.in1.handled = none from hh]
  refine wpAny_bind (wpAny_pure (wpAny_throw ?_))
  refine wpAny_bind (wpAny_isInstance (T := "StopIteration") (b := true) ⟨_, Heap.get?_push_size _ rfl, rfl⟩ isSubtype_stop ?_)
  exact wpAny_pure (hQ _ (((Heap.SameBut.update ..).extBut.push _).push _))
end
/-- the walk over a list of tuples, whatever the list's class -/
theorem walksSeq {prog : Program} {w : World} {A : Around} (hh : A.handled = none) (I ax : Addr) (hne : ax ≠ I) (items : Array Value) (Ts : Nat → Addr) (vals : Nat → Array Value)
    (hit : ∀ j, j < items.size → items[j]? = some (.ref (Ts j))) (hTI : ∀ j, j < items.size → Ts j ≠ I) :
    WalksU prog w A I (I :: ax :: (List.range items.size).map Ts) [I] items.size (fun j v => j < items.size ∧ v = vals j)
      (fun j h => h.IsListIter I ax j ∧ SeqAt' h ax items ∧ ∀ k, k < items.size → h.IsTuple (Ts k) (vals k))
      (fun j T h => (j < items.size ∧ T = Ts j) ∧ h.IsListIter I ax (j + 1) ∧ SeqAt' h ax items ∧ ∀ k, k < items.size → h.IsTuple (Ts k) (vals k)) where
  sub := fun b hb => by simp at hb; simp [hb]
  frame := fun _ _ _ st hk => ⟨st.1.at fun o e => hk I (by simp) o e, st.2.1.at' fun o e => hk ax (by simp) o e,
    fun k hk' => (st.2.2 k hk').at fun o e => hk (Ts k) (List.mem_cons_of_mem _ (List.mem_cons_of_mem _ (List.mem_map.mpr ⟨k, List.mem_range.mpr hk', rfl⟩))) o e⟩
  item := fun i s Q E hi st hQ => by
    refine next_item st.1 st.2.1 (x := .ref (Ts i)) (hit i hi) fun h' hit' hs' => ?_
    have tup : ∀ k, k < items.size → h'.IsTuple (Ts k) (vals k) := fun k hk' => (st.2.2 k hk').extBut hs'.extBut (hTI k hk')
    exact hQ (Ts i) (vals i) h' s.toks ⟨hi, rfl⟩ (tup i hi) ⟨⟨hi, rfl⟩, hit', st.2.1.at' (fun o e => hs'.extBut _ o hne e), tup⟩ fun b o hb e => hs'.extBut b o (fun h => hb (by simp [h])) e
  go := fun _ _ _ _ _ s Q _ hm hQ => wpAny_letOwnedTupleGo_listiter hm.2.1 (hQ s.heap hm.2 fun _ _ _ e => e)
  apart := fun j T _ hm hmem => by
    rcases List.mem_cons.mp hmem with e | e
    · exact hTI j hm.1.1 (hm.1.2 ▸ e)
    · cases e
  done := fun s Q E st hQ => next_end hh st.1 st.2.1 (by simp) fun h' hk => hQ h' s.toks fun b o hb e => hk b o (fun h => hb (by simp [h])) e
  self := fun i s Q E st hQ => wpAny_pyIter_listiter st.1 hQ
section
variable {prog : Program} {w : World} {A : Around} {E : Value → Shared → Prop} {s : Shared} {K : Frag} {x C : Addr} {ox : Obj} {od : Option Obj}
/-- iter() of an instance whose class has a list's -/
theorem iter_inst {Q : Value → Shared → Prop} (X : K.In s.heap) (I : InstAt s.heap x ox C od) (hs : findIn K (.ref C) "__iter__" = some (some (.builtin "list.__iter__")))
    (hL : Looks (model prog w) s.heap (isInstance (.ref x) (.type "list")) true)
    (hQ : Q (.ref s.heap.objs.size) { s with heap := s.heap.push { cls := .type "list_iterator", data := .fields #[.ref x, .int 0 0] } }) : wpAny (model prog w) A (pyIter (.ref x)) Q E s := by
  unfold pyIter
  refine wpAny_bind (wpAny_bind (I.type.here ((looks_findIn X hs).here ?_)))
  show wpAny _ _ (callSpecialIfBoundUnlessNone? (.ref x) "__iter__" _ >>= _) _ _ s
  refine wpAny_bind ?_
  simp only [callSpecialIfBoundUnlessNone?, bindSpecialIfBound?]
  refine wpAny_holding (wpAny_bind (wpAny_bind (wpAny_bind (I.type.here ((looks_findIn X hs).here ?_)))))
  refine wpAny_bind (wpAny_askSetting (wpAny_ite ?_))
  have hb : bindSpecial (.builtin "list.__iter__") (.ref x) = pure (.builtin "list.__iter__", [.ref x]) := slot_list_iter.bind _
  have hao := args_list_iter (.ref x)
  have fin : wpAny (model prog w) A (do let v ← call (.builtin "list.__iter__") [.ref x]; pure (some v)) (fun r s' => wpAny (model prog w) A (match r with
      | some it => do
        match ← specialOf it "__next__" with
        | none => do rule "iter.non-iterator"; raiseError "TypeError" s!"iter() returned non-iterator of type '{← typeNameOf it}'"
        | some _ => pure it
      | none => do
        match ← bindSpecialIfBound? (.ref x) "__getitem__" with
        | none => do rule "iter.not-iterable"; raiseError "TypeError" s!"'{← typeNameOf (.ref x)}' object is not iterable"
        | some _ => do rule "iter.getitem-fallback"; newFields "iterator" [.ref x, ← mkInt 0]) Q E s') E s := by
    refine wpAny_bind (wpAny_call ?_)
    refine codeAny_call_builtin (id := "list.__iter__") slot_list_iter.plain entry_list_iter ?_
    refine check_slot (i := "list.__iter__") (owner := "list") (n := "__iter__") (by decide +kernel) (by decide +kernel) hL hao ?_
    show wpAny _ _ (do ret (← newFields "list_iterator" [.ref x, rawInt 0])) _ _ s
    refine wpAny_bind (wpAny_newObj_type (wpAny_pure (wpAny_pure ?_)))
    refine wpAny_bind (wpAny_specialOf (T := "list_iterator") ⟨_, Heap.get?_push_size _ rfl, rfl⟩ slot_listiter_next.lookup (wpAny_pure hQ))
  rw [hb]
  split
  · exact wpAny_bind (wpAny_pure (wpAny_pure (by exact fin)))
  · exact wpAny_tryCatch (wpAny_bind (wpAny_pure (wpAny_pure (by exact fin))))
end

end
section
set_option autoImplicit false
set_option maxRecDepth 100000
section
variable {prog : Program} {w : World} {A : Around} {E : Value → Shared → Prop} {s : Shared} {env : Env} {m mg mb : Str → Option Value}
theorem raw_name {x : Str} {xp : Pos} {v : Value} {Q : Value → Shared → Prop} (hk : env.scope.kind = .function) (hx : env.kindOf x = some .local) (hd : (x == ("__debug__" : Str)) = false) (hn : s.heap.Ns env.locals m) (hm : m x = some v)
    (hQ : Q v s) : wpAny (model prog w) A (eval (.Name x xp) env) Q E s := wpAny_Name (wpAny_loadName_local hk hx hn hm hQ) hd
/-- `len(x)` of a str that a local name holds -/
theorem raw_len {x : Str} {np xp pos : Pos} {t : Str} {tk : Tok} {Q : Value → Shared → Prop}
    (hk : env.scope.kind = .function) (hx : env.kindOf x = some .local) (hd : (x == ("__debug__" : Str)) = false) (hn : s.heap.Ns env.locals m) (hm : m x = some (.str t tk)) (hl : env.kindOf (Str.ofString "len") = some .globalImplicit)
    (hg : s.heap.Ns env.globals mg) (hg' : mg (Str.ofString "len") = none) (hb : s.heap.Ns env.builtins mb) (hb' : mb (Str.ofString "len") = some (.builtin "len")) (hsz : t.length < 2 ^ 62)
    (hQ : Q (.int t.length (s.toks + 1)) { s with toks := s.toks + 1 + 1 }) : wpAny (model prog w) A (eval (.Call (.Name (Str.ofString "len") np) [.Name x xp] [] pos) env) Q E s := by
  refine wpAny_Call_NameR (Calls.Name_function_global hk hl (Calls.loadGlobal_builtin hg hg' hb hb' ?_) (by decide +kernel))
  refine PyProof.Rows.callWith_builtin1 ?_
  show wpAny _ A (do let v ← eval (.Name x xp) env; return [v] ++ (← holding [v] (spliced []))) _ E s
  refine wpAny_bind (raw_name hk hx hd hn hm ?_)
  refine wpAny_bind (wpAny_holding (wpAny_pure (wpAny_pure ?_)))
  exact P.len_str (by exact ar226 hsz) hQ
/-- `len(a) + len(b)` -/
theorem elt_len {x y : Str} {p1 p2 p3 p4 p5 p6 p7 : Pos} {t u : Str} {tk uk : Tok}
    (hk : env.scope.kind = .function) (hx : env.kindOf x = some .local) (hd : (x == ("__debug__" : Str)) = false) (hy : env.kindOf y = some .local) (hd' : (y == ("__debug__" : Str)) = false) (hn : s.heap.Ns env.locals m) (hm : m x = some (.str t tk)) (hm' : m y = some (.str u uk))
    (hl : env.kindOf (Str.ofString "len") = some .globalImplicit)
    (hg : s.heap.Ns env.globals mg) (hg' : mg (Str.ofString "len") = none) (hb : s.heap.Ns env.builtins mb) (hb' : mb (Str.ofString "len") = some (.builtin "len")) (hsz : t.length < 2 ^ 62) (hsz' : u.length < 2 ^ 62) :
    wpAny (model prog w) A (eval (.BinOp (.Call (.Name (Str.ofString "len") p1) [.Name x p2] [] p3) .Add (.Call (.Name (Str.ofString "len") p4) [.Name y p5] [] p6) p7) env)
      (fun v s' => (∃ z, v = .int ((t.length : Int) + (u.length : Int)) z) ∧ Keeps s s') E s := by
  refine wpAny_BinOp (raw_len hk hx hd hn hm hl hg hg' hb hb' hsz (raw_len hk hy hd' hn hm' hl hg hg' hb hb' hsz' ?_))
  exact wpAny_add_int ⟨⟨_, rfl⟩, _, _, rfl, fun b o e => e⟩
/-- `''.join((a, b))` -/
theorem elt_join {x y em : Str} {p1 p2 p3 p4 p5 pos : Pos} {k : Nat} {t u : Str} {tk uk ek : Tok}
    (hk : env.scope.kind = .function) (hx : env.kindOf x = some .local) (hd : (x == ("__debug__" : Str)) = false) (hy : env.kindOf y = some .local) (hd' : (y == ("__debug__" : Str)) = false) (hn : s.heap.Ns env.locals m) (hm : m x = some (.str t tk)) (hm' : m y = some (.str u uk))
    (hl : env.kindOf em = some .globalImplicit) (hde : (em == ("__debug__" : Str)) = false)
    (hg : s.heap.Ns env.globals mg) (hg' : mg em = some (.str (S []) ek)) (hsz : t.length + u.length ≤ 2 ^ 20) (h5 : (p2.endLine == pos.line) = true) :
    wpAny (model prog w) A (eval (.Call (.Attribute (.Name em p1) (Str.ofString "join") p2) [.Tuple [.Name x p3, .Name y p4] k p5] [] pos) env)
      (fun v s' => (∃ z, v = .str (Txt.join (S []) [t, u]) z) ∧ Keeps s s') E s := by
  refine wpAny_Call_method rfl rfl h5 F.plainAttrs_str F.slot_str_join (by first | exact F.type_str_join | exact type_str_join) ?_
  refine Calls.Name_function_global hk hl (Calls.loadGlobal_global hg hg' ?_) hde
  refine ⟨typeIs_str _ _ _, fun a e => (by cases e), callWith_method1 ?_ rfl rfl⟩
  show wpAny _ A (do let v ← eval (.Tuple [.Name x p3, .Name y p4] k p5) env; return [v] ++ (← holding [v] (spliced []))) _ E s
  refine wpAny_bind (wpAny_Tuple ?_)
  show wpAny _ A (do let v ← eval (.Name x p3) env; return [v] ++ (← holding [v] (do let v ← eval (.Name y p4) env; return [v] ++ (← holding [v] (spliced []))))) _ E s
  refine wpAny_bind (raw_name hk hx hd hn hm (wpAny_bind (wpAny_holding (wpAny_bind (raw_name hk hy hd' hn hm' (wpAny_bind (wpAny_holding (wpAny_pure (wpAny_pure (wpAny_pure ?_))))))))))
  refine ⟨(by decide : 2 ≤ sizeLine), ?_⟩
  refine wpAny_bind (wpAny_holding (wpAny_pure (wpAny_pure ?_)))
  refine join_tuple (items := #[.str t tk, .str u uk]) (ys := [t, u]) ⟨_, Heap.get?_push_size _ rfl, rfl, _, rfl⟩ ?_ ?_ fun t' kk => ⟨⟨_, rfl⟩, _, _, rfl, fun b o e => Heap.get?_push_of_some _ e⟩
  · exact .cons _ _ (.cons _ _ .nil)
  · simp
    have : (S []).length = 0 := rfl
    exact ar372 hsz this
end

end
section
set_option autoImplicit false
set_option maxRecDepth 100000
theorem pass_all (n : Nat) : passing (fun _ => true) n 0 = List.range n := by unfold passing; rw [List.drop_zero, List.filter_eq_self.mpr (fun _ _ => rfl)]
theorem genexpr_code {M : Model} {A : Around} {E : Value → Shared → Prop} {s : Shared} {env : Env} {c P : Addr} {ps : Array Value} {pos : Pos} {q : Str} {scope : Scope} {Q : Value → Shared → Prop} (hcode : env.code = .ref c) (X : CodeHd s.heap c P)
    (hP : s.heap.get? P = some (tabObj ps)) (ht : TriplesOk ps.toList)
    (hQ : ∀ code h' tk ps', Heap.ExtBut P s.heap h' → s.heap.objs.size ≤ h'.objs.size → h'.get? P = some (tabObj ps') → TriplesOk ps'.toList → Q code { s with heap := h', toks := tk }) : wpAny M A (genexprCode env pos q scope) Q E s := by
  cases hf : codeAmong pos ps.toList with
  | some c' => exact wpAny_genexprCode_hit hcode (X.code hP ht) hf (hQ c' s.heap s.toks ps (fun _ _ _ e => e) (Nat.le_refl _) hP ht)
  | none =>
    refine wpAny_genexprCodeX hcode (X.code hP ht) (X.tab hP) hf fun c' h' tk hx hge hlt hc' _ ht' _ => hQ _ h' tk _ hx (Nat.le_trans hge (Nat.le_of_lt hlt)) ht'.2 ?_
    obtain ⟨o, vs, file, tf, flags, tg, inF, text, tt, op, _, _, _, _, _, _, _, _, _, r, _⟩ := hc'
    exact r
/-- the generator stands ready -/
structure GenS (prog : Program) (w : World) (A : Around) (a : Addr) (n : Nat) (F : Nat → Value → Prop) (s₀ s : Shared) : Prop where
  ex : ∃ fp wr g P St, WalksS prog w A.in4 a fp wr (GenOnlyQ g) n P St ∧ St 0 s ∧ (∀ i s', St i s' → s'.TypeIs (.ref a) "generator") ∧ a ∈ fp ∧ (∀ b ∈ fp, b < s.heap.objs.size) ∧ (∀ b ∈ wr, s₀.heap.get? b = none) ∧ ∀ j y, P j y → F j y
noncomputable def prV (p : Str × Str) : V := .tup [.str p.1, .str p.2]
/-- the module's builtins -/
structure BMods (G : Glb) (bm : Addr) (ob : Obj) : Prop where
  name : G.mg "__builtins__" = some (.ref bm)
  ne : bm ≠ builtinsNs
  obj : G.base bm = some ob
  cls : ob.cls = .type "module"
  dict : ob.dict = some builtinsNs
  data : ob.data = .plain
set_option maxHeartbeats 2000000 in
theorem gen_acc {G : Glb} {K : Frag} {cc : Addr} {cd : ClassData} {ℓ : Nat} (T : AccG G K cc cd) {A : Around} {E : Value → Shared → Prop} {s : Shared} {env : Env} {g : FM} {φ : List Addr} {σ : Sto} (cx : Cx ℓ A) (ok : SOk s) (S : SR G g s.heap φ σ)
    {c P bm x dx : Addr} {ob : Obj} {arr : Array Value} {n t : Nat} {od : Obj} {pairs : List (Str × Str)} {elt iter : Expr} {xa xb : Str} {pa pb pt : Pos} {kt : Nat} {scope : Scope} {pos : Pos} {Q : Value → Shared → Prop} (F : Nat → Value → Prop)
    (hcode : env.code = .ref c) (hcP : codeHdIn K c P = true) (hk : σ[t]? = some (.tab P)) (hit : findIn K (.ref G.C) "__iter__" = some (some (.builtin "list.__iter__"))) (hgl : env.globals = mainGlobals) (B : BMods G bm ob)
    (hx : s.heap.get? x = some (accObj G.C dx arr n)) (hdx : s.heap.get? dx = some od) (hvs : VRs g φ (pairs.map prV) arr.toList)
    (hco : scope.isCoroutine = false) (hclos : closureFor scope env = pure []) (hcell : ∀ y ∈ scope.names, y.2 ≠ .cell) (h0 : scope.names.lookup (".0" : Str) = some NameKind.local)
    (hxa : scope.names.lookup xa = some .local) (hxb : scope.names.lookup xb = some .local) (hab : xa ≠ xb) (hkind : scope.kind = .function)
    (hiter : ∀ Q', Q' (.ref x) s → wpAny (model G.prog G.w) A (eval iter env) Q' E s) (hs : ∀ x, genFold iter env x = pure x)
    (helt : ∀ (cenv : Env) (A' : Around) E' (i : Nat) (a b : Str) ta tb (s₂ : Shared) m₂, A'.handled = none → pairs[i]? = some (a, b) → G.In s₂.heap → cenv.scope = scope → cenv.globals = mainGlobals → cenv.builtins = builtinsNs →
      s₂.heap.Ns cenv.locals m₂ → m₂ xa = some (.str a ta) → m₂ xb = some (.str b tb) → wpAny (model G.prog G.w) A' (eval elt cenv) (fun y s₃ => F i y ∧ Keeps s₂ s₃) E' s₂)
    (hQ : ∀ a s₅, s₅.drawn = s.drawn → s₅.os = s.os → AllBare s₅.gens → (∀ b o, b ≠ P → s.heap.get? b = some o → s₅.heap.get? b = some o) → (∃ ps, s₅.heap.get? P = some (tabObj ps) ∧ TriplesOk ps.toList) →
      GenS G.prog G.w A a pairs.length F s s₅ → Q (.ref a) s₅) :
    wpAny (model G.prog G.w) A (eval (.GeneratorExp elt [⟨.Tuple [.Name xa pa, .Name xb pb] kt pt, iter, [], 0⟩] scope pos) env) Q E s := by
  have hφ : ∃ P', φ[t]? = some P' := by
    have : t < φ.length := by rw [S.len]; exact (List.getElem?_eq_some_iff.mp hk).1
    exact ⟨_, List.getElem?_eq_getElem this⟩
  obtain ⟨P', hP'⟩ := hφ
  obtain ⟨rfl, ps, hPo, hps⟩ := S.mo _ _ _ hP' hk
  have hgP : g P' = none := S.fresh _ (List.mem_of_getElem? hP')
  have hlen := hvs.length
  rw [Array.length_toList, List.length_map] at hlen
  have hall : ∀ j, ∃ q : Addr × Array Value, j < arr.size → arr[j]? = some (.ref q.1) ∧ (∃ n, g q.1 = some (tupObj q.2 n)) ∧ ∃ a b ta tb, q.2 = #[.str a ta, .str b tb] ∧ pairs[j]? = some (a, b) := by
    intro j
    by_cases hj : j < arr.size
    · have hj' : j < pairs.length := by exact ar251 hj hlen
      obtain ⟨wv, e1, e2⟩ := hvs.get (i := j) (v := prV pairs[j]) (by rw [List.getElem?_map, List.getElem?_eq_getElem hj']; rfl)
      obtain ⟨T', tarr, tn, rfl, hg, hvv⟩ := e2
      obtain ⟨v1, v2, hl, ⟨ta, rfl⟩, ⟨tb, rfl⟩⟩ := VRs.two hvv
      refine ⟨(T', tarr), fun _ => ⟨by rw [← Array.getElem?_toList]; exact e1, ⟨tn, hg⟩, _, _, ta, tb, ?_, List.getElem?_eq_getElem hj'⟩⟩
      show tarr = _
      rw [← Array.toArray_toList (xs := tarr), hl]
      rfl
    · exact ⟨(0, #[]), fun h => absurd h hj⟩
  obtain ⟨f, hf⟩ := Classical.skolem.mp hall
  have inb := S.inb
  have X := T.X inb
  have dep := cx.depth
  refine wpAny_GeneratorExp_walksQT cx.handled hco hclos hcell h0 hxa hxb hab hkind (by show A.depth < 1000; exact ar373 dep) (hiter _ ?_) hs
  have lkL := T.isL (M := model G.prog G.w) inb hx
  refine iter_inst (od := some od) X ⟨hx, rfl, rfl, hdx⟩ hit lkL ?_
  let I := s.heap.objs.size
  have nin : G.In (s.heap.push { cls := .type "list_iterator", data := .fields #[.ref x, .int 0 0] }) := fun b o e => Heap.get?_push_of_some _ (inb b o e)
  refine ⟨T.O.nolimit _ nin, ?_⟩
  refine genexpr_code hcode (codeHd_of_K (T.X nin) hcP) (Heap.get?_push_of_some _ hPo) hps fun code h₃ tk₃ ps' hx₃ hsz₃ hP₃ hps' => ?_
  replace hsz₃ : s.heap.objs.size + 1 ≤ h₃.objs.size := by rw [← Heap.size_push]; exact hsz₃
  have le₃ : s.heap.objs.size ≤ h₃.objs.size := Nat.le_trans (Nat.le_succ _) hsz₃
  have hxP : x ≠ P' := by rintro rfl; rw [hx] at hPo; cases hPo
  have hIP : s.heap.objs.size ≠ P' := fun e => Nat.lt_irrefl _ (e ▸ Heap.lt_size hPo)
  have keep₃ : ∀ b o, b ≠ P' → s.heap.get? b = some o → h₃.get? b = some o := fun b o hb e => hx₃ b o hb (Heap.get?_push_of_some _ e)
  have in₃ : G.In h₃ := fun b o e => keep₃ b o (fun q => by have := S.base b o e; rw [q, hgP] at this; cases this) (inb b o e)
  refine wpAny_builtinsFor (by rw [hgl]; exact T.O.nsg _ in₃) B.name B.ne (in₃ _ _ B.obj) B.cls B.dict B.data ?_
  have hTs : ∀ j, j < arr.size → (f j).1 < s.heap.objs.size ∧ (f j).1 ≠ P' ∧ ∃ n, s.heap.get? (f j).1 = some (tupObj (f j).2 n) := fun j hj => by
    obtain ⟨_, ⟨n, hg⟩, _⟩ := hf j hj
    exact ⟨Heap.lt_size (S.keep _ _ hg), (fun q => by rw [q, hgP] at hg; cases hg), n, S.keep _ _ hg⟩
  refine ⟨s.heap.objs.size, _, [s.heap.objs.size], arr.size, _, _, _, fun _ => true, F, rfl,
    fun A' hA' => walksSeq hA' s.heap.objs.size x (Nat.ne_of_lt (Heap.lt_size hx)) arr (fun j => (f j).1) (fun j => (f j).2) (fun j hj => (hf j hj).1) (fun j hj => Nat.ne_of_lt (hTs j hj).1),
    fun i vals hv => ?_, ⟨⟨_, hx₃ _ _ hIP (Heap.get?_push_size _ rfl), rfl, rfl⟩, ⟨_, _, keep₃ _ _ hxP hx, rfl⟩, fun j hj => ?_⟩, fun b hb => ?_, T.O.nolimit _ in₃, fun hb => ?_, fun href hhref => ⟨fun A' E' i va vb s₂ m₂ hA' hPt hn₂ hma hmb hkk => ?_, fun A' E' i va vb s₂ m₂ hA' hPt _ hn₂ hma hmb hkk => ?_⟩,
    fun a h₅ tk gs hgb hag hsz₅ hk₅ W hat => ?_⟩
  · obtain ⟨hi, rfl⟩ := hv
    obtain ⟨_, _, a, b, ta, tb, e, _⟩ := hf i hi
    exact ⟨_, _, e⟩
  · obtain ⟨_, hne, n, ho⟩ := hTs j hj
    exact ⟨_, keep₃ _ _ hne ho, rfl, n, rfl⟩
  · show b < h₃.objs.size
    rcases List.mem_cons.mp hb with rfl | hb
    · exact hsz₃
    · rcases List.mem_cons.mp hb with rfl | hb
      · exact Nat.lt_of_lt_of_le (Heap.lt_size hx) le₃
      · obtain ⟨j, hj, rfl⟩ := List.mem_map.mp hb
        exact Nat.lt_of_lt_of_le (hTs j (List.mem_range.mp hj)).1 le₃
  · obtain ⟨_, hns, _⟩ := T.O.nolimit _ inb
    have h1 := hns.lt
    exact Nat.lt_irrefl _ (List.mem_singleton.mp hb ▸ h1)
  · exact wpAny_pure ⟨rfl, _, _, rfl, fun b o e => e⟩
  · obtain ⟨hi, e⟩ := hPt
    obtain ⟨_, _, a, b, ta, tb, e', hpr⟩ := hf i hi
    rw [e'] at e
    have e1 : va = .str a ta ∧ vb = .str b tb := by simpa using e
    obtain ⟨rfl, rfl⟩ := e1
    refine helt _ A' E' i a b ta tb s₂ m₂ hA' hpr (fun b o e => ?_) rfl hgl rfl hn₂ hma hmb
    have hb := Heap.lt_size (inb b o e)
    exact hkk b (List.mem_range.mpr (Nat.lt_of_lt_of_le hb le₃)) (fun q => Nat.lt_irrefl _ (List.mem_singleton.mp q ▸ hb)) o (hhref b o (in₃ b o e))
  · have hn : (passing (fun _ => true) arr.size 0).length = pairs.length := by rw [pass_all, List.length_range, hlen]
    rw [hn] at W
    refine hQ a _ rfl rfl (ok.bare.push hgb) (fun b o hb e => hk₅ b o (keep₃ b o hb e)) ⟨ps', hk₅ _ _ hP₃, hps'⟩ ⟨_, _, _, _, _, W, hat, (fun i s' st => st.1.typeIs), List.mem_cons_self, ?_, ?_, ?_⟩
    · intro b hb
      show b < h₅.objs.size
      rw [hsz₅]
      have hag : h₃.objs.size < a := hag
      rcases List.mem_cons.mp hb with rfl | hb
      · exact Nat.lt_succ_self _
      · rcases List.mem_cons.mp hb with rfl | hb
        · exact Nat.lt_succ_of_lt hag
        · exact Nat.lt_succ_of_lt (Nat.lt_trans (List.mem_range.mp hb) hag)
    · intro b hb
      cases q : s.heap.get? b with
      | none => rfl
      | some o =>
        have hb' := Heap.lt_size q
        rcases List.mem_cons.mp hb with rfl | hb
        · exact absurd (Nat.lt_of_lt_of_le hb' le₃) (Nat.lt_irrefl _)
        · exact absurd hb' (List.mem_singleton.mp hb ▸ Nat.lt_irrefl _)
    · intro j y hy
      obtain ⟨i, hi, hF⟩ := hy
      rw [pass_all] at hi
      have hj : j < arr.size := by
        have := (List.getElem?_eq_some_iff.mp hi).1
        simpa using this
      rw [List.getElem?_range hj] at hi
      cases hi
      exact hF

end
section
set_option autoImplicit false
set_option maxRecDepth 100000
section
variable {prog : Program} {w : World} {A : Around} {E : Value → Shared → Prop} {s : Shared} {K : Frag} {x C : Addr} {ox : Obj} {od : Option Obj} {name : Str}
/-- an instance's own attribute, where the class has a list's `__getattribute__` -/
theorem attr_own {v : Value} {Q : Value → Shared → Prop} (X : K.In s.heap) (I : InstAt s.heap x ox C od) (hga : findIn K (.ref C) "__getattribute__" = some (some (.builtin "list.__getattribute__"))) (hk : findIn K (.ref C) "__getattr__" = some none)
    (hL : Looks (model prog w) s.heap (isInstance (.ref x) (.type "list")) true) (hf : findObj K C od name = some (.value v)) (hh : handedIn v = true) (h : Q v { s with toks := s.toks + 1 }) : wpAny (model prog w) A (getAttr (.ref x) name true) Q E s := by
  obtain ⟨hp, g, d, t, os⟩ := s
  have L0 := I.type (M := model prog w)
  have L1 := looks_findIn (M := model prog w) X hga
  have L2 := looks_findIn (M := model prog w) X hk
  have L3 := looks_find (M := model prog w) X I hf
  unfold getAttr getAttrBy
  refine wpAny_bind (wpAny_mkText (wpAny_holding (wpAny_bind (L0.at (wpAny_bind (L1.at ?_))))))
  show wpAny _ _ (getAttrByItsOwn (.ref x) (.str name t) (.ref C) (.builtin "list.__getattribute__") true true) _ _ _
  unfold getAttrByItsOwn hookBefore callGetattribute boundAndCalled
  refine wpAny_bind (L2.at ?_)
  refine wpAny_bind (wpAny_attempt (wpAny_holding ?_))
  show wpAny _ _ (bindSpecial (.builtin "list.__getattribute__") (.ref x) >>= _) _ _ _
  refine wpAny_bind (wpAny_of_eq (F.slot_list_getattribute.bind _) ?_)
  refine wpAny_call (codeAny_call_builtin F.slot_list_getattribute.plain am_entry_list_getattribute (check_slot (i := "list.__getattribute__") (owner := "list") (n := "__getattribute__") (by decide +kernel) (by decide +kernel) hL (F.args_list_getattribute_2 _ _) ?_))
  unfold Builtin.«object.__getattribute__»
  refine wpAny_bind (wpAny_of_eq (a := (.ref x, [.str name t])) (by rfl) ?_)
  refine wpAny_bind (wpAny_of_eq (a := name) (by rfl) ?_)
  refine wpAny_bind (L0.at (wpAny_bind (L3.at ?_)))
  refine wpAny_pure ?_
  show wpAny _ _ (handedOut v) _ _ _
  rw [handedOut_of hh]
  exact wpAny_pure h
end

end
section
set_option autoImplicit false
set_option maxRecDepth 100000
theorem argsum2 (a b : Value) : argsOk "sum" ⟨[a, b], []⟩ := by unfold argsOk; kernel_rfl
section
variable {prog : Program} {w : World} {A : Around} {E : Value → Shared → Prop} {s : Shared}
/-- sum() of a generator, from 0 -/
theorem sum_gen {a : Addr} {n : Nat} {Fy : Nat → Value → Prop} {s₀ : Shared} {t0 : Tok} {Q : Value → Shared → Prop} (X : GenS prog w A a n Fy s₀ s) (val : Nat → Int) (hval : ∀ j v, Fy j v → ∃ t, v = .int (val j) t)
    (hQ : ∀ s' t', s'.drawn = s.drawn → s'.os = s.os → (AllBare s.gens → AllBare s'.gens) → (∀ b o, s₀.heap.get? b ≠ none → s.heap.get? b = some o → s'.heap.get? b = some o) → Q (.int (preSum val n) t') s') :
    wpAny (model prog w) A (call (.builtin "sum") [.ref a, .int 0 t0]) Q E s := by
  obtain ⟨fp, wr, g, P, St, W, hst, _, _, hfp, hwr, hPF⟩ := X
  have W := W.in4_1
  refine call_function_tree F.kind_sum F.plain_sum F.entry_sum (argsum2 _ _) ?_
  unfold Builtin.«sum»
  simp only [List.length_cons, List.length_nil]
  rw [if_neg (by decide)]
  refine wpAny_bind (wpAny_of_eq (show Builtin.Builtins.bindParams "sum" ["start"] 0 ⟨[.int 0 t0], []⟩ = pure [some (.int 0 t0)] from rfl) ?_)
  refine wpAny_bind (W.self 0 _ _ _ hst ?_)
  dsimp only
  rw [if_pos (by rfl)]
  refine wpAny_bind (wpAny_rule (wpAny_bind (wpAny_mkInt (wpAny_bind (wpAny_pure ?_)))))
  simp only [List.forIn_cons, List.forIn_nil]
  refine wpAny_bind (wpAny_bind (wpAny_bind (wpAny_isInstance (T := "int") (b := false) (typeIs_int _ _ _) PySem.sub_int_str ?_)))
  simp only [Bool.false_eq_true, if_false]
  refine wpAny_pure (wpAny_bind (wpAny_bind (wpAny_isInstance (T := "int") (b := false) (typeIs_int _ _ _) PySem.sub_int_bytes ?_)))
  simp only [Bool.false_eq_true, if_false]
  refine wpAny_pure (wpAny_bind (wpAny_bind (wpAny_isInstance (T := "int") (b := false) (typeIs_int _ _ _) PySem.sub_int_bytearray ?_)))
  simp only [Bool.false_eq_true, if_false]
  refine wpAny_pure (wpAny_pure ?_)
  refine wpAny_bind (wpAny_newObj_type ?_)
  have hSf : s.heap.objs.size ∉ fp := fun hm => Nat.lt_irrefl _ (hfp _ hm)
  refine wpAny_pure ⟨plainId_quiet F.plain_sum_loop _, codeAny_sum_loopAnyS W val (fun i v h => hval i v (hPF i v h)) s.heap.objs.size hSf n 0 _ s.toks 0 0 (.inl rfl) rfl (Nat.zero_le _)
    (W.frame 0 s _ _ hst (by first | exact Nat.le_refl _ | exact Nat.le_succ _ | lia) fun b _ o e => Heap.get?_push_of_some _ e) (Heap.get?_push_size _ rfl) fun s' t' hm => ?_⟩
  have hm' : Moved wr (GenOnlyQ g) s s' := hm.drop_new (by first | exact Nat.le_refl _ | exact Nat.le_succ _ | lia)
  exact hQ s' t' hm'.drawn hm'.os (fun G => G.movedS hm') fun b o hb e => hm'.heap b o (fun q => hb (hwr b q)) e
/-- ''.join of a generator -/
theorem join_genS {a : Addr} {n : Nat} {Fy : Nat → Value → Prop} {s₀ : Shared} {t0 : Tok} {Q : Value → Shared → Prop} (X : GenS prog w A a n Fy s₀ s) (tx : Nat → Str) (htx : ∀ j v, Fy j v → ∃ u, v = .str (tx j) u)
    (hok : JoinOk (S []) ((List.range n).map tx) = true) (hsz : n ≤ sizeLine)
    (hQ : ∀ s' t', s'.drawn = s.drawn → s'.os = s.os → (AllBare s.gens → AllBare s'.gens) → (∀ b o, s₀.heap.get? b ≠ none → s.heap.get? b = some o → s'.heap.get? b = some o) → Q (.str (Txt.join (S []) ((List.range n).map tx)) t') s') :
    wpAny (model prog w) A (call (.builtin "str.join") [.str (S []) t0, .ref a]) Q E s := by
  obtain ⟨fp, wr, g, P, St, W, hst, hT, ha, hfp, hwr, hPF⟩ := X
  have W := W.in4_2
  refine SC.joinGen W hT hst hfp ha (fun j v hv => let ⟨u, e⟩ := htx j v (hPF j v hv); ⟨_, u, e⟩) (fun s' lt hm hacc => ?_) hsz
  have hl : lt.map (·.1) = (List.range n).map tx := by
    apply List.ext_getElem?
    intro j
    have hsz : lt.length = n := by simpa [strValues] using hacc.1
    by_cases hj : j < n
    · have hj' : j < lt.length := hsz ▸ hj
      obtain ⟨u, hv⟩ := htx j _ (hPF j _ (hacc.2 j (.str lt[j].1 lt[j].2) (by simp [strValues, List.getElem?_eq_getElem hj'])))
      injection hv with h1 _
      simp [List.getElem?_eq_getElem hj', hj, h1]
    · rw [List.getElem?_eq_none (by simpa [hsz] using Nat.le_of_not_lt hj), List.getElem?_eq_none (by simpa using Nat.le_of_not_lt hj)]
  rw [hl]
  exact ⟨hok, fun t' k => hQ { s' with toks := k } t' hm.drawn hm.os (fun G => (AllBare.movedS G hm : AllBare s'.gens)) fun b o hb e => hm.heap b o (fun q => hb (hwr b q)) e⟩
end
section
variable {G : Glb} {g : FM} {φ : List Addr} {σ : Sto} {s s' : Shared} {P : Addr} {t : Nat}
/-- a table grows, the rest stays -/
theorem SR.tab (S : SR G g s.heap φ σ) (hk : σ[t]? = some (.tab P)) (hP : φ[t]? = some P) (hd : s'.drawn = s.drawn) (ho : s'.os = s.os) (keep : ∀ b o, b ≠ P → s.heap.get? b = some o → s'.heap.get? b = some o)
    (tab : ∃ ps, s'.heap.get? P = some (tabObj ps) ∧ TriplesOk ps.toList) : Nx [] s s' g g φ φ ∧ SR G g s'.heap φ σ := by
  have hg : g P = none := S.fresh _ (List.mem_of_getElem? hP)
  obtain ⟨_, ps₀, hPo, _⟩ := S.mo _ _ _ hP hk
  obtain ⟨ps, e1, e2⟩ := tab
  refine ⟨⟨hd, ho, fun _ _ e => e, fun _ _ e => .inl e, ⟨[], by simp, by simp⟩, fun b o h1 h2 e => keep b o (fun q => h2 (q ▸ List.mem_of_getElem? hP)) e, fun b e => ?_⟩,
    ⟨S.base, fun b o e => keep b o (fun q => by rw [q, hg] at e; cases e) (S.keep b o e), S.len, fun k a m h1 h2 => ?_, S.fresh, S.nodup⟩⟩
  · by_cases q : b = P
    · rw [q, e1]; simp
    · cases q' : s.heap.get? b with
      | none => exact absurd q' e
      | some o => rw [keep b o q q']; simp
  · have x := S.mo k a m h1 h2
    by_cases q : a = P
    · subst q
      cases m with
      | list xs => obtain ⟨arr, n, e, _⟩ := x; rw [hPo] at e; cases e
      | acc xs => obtain ⟨d, arr, n, od, e, _⟩ := x; rw [hPo] at e; cases e
      | tab P' => exact ⟨x.1, ps, e1, e2⟩
    · exact x.keeps (fun _ _ e => e) (fun _ _ e => e) fun o e => keep a o q e
end

end
section
set_option autoImplicit false
set_option maxRecDepth 100000
theorem FnOk.defC {G : Glb} (O : G.Ok) {ℓ : Nat} {a : Addr} {fd : FuncData} {body : List Stmt} {ps : List Str} {W : WS} (D : IsDef G a fd body [])
    (hp : ∀ x ∈ ps, canStore fd.scope (ownOf fd.scope) x) (hb : ∀ s g φ σ vs ws, SR G g s.heap φ σ → VRs g φ vs ws → vs.length = ps.length → BindsTo s fd ⟨ws, []⟩ (ps.zip ws))
    (hW : ∀ (A : Around) (env : Env) (s : Shared) (g : FM) (φ : List Addr) (σ : Sto) (ρ : Rho) (Q : Fl → Rho → Sto → Prop), Cx ℓ A → EnvOk fd.scope env → env.code = fd.code → Rel G g φ σ env (ownOf fd.scope) ρ s → W Q ρ σ →
      ∀ (K : Flow → Shared → Prop) (E : Value → Shared → Prop),
      (∀ f s' g' φ' σ' ρ' fl, Nx (fpOf env (ownOf fd.scope)) s s' g g' φ φ' → Rel G g' φ' σ' env (ownOf fd.scope) ρ' s' → FlR g' φ' fl f → Q fl ρ' σ' → K f s') → wpAny (model G.prog G.w) A (execs body env) K E s) :
    FnOk G (ℓ + 1) (.ref a) fun vs Q σ => vs.length = ps.length ∧ wFn ps W vs Q σ := by
  intro A s g φ σ vs ws Q cx ok S hv hw K E k
  obtain ⟨hlen, ρ, hρ, hw⟩ := hw
  obtain ⟨o, hbase, hdata⟩ := D.obj
  have hbind := hb s g φ σ vs ws S hv hlen
  have inb : G.In s.heap := S.inb
  have dep := cx.depth
  have uni := cx.units
  refine wpAny_call (codeAny_call_function (by show A.depth < 1000; exact ar168 dep) (inb _ _ hbase) hdata D.co D.gen D.body (D.code _ inb) (hbind _ _ _ _ ?_))
  rw [D.closure]
  simp only [newFunctionEnv, Option.isSome_none, Bool.false_eq_true, if_false]
  refine wpAny_bind (wpAny_alloc ?_)
  refine wpAny_bind (wpAny_layCells _ (fun name kind cells => by cases kind == NameKind.cell <;> simp) _ _ _ _ ?_)
  rw [show ({ s with heap := s.heap.push { cls := .type "frame", data := .dict #[] } } : Shared).heap.objs.size = s.heap.objs.size + 1 from Heap.size_push ..]
  generalize hE : ({ scope := fd.scope, locals := s.heap.objs.size, globals := fd.globals, cells := cellsFrom (s.heap.objs.size + 1) fd.scope.names [], qual := fd.qualname ++ ".<locals>.", func := some a, code := fd.code, frame := some s.heap.objs.size, builtins := fd.builtins } : Env) = env
  have eo : EnvOk fd.scope env := ⟨by rw [← hE], D.kind, by rw [← hE]; exact D.globals, by rw [← hE]; exact D.builtins⟩
  obtain ⟨R₁, N₁, hfr⟩ := Rel.frame (cls := .type "frame") (sc := fd.scope) (sc' := fd.scope) (cl := []) (ρ₀ := fun _ => none) (env' := env) ok S (fun x v h => by cases h) eo.scope (by rw [← hE]) (by rw [← hE])
  refine wpAny_bind (stores eo _ (fun _ _ _ => rfl) ps vs ws _ g φ σ _ ρ _ _ hp R₁ (N₁.vrs hv) hρ fun s₂ N₂ R₂ => ?_)
  refine wpAny_pure ⟨O.nolimit _ R₂.sr.inb, codeAny_func ?_⟩
  have cx' : Cx ℓ (A.deeper env) := ⟨cx.handled, by show A.depth + 1 + 10 * ℓ ≤ 900; exact ar169 dep, by show A.units + 3 + 100 * ℓ ≤ 9000; exact ar170 uni⟩
  refine hW (A.deeper env) env s₂ g φ σ ρ _ cx' eo (by rw [← hE]) R₂ hw _ _ fun f s₃ g₃ φ₃ σ₃ ρ₃ fl N₃ R₃ hf hQ => ?_
  have N : Nx [] s s₃ g g₃ φ φ₃ := (N₁.leave N₂ hfr).leave N₃ hfr
  cases fl with
  | nx => cases hf; exact k _ _ _ _ _ .none N R₃.ok R₃.sr rfl hQ
  | br => exact hQ.elim
  | ct => exact hQ.elim
  | rt v => obtain ⟨w, rfl, hv⟩ := hf; exact k _ _ _ _ _ v N R₃.ok R₃.sr hv hQ

theorem GenS.later {prog : Program} {w : World} {A : Around} {a : Addr} {n : Nat} {Fy : Nat → Value → Prop} {s₀ s : Shared} (X : GenS prog w A a n Fy s₀ s) (tk : Nat) (h : s.toks ≤ tk) : GenS prog w A a n Fy s₀ { s with toks := tk } := by
  obtain ⟨fp, wr, g, P, St, W, hst, r⟩ := X
  exact ⟨fp, wr, g, P, St, W, W.frame 0 s s.heap tk hst h fun b hb o e => e, r⟩
/-- what a generator over an accumulator needs -/
structure GenOk (G : Glb) (K : Frag) (fd : FuncData) (P : Addr) (sc : Scope) (xa xb : Str) : Prop where
  mod : ∃ bm ob, BMods G bm ob
  code : ∃ c, fd.code = .ref c ∧ codeHdIn K c P = true
  iter : findIn K (.ref G.C) "__iter__" = some (some (.builtin "list.__iter__"))
  self : fd.scope.names.lookup (Str.ofString "self") = some .local
  co : sc.isCoroutine = false
  clos : ∀ env, closureFor sc env = pure []
  cell : ∀ y ∈ sc.names, y.2 ≠ .cell
  h0 : sc.names.lookup (".0" : Str) = some NameKind.local
  na : sc.names.lookup xa = some .local
  nb : sc.names.lookup xb = some .local
  ab : xa ≠ xb
  kind : sc.kind = .function
  da : (xa == ("__debug__" : Str)) = false
  db : (xb == ("__debug__" : Str)) = false
noncomputable def wLenA (P : Addr) : WF := fun vs Q σ => ∃ (i t : Nat) (ps : List (Str × Str)), vs = [.ref i] ∧ σ[i]? = some (.acc (ps.map prV)) ∧ σ[t]? = some (.tab P) ∧ (∀ p ∈ ps, p.1.length < 2 ^ 62 ∧ p.2.length < 2 ^ 62) ∧ Q (.int ((ps.map fun p => ((p.1.length : Int) + (p.2.length : Int))).sum)) σ
noncomputable def wStrA (P : Addr) : WF := fun vs Q σ => ∃ (i t : Nat) (ps : List (Str × Str)), vs = [.ref i] ∧ σ[i]? = some (.acc (ps.map prV)) ∧ σ[t]? = some (.tab P) ∧ ps.length ≤ 2 ^ 20 ∧ (ps.map fun p => p.1.length + p.2.length).sum ≤ 2 ^ 20 ∧ Q (.str (S ((ps.map fun p => L p.1 ++ L p.2).flatten))) σ
noncomputable def lenVal (ps : List (Str × Str)) (j : Nat) : Int := match ps[j]? with | some p => (p.1.length : Int) + (p.2.length : Int) | none => 0
theorem preSum_lenVal : ∀ (ps : List (Str × Str)), preSum (lenVal ps) ps.length = (ps.map fun p => ((p.1.length : Int) + (p.2.length : Int))).sum := by
  have h : ∀ (ps : List (Str × Str)) (n : Nat), n ≤ ps.length → preSum (lenVal ps) n = ((ps.take n).map fun p => ((p.1.length : Int) + (p.2.length : Int))).sum := by
    intro ps n
    induction n with
    | zero => intro _; simp [preSum]
    | succ n ih =>
      intro hn
      rw [show preSum (lenVal ps) (n + 1) = preSum (lenVal ps) n + lenVal ps n from rfl, ih (by exact ar10 hn), List.take_add_one, List.getElem?_eq_getElem (by exact ar167 hn)]
      unfold lenVal
      rw [List.getElem?_eq_getElem (by exact ar167 hn)]
      simp only [Option.toList, List.map_append, List.sum_append, List.map_cons, List.map_nil, List.sum_cons, List.sum_nil, Int.add_zero]
  intro ps
  rw [h ps ps.length (Nat.le_refl _), List.take_length]
section
variable {G : Glb} {K : Frag} {cc : Addr} {cd : ClassData} {ℓ : Nat}
set_option maxHeartbeats 2000000 in
theorem fn_lenA (T : AccG G K cc cd) {a P : Addr} {fd : FuncData} {xa xb : Str} {sc : Scope} {kt : Nat} {p1 p2 p3 e1 e2 e3 e4 e5 e6 e7 pa pb pt pg q0 q1 q2 : Pos} (X : GenOk G K fd P sc xa xb)
    (D : IsDef G a fd [.Return (some (.Call (.Name (Str.ofString "sum") p1) [.GeneratorExp (.BinOp (.Call (.Name (Str.ofString "len") e1) [.Name xa e2] [] e3) .Add (.Call (.Name (Str.ofString "len") e4) [.Name xb e5] [] e6) e7)
      [⟨.Tuple [.Name xa pa, .Name xb pb] kt pt, .Name (Str.ofString "self") q0, [], 0⟩] sc pg, .Attribute (.Name (Str.ofString "self") q1) (Str.ofString "_initial_size") q2] [] p2)) p3] [])
    (hsum : fd.scope.names.lookup (Str.ofString "sum") = some .globalImplicit) (hlen : sc.names.lookup (Str.ofString "len") = some .globalImplicit)
    (m1 : G.mg (Str.ofString "sum") = none) (m2 : G.mg (Str.ofString "len") = none) (b1 : G.mb (Str.ofString "sum") = some (.builtin "sum")) (b2 : G.mb (Str.ofString "len") = some (.builtin "len"))
    (hat : findIn K (.ref G.C) (Str.ofString "_initial_size") = some none) (hdi : hasDictIn K G.C = true)
    (hb : ∀ ws : List Value, ws.length = 1 → bindArgs fd ⟨ws, []⟩ = pure ([Str.ofString "self"].zip ws)) : FnOk G (ℓ + 1) (.ref a) (wLenA P) := by
  refine FnOk.mono (FnOk.defC T.O D (ps := [Str.ofString "self"]) (W := fun Q ρ σ => ∃ (i t : Nat) (ps : List (Str × Str)), ρ (Str.ofString "self") = some (.ref i) ∧ σ[i]? = some (.acc (ps.map prV)) ∧ σ[t]? = some (.tab P) ∧
    (∀ p ∈ ps, p.1.length < 2 ^ 62 ∧ p.2.length < 2 ^ 62) ∧ Q (.rt (.int ((ps.map fun p => ((p.1.length : Int) + (p.2.length : Int))).sum))) ρ σ)
    (fun x hx => .inl (by rw [List.mem_singleton.mp hx]; exact X.self)) (fun s g φ σ vs ws S hv hl => BindsTo.of_eq (hb ws (hv.length.trans hl))) ?_)
    (fun vs Q σ h => ?_)
  · intro A env s g φ σ ρ Q cx eo hcode R hW K' E k
    obtain ⟨i, t, ps, hρ, hm, ht, hsz, hQ⟩ := hW
    obtain ⟨c, hc, hcP⟩ := X.code
    obtain ⟨bm, ob, BM⟩ := X.mod
    obtain ⟨m, hns, hloc⟩ := R.fr.ns
    have hks : env.kindOf (Str.ofString "self") = some .local := by unfold Env.kindOf; rw [eo.scope]; exact X.self
    have hku : env.kindOf (Str.ofString "sum") = some .globalImplicit := by unfold Env.kindOf; rw [eo.scope]; exact hsum
    have hkf : env.scope.kind = .function := by rw [eo.scope]; exact eo.kind
    obtain ⟨w', hw', hr⟩ := hloc _ _ hks hρ
    obtain ⟨x, dx, arr, n, od, rfl, hφ, hx, hdx, hvs, hlk, hM⟩ := acc_obj R.sr hr hm
    have hinit : ∃ t, lookIn (Str.ofString "_initial_size") od = some (some (.int 0 t)) := by
      obtain ⟨d, arr', n', od', ho, _, hgd, _, h2⟩ := hM
      rw [hx] at ho
      cases ho
      have := R.sr.keep _ _ hgd
      rw [hdx] at this
      cases this
      exact h2
    obtain ⟨tz, hinit⟩ := hinit
    have hP : φ[t]? = some P := by
      have : t < φ.length := by rw [R.sr.len]; exact (List.getElem?_eq_some_iff.mp ht).1
      obtain ⟨e, _⟩ := R.sr.mo t φ[t] _ (List.getElem?_eq_getElem this) ht
      rw [← e]; exact List.getElem?_eq_getElem this
    have hlP : env.locals ≠ P := fun q => R.fr.Lφ (q ▸ List.mem_of_getElem? hP)
    obtain ⟨_, ps₀, hPo, _⟩ := R.sr.mo _ _ _ hP ht
    have hxP : x ≠ P := by rintro rfl; rw [hx] at hPo; cases hPo
    have hdP : dx ≠ P := fun q => by
      obtain ⟨d, arr', n', od', ho, _, hgd, _⟩ := hM
      rw [hx] at ho
      cases ho
      rw [q, R.sr.fresh _ (List.mem_of_getElem? hP)] at hgd
      cases hgd
    refine wpAny_execs_cons (wpAny_Return_some (of_toks R.ok.toks ?_))
    refine wpAny_Call_NameR (Calls.Name_function_global hkf hku (Calls.loadGlobal_builtin (by rw [eo.globals]; exact T.O.nsg _ R.sr.inb) m1 (by rw [eo.builtins]; exact T.O.nsb _ R.sr.inb) b1 ?_) (by decide +kernel))
    refine PyProof.Rows.callWith_builtin1 ?_
    show wpAny _ _ (do let v ← eval (.GeneratorExp _ _ _ _) env; return [v] ++ (← holding [v] (do let v ← eval (.Attribute (.Name (Str.ofString "self") q1) (Str.ofString "_initial_size") q2) env; return [v] ++ (← holding [v] (spliced []))))) _ E s
    refine wpAny_bind (gen_acc T cx R.ok R.sr (pairs := ps) (F := fun j y => ∃ p, ps[j]? = some p ∧ ∃ z, y = .int ((p.1.length : Int) + (p.2.length : Int)) z) (hcode.trans hc) hcP ht X.iter eo.globals BM hx hdx hvs X.co (X.clos env) X.cell X.h0 X.na X.nb X.ab X.kind
      (fun Q' hq => raw_name hkf hks (by decide +kernel) hns hw' hq) (fun _ => rfl) ?_ ?_)
    · intro cenv A' E' j y z ty tz s₂ m₂ hh hj hin hsc hgl hbl hn₂ ha hb
      have hsz' := hsz _ (List.mem_of_getElem? hj)
      refine wpAny_mono (elt_len (by rw [hsc]; exact X.kind) (by unfold Env.kindOf; rw [hsc]; exact X.na) X.da (by unfold Env.kindOf; rw [hsc]; exact X.nb) X.db hn₂ ha hb (by unfold Env.kindOf; rw [hsc]; exact hlen) (by rw [hgl]; exact T.O.nsg _ hin) m2 (by rw [hbl]; exact T.O.nsb _ hin) b2 hsz'.1 hsz'.2)
        (fun v s' h => ⟨⟨_, hj, h.1⟩, h.2⟩) fun _ _ z => z
    · intro ag s₅ hd₅ ho₅ hb₅ keep₅ tab₅ X₅
      refine wpAny_bind (wpAny_holding (wpAny_bind ?_))
      rw [arm_eval_Attribute]
      show wpAny _ _ (eval (.Name (Str.ofString "self") q1) env >>= _) _ _ _
      have in₅ : G.In s₅.heap := fun b o e => keep₅ b o (fun q => by have := R.sr.base b o e; rw [q, R.sr.fresh _ (List.mem_of_getElem? hP)] at this; cases this) (R.sr.inb b o e)
      have hx₅ := keep₅ _ _ hxP hx
      refine wpAny_bind (raw_name hkf hks (by decide +kernel) (hns.at' fun o e => keep₅ _ o hlP e) hw' (wpAny_bind (wpAny_standAt (wpAny_bind (wpAny_holding
        (attr_own (od := some od) (v := .int 0 tz) (T.X in₅) ⟨hx₅, rfl, rfl, keep₅ _ _ hdP hdx⟩ T.ga T.gat (T.isL in₅ hx₅) (findObj_own hdi hat rfl hinit) rfl ?_))))))
      refine wpAny_bind (wpAny_of_eq (a := ()) rfl (wpAny_pure ?_))
      refine wpAny_bind (wpAny_holding (wpAny_pure (wpAny_pure (wpAny_pure ?_))))
      refine sum_gen (X₅.later _ (Nat.le_succ _)) (lenVal ps) (fun j v h => ?_) (fun s' t' hd ho hb keep => ?_)
      · obtain ⟨p, hp, z, rfl⟩ := h
        exact ⟨z, by unfold lenVal; rw [hp]⟩
      · intro htk
        have kp : ∀ b o, b ≠ P → s.heap.get? b = some o → s'.heap.get? b = some o := fun b o q e => keep b o (by rw [e]; simp) (keep₅ b o q e)
        obtain ⟨psn, e1, e2⟩ := tab₅
        obtain ⟨N, S'⟩ := R.sr.tab (s' := s') ht hP (hd.trans hd₅) (ho.trans ho₅) kp ⟨psn, keep P _ (by rw [hPo]; simp) e1, e2⟩
        rw [preSum_lenVal]
        exact k _ _ g φ σ ρ (.rt (.int _)) N.fp (R.step N ⟨htk, hb hb₅⟩ S') ⟨_, rfl, _, rfl⟩ hQ
  · obtain ⟨i, t, ps, rfl, hm, ht, hsz, hQ⟩ := h
    exact ⟨rfl, _, rfl, i, t, ps, by unfold upd; simp, hm, ht, hsz, hQ⟩
end

end
section
set_option autoImplicit false
set_option maxRecDepth 100000
noncomputable def strVal (ps : List (Str × Str)) (j : Nat) : Str := match ps[j]? with | some p => Txt.join (S []) [p.1, p.2] | none => S []
theorem joinOk_nil {ts : List Str} (h : (ts.map fun x => (L x).length).sum ≤ 2 ^ 20) : JoinOk (S []) ts = true := by
  unfold JoinOk
  rw [StrLaws.joinTotal]
  have h0 : (S []).length = 0 := rfl
  have h1 : (ts.map (·.length)).sum = (ts.map fun x => (L x).length).sum := congrArg List.sum (List.map_congr_left fun x _ => (len_L x).symm)
  rw [h0, h1, Nat.mul_zero, Nat.add_zero]
  unfold Builtin.Str.tooLong sizeLine
  rw [decide_eq_false (by exact ar248 h)]; rfl
theorem strVals (ps : List (Str × Str)) : (List.range ps.length).map (strVal ps) = ps.map fun p => Txt.join (S []) [p.1, p.2] := by
  apply List.ext_getElem?
  intro j
  rw [List.getElem?_map, List.getElem?_map]
  by_cases h : j < ps.length
  · rw [List.getElem?_range h]
    unfold strVal
    simp [List.getElem?_eq_getElem h]
  · rw [List.getElem?_eq_none (by simpa using h), List.getElem?_eq_none (by exact ar3 h)]; rfl
theorem le_sums {p : Str × Str} : ∀ {l : List (Str × Str)}, p ∈ l → p.1.length + p.2.length ≤ (l.map fun p => p.1.length + p.2.length).sum
  | [], h => by cases h
  | q :: l, h => by
    rw [List.map_cons, List.sum_cons]
    rcases List.mem_cons.mp h with rfl | h
    · exact ar374
    · have := le_sums h
      exact ar375 this
section
variable {G : Glb} {K : Frag} {cc : Addr} {cd : ClassData} {ℓ : Nat}
set_option maxHeartbeats 2000000 in
theorem fn_strA (T : AccG G K cc cd) {a P : Addr} {fd : FuncData} {xa xb em : Str} {ek : Tok} {sc : Scope} {k1 kt : Nat} {p1 p2 p3 p4 e1 e2 e3 e4 e5 e6 pa pb pt pg q0 : Pos} (X : GenOk G K fd P sc xa xb)
    (D : IsDef G a fd [.Return (some (.Call (.Attribute (.Name em p1) (Str.ofString "join") p2) [.GeneratorExp (.Call (.Attribute (.Name em e1) (Str.ofString "join") e2) [.Tuple [.Name xa e3, .Name xb e4] k1 e5] [] e6)
      [⟨.Tuple [.Name xa pa, .Name xb pb] kt pt, .Name (Str.ofString "self") q0, [], 0⟩] sc pg] [] p3)) p4] [])
    (hem : fd.scope.names.lookup em = some .globalImplicit) (hem' : sc.names.lookup em = some .globalImplicit) (dem : (em == ("__debug__" : Str)) = false) (m1 : G.mg em = some (.str (S []) ek))
    (h5 : (p2.endLine == p3.line) = true) (h5' : (e2.endLine == e6.line) = true)
    (hb : ∀ ws : List Value, ws.length = 1 → bindArgs fd ⟨ws, []⟩ = pure ([Str.ofString "self"].zip ws)) : FnOk G (ℓ + 1) (.ref a) (wStrA P) := by
  refine FnOk.mono (FnOk.defC T.O D (ps := [Str.ofString "self"]) (W := fun Q ρ σ => ∃ (i t : Nat) (ps : List (Str × Str)), ρ (Str.ofString "self") = some (.ref i) ∧ σ[i]? = some (.acc (ps.map prV)) ∧ σ[t]? = some (.tab P) ∧
    ps.length ≤ 2 ^ 20 ∧ (ps.map fun p => p.1.length + p.2.length).sum ≤ 2 ^ 20 ∧ Q (.rt (.str (S ((ps.map fun p => L p.1 ++ L p.2).flatten)))) ρ σ)
    (fun x hx => .inl (by rw [List.mem_singleton.mp hx]; exact X.self)) (fun s g φ σ vs ws S hv hl => BindsTo.of_eq (hb ws (hv.length.trans hl))) ?_)
    (fun vs Q σ h => ?_)
  · intro A env s g φ σ ρ Q cx eo hcode R hW K' E k
    obtain ⟨i, t, ps, hρ, hm, ht, hpl, hsz, hQ⟩ := hW
    obtain ⟨c, hc, hcP⟩ := X.code
    obtain ⟨bm, ob, BM⟩ := X.mod
    obtain ⟨m, hns, hloc⟩ := R.fr.ns
    have hks : env.kindOf (Str.ofString "self") = some .local := by unfold Env.kindOf; rw [eo.scope]; exact X.self
    have hku : env.kindOf em = some .globalImplicit := by unfold Env.kindOf; rw [eo.scope]; exact hem
    have hkf : env.scope.kind = .function := by rw [eo.scope]; exact eo.kind
    obtain ⟨w', hw', hr⟩ := hloc _ _ hks hρ
    obtain ⟨x, dx, arr, n, od, rfl, hφ, hx, hdx, hvs, hlk, hM⟩ := acc_obj R.sr hr hm
    have hP : φ[t]? = some P := by
      have : t < φ.length := by rw [R.sr.len]; exact (List.getElem?_eq_some_iff.mp ht).1
      obtain ⟨e, _⟩ := R.sr.mo t φ[t] _ (List.getElem?_eq_getElem this) ht
      rw [← e]; exact List.getElem?_eq_getElem this
    obtain ⟨_, ps₀, hPo, _⟩ := R.sr.mo _ _ _ hP ht
    have hle : ∀ p ∈ ps, p.1.length + p.2.length ≤ 2 ^ 20 := fun p hp => by
      exact Nat.le_trans (le_sums hp) hsz
    refine wpAny_execs_cons (wpAny_Return_some (of_toks R.ok.toks ?_))
    refine wpAny_Call_method rfl rfl h5 F.plainAttrs_str F.slot_str_join (by first | exact F.type_str_join | exact type_str_join) ?_
    refine Calls.Name_function_global hkf hku (Calls.loadGlobal_global (by rw [eo.globals]; exact T.O.nsg _ R.sr.inb) m1 ?_) dem
    refine ⟨typeIs_str _ _ _, fun a e => (by cases e), callWith_method1 ?_ rfl rfl⟩
    show wpAny _ _ (do let v ← eval (.GeneratorExp _ _ _ _) env; return [v] ++ (← holding [v] (spliced []))) _ E s
    refine wpAny_bind (gen_acc T cx R.ok R.sr (pairs := ps) (F := fun j y => ∃ p, ps[j]? = some p ∧ ∃ z, y = .str (Txt.join (S []) [p.1, p.2]) z) (hcode.trans hc) hcP ht X.iter eo.globals BM hx hdx hvs X.co (X.clos env) X.cell X.h0 X.na X.nb X.ab X.kind
      (fun Q' hq => raw_name hkf hks (by decide +kernel) hns hw' hq) (fun _ => rfl) ?_ ?_)
    · intro cenv A' E' j y z ty tz s₂ m₂ hh hj hin hsc hgl hbl hn₂ ha hb
      have hsz' := hle _ (List.mem_of_getElem? hj)
      refine wpAny_mono (elt_join (by rw [hsc]; exact X.kind) (by unfold Env.kindOf; rw [hsc]; exact X.na) X.da (by unfold Env.kindOf; rw [hsc]; exact X.nb) X.db hn₂ ha hb (by unfold Env.kindOf; rw [hsc]; exact hem') dem (by rw [hgl]; exact T.O.nsg _ hin) m1 hsz' h5')
        (fun v s' h => ⟨⟨_, hj, h.1⟩, h.2⟩) fun _ _ z => z
    · intro ag s₅ hd₅ ho₅ hb₅ keep₅ tab₅ X₅
      refine wpAny_bind (wpAny_holding (wpAny_pure (wpAny_pure ?_)))
      have hlens : ∀ p : Str × Str, (L (Txt.join (S []) [p.1, p.2])).length = p.1.length + p.2.length := fun p => by
        rw [txt_join_nil, L_S, ← len_L, ← len_L]; simp only [List.map_cons, List.map_nil, List.flatten_cons, List.flatten_nil, List.append_nil, List.length_append]
      refine join_genS X₅ (strVal ps) (fun j v h => ?_) ?_ (Nat.le_trans hpl (by decide)) (fun s' t' hd ho hb keep => ?_)
      · obtain ⟨p, hp, z, rfl⟩ := h
        exact ⟨z, by unfold strVal; rw [hp]⟩
      · rw [strVals]
        refine joinOk_nil ?_
        rw [List.map_map]
        exact Nat.le_trans (Nat.le_of_eq (congrArg List.sum (List.map_congr_left fun p _ => hlens p))) hsz
      · intro htk
        have kp : ∀ b o, b ≠ P → s.heap.get? b = some o → s'.heap.get? b = some o := fun b o q e => keep b o (by rw [e]; simp) (keep₅ b o q e)
        obtain ⟨psn, e1, e2⟩ := tab₅
        obtain ⟨N, S'⟩ := R.sr.tab (s' := s') ht hP (hd.trans hd₅) (ho.trans ho₅) kp ⟨psn, keep P _ (by rw [hPo]; simp) e1, e2⟩
        have hres : Txt.join (S []) ((List.range ps.length).map (strVal ps)) = S ((ps.map fun p => L p.1 ++ L p.2).flatten) := by
          rw [strVals, txt_join_nil, List.map_map]
          congr 2
          apply List.map_congr_left
          intro p _
          show L (Txt.join (S []) [p.1, p.2]) = _
          rw [txt_join_nil, L_S]; simp
        rw [hres]
        exact k _ _ g φ σ ρ (.rt (.str _)) N.fp (R.step N ⟨htk, hb hb₅⟩ S') ⟨_, rfl, _, rfl⟩ hQ
  · obtain ⟨i, t, ps, rfl, hm, ht, hpl, hsz, hQ⟩ := h
    exact ⟨rfl, _, rfl, i, t, ps, by unfold upd; simp, hm, ht, hpl, hsz, hQ⟩
end

end
section
set_option autoImplicit false
set_option maxRecDepth 100000
section
variable {G : Glb} {K : Frag} {cc : Addr} {cd : ClassData} {ℓ : Nat}
theorem Cx.in1 {A : Around} (cx : Cx (ℓ + 1) A) : Cx ℓ A.in1 := ⟨cx.handled, by have := cx.depth; show A.depth + 10 * ℓ ≤ 900; exact ar376 this, by have := cx.units; show A.units + 1 + 100 * ℓ ≤ 9000; exact ar377 this⟩
theorem Cx.in2 {A : Around} (cx : Cx (ℓ + 1) A) : Cx ℓ A.in1.in1 := ⟨cx.handled, by have := cx.depth; show A.depth + 10 * ℓ ≤ 900; exact ar376 this, by have := cx.units; show A.units + 1 + 1 + 100 * ℓ ≤ 9000; exact ar378 this⟩
/-- len() of an accumulator -/
theorem FnOk.lenAcc (T : AccG G K cc cd) {f : Addr} {W : WF} (hs : findIn K (.ref G.C) "__len__" = some (some (.ref f))) (hf : isFn K (.ref f) = true) (h : FnOk G ℓ (.ref f) W) :
    FnOk G (ℓ + 1) (.builtin "len") fun vs Q σ => ∃ i xs, vs = [.ref i] ∧ σ[i]? = some (.acc xs) ∧ W vs (fun v σ' => ∃ n : Int, v = .int n ∧ 0 ≤ n ∧ n < 2 ^ 62 ∧ Q (.int n) σ') σ := by
  intro A s g φ σ vs ws Q cx ok S hv hW Kc E k
  obtain ⟨i, xs, rfl, hm, hW⟩ := hW
  obtain ⟨w, rfl, hv1⟩ := hv.one
  obtain ⟨x, dx, arr, n, od, rfl, hφ, hx, hdx, hvs, hlk, hM⟩ := acc_obj S hv1 hm
  have X := T.X S.inb
  refine Calls.call_function_entry PySem.kind_len PySem.plain_len PySem.entry_len (PySem.args_len1 _) ?_
  unfold Builtin.«len»
  refine wpAny_bind (m := oneArg "len" _) (wpAny_pure ?_)
  refine wpAny_bind (m := callSpecial? (.ref x) (Str.ofString "__len__")) (special_fn (od := some od) X ⟨hx, rfl, rfl, hdx⟩ hs (beq_iff_eq.mp hf) ?_)
  refine h A.in1 s g φ σ [.ref i] [.ref x] _ cx.in1 ok S hv hW _ _ fun w s' g' φ' σ' v N' ok' S' hv' hQ => ?_
  obtain ⟨m, rfl, h0, h1, hQ⟩ := hQ
  obtain ⟨t, rfl⟩ := hv'
  refine wpAny_bind (wpAny_holding (wpAny_pure ?_))
  refine wpAny_bind (wpAny_letGo ?_)
  show wpAny _ _ (if m < 0 then _ else _) _ _ _
  rw [if_neg (by exact ar211 h0)]
  show wpAny _ _ (if m ≥ 2 ^ 63 then _ else _) _ _ _
  rw [if_neg (by exact ar379 h1)]
  exact wpAny_bind (wpAny_mkInt (wpAny_pure ⟨_, rfl, k _ _ g' φ' σ' (.int m) (N'.trans (Nx.refl rfl)) ⟨Nat.le_add_left _ _, ok'.bare⟩ S' ⟨_, rfl⟩ hQ⟩))
/-- str() of an accumulator -/
theorem FnOk.strAcc (T : AccG G K cc cd) {f : Addr} {W : WF} (hs : findIn K (.ref G.C) "__str__" = some (some (.ref f))) (hf : isFn K (.ref f) = true) (h : FnOk G ℓ (.ref f) W) :
    FnOk G (ℓ + 1) (.type "str") fun vs Q σ => ∃ i xs, vs = [.ref i] ∧ σ[i]? = some (.acc xs) ∧ W vs (fun v σ' => ∃ x, v = .str x ∧ Q (.str x) σ') σ := by
  intro A s g φ σ vs ws Q cx ok S hv hW Kc E k
  obtain ⟨i, xs, rfl, hm, hW⟩ := hW
  obtain ⟨w, rfl, hv1⟩ := hv.one
  obtain ⟨x, dx, arr, n, od, rfl, hφ, hx, hdx, hvs, hlk, hM⟩ := acc_obj S hv1 hm
  have X := T.X S.inb
  have hu : A.in1.in1.units < cLine := by have := cx.units; have h1 : cLine = cLine := rfl; unfold cLine; show A.units + 1 + 1 < _; exact ar380 this
  refine kso_call hu (od := some od) X ⟨hx, rfl, rfl, hdx⟩ hs hf ?_
  refine h A.in1.in1 s g φ σ [.ref i] [.ref x] _ cx.in2 ok S hv hW _ _ fun w s' g' φ' σ' v N' ok' S' hv' hQ => ?_
  obtain ⟨y, rfl, hQ⟩ := hQ
  have hv2 := hv'
  obtain ⟨t, rfl⟩ := hv'
  exact k _ _ g' φ' σ' (.str y) N' ok' S' hv2 hQ
theorem FnOk.or {f : Value} {W W' : WF} (h : FnOk G ℓ f W) (h' : FnOk G ℓ f W') : FnOk G ℓ f fun vs Q σ => W vs Q σ ∨ W' vs Q σ :=
  fun A s g φ σ vs ws Q cx ok S hv hW => hW.elim (h A s g φ σ vs ws Q cx ok S hv) (h' A s g φ σ vs ws Q cx ok S hv)
end

end
section
set_option autoImplicit false
set_option maxRecDepth 100000
theorem vrs_ints {g : FM} {φ : List Addr} : ∀ {ns : List Int} {ws : List Value}, VRs g φ (ns.map V.int) ws → ∃ l : List (Int × Tok), ws = l.map (fun p => .int p.1 p.2) ∧ l.map (·.1) = ns
  | [], ws, h => by
    have : ws = [] := h
    subst this; exact ⟨[], rfl, rfl⟩
  | x :: ns, ws, h => by
    obtain ⟨w, r, rfl, ⟨t, rfl⟩, h2⟩ := h
    obtain ⟨l, rfl, hl⟩ := vrs_ints h2
    exact ⟨(x, t) :: l, rfl, by rw [List.map_cons, hl]⟩
noncomputable def wMax : WF := fun vs Q σ => ∃ v ns M, vs = [v] ∧ aList σ v = some (List.map V.int ns) ∧ M ∈ ns ∧ (∀ m ∈ ns, m ≤ M) ∧ Q (.int M) σ
theorem FnOk.max {G : Glb} {ℓ : Nat} : FnOk G ℓ (.builtin "max") wMax := by
  intro A s g φ σ vs ws Q cx ok S hv hW K E k
  obtain ⟨v, ns, M, rfl, hl, hM, hle, hQ⟩ := hW
  obtain ⟨w, rfl, hv1⟩ := hv.one
  have hv := hv1; clear hv1
  obtain ⟨a, arr, m, rfl, ho, hvs⟩ := aList_obj S hv hl
  obtain ⟨l, hl1, hl2⟩ := vrs_ints hvs
  have harr : arr = intItems l.toArray := by
    unfold intItems
    rw [← Array.toArray_toList (xs := arr), hl1]
    simp
  have hne : 0 < l.toArray.size := by
    have : 0 < ns.length := List.length_pos_of_mem hM
    rw [← hl2] at this
    simpa using this
  have hlist : s.heap.IsList a (intItems l.toArray) := by rw [← harr]; exact isListObj ho
  refine of_toks ok.toks (max_intList cx.handled hlist hne fun u h' tk hu hk htk => ?_)
  obtain ⟨t, rfl⟩ := intItems_at hu
  obtain ⟨h1, h2⟩ := argBest_gt (PySem.numAt l.toArray) (l.toArray.size - 1)
  have hget : ∀ j, j < l.length → PySem.numAt l.toArray j ∈ ns ∧ ns[j]? = some (PySem.numAt l.toArray j) := fun j hj => by
    have : ns[j]? = some (PySem.numAt l.toArray j) := by
      rw [← hl2]
      unfold PySem.numAt
      simp [hj]
    exact ⟨List.mem_of_getElem? this, this⟩
  have hsz : l.toArray.size = l.length := List.size_toArray
  have hbest : PySem.numAt l.toArray (argBest (fun i j => decide (PySem.numAt l.toArray i > PySem.numAt l.toArray j)) (l.toArray.size - 1)) = M := by
    apply Int.le_antisymm
    · exact hle _ (hget _ (by exact ar381 hne h1 hsz)).1
    · obtain ⟨j, hj⟩ := List.getElem?_of_mem hM
      have hjl : j < l.length := by
        have := (List.getElem?_eq_some_iff.mp hj).1
        rw [← hl2] at this
        simpa using this
      have e := (hget j hjl).2
      rw [hj] at e
      cases e
      exact h2 j (by exact ar382 hjl hsz)
  rw [hbest]
  exact Cont.up k ok S (v := .int M) hk ⟨_, rfl⟩ hQ htk

end
section
set_option autoImplicit false
set_option maxRecDepth 100000
section
variable {prog : Program} {w : World} {A : Around} {E : Value → Shared → Prop} {s : Shared} {a : Addr} {vs : List Value} {κ : SortKind} {lt : Nat → Nat → Bool}
noncomputable def sorts (lt : Nat → Nat → Bool) (vs : List Value) : List Value := (KasT.ev lt (kas_sort vs.length)).toList.map fun i => vs.getD i Value.none
set_option maxHeartbeats 1000000 in
theorem srt_list_sort {n : Nat} {P : PySem.Fin → Shared → Prop} (ho : s.heap.get? a = some (seqObj "list" vs.toArray n)) (h2 : 2 ≤ vs.length) (h64 : vs.length < 64)
    (hk : ∀ h' : Heap, (∀ b o, b ≠ a → s.heap.get? b = some o → h'.get? b = some o) → ∀ Q : SortKind → Shared → Prop, Q κ { s with heap := h' } → wpAny (model prog w) A (keyKind' vs.toArray) Q E { s with heap := h' })
    (hc : ∀ h' : Heap, (∀ b o, b ≠ a → s.heap.get? b = some o → h'.get? b = some o) → ∀ i j C, i < vs.length → j < vs.length → C (lt i j) { s with heap := h' } → kas_ask prog w A κ vs i j C { s with heap := h' })
    (h : ∀ h' : Heap, (∀ b o, b ≠ a → s.heap.get? b = some o → h'.get? b = some o) → (∃ c, h'.get? a = some (seqObj "list" (List.toArray (sorts lt vs)) c)) → P (.done (.ret .none)) { s with heap := h' }) :
    wpAny (model prog w) A (Builtin.«list.sort» ⟨[.ref a], []⟩) P E s := by
  have ha : a < s.heap.objs.size := Heap.lt_size ho
  have s1 := Heap.SameBut.update s.heap a (Obj.mapSeq fun _ => (#[] : Array Value))
  obtain ⟨e1, ho1⟩ : ∃ e1, (s.heap.update a (Obj.mapSeq fun _ => (#[] : Array Value))).get? a = some (seqObj "list" #[] e1) := ⟨_, get?_update_seq ho fun _ => #[]⟩
  have keep3 : ∀ b o, b ≠ a → s.heap.get? b = some o → (((s.heap.update a (Obj.mapSeq fun _ => (#[] : Array Value))).push (seqObj "tuple" vs.toArray 0)).push (seqObj "list" #[] 0)).get? b = some o :=
    fun b o q e => Heap.get?_push_of_some _ (Heap.get?_push_of_some _ (s1.extBut b o q e))
  have hoa := Heap.get?_push_of_some (seqObj "list" #[] 0) (Heap.get?_push_of_some (seqObj "tuple" vs.toArray 0) ho1)
  rw [list_sort_plain]
  refine wpAny_bind (listItems_at ho rfl ?_)
  refine wpAny_bind (listUpdate_at ho rfl ?_ (by rw [List.size_toArray, sizeLine_eq]; exact ar383 h64) (Nat.zero_le _))
  refine wpAny_bind (seqEpoch_at ho1 rfl ?_)
  refine wpAny_bind (wpAny_newTuple ?_ (by show vs.length ≤ _; rw [sizeLine_eq]; exact ar383 h64))
  refine wpAny_bind (wpAny_newList ?_ (Nat.zero_le _))
  refine wpAny_holding ?_
  show wpAny (model prog w) A _ P E { s with heap := ((s.heap.update a (Obj.mapSeq fun _ => (#[] : Array Value))).push (seqObj "tuple" vs.toArray 0)).push (seqObj "list" #[] 0) }
  dsimp only
  have hn2 : ¬ vs.toArray.size < 2 := by rw [List.size_toArray]; exact ar384 h2
  rw [if_neg hn2, if_neg hn2]
  refine wpAny_bind (hk _ keep3 _ ?_)
  refine wpAny_bind (wpAny_mono (kat_run (κ := κ) (Q := fun st' s' => ∃ p : Array Nat, p.size = vs.length ∧ arrOf st' = p.map (kas_item (vs.toArray.zip vs.toArray)) ∧ failedOf st' = none ∧ p = KasT.ev lt (kas_sort vs.length) ∧
      s' = { s with heap := ((s.heap.update a (Obj.mapSeq fun _ => (#[] : Array Value))).push (seqObj "tuple" vs.toArray 0)).push (seqObj "list" #[] 0) })
    (G := fun p s' => p = KasT.ev lt (kas_sort vs.length) ∧ s' = { s with heap := ((s.heap.update a (Obj.mapSeq fun _ => (#[] : Array Value))).push (seqObj "tuple" vs.toArray 0)).push (seqObj "list" #[] 0) })
    rfl h2 h64 (fun p' st' s' a1 a2 a3 a4 => ⟨p', a1, a2, a3, a4⟩) (bd_wp (hc _ keep3) _ (bd_sort (by exact ar385 h2)) ⟨rfl, rfl⟩)) ?_ fun _ _ e => e)
  rintro ⟨⟨⟩, st'⟩ s' ⟨p, hp, har, hf, rfl, rfl⟩
  dsimp only
  have hout : (arrOf st').map (·.2) = List.toArray (sorts lt vs) := kat_snds rfl har
  have hsz : (List.toArray (sorts lt vs)).size = vs.length := by unfold sorts; rw [List.size_toArray, List.length_map, Array.length_toList, hp]
  rw [hout]
  have s2 := Heap.SameBut.update (((s.heap.update a (Obj.mapSeq fun _ => (#[] : Array Value))).push (seqObj "tuple" vs.toArray 0)).push (seqObj "list" #[] 0)) a (Obj.mapSeq fun _ => List.toArray (sorts lt vs))
  refine wpAny_bind (seqEpoch_at hoa rfl ?_)
  refine wpAny_bind (listUpdate_at hoa rfl ?_ (Nat.zero_le _) (Nat.le_trans (Nat.le_of_eq hsz) (by rw [sizeLine_eq]; exact ar386 h64)))
  rw [hf]
  simp only [bne_self_eq_false, Bool.false_eq_true, if_false]
  exact wpAny_pure (h _ (fun b o q e => s2.extBut b o q (keep3 b o q e)) ⟨_, get?_update_seq hoa fun _ => List.toArray (sorts lt vs)⟩)
theorem srt_sorted {l : Addr} {Q : Value → Shared → Prop} (hl : s.heap.IsList l vs.toArray) (h2 : 2 ≤ vs.length) (h64 : vs.length < 64)
    (hk : ∀ (E : Value → Shared → Prop) (h' : Heap), (∀ b o, s.heap.get? b = some o → h'.get? b = some o) → ∀ Q : SortKind → Shared → Prop, Q κ { s with heap := h' } → wpAny (model prog w) A.in1.in1 (keyKind' vs.toArray) Q E { s with heap := h' })
    (hc : ∀ h' : Heap, (∀ b o, s.heap.get? b = some o → h'.get? b = some o) → ∀ i j C, i < vs.length → j < vs.length → C (lt i j) { s with heap := h' } → kas_ask prog w A.in1.in1 κ vs i j C { s with heap := h' })
    (h : ∀ D h', s.heap.get? D = none → (∀ b o, s.heap.get? b = some o → h'.get? b = some o) → (∃ c, h'.get? D = some (seqObj "list" (List.toArray (sorts lt vs)) c)) → Q (.ref D) { s with heap := h' }) :
    wpAny (model prog w) A (call (.builtin "sorted") [.ref l]) Q E s := by
  refine Calls.call_function_entry kind_sorted plain_sorted entry_sorted (args_sorted1 _) ?_
  unfold Builtin.«sorted»
  refine wpAny_bind (m := checkCount "sorted" 1 1 _) (wpAny_pure ?_)
  refine wpAny_bind (collect_list hl ?_ (by rw [sizeLine_eq]; exact ar383 h64))
  refine wpAny_bind (wpAny_newList ?_ (by rw [sizeLine_eq]; exact ar383 h64))
  have hsz : ((s.heap.push (seqObj "list" #[] 0)).update s.heap.objs.size (Obj.mapSeq (· ++ vs.toArray))).objs.size = s.heap.objs.size + 1 := by
    rw [Heap.size_update, size_push']
  have hoL : (((s.heap.push (seqObj "list" #[] 0)).update s.heap.objs.size (Obj.mapSeq (· ++ vs.toArray))).push (seqObj "list" vs.toArray 0)).get? (s.heap.objs.size + 1) = some (seqObj "list" vs.toArray 0) := by
    rw [← hsz]; exact Heap.get?_push_size _ rfl
  have keep : ∀ b o, s.heap.get? b = some o → (((s.heap.push (seqObj "list" #[] 0)).update s.heap.objs.size (Obj.mapSeq (· ++ vs.toArray))).push (seqObj "list" vs.toArray 0)).get? b = some o := fun b o q => by
    have hlt : b < s.heap.objs.size := Heap.lt_size q
    rw [Heap.get?_push_ne _ _ _ (by rw [hsz]; exact Nat.ne_of_lt (Nat.lt_succ_of_lt hlt)), Heap.get?_update_ne _ _ _ _ (Nat.ne_of_lt hlt), Heap.get?_push_ne _ _ _ (Nat.ne_of_lt hlt)]
    exact q
  have hno : s.heap.get? (s.heap.objs.size + 1) = none := Heap.get?_none_of_le (Nat.le_succ _)
  show wpAny _ _ _ _ _ { s with heap := ((s.heap.push (seqObj "list" #[] 0)).update s.heap.objs.size (Obj.mapSeq (· ++ vs.toArray))).push (seqObj "list" vs.toArray 0) }
  rw [hsz]
  refine wpAny_bind (wpAny_holding (wpAny_call_entry slot_list_sort ⟨_, hoL, rfl⟩ entry_list_sort ?body (args_list_sort _)))
  case body =>
    have kp : ∀ h' : Heap, (∀ b o, b ≠ s.heap.objs.size + 1 → (((s.heap.push (seqObj "list" #[] 0)).update s.heap.objs.size (Obj.mapSeq (· ++ vs.toArray))).push (seqObj "list" vs.toArray 0)).get? b = some o → h'.get? b = some o) → ∀ b o, s.heap.get? b = some o → h'.get? b = some o :=
      fun h' x b o e => x b o (Nat.ne_of_lt (Nat.lt_succ_of_lt (Heap.lt_size e))) (keep b o e)
    refine srt_list_sort (κ := κ) (lt := lt) (s := { s with heap := ((s.heap.push (seqObj "list" #[] 0)).update s.heap.objs.size (Obj.mapSeq (· ++ vs.toArray))).push (seqObj "list" vs.toArray 0) }) hoL h2 h64
      (fun h' x Q hq => hk _ h' (kp h' x) Q hq) (fun h' x i j C hi hj hq => hc h' (kp h' x) i j C hi hj hq) fun h' x y => ⟨_, rfl, wpAny_pure ⟨_, rfl, h _ h' hno (kp h' x) y⟩⟩
end

end
section
set_option autoImplicit false
set_option maxRecDepth 100000
noncomputable def lexS (p q : Str × Str) : Bool := if L p.1 = L q.1 then decide (L p.2 < L q.2) else decide (L p.1 < L q.1)
/-- sorted() of pairs of strs -/
noncomputable def wSorted : WF := fun vs Q σ => ∃ (v : V) (ps : List (Str × Str)) (key : Str × Str → Nat), vs = [v] ∧ aList σ v = some (ps.map prV) ∧ 2 ≤ ps.length ∧ ps.length < 64 ∧ (∀ p ∈ ps, ∀ q ∈ ps, lexS p q = decide (key p < key q)) ∧
  ∀ out : List (Str × Str), out.Perm ps → out.Pairwise (fun p q => key p ≤ key q) → newL Q (out.map prV) σ
theorem tup_of {g : FM} {φ : List Addr} {p : Str × Str} {w : Value} (h : VR g φ (prV p) w) : ∃ a n t u, w = .ref a ∧ g a = some (tupObj #[.str p.1 t, .str p.2 u] n) := by
  obtain ⟨a, arr, n, rfl, hg, hvv⟩ := h
  obtain ⟨v1, v2, hl, ⟨ta, rfl⟩, ⟨tb, rfl⟩⟩ := VRs.two hvv
  refine ⟨a, n, ta, tb, rfl, ?_⟩
  rw [hg, ← Array.toArray_toList (xs := arr), hl]
section
variable {prog : Program} {w : World} {A : Around} {E : Value → Shared → Prop} {s : Shared}
theorem lt_tups {x y : Addr} {n k : Nat} {p q : Str × Str} {t u t' u' : Tok} {Q : Bool → Shared → Prop} (hx : s.heap.get? x = some (tupObj #[.str p.1 t, .str p.2 u] n)) (hy : s.heap.get? y = some (tupObj #[.str q.1 t', .str q.2 u'] k))
    (h : Q (lexS p q) s) : wpAny (model prog w) A (keyLt' (tuples' true) (.ref x) (.ref y)) Q E s := by
  refine kat_lt hx rfl hy rfl ?_
  show KatLex prog w A true _ Q [(.str p.1 t, .str q.1 t'), (.str p.2 u, .str q.2 u')] 0 s
  refine kat_cons (PyProof.Rows.eqBool_str (kat_go (fun e => ?_) fun e => ?_))
  · refine kat_yes (kat_cons (PyProof.Rows.eqBool_str (kat_go (fun e' => ?_) fun e' => ?_)))
    · refine kat_yes (kat_nil ?_)
      have e1 : p.1 = q.1 := by simpa using e
      have e2 : p.2 = q.2 := by simpa using e'
      have : lexS p q = decide ((#[Value.str p.1 t, .str p.2 u] : Array Value).size < (#[Value.str q.1 t', .str q.2 u'] : Array Value).size) := by
        unfold lexS
        rw [e1, e2, if_pos rfl]
        simp
      rw [← this]; exact h
    · refine kat_no ?_
      show wpAny _ _ (oneLt' false (.str p.2 u) (.str q.2 u')) _ _ _
      have e1 : p.1 = q.1 := by simpa using e
      refine kat_one _ _ (P.lt_str ?_)
      show Q _ s
      have : lexS p q = decide (p.2.cps.toList < q.2.cps.toList) := by unfold lexS; rw [e1, if_pos rfl]
      rw [← this]; exact h
  · refine kat_no ?_
    show wpAny _ _ (oneLt' true (.str p.1 t) (.str q.1 t')) _ _ _
    have e1 : ¬ L p.1 = L q.1 := fun z => by
      have : p.1 = q.1 := by rw [← S_L p.1, z, S_L]
      rw [this] at e; simp at e
    refine oneLt_str ?_
    have : lexS p q = decide (p.1.cps.toList < q.1.cps.toList) := by unfold lexS; rw [if_neg e1]
    rw [← this]; exact h
end
theorem tups_firsts {g : FM} {φ : List Addr} {h : Heap} (keep : ∀ b o, g b = some o → h.get? b = some o) : ∀ {ps : List (Str × Str)} {ws : List Value}, VRs g φ (ps.map prV) ws → ∃ fs, fs.length = ps.length ∧ KatTups h ws fs ∧ ∀ v ∈ fs, ∃ x t, v = Value.str x t
  | [], ws, hv => by
    have : ws = [] := hv
    subst this; exact ⟨[], rfl, .nil, fun v hv => by cases hv⟩
  | p :: ps, ws, hv => by
    obtain ⟨w, r, rfl, h1, h2⟩ := hv
    obtain ⟨a, n, t, u, rfl, hg⟩ := tup_of h1
    obtain ⟨fs, hl, ht, hf⟩ := tups_firsts keep h2
    refine ⟨.str p.1 t :: fs, by simp [hl], .cons (keep _ _ hg) rfl rfl rfl ht, fun v hv => ?_⟩
    rcases List.mem_cons.mp hv with rfl | hv
    · exact ⟨_, _, rfl⟩
    · exact hf v hv
theorem vrs_pick {g : FM} {φ : List Addr} {ps : List (Str × Str)} {ws : List Value} (h : VRs g φ (ps.map prV) ws) : ∀ is : List Nat, (∀ i ∈ is, i < ps.length) → VRs g φ ((is.map fun i => ps.getD i (S [], S [])).map prV) (is.map fun i => ws.getD i Value.none)
  | [], _ => rfl
  | i :: is, hi => by
    have h1 := hi i List.mem_cons_self
    obtain ⟨w, e1, e2⟩ := h.get (i := i) (v := prV ps[i]) (by rw [List.getElem?_map, List.getElem?_eq_getElem h1]; rfl)
    refine ⟨w, _, ?_, ?_, vrs_pick h is fun j hj => hi j (List.mem_cons_of_mem _ hj)⟩
    · rw [List.map_cons, List.getD_eq_getElem?_getD, e1]; rfl
    · show VR g φ (prV (ps.getD i (S [], S []))) w
      rw [List.getD_eq_getElem?_getD, List.getElem?_eq_getElem h1]; exact e2
set_option maxHeartbeats 1000000 in
theorem FnOk.sorted {G : Glb} {ℓ : Nat} : FnOk G ℓ (.builtin "sorted") wSorted := by
  intro A s g φ σ vs ws Q cx ok S' hv hW K E k
  obtain ⟨v, ps, key, rfl, hl, h2, h64, hkey, hQ⟩ := hW
  obtain ⟨w, rfl, hv1⟩ := hv.one
  have hv := hv1; clear hv1
  obtain ⟨a, arr, n, rfl, ho, hvs⟩ := aList_obj S' hv hl
  have hlen := hvs.length
  rw [List.length_map] at hlen
  have hat : ∀ i, i < ps.length → ∃ x m t u, arr.toList.getD i Value.none = .ref x ∧ g x = some (tupObj #[.str (ps.getD i (S [], S [])).1 t, .str (ps.getD i (S [], S [])).2 u] m) := fun i hi => by
    obtain ⟨w, e1, e2⟩ := hvs.get (i := i) (v := prV ps[i]) (by rw [List.getElem?_map, List.getElem?_eq_getElem hi]; rfl)
    obtain ⟨x, m, t, u, rfl, hg⟩ := tup_of e2
    refine ⟨x, m, t, u, by rw [List.getD_eq_getElem?_getD, e1]; rfl, ?_⟩
    rw [List.getD_eq_getElem?_getD, List.getElem?_eq_getElem hi]; exact hg
  have hmem : ∀ i, i < ps.length → ps.getD i (S [], S []) ∈ ps := fun i hi => by
    rw [List.getD_eq_getElem?_getD, List.getElem?_eq_getElem hi]; exact List.getElem_mem hi
  obtain ⟨p, hp, hup, hperm⟩ := sort_ok (key := fun i => key (ps.getD i (S [], S []))) (lt := fun i j => decide (key (ps.getD i (S [], S [])) < key (ps.getD j (S [], S [])))) (fun i j => rfl) (n := ps.length) (by exact ar387 h2)
  have hps : p.size = ps.length := by have := hperm.size_eq; simpa using this
  have hpm : ∀ i ∈ p.toList, i < ps.length := fun i hi => by
    have := hperm.mem_iff.mp (Array.mem_toList_iff.mp hi)
    simpa using this
  refine of_toks ok.toks (srt_sorted (vs := arr.toList) (κ := tuples' true) (lt := fun i j => decide (key (ps.getD i (S [], S [])) < key (ps.getD j (S [], S [])))) (by rw [Array.toArray_toList]; exact isListObj ho) (by exact ar388 h2 hlen) (by exact ar389 hlen h64) (fun E h' hk Q hq => ?_) (fun h' hk i j C hi hj hq => ?_) fun D h' hD hk hs htk => ?_)
  · obtain ⟨fs, hfl, hft, hfs⟩ := tups_firsts (h := h') (fun b o e => hk b o (S'.keep b o e)) hvs
    exact kat_kind (T := .type "str") hft (by exact ar390 h2 hfl) (fun v hv => by obtain ⟨x, t, rfl⟩ := hfs v hv; exact Looks.of_pure rfl) (by decide) hq
  · obtain ⟨x, m, t, u, e1, hg1⟩ := hat i (by exact ar251 hi hlen)
    obtain ⟨y, m', t', u', e2, hg2⟩ := hat j (by exact ar251 hj hlen)
    show wpAny _ _ (keyLt' (tuples' true) (arr.toList.getD i Value.none) (arr.toList.getD j Value.none)) C _ _
    rw [e1, e2]
    refine lt_tups (hk _ _ (S'.keep _ _ hg1)) (hk _ _ (S'.keep _ _ hg2)) ?_
    rw [hkey _ (hmem i (by exact ar251 hi hlen)) _ (hmem j (by exact ar251 hj hlen))]
    exact hq
  · obtain ⟨c, hs⟩ := hs
    have hsort : sorts (fun i j => decide (key (ps.getD i (S [], S [])) < key (ps.getD j (S [], S [])))) arr.toList = p.toList.map fun i => arr.toList.getD i Value.none := by
      unfold sorts
      rw [hlen, hp]
    rw [hsort] at hs
    refine Cont.listAt k ok S' (arr := List.toArray (p.toList.map fun i => arr.toList.getD i Value.none)) (n := c) (ys := (p.toList.map fun i => ps.getD i (S [], S [])).map prV) hk hD hs (by simpa using vrs_pick hvs p.toList hpm) (hQ _ ?_ ?_) htk
    · have h1 : p.toList.Perm (List.range ps.length) := by
        have := Array.perm_iff_toList_perm.mp hperm
        simpa using this
      have h2 : (List.range ps.length).map (fun i => ps.getD i (S [], S [])) = ps := by
        apply List.ext_getElem?
        intro i
        by_cases hi : i < ps.length
        · rw [List.getElem?_map, List.getElem?_range hi, Option.map_some, List.getD_eq_getElem?_getD, List.getElem?_eq_getElem hi]; rfl
        · rw [List.getElem?_eq_none (by simpa using hi), List.getElem?_eq_none (by exact ar3 hi)]
      have := h1.map fun i => ps.getD i (S [], S [])
      rw [h2] at this
      exact this
    · rw [List.pairwise_iff_getElem]
      intro i j hi hj hij
      rw [List.length_map, Array.length_toList] at hi hj
      have := hup i j (by exact ar44 hij) (by exact ar251 hj hps)
      unfold Kx at this
      simpa [Array.getD, hi, hj] using this

end
section
set_option autoImplicit false
set_option maxRecDepth 100000

section
variable {G : Glb} {P : Params} {ℓ : Nat}
theorem accI (T : TopA G P) : AccI G (hd2.heap_39 P) := ⟨by rw [T.C]; kernel_rfl, by rw [T.C]; kernel_rfl, by rw [T.C]; kernel_rfl⟩
theorem def70 (T : TopA G P) : IsDef G 70 (fd 70) (bd 70) [] := isDef T.T 70 _ rfl rfl rfl rfl rfl rfl ⟨_, _, _, _, rfl, rfl, rfl, rfl⟩ rfl rfl rfl
/-- the pieces from k on leave the pile -/
noncomputable def wPopFrom : WF := fun vs Q σ => ∃ (i : Nat) (xs : List V) (k : Nat), (vs = [.ref i, .int k] ∨ (vs = [.ref i] ∧ k = 0)) ∧ σ[i]? = some (.acc xs) ∧ xs.length ≤ 2 ^ 20 ∧ k ≤ xs.length ∧ newL (fun v σ' => Q v (σ'.set i (.acc (xs.take k)))) (xs.drop k) σ
noncomputable def full70 : List V → Option (List V)
  | [a] => some [a, .int 0]
  | [a, b] => some [a, b]
  | _ => none
section
variable {Q : V → Sto → Prop} {QS : Fl → Rho → Sto → Prop} {ρ : Rho} {σ : Sto}
theorem p_sliceA {Wo Wi : WE} (h : Wo (fun ov σ₁ => Wi (fun v σ₂ => ∃ (i : Nat) (xs : List V) (k : Nat), ov = .ref i ∧ v = .int k ∧ σ₂[i]? = some (.acc xs) ∧ xs.length ≤ 2 ^ 20 ∧ k ≤ xs.length ∧ newL Q (xs.drop k) σ₂) ρ σ₁) ρ σ) : wSliceA Wo Wi Q ρ σ := h
theorem p_cutA {Wv Wo Wi : WE} (h : Wv (fun v σ₁ => Wo (fun ov σ₂ => Wi (fun iv σ₃ => ∃ (i : Nat) (xs : List V) (k : Nat), v = .list [] ∧ ov = .ref i ∧ iv = .int k ∧ σ₃[i]? = some (.acc xs) ∧ xs.length ≤ 2 ^ 20 ∧ k ≤ xs.length ∧ QS .nx ρ (σ₃.set i (.acc (xs.take k)))) ρ σ₂) ρ σ₁) ρ σ) : wCutA Wv Wo Wi QS ρ σ := h
end
theorem fn70 (T : TopA G P) : FnOk G (ℓ + 1) (.ref 70) wPopFrom := by
  apply FnOk.mono
  apply FnOk.defB T.T.O (def70 T) (ps := ["self", "i"]) (full := full70)
  focus (intro x hx; simp only [List.mem_cons, List.not_mem_nil, or_false] at hx; rcases hx with rfl | rfl <;> walk_at "cs")
  focus (intro s g φ σ vs ws vs' S hv hf)
  · match vs, hf with
    | [a], hf =>
      cases hf
      obtain ⟨w, rfl, h1⟩ := hv.one
      exact ⟨[w, .int 0 324], ⟨w, _, rfl, h1, ⟨_, _, rfl, ⟨324, rfl⟩, rfl⟩⟩, BindsTo.of_defaults rfl (S.inb _ _ (T.T.K _ _ rfl)) rfl rfl rfl⟩
    | [a, b], hf =>
      cases hf
      obtain ⟨w, u, rfl, h1, h2⟩ := hv.two
      exact ⟨[w, u], hv, BindsTo.of_defaults rfl (S.inb _ _ (T.T.K _ _ rfl)) rfl rfl rfl⟩
  focus (apply s_cons; (focus (apply s_assign; (focus (apply Ev.sliceA (acc1 T) (accI T); (focus walk_at "ev"); (focus walk_at "ev"); (focus exact fun _ _ => rfl); (focus exact fun _ _ => rfl))); (focus walk_at "cs"); (focus exact fun _ => rfl))); (focus (apply s_cons; (focus (apply Sx.cutA (acc1 T) (accI T); (focus walk_at "ev"); (focus walk_at "ev"); (focus walk_at "ev"); (focus exact fun _ => rfl))); (focus walk_at "es"))))
  rintro vs Q σ ⟨i, xs, k, hvs, hm, hl, hk, hQ⟩
  refine ⟨[.ref i, .int k], ?_, _, rfl, ?_⟩
  · rcases hvs with rfl | ⟨rfl, rfl⟩ <;> rfl
  repeat' walk_at "st"
  refine p_sliceA ?_
  repeat' walk_at "st"
  refine ⟨i, xs, k, rfl, rfl, hm, hl, hk, ?_⟩
  have step : ∀ (v : V) (τ : Sto), Q v ((σ ++ τ).set i (.acc (xs.take k))) → seqK (wSeq (wCutA (wList lNil) (wName (Str.ofString "self")) (wName (Str.ofString "i"))) (wSeq (wRet (wName (Str.ofString "popped"))) sNil)) (retK Q) Fl.nx
      (upd (upd (upd (fun x => none) (Str.ofString "self") (V.ref i)) (Str.ofString "i") (V.int ↑k)) (Str.ofString "popped") v) (σ ++ τ) := by
    intro v τ hq
    repeat' walk_at "st"
    refine p_cutA ?_
    repeat' walk_at "st"
    refine ⟨by decide, .inl ?_⟩
    repeat' walk_at "st"
    refine ⟨i, xs, k, rfl, rfl, rfl, by rw [List.getElem?_append_left (List.getElem?_eq_some_iff.mp hm).1]; exact hm, hl, hk, ?_⟩
    repeat' walk_at "st"
    exact hq
  rcases hQ with hQ | hQ
  · refine .inl ?_
    have := step (.list (xs.drop k)) [] (by rw [List.append_nil]; exact hQ)
    rw [List.append_nil] at this
    exact this
  · exact .inr (step _ _ hQ)
theorem def84 (T : TopA G P) : IsDef G 84 (fd 84) (bd 84) [] := isDef T.T 84 _ rfl rfl rfl rfl rfl rfl ⟨_, _, _, _, rfl, rfl, rfl, rfl⟩ rfl rfl rfl
theorem def91 (T : TopA G P) : IsDef G 91 (fd 91) (bd 91) [] := isDef T.T 91 _ rfl rfl rfl rfl rfl rfl ⟨_, _, _, _, rfl, rfl, rfl, rfl⟩ rfl rfl rfl
theorem fn84 (T : TopA G P) (B : ∃ bm ob, BMods G bm ob) : FnOk G (ℓ + 1) (.ref 84) (wLenA 79) :=
  fn_lenA (acc1 T) (K := hd2.heap_39 P) (xa := Str.ofString "fws") (xb := Str.ofString "part")
    { mod := B, code := ⟨83, rfl, by kernel_rfl⟩, iter := by rw [T.C]; kernel_rfl, self := by decide +kernel, co := rfl, clos := fun _ => rfl, cell := by decide +kernel, h0 := by decide +kernel, na := by decide +kernel, nb := by decide +kernel, ab := by decide +kernel, kind := rfl, da := by decide +kernel, db := by decide +kernel }
    (def84 T) (by decide +kernel) (by decide +kernel) (by rw [T.T.mg]; rfl) (by rw [T.T.mg]; rfl) (T.T.mb _ _ (by decide +kernel)) (T.T.mb _ _ (by decide +kernel)) (by rw [T.C]; kernel_rfl) (by rw [T.C]; kernel_rfl) (fun ws h => by obtain ⟨a, rfl⟩ := List.length_eq_one_iff.mp h; rfl)
theorem fn91 (T : TopA G P) (B : ∃ bm ob, BMods G bm ob) : FnOk G (ℓ + 1) (.ref 91) (wStrA 86) :=
  fn_strA (acc1 T) (K := hd2.heap_39 P) (xa := Str.ofString "fws") (xb := Str.ofString "part")
    { mod := B, code := ⟨90, rfl, by kernel_rfl⟩, iter := by rw [T.C]; kernel_rfl, self := by decide +kernel, co := rfl, clos := fun _ => rfl, cell := by decide +kernel, h0 := by decide +kernel, na := by decide +kernel, nb := by decide +kernel, ab := by decide +kernel, kind := rfl, da := by decide +kernel, db := by decide +kernel }
    (def91 T) (by decide +kernel) (by decide +kernel) (by decide +kernel) (by rw [T.T.mg]; rfl) rfl rfl (fun ws h => by obtain ⟨a, rfl⟩ := List.length_eq_one_iff.mp h; rfl)
end

end
section
set_option autoImplicit false
/-- a piece: its writer, its reader -/
noncomputable abbrev Pc := Nat × Nat
/-- names below y -/
noncomputable def nbl (p : List Pc) (y : Nat) : Nat := p.countP fun z => decide (z.2 < y)
/-- one piece laid on a pile -/
noncomputable def stay (p : List Pc) (x : Pc) : Nat := nbl p (x.2 + 1)
noncomputable def pileS (p : List Pc) (x : Pc) : List Pc := p.take (stay p x) ++ x :: (p.drop (stay p x)).tail
noncomputable def offS (p : List Pc) (x : Pc) : Option Pc := (p.drop (stay p x)).head?
noncomputable abbrev Up (p : List Pc) : Prop := p.Pairwise fun a b => a.2 ≤ b.2

theorem nbl_append (p q : List Pc) (y : Nat) : nbl (p ++ q) y = nbl p y + nbl q y := by unfold nbl; rw [List.countP_append]
theorem nbl_cons (x : Pc) (p : List Pc) (y : Nat) : nbl (x :: p) y = nbl p y + if x.2 < y then 1 else 0 := by
  unfold nbl; rw [List.countP_cons]; simp
theorem nbl_le (p : List Pc) (y : Nat) : nbl p y ≤ p.length := List.countP_le_length
theorem nbl_mono (p : List Pc) {y z : Nat} (h : y ≤ z) : nbl p y ≤ nbl p z :=
  List.countP_mono_left fun a _ h2 => by simp only [decide_eq_true_eq] at h2 ⊢; exact ar1 h2 h
/-- a pile that goes up: what is below y stands ahead -/
theorem up_take : ∀ (p : List Pc), Up p → ∀ y, (∀ z ∈ p.take (nbl p y), z.2 < y) ∧ (∀ z ∈ p.drop (nbl p y), y ≤ z.2)
  | [], _, y => by simp
  | a :: p, h, y => by
    have hc := List.pairwise_cons.mp h
    obtain ⟨i1, i2⟩ := up_take p hc.2 y
    rw [nbl_cons]
    by_cases ha : a.2 < y
    · rw [if_pos ha, List.take_succ_cons, List.drop_succ_cons]
      refine ⟨fun z hz => ?_, i2⟩
      rcases List.mem_cons.mp hz with rfl | hz
      · exact ha
      · exact i1 z hz
    · rw [if_neg ha, Nat.add_zero]
      have h0 : nbl p y = 0 := by
        unfold nbl
        rw [List.countP_eq_zero]
        intro z hz
        have := hc.1 z hz
        simp only [decide_eq_true_eq]
        exact ar2 this ha
      rw [h0]
      refine ⟨by simp, fun z hz => ?_⟩
      rcases List.mem_cons.mp (by simpa using hz) with rfl | hz
      · exact ar3 ha
      · have := hc.1 z hz; exact ar4 this ha
theorem nbl_all {p : List Pc} {y : Nat} (h : ∀ z ∈ p, z.2 < y) : nbl p y = p.length := by
  unfold nbl; rw [List.countP_eq_length]; intro z hz; simpa using h z hz
theorem nbl_none {p : List Pc} {y : Nat} (h : ∀ z ∈ p, y ≤ z.2) : nbl p y = 0 := by
  unfold nbl; rw [List.countP_eq_zero]; intro z hz; have := h z hz; simp only [decide_eq_true_eq]; exact ar5 this

/-- how the counts change -/
theorem step_nbl {p : List Pc} (h : Up p) (x : Pc) (y : Nat) : nbl (pileS p x) y = if y ≤ x.2 then nbl p y else max (nbl p y) (nbl p (x.2 + 1) + 1) := by
  obtain ⟨t1, t2⟩ := up_take p h (x.2 + 1)
  unfold pileS stay
  generalize hk : nbl p (x.2 + 1) = k at t1 t2
  have hkl : k ≤ p.length := by rw [← hk]; exact nbl_le _ _
  have hsplit : nbl p y = nbl (p.take k) y + nbl (p.drop k) y := by rw [← nbl_append, List.take_append_drop]
  rw [nbl_append, nbl_cons]
  have htl : (p.take k).length = k := by rw [List.length_take]; lia
  by_cases hy : y ≤ x.2
  · rw [if_pos hy, if_neg (by exact ar5 hy), hsplit]
    have e1 : nbl (p.drop k) y = 0 := nbl_none fun z hz => by have := t2 z hz; exact ar6 hy this
    have e2 : nbl (p.drop k).tail y = 0 := nbl_none fun z hz => by have := t2 z (List.mem_of_mem_tail hz); exact ar6 hy this
    exact ar7 e2 e1
  · rw [if_neg hy, if_pos (by exact ar8 hy)]
    have e0 : nbl (p.take k) y = k := (nbl_all fun z hz => by have := t1 z hz; exact ar9 this hy).trans htl
    rw [e0] at hsplit ⊢
    cases hd : p.drop k with
    | nil => rw [hd] at hsplit; simp [nbl] at hsplit ⊢; lia
    | cons a r =>
      rw [hd, nbl_cons] at hsplit
      rw [List.tail_cons]
      have hua : Up (a :: r) := by rw [← hd]; exact h.sublist (List.drop_sublist _ _)
      by_cases ha : a.2 < y
      · rw [if_pos ha] at hsplit; lia
      · rw [if_neg ha] at hsplit
        have : nbl r y = 0 := nbl_none fun z hz => by have := (List.pairwise_cons.mp hua).1 z hz; exact ar4 this ha
        lia
theorem step_up {p : List Pc} (h : Up p) (x : Pc) : Up (pileS p x) := by
  obtain ⟨t1, t2⟩ := up_take p h (x.2 + 1)
  unfold pileS stay
  refine List.pairwise_append.mpr ⟨h.sublist (List.take_sublist _ _), List.pairwise_cons.mpr ⟨fun z hz => ?_, h.sublist ((List.tail_sublist _).trans (List.drop_sublist _ _))⟩, fun a ha b hb => ?_⟩
  · have := t2 z (List.mem_of_mem_tail hz); exact ar10 this
  · have h1 := t1 a ha
    rcases List.mem_cons.mp hb with rfl | hb
    · exact ar11 h1
    · have := t2 b (List.mem_of_mem_tail hb); exact ar12 h1 this
theorem step_perm (p : List Pc) (x : Pc) : (pileS p x ++ (offS p x).toList).Perm (x :: p) := by
  unfold pileS offS
  have e : p = p.take (stay p x) ++ p.drop (stay p x) := (List.take_append_drop _ _).symm
  cases hd : p.drop (stay p x) with
  | nil =>
    rw [hd, List.append_nil] at e
    simp only [List.tail_nil, List.head?_nil, Option.toList_none, List.append_nil]
    rw [← e]
    exact List.perm_append_singleton _ _
  | cons a r =>
    rw [hd] at e
    simp only [List.tail_cons, List.head?_cons, Option.toList_some]
    rw [List.append_assoc]
    refine List.Perm.trans ?_ ((List.perm_middle (l₁ := p.take (stay p x)) (l₂ := a :: r) (a := x)).trans (by rw [← e]))
    refine List.Perm.append_left _ ?_
    rw [List.cons_append]
    exact List.Perm.cons _ (List.perm_append_singleton _ _)

end
section
set_option autoImplicit false
/-- an item: when (whose letter is being laid), the piece -/
noncomputable abbrev It := Nat × Pc
noncomputable def runP : List Pc → List It → List Pc
  | p, [] => p
  | p, o :: r => runP (pileS p o.2) r
noncomputable def runO : List Pc → List It → List It
  | _, [] => []
  | p, o :: r => (offS p o.2).toList.map (fun y => (o.1, y)) ++ runO (pileS p o.2) r
noncomputable def runT : List Pc → List It → List Nat
  | _, [] => []
  | p, o :: r => (if (offS p o.2).isSome then [] else [o.1]) ++ runT (pileS p o.2) r
theorem runP_append : ∀ (p : List Pc) (a b : List It), runP p (a ++ b) = runP (runP p a) b
  | _, [], _ => rfl
  | p, o :: a, b => runP_append (pileS p o.2) a b
theorem runO_append : ∀ (p : List Pc) (a b : List It), runO p (a ++ b) = runO p a ++ runO (runP p a) b
  | _, [], _ => rfl
  | p, o :: a, b => by
    show _ ++ runO (pileS p o.2) (a ++ b) = (_ ++ _) ++ _
    rw [runO_append, List.append_assoc]; rfl
theorem runP_up : ∀ {p : List Pc} (I : List It), Up p → Up (runP p I)
  | _, [], h => h
  | _, o :: r, h => runP_up r (step_up h o.2)
theorem runP_ge : ∀ {p : List Pc} (I : List It), Up p → ∀ y, nbl p y ≤ nbl (runP p I) y
  | _, [], _, _ => Nat.le_refl _
  | p, o :: r, h, y => by
    refine Nat.le_trans ?_ (runP_ge r (step_up h o.2) y)
    rw [step_nbl h]; split <;> (first | exact ar13 | lia)
theorem runP_same : ∀ {p : List Pc} (I : List It) {y : Nat}, Up p → (∀ o ∈ I, y ≤ o.2.2) → nbl (runP p I) y = nbl p y
  | _, [], _, _, _ => rfl
  | p, o :: r, y, h, hI => by
    show nbl (runP (pileS p o.2) r) y = _
    rw [runP_same r (step_up h o.2) fun q hq => hI q (List.mem_cons_of_mem _ hq), step_nbl h, if_pos (hI o List.mem_cons_self)]
noncomputable def eqs (I : List It) (y : Nat) : Nat := I.countP fun o => decide (o.2.2 = y)
/-- a writer's letters, laid one behind the other -/
theorem block : ∀ {p : List Pc} (B : List It) (y : Nat), Up p → B.Pairwise (fun a b => a.2.2 ≤ b.2.2) → nbl (runP p B) (y + 1) = eqs B y + max (nbl p (y + 1)) (nbl (runP p B) y)
  | p, [], y, h, _ => by
    have : nbl p y ≤ nbl p (y + 1) := nbl_mono p (Nat.le_succ y)
    show nbl p (y + 1) = eqs [] y + max (nbl p (y + 1)) (nbl p y)
    have e : eqs [] y = 0 := rfl
    rw [e, Nat.zero_add, Nat.max_eq_left this]
  | p, o :: B, y, h, hB => by
    have hc := List.pairwise_cons.mp hB
    have ih := block B y (step_up h o.2) hc.2
    have hge := runP_ge B (step_up h o.2) y
    have hm : nbl p y ≤ nbl p (y + 1) := nbl_mono p (Nat.le_succ y)
    have hm2 : ∀ z, z ≤ y → nbl p z ≤ nbl p y := fun z hz => nbl_mono p hz
    have e1 := step_nbl h o.2 (y + 1)
    have e2 := step_nbl h o.2 y
    have e3 : eqs (o :: B) y = eqs B y + if o.2.2 = y then 1 else 0 := by unfold eqs; rw [List.countP_cons]; simp
    show nbl (runP (pileS p o.2) B) (y + 1) = eqs (o :: B) y + max (nbl p (y + 1)) (nbl (runP (pileS p o.2) B) y)
    rw [ih, e3]
    rcases Nat.lt_trichotomy o.2.2 y with q | q | q
    · rw [if_neg (by (first | exact ar14 q | exact ar15 q))] at e1 e2
      rw [if_neg (by exact ar16 q), e1]
      have hB : nbl p (o.2.2 + 1) + 1 ≤ nbl (runP (pileS p o.2) B) y := Nat.le_trans (Nat.le_max_right _ _) (e2 ▸ hge)
      rw [Nat.max_assoc, Nat.max_eq_right hB]; rfl
    · have hs := runP_same (y := y) B (step_up h o.2) fun b hb => by have := hc.1 b hb; exact ar17 q this
      rw [if_neg (by exact ar18 q)] at e1
      rw [if_pos (by exact ar19 q)] at e2
      rw [if_pos q, hs, e1, e2, q]
      rw [Nat.max_eq_right (Nat.le_add_right _ 1), Nat.max_eq_left (Nat.le_succ_of_le hm), Nat.max_eq_left hm, Nat.add_right_comm, Nat.add_assoc]
    · rw [if_pos (by exact ar20 q)] at e1
      rw [if_neg (by exact ar21 q), e1]
      exact ar22

noncomputable abbrev Lx (I : List It) : Prop := I.Pairwise fun a b => a.1 < b.1 ∨ (a.1 = b.1 ∧ a.2.2 ≤ b.2.2)
noncomputable def fl (I : List It) (i : Nat) : List It := I.filter fun o => decide (o.1 < i)
noncomputable def fe (I : List It) (i : Nat) : List It := I.filter fun o => decide (o.1 = i)
noncomputable def fg (I : List It) (i : Nat) : List It := I.filter fun o => decide (i ≤ o.1)
theorem fl_nil {I : List It} {i : Nat} (h : ∀ o ∈ I, i ≤ o.1) : fl I i = [] := by
  unfold fl; rw [List.filter_eq_nil_iff]; intro o ho; have := h o ho; simp only [decide_eq_true_eq]; exact ar5 this
theorem fl_split : ∀ {I : List It} (i : Nat), Lx I → fl I i ++ fg I i = I
  | [], _, _ => rfl
  | o :: I, i, h => by
    have hc := List.pairwise_cons.mp h
    by_cases q : o.1 < i
    · have e1 : fl (o :: I) i = o :: fl I i := by unfold fl; rw [List.filter_cons_of_pos (by simpa using q)]
      have e2 : fg (o :: I) i = fg I i := by unfold fg; rw [List.filter_cons_of_neg (by simpa using q)]
      rw [e1, e2, List.cons_append, fl_split i hc.2]
    · have hge : ∀ b ∈ o :: I, i ≤ b.1 := fun b hb => by
        rcases List.mem_cons.mp hb with rfl | hb
        · exact ar3 q
        · have := hc.1 b hb; exact ar23 this q
      rw [fl_nil hge]
      unfold fg
      rw [List.nil_append, List.filter_eq_self]
      intro b hb; simpa using hge b hb
theorem fl_succ : ∀ {I : List It} (i : Nat), Lx I → fl I (i + 1) = fl I i ++ fe I i
  | [], _, _ => rfl
  | o :: I, i, h => by
    have hc := List.pairwise_cons.mp h
    by_cases q : o.1 < i
    · have e1 : fl (o :: I) i = o :: fl I i := by unfold fl; rw [List.filter_cons_of_pos (by simpa using q)]
      have e2 : fe (o :: I) i = fe I i := by unfold fe; rw [List.filter_cons_of_neg (by simp; exact ar16 q)]
      have e3 : fl (o :: I) (i + 1) = o :: fl I (i + 1) := by unfold fl; rw [List.filter_cons_of_pos (by simp; exact ar24 q)]
      rw [e1, e2, e3, List.cons_append, fl_succ i hc.2]
    · have hge : ∀ b ∈ o :: I, i ≤ b.1 := fun b hb => by
        rcases List.mem_cons.mp hb with rfl | hb
        · exact ar3 q
        · have := hc.1 b hb; exact ar23 this q
      rw [fl_nil hge, List.nil_append]
      unfold fl fe
      refine List.filter_congr fun b hb => ?_
      have := hge b hb
      rw [decide_eq_decide]; exact ar25 this
theorem fe_up {I : List It} (i : Nat) (h : Lx I) : (fe I i).Pairwise fun a b => a.2.2 ≤ b.2.2 := by
  refine List.Pairwise.imp_of_mem (R := fun a b => a.1 < b.1 ∨ (a.1 = b.1 ∧ a.2.2 ≤ b.2.2)) (fun {a b} ha hb hab => ?_) (h.sublist List.filter_sublist)
  have h1 := of_decide_eq_true (List.mem_filter.mp ha).2
  have h2 := of_decide_eq_true (List.mem_filter.mp hb).2
  exact ar26 hab h1 h2
/-- how many of the pile's names are below y, behind the writers below i -/
noncomputable def Gc (I : List It) (i y : Nat) : Nat := nbl (runP [] (fl I i)) y
noncomputable def Mc (I : List It) (i y : Nat) : Nat := I.countP fun o => decide (o.1 = i ∧ o.2.2 = y)
noncomputable def Sc (I : List It) (i y : Nat) : Nat := I.countP fun o => decide (o.1 < i ∧ o.2.2 < y)
theorem eqs_fe (I : List It) (i y : Nat) : eqs (fe I i) y = Mc I i y := by
  unfold eqs fe Mc
  rw [List.countP_filter]
  refine congrArg (fun f => List.countP f I) (funext fun o => ?_)
  rw [← Bool.decide_and]
  rw [decide_eq_decide]; exact ar27
theorem Up_nil : Up [] := List.Pairwise.nil
theorem Gc_succ {I : List It} (h : Lx I) (i y : Nat) : Gc I (i + 1) (y + 1) = Mc I i y + max (Gc I i (y + 1)) (Gc I (i + 1) y) := by
  unfold Gc
  rw [fl_succ i h, runP_append, block _ y (runP_up _ Up_nil) (fe_up i h), eqs_fe]
theorem Gc_zero (I : List It) (y : Nat) : Gc I 0 y = 0 := by
  unfold Gc; rw [fl_nil fun o _ => Nat.zero_le _]; rfl
theorem Gc_zero' (I : List It) (i : Nat) : Gc I i 0 = 0 := nbl_none fun _ _ => Nat.zero_le _
theorem four_bits : ∀ p q r s : Bool, (p && q) = false → (r && s) = false → (if ((p || q) && (r || s)) = true then 1 else 0) + (if (p && r) = true then 1 else 0) = (if (q && s) = true then 1 else 0) + (if (p && (r || s)) = true then 1 else 0) + (if ((p || q) && r) = true then 1 else 0) := by decide
theorem dec_succ (a i : Nat) : decide (a < i + 1) = (decide (a < i) || decide (a = i)) := by
  rw [← Bool.decide_or]; exact decide_eq_decide.mpr Nat.lt_succ_iff_lt_or_eq
theorem dec_off (a i : Nat) : (decide (a < i) && decide (a = i)) = false := by
  rw [← Bool.decide_and]; exact decide_eq_false fun h => absurd h.1 (h.2 ▸ Nat.lt_irrefl _)
theorem Sc_succ (I : List It) (i y : Nat) : Sc I (i + 1) (y + 1) + Sc I i y = Mc I i y + Sc I i (y + 1) + Sc I (i + 1) y := by
  unfold Sc Mc
  induction I with
  | nil => rfl
  | cons o I ih =>
    have e := four_bits _ _ _ _ (dec_off o.1 i) (dec_off o.2.2 y)
    simp only [List.countP_cons, Bool.decide_and, dec_succ] at ih ⊢
    exact ar88 ih e
theorem Sc_zero (I : List It) (y : Nat) : Sc I 0 y = 0 := by unfold Sc; rw [List.countP_eq_zero]; intro o _; simp
theorem Sc_zero' (I : List It) (i : Nat) : Sc I i 0 = 0 := by unfold Sc; rw [List.countP_eq_zero]; intro o _; simp
noncomputable def cn (I : List It) (y : Nat) : Nat := I.countP fun o => decide (o.2.2 < y)
theorem cn_append (a b : List It) (y : Nat) : cn (a ++ b) y = cn a y + cn b y := by unfold cn; rw [List.countP_append]
theorem cn_fl (I : List It) (i y : Nat) : cn (fl I i) y = Sc I i y := by
  unfold cn fl Sc
  rw [List.countP_filter]
  refine congrArg (fun f => List.countP f I) (funext fun o => ?_)
  rw [← Bool.decide_and, decide_eq_decide]; exact ar93
/-- what is laid is in the pile or came off -/
theorem run_nbl : ∀ (p : List Pc) (I : List It) (y : Nat), nbl (runP p I) y + cn (runO p I) y = nbl p y + cn I y
  | p, [], y => rfl
  | p, o :: r, y => by
    have ih := run_nbl (pileS p o.2) r y
    have hp := (step_perm p o.2).countP_eq (fun z : Pc => decide (z.2 < y))
    rw [List.countP_append, List.countP_cons] at hp
    have e1 : cn (o :: r) y = cn r y + if o.2.2 < y then 1 else 0 := by unfold cn; rw [List.countP_cons]; simp
    have e2 : cn (runO p (o :: r)) y = ((offS p o.2).toList.countP fun z => decide (z.2 < y)) + cn (runO (pileS p o.2) r) y := by
      show cn (_ ++ _) y = _
      rw [cn_append]
      congr 1
      unfold cn
      rw [List.countP_map]
      rfl
    show nbl (runP (pileS p o.2) r) y + cn (runO p (o :: r)) y = nbl p y + cn (o :: r) y
    rw [e1, e2]
    unfold nbl at ih ⊢
    simp only [decide_eq_true_eq] at hp
    exact ar96 ih hp
theorem runO_lab : ∀ (p : List Pc) (I : List It), ∀ o ∈ runO p I, ∃ q ∈ I, q.1 = o.1
  | _, [], o, h => nomatch h
  | p, q :: r, o, h => by
    rcases List.mem_append.mp h with h | h
    · obtain ⟨y, _, rfl⟩ := List.mem_map.mp h
      exact ⟨q, List.mem_cons_self, rfl⟩
    · obtain ⟨q', h1, h2⟩ := runO_lab _ r o h
      exact ⟨q', List.mem_cons_of_mem _ h1, h2⟩
theorem runO_fl {I : List It} (h : Lx I) (i : Nat) : fl (runO [] I) i = runO [] (fl I i) := by
  have e := fl_split i h
  have e2 : runO [] I = runO [] (fl I i) ++ runO (runP [] (fl I i)) (fg I i) := by rw [← runO_append, e]
  rw [e2]
  unfold fl
  rw [List.filter_append]
  have h1 : (runO [] (List.filter (fun o => decide (o.1 < i)) I)).filter (fun o => decide (o.1 < i)) = runO [] (List.filter (fun o => decide (o.1 < i)) I) := by
    rw [List.filter_eq_self]
    intro o ho
    obtain ⟨q, hq, e⟩ := runO_lab _ _ o ho
    have := (List.mem_filter.mp hq).2
    rw [← e]; exact this
  have h2 : (runO (runP [] (List.filter (fun o => decide (o.1 < i)) I)) (fg I i)).filter (fun o => decide (o.1 < i)) = [] := by
    rw [List.filter_eq_nil_iff]
    intro o ho
    obtain ⟨q, hq, e⟩ := runO_lab _ _ o ho
    have := of_decide_eq_true (List.mem_filter.mp hq).2
    simp only [decide_eq_true_eq]; exact ar98 this e
  rw [h1, h2, List.append_nil]
/-- S = G + T -/
theorem Sc_split {I : List It} (h : Lx I) (i y : Nat) : Sc I i y = Gc I i y + Sc (runO [] I) i y := by
  have := run_nbl [] (fl I i) y
  rw [cn_fl, ← runO_fl h, cn_fl] at this
  have e : nbl [] y = 0 := rfl
  unfold Gc
  exact ar101 this e

end
section
set_option autoImplicit false
/-- what comes off while one writer's letters are laid isn't below what came off before -/
theorem off_ge : ∀ {p : List Pc} (I : List It) (t x b : Nat), Lx I → (∀ o ∈ I, t ≤ o.1) → (∀ o ∈ I, o.1 = t → x ≤ o.2.2) → (∀ z ∈ p, x < z.2 → b ≤ z.2) → Up p → ∀ o ∈ runO p I, o.1 = t → b ≤ o.2.2
  | p, [], t, x, b, _, _, _, _, _, o, h, _ => nomatch h
  | p, q :: I, t, x, b, hI, ht, hx, hp, hu, o, ho, hot => by
    have hc := List.pairwise_cons.mp hI
    have hq := ht q List.mem_cons_self
    by_cases hqt : q.1 = t
    · have hxq := hx q List.mem_cons_self hqt
      rcases List.mem_append.mp ho with h | h
      · obtain ⟨y, hy, rfl⟩ := List.mem_map.mp h
        have hy' : offS p q.2 = some y := by simpa using hy
        unfold offS stay at hy'
        have hm : y ∈ p.drop (nbl p (q.2.2 + 1)) := List.mem_of_mem_head? (by rw [hy']; rfl)
        have h1 := (up_take p hu (q.2.2 + 1)).2 y hm
        exact hp y (List.mem_of_mem_drop hm) (by exact ar106 hxq h1)
      · refine off_ge I t q.2.2 b hc.2 (fun r hr => ht r (List.mem_cons_of_mem _ hr)) (fun r hr hrt => ?_) (fun z hz hzx => ?_) (step_up hu q.2) o h hot
        · have := hc.1 r hr; exact ar26 this hqt hrt
        · unfold pileS at hz
          rcases List.mem_append.mp hz with hz | hz
          · exact hp z (List.mem_of_mem_take hz) (by exact ar36 hxq hzx)
          · rcases List.mem_cons.mp hz with rfl | hz
            · exact ar107 hzx
            · exact hp z (List.mem_of_mem_drop (List.mem_of_mem_tail hz)) (by exact ar36 hxq hzx)
    · exfalso
      rcases List.mem_append.mp ho with h | h
      · obtain ⟨y, hy, rfl⟩ := List.mem_map.mp h
        exact hqt hot
      · obtain ⟨r, hr, e⟩ := runO_lab _ _ o h
        have := hc.1 r hr
        exact ar108 this e hot hq hqt
theorem runO_lx : ∀ {p : List Pc} (I : List It), Lx I → Up p → Lx (runO p I)
  | p, [], _, _ => List.Pairwise.nil
  | p, q :: I, hI, hu => by
    have hc := List.pairwise_cons.mp hI
    have ih := runO_lx I hc.2 (step_up hu q.2)
    show Lx (_ ++ _)
    cases hoff : offS p q.2 with
    | none => simpa using ih
    | some y =>
      show Lx ((q.1, y) :: runO (pileS p q.2) I)
      refine List.pairwise_cons.mpr ⟨fun o ho => ?_, ih⟩
      obtain ⟨r, hr, e⟩ := runO_lab _ _ o ho
      have h1 := hc.1 r hr
      by_cases ht : o.1 = q.1
      · refine .inr ⟨ht.symm, ?_⟩
        refine off_ge I q.1 q.2.2 y.2 hc.2 (fun s hs => by have := hc.1 s hs; exact ar109 this) (fun s hs hst => by have := hc.1 s hs; exact ar110 this hst) (fun z hz hzx => ?_) (step_up hu q.2) o ho ht
        unfold pileS at hz
        have hsort := hu.sublist (List.drop_sublist (stay p q.2) p)
        unfold offS at hoff
        rcases List.mem_append.mp hz with hz | hz
        · have := (up_take p hu (q.2.2 + 1)).1 z hz; exact ar111 this hzx
        · rcases List.mem_cons.mp hz with rfl | hz
          · exact ar107 hzx
          · cases hd : p.drop (stay p q.2) with
            | nil => rw [hd] at hz; cases hz
            | cons a r =>
              rw [hd] at hz hoff hsort
              cases hoff
              exact (List.pairwise_cons.mp hsort).1 z hz
      · exact .inl (by lia)

noncomputable abbrev Sy (I : List It) : Prop := ∀ i y, Mc I i y = Mc I y i
theorem Gc_sym {I : List It} (h : Lx I) (s : Sy I) : ∀ n i y, i + y ≤ n → Gc I i y = Gc I y i
  | n, 0, y, _ => by rw [Gc_zero, Gc_zero']
  | n, i + 1, 0, _ => by rw [Gc_zero, Gc_zero']
  | 0, i + 1, y + 1, hn => by exact ar112 hn
  | n + 1, i + 1, y + 1, hn => by
    rw [Gc_succ h, Gc_succ h, s i y, Gc_sym h s n i (y + 1) (by exact ar113 hn), Gc_sym h s n (i + 1) y (by exact ar114 hn), Nat.max_comm]
theorem Sc_sym {I : List It} (s : Sy I) : ∀ n i y, i + y ≤ n → Sc I i y = Sc I y i
  | n, 0, y, _ => by rw [Sc_zero, Sc_zero']
  | n, i + 1, 0, _ => by rw [Sc_zero, Sc_zero']
  | 0, i + 1, y + 1, hn => by exact ar112 hn
  | n + 1, i + 1, y + 1, hn => by
    have h1 := Sc_succ I i y
    have h2 := Sc_succ I y i
    have h3 := s i y
    have h4 := Sc_sym s n i (y + 1) (by exact ar113 hn)
    have h5 := Sc_sym s n (i + 1) y (by exact ar114 hn)
    have h6 := Sc_sym s n i y (by exact ar115 hn)
    exact ar116 h1 h2 h3 h4 h5 h6
theorem runO_sy {I : List It} (h : Lx I) (s : Sy I) : Sy (runO [] I) := by
  have hT : ∀ i y, Sc (runO [] I) i y = Sc (runO [] I) y i := fun i y => by
    have h1 := Sc_split h i y
    have h2 := Sc_split h y i
    have h3 := Sc_sym s _ i y (Nat.le_refl _)
    have h4 := Gc_sym h s _ i y (Nat.le_refl _)
    exact ar117 h3 h1 h2 h4
  intro i y
  have h1 := Sc_succ (runO [] I) i y
  have h2 := Sc_succ (runO [] I) y i
  have h3 := hT i y
  have h4 := hT i (y + 1)
  have h5 := hT (i + 1) y
  have h6 := hT (i + 1) (y + 1)
  exact ar118 h1 h2 h3 h4 h5 h6

/-- letters to oneself, of those below k -/
noncomputable def trk (I : List It) (k : Nat) : Nat := I.countP fun o => decide (o.1 = o.2.2 ∧ o.1 < k)
theorem three_bits : ∀ e p q : Bool, (p && q) = false → (if (e && (p || q)) = true then 1 else 0) = (if (e && p) = true then 1 else 0) + (if (e && q) = true then 1 else 0) := by decide
theorem dec_diag (a b k : Nat) : (decide (a = k) && decide (b = k)) = (decide (a = b) && decide (a = k)) := by
  rw [← Bool.decide_and, ← Bool.decide_and]; exact decide_eq_decide.mpr ⟨fun h => ⟨h.1.trans h.2.symm, h.1⟩, fun h => ⟨h.2, h.1.symm.trans h.2⟩⟩
theorem trk_succ (I : List It) (k : Nat) : trk I (k + 1) = trk I k + Mc I k k := by
  unfold trk Mc
  induction I with
  | nil => rfl
  | cons o I ih =>
    have e := three_bits (decide (o.1 = o.2.2)) _ _ (dec_off o.1 k)
    rw [← dec_diag] at e
    simp only [List.countP_cons, dec_succ, Bool.decide_and] at ih ⊢
    exact ar119 ih e
theorem trk_zero (I : List It) : trk I 0 = 0 := by unfold trk; rw [List.countP_eq_zero]; intro o _; simp
theorem min_max_sum (a b : Nat) : min a b + max a b = a + b := by
  rcases Nat.le_total a b with h | h
  · rw [Nat.min_eq_left h, Nat.max_eq_right h]
  · rw [Nat.min_eq_right h, Nat.max_eq_left h, Nat.add_comm]
theorem mg_ar {a b c d a' b' c' d' m m' g g01 g10 g11 mx mn : Nat} (h1 : a + b = m + c + d) (h2 : a' + b' = m' + c' + d') (h3 : b = g + b') (h4 : d = g10 + d') (h5 : c = g01 + c') (h6 : a = g11 + a') (h8 : g11 = m + mx) (hm : mn + mx = g01 + g10) : m' + g = mn := by lia
theorem mg {I : List It} (h : Lx I) (i y : Nat) : Mc (runO [] I) i y + Gc I i y = min (Gc I i (y + 1)) (Gc I (i + 1) y) :=
  mg_ar (Sc_succ I i y) (Sc_succ (runO [] I) i y) (Sc_split h i y) (Sc_split h (i + 1) y) (Sc_split h i (y + 1)) (Sc_split h (i + 1) (y + 1)) (Gc_succ h i y) (min_max_sum _ _)
theorem diag {I : List It} (h : Lx I) (s : Sy I) (k : Nat) : trk I k + trk (runO [] I) k = Gc I k k := by
  induction k with
  | zero => rw [trk_zero, trk_zero, Gc_zero]
  | succ k ih =>
    have h7 := Gc_sym h s _ k (k + 1) (Nat.le_refl _)
    have h6 := mg h k k
    rw [h7, Nat.min_self] at h6
    rw [trk_succ, trk_succ, Gc_succ h k k, h7, Nat.max_self, ← h6, ← ih, Nat.add_add_add_comm, Nat.add_comm (trk I k + _), Nat.add_assoc, Nat.add_comm (Mc (runO [] I) k k)]
/-- what came off, laid in turn, is behind -/
theorem Gc_next {I : List It} (h : Lx I) : ∀ n i y, i + y ≤ n → Gc (runO [] I) (i + 1) (y + 1) ≤ min (Gc I i (y + 1)) (Gc I (i + 1) y)
  | n, i, y, hn => by
    have a : Gc (runO [] I) i (y + 1) ≤ Gc I i y := by
      match i with
      | 0 => rw [Gc_zero]; exact Nat.zero_le _
      | i + 1 =>
        match n with
        | 0 => exact ar120 hn
        | n + 1 => exact Nat.le_trans (Gc_next h n i y (by exact ar121 hn)) (Nat.min_le_right _ _)
    have b : Gc (runO [] I) (i + 1) y ≤ Gc I i y := by
      match y with
      | 0 => rw [Gc_zero']; exact Nat.zero_le _
      | y + 1 =>
        match n with
        | 0 => exact ar122 hn
        | n + 1 => exact Nat.le_trans (Gc_next h n i y (by exact ar123 hn)) (Nat.min_le_left _ _)
    rw [Gc_succ (runO_lx I h Up_nil) i y, ← mg h i y]
    exact Nat.add_le_add_left (Nat.max_le.mpr ⟨a, b⟩) _
noncomputable abbrev Bd (I : List It) (N : Nat) : Prop := ∀ o ∈ I, o.1 < N ∧ o.2.2 < N
theorem fl_all {I : List It} {N : Nat} (b : Bd I N) : fl I N = I := by
  unfold fl; rw [List.filter_eq_self]; intro o ho; simpa using (b o ho).1
theorem run_mem : ∀ {p : List Pc} (I : List It) (N : Nat), (∀ z ∈ p, z.2 < N) → (∀ o ∈ I, o.2.2 < N) → (∀ z ∈ runP p I, z.2 < N) ∧ ∀ o ∈ runO p I, o.2.2 < N
  | p, [], N, hp, _ => ⟨hp, fun o h => nomatch h⟩
  | p, q :: I, N, hp, hI => by
    have hq := hI q List.mem_cons_self
    obtain ⟨i1, i2⟩ := run_mem (p := pileS p q.2) I N (fun z hz => by
      unfold pileS at hz
      rcases List.mem_append.mp hz with hz | hz
      · exact hp z (List.mem_of_mem_take hz)
      · rcases List.mem_cons.mp hz with rfl | hz
        · exact hq
        · exact hp z (List.mem_of_mem_drop (List.mem_of_mem_tail hz))) fun o ho => hI o (List.mem_cons_of_mem _ ho)
    refine ⟨i1, fun o ho => ?_⟩
    rcases List.mem_append.mp ho with h | h
    · obtain ⟨y, hy, rfl⟩ := List.mem_map.mp h
      have hy' : offS p q.2 = some y := by simpa using hy
      unfold offS at hy'
      exact hp y (List.mem_of_mem_drop (List.mem_of_mem_head? (by rw [hy']; rfl)))
    · exact i2 o h
theorem runO_bd {I : List It} {N : Nat} (b : Bd I N) : Bd (runO [] I) N := fun o ho => by
  refine ⟨?_, (run_mem (p := []) I N (fun z h => nomatch h) fun o ho => (b o ho).2).2 o ho⟩
  obtain ⟨q, hq, e⟩ := runO_lab _ _ o ho
  have := (b q hq).1; exact ar124 this e
theorem Gc_len {I : List It} {N : Nat} (b : Bd I N) : Gc I N N = (runP [] I).length := by
  unfold Gc; rw [fl_all b]
  exact nbl_all (run_mem (p := []) I N (fun z h => nomatch h) fun o ho => (b o ho).2).1
theorem trk_all {I : List It} {N : Nat} (b : Bd I N) : trk I N = I.countP fun o => decide (o.1 = o.2.2) := by
  unfold trk
  refine List.countP_congr fun o ho => ?_
  have := b o ho
  simp only [decide_eq_true_eq]
  exact ar125 this
theorem diag_all {I : List It} {N : Nat} (h : Lx I) (s : Sy I) (b : Bd I N) : (I.countP fun o => decide (o.1 = o.2.2)) + ((runO [] I).countP fun o => decide (o.1 = o.2.2)) = (runP [] I).length := by
  rw [← trk_all b, ← trk_all (runO_bd b), diag h s, Gc_len b]
theorem len_next {I : List It} {N : Nat} (h : Lx I) (b : Bd I N) : (runP [] (runO [] I)).length ≤ (runP [] I).length := by
  match N with
  | 0 =>
    have : I = [] := by
      cases I with
      | nil => rfl
      | cons o I => have := (b o List.mem_cons_self).1; exact (ar126 this).elim
    subst this; exact Nat.le_refl _
  | N + 1 =>
    rw [← Gc_len (runO_bd b), ← Gc_len b]
    have h1 := Gc_next h _ N N (Nat.le_refl _)
    have h2 := Gc_succ h N N
    exact Nat.le_trans h1 (Nat.le_trans (Nat.min_le_left _ _) (h2 ▸ Nat.le_trans (Nat.le_max_left _ _) (Nat.le_add_left _ _)))

end
section
set_option autoImplicit false
/-- two lists that go up are one if each number has as many below it -/
theorem up_uniq : ∀ (a b : List Nat), a.Pairwise (· ≤ ·) → b.Pairwise (· ≤ ·) → (∀ y, (a.countP fun z => decide (z < y)) = b.countP fun z => decide (z < y)) → a = b := by
  intro a
  induction a with
  | nil =>
    intro b _ _ h
    cases b with
    | nil => rfl
    | cons z b => have := h (z + 1); rw [List.countP_cons_of_pos (by simp)] at this; simp at this
  | cons x a ih =>
    intro b ha hb h
    cases b with
    | nil => have := h (x + 1); rw [List.countP_cons_of_pos (by simp)] at this; simp at this
    | cons z b =>
      have ha' := List.pairwise_cons.mp ha
      have hb' := List.pairwise_cons.mp hb
      have hxz : x = z := by
        rcases Nat.lt_trichotomy x z with q | q | q
        · have h1 := h (x + 1)
          rw [List.countP_cons_of_pos (by simp)] at h1
          have h2 : ((z :: b).countP fun w => decide (w < x + 1)) = 0 := by
            rw [List.countP_eq_zero]; intro w hw
            rcases List.mem_cons.mp hw with rfl | hw
            · simp only [decide_eq_true_eq]; exact ar137 q
            · have := hb'.1 w hw; simp only [decide_eq_true_eq]; exact ar138 q this
          exact ar139 h1 h2
        · exact q
        · have h1 := h (z + 1)
          rw [List.countP_cons_of_pos (l := b) (by simp)] at h1
          have h2 : ((x :: a).countP fun w => decide (w < z + 1)) = 0 := by
            rw [List.countP_eq_zero]; intro w hw
            rcases List.mem_cons.mp hw with rfl | hw
            · simp only [decide_eq_true_eq]; exact ar137 q
            · have := ha'.1 w hw; simp only [decide_eq_true_eq]; exact ar138 q this
          exact ar140 h2 h1
      subst hxz
      rw [ih b ha'.2 hb'.2 fun y => by have := h y; rw [List.countP_cons, List.countP_cons] at this; exact ar141 this]
theorem runT_count : ∀ (p : List Pc) (I : List It) (i : Nat), ((runT p I).countP fun t => decide (t < i)) + ((runO p I).countP fun o => decide (o.1 < i)) = I.countP fun o => decide (o.1 < i)
  | _, [], _ => rfl
  | p, q :: I, i => by
    have ih := runT_count (pileS p q.2) I i
    show ((_ ++ runT (pileS p q.2) I).countP _) + ((_ ++ runO (pileS p q.2) I).countP _) = _
    rw [List.countP_append, List.countP_append, List.countP_cons]
    cases h : offS p q.2 with
    | none => simp [List.countP_cons] at ih ⊢; exact ar142 ih
    | some y => simp [List.countP_cons] at ih ⊢; exact ar143 ih
theorem runT_mem : ∀ (p : List Pc) (I : List It), ∀ t ∈ runT p I, ∃ q ∈ I, q.1 = t
  | _, [], t, h => nomatch h
  | p, q :: r, t, h => by
    rcases List.mem_append.mp h with h | h
    · split at h
      · cases h
      · exact ⟨q, List.mem_cons_self, (List.mem_singleton.mp h).symm⟩
    · obtain ⟨q', h1, h2⟩ := runT_mem _ r t h
      exact ⟨q', List.mem_cons_of_mem _ h1, h2⟩
theorem runT_up : ∀ (p : List Pc) (I : List It), Lx I → (runT p I).Pairwise (· ≤ ·)
  | _, [], _ => List.Pairwise.nil
  | p, q :: r, h => by
    have hc := List.pairwise_cons.mp h
    refine List.pairwise_append.mpr ⟨?_, runT_up _ r hc.2, fun a ha b hb => ?_⟩
    · split
      · exact List.Pairwise.nil
      · exact List.pairwise_singleton ..
    · obtain ⟨s, hs, e⟩ := runT_mem _ r b hb
      have := hc.1 s hs
      split at ha
      · cases ha
      · rw [List.mem_singleton.mp ha]; exact ar144 this e
theorem Sc_wide {I : List It} {N : Nat} (b : Bd I N) (i : Nat) : Sc I i N = I.countP fun o => decide (o.1 < i) := by
  unfold Sc
  refine List.countP_congr fun o ho => ?_
  have := b o ho
  simp only [decide_eq_true_eq]; exact ar145 this
theorem Gc_wide {I : List It} {N : Nat} (b : Bd I N) (y : Nat) : Gc I N y = nbl (runP [] I) y := by unfold Gc; rw [fl_all b]
/-- a pile and its note have the same names -/
theorem names_note {I : List It} {N : Nat} (h : Lx I) (s : Sy I) (b : Bd I N) : (runP [] I).map (·.2) = runT [] I := by
  refine up_uniq _ _ ?_ (runT_up [] I h) fun y => ?_
  · exact List.pairwise_map.mpr (runP_up I Up_nil)
  · rw [List.countP_map]
    show nbl (runP [] I) y = _
    have h1 := Sc_split h y N
    have h2 := runT_count [] I y
    have h3 := Gc_sym h s _ y N (Nat.le_refl _)
    rw [Sc_wide b, Sc_wide (runO_bd b)] at h1
    rw [Gc_wide b] at h3
    exact ar146 h2 h1 h3
theorem runO_lt : ∀ (p : List Pc) (I : List It), (runO p I).length ≤ I.length
  | _, [] => Nat.le_refl _
  | p, q :: I => by
    have := runO_lt (pileS p q.2) I
    show (_ ++ runO (pileS p q.2) I).length ≤ _
    rw [List.length_append, List.length_cons]
    cases offS p q.2 <;> simp <;> (first | exact ar147 this | exact ar148 this)
theorem runO_lt' (q : It) (I : List It) : (runO [] (q :: I)).length ≤ I.length := by
  show ((offS [] q.2).toList.map _ ++ runO (pileS [] q.2) I).length ≤ _
  have : offS [] q.2 = none := rfl
  rw [this]; exact runO_lt _ _
theorem run_perm : ∀ (p : List Pc) (I : List It), (runP p I ++ (runO p I).map (·.2)).Perm (p ++ I.map (·.2))
  | p, [] => List.Perm.refl _
  | p, q :: I => by
    have ih := run_perm (pileS p q.2) I
    have h := step_perm p q.2
    show (runP (pileS p q.2) I ++ (_ ++ runO (pileS p q.2) I).map (·.2)).Perm (p ++ q.2 :: I.map (·.2))
    have e : ((offS p q.2).toList.map (fun y => (q.1, y))).map (·.2) = (offS p q.2).toList := by
      rw [List.map_map]; exact (List.map_congr_left fun _ _ => rfl).trans (List.map_id _)
    rw [List.map_append, e]
    calc
      (runP (pileS p q.2) I ++ ((offS p q.2).toList ++ (runO (pileS p q.2) I).map (·.2))).Perm ((runP (pileS p q.2) I ++ (runO (pileS p q.2) I).map (·.2)) ++ (offS p q.2).toList) := by
        rw [List.append_assoc]; exact List.Perm.append_left _ List.perm_append_comm
      _ |>.Perm ((pileS p q.2 ++ I.map (·.2)) ++ (offS p q.2).toList) := ih.append_right _
      _ |>.Perm ((pileS p q.2 ++ (offS p q.2).toList) ++ I.map (·.2)) := by
        rw [List.append_assoc, List.append_assoc]; exact List.Perm.append_left _ List.perm_append_comm
      _ |>.Perm ((q.2 :: p) ++ I.map (·.2)) := h.append_right _
      _ |>.Perm (p ++ q.2 :: I.map (·.2)) := List.perm_middle.symm

/-- one letter's way through the piles -/
noncomputable abbrev PN := List Pc × List Nat
noncomputable def deal (t : Nat) : List PN → Pc → List PN
  | [], x => [([x], [t])]
  | pn :: r, x => match offS pn.1 x with
    | none => (pileS pn.1 x, pn.2 ++ [t]) :: r
    | some y => (pileS pn.1 x, pn.2) :: deal t r y
noncomputable def deals (st : List PN) (I : List It) : List PN := I.foldl (fun st o => deal o.1 st o.2) st
theorem deals_cons : ∀ (p : List Pc) (n : List Nat) (r : List PN) (I : List It), deals ((p, n) :: r) I = (runP p I, n ++ runT p I) :: deals r (runO p I)
  | p, n, r, [] => by show _ = (p, n ++ []) :: r; rw [List.append_nil]; rfl
  | p, n, r, q :: I => by
    show deals (deal q.1 ((p, n) :: r) q.2) I = (runP (pileS p q.2) I, n ++ (_ ++ runT (pileS p q.2) I)) :: deals r (_ ++ runO (pileS p q.2) I)
    cases h : offS p q.2 with
    | none =>
      have e : deal q.1 ((p, n) :: r) q.2 = (pileS p q.2, n ++ [q.1]) :: r := by unfold deal; dsimp only; rw [h]
      rw [e, deals_cons]; simp
    | some y =>
      have e : deal q.1 ((p, n) :: r) q.2 = (pileS p q.2, n) :: deal q.1 r y := by conv => lhs; unfold deal; dsimp only; rw [h]
      rw [e, deals_cons]; simp [deals]
theorem deals_nil (q : It) (I : List It) : deals [] (q :: I) = (runP [] (q :: I), runT [] (q :: I)) :: deals [] (runO [] (q :: I)) := by
  have h := deals_cons [] [] [] (q :: I)
  rw [List.nil_append] at h
  rw [← h]; rfl

end
section
set_option autoImplicit false
/-- how many piles go on beyond place k -/
noncomputable def colc (ls : List Nat) (k : Nat) : Nat := ls.countP fun l => decide (k < l)
noncomputable def oddc (ls : List Nat) : Nat := (List.range (ls.headD 0)).countP fun k => decide (colc ls k % 2 = 1)
theorem range_more (f : Nat → Bool) (a b : Nat) (h : ∀ k, a ≤ k → f k = false) (hab : a ≤ b) : (List.range b).countP f = (List.range a).countP f := by
  obtain ⟨c, rfl⟩ : ∃ c, b = a + c := ⟨b - a, by exact ar150 hab⟩
  rw [List.range_add, List.countP_append]
  have : ((List.range c).map (a + ·)).countP f = 0 := by
    rw [List.countP_eq_zero]
    intro x hx
    obtain ⟨k, _, rfl⟩ := List.mem_map.mp hx
    rw [h _ (by exact ar151)]; simp
  exact ar152 this
theorem oddc_cons {l : Nat} {ls : List Nat} (h : (l :: ls).Pairwise (· ≥ ·)) : oddc (l :: ls) + oddc ls = l := by
  have hc := List.pairwise_cons.mp h
  unfold oddc
  have e1 : (List.range (ls.headD 0)).countP (fun k => decide (colc ls k % 2 = 1)) = (List.range l).countP (fun k => decide (colc ls k % 2 = 1)) := by
    refine (range_more _ _ _ (fun k hk => ?_) ?_).symm
    · have : colc ls k = 0 := by
        unfold colc; rw [List.countP_eq_zero]; intro x hx
        cases ls with
        | nil => cases hx
        | cons a r =>
          have ha : a ≤ k := hk
          rcases List.mem_cons.mp hx with rfl | hx
          · simp only [decide_eq_true_eq]; exact ar5 ha
          · have := (List.pairwise_cons.mp hc.2).1 x hx; simp only [decide_eq_true_eq]; exact ar153 ha this
      rw [this]; decide
    · cases ls with
      | nil => exact Nat.zero_le _
      | cons a r => exact hc.1 a List.mem_cons_self
  have e2 : (List.range l).countP (fun k => decide (colc (l :: ls) k % 2 = 1)) = (List.range l).countP (fun k => !decide (colc ls k % 2 = 1)) := by
    refine List.countP_congr fun k hk => ?_
    have hk := List.mem_range.mp hk
    have : colc (l :: ls) k = colc ls k + 1 := by unfold colc; rw [List.countP_cons_of_pos (by simpa using hk)]
    rw [this]
    simp only [decide_eq_true_eq, Bool.not_eq_true', decide_eq_false_iff_not]
    exact ar154
  show (List.range l).countP _ + _ = l
  rw [e1, e2]
  have := List.length_eq_countP_add_countP (fun k => decide (colc ls k % 2 = 1)) (l := List.range l)
  rw [List.length_range] at this
  have e3 : (List.range l).countP (fun k => !decide (colc ls k % 2 = 1)) = (List.range l).countP (fun a => ¬ decide (colc ls a % 2 = 1) = true) := by
    refine List.countP_congr fun k hk => ?_
    simp
  exact ar155 e3 this
theorem sum_cols : ∀ (ls : List Nat) (n : Nat), (∀ l ∈ ls, l ≤ n) → ((List.range n).map (colc ls)).sum = ls.sum
  | [], n, _ => by
    have : (List.range n).map (colc []) = (List.range n).map fun _ => 0 := List.map_congr_left fun _ _ => rfl
    rw [this]
    generalize List.range n = r
    induction r with
    | nil => rfl
    | cons _ _ ih => simpa using ih
  | l :: ls, n, h => by
    have ih := sum_cols ls n fun x hx => h x (List.mem_cons_of_mem _ hx)
    have hl := h l List.mem_cons_self
    have key : ∀ r : List Nat, (r.map (colc (l :: ls))).sum = (r.map (colc ls)).sum + r.countP fun k => decide (k < l) := by
      intro r
      induction r with
      | nil => rfl
      | cons k r ih' =>
        have : colc (l :: ls) k = colc ls k + if k < l then 1 else 0 := by unfold colc; rw [List.countP_cons]; simp
        rw [List.map_cons, List.map_cons, List.sum_cons, List.sum_cons, List.countP_cons, ih', this]
        simp only [decide_eq_true_eq]
        exact ar156
    rw [key, ih, List.sum_cons]
    have : (List.range n).countP (fun k => decide (k < l)) = l := by
      rw [range_more _ l n (fun k hk => decide_eq_false (by exact ar5 hk)) hl]
      rw [List.countP_eq_length.mpr, List.length_range]
      intro k hk; simpa using List.mem_range.mp hk
    exact ar157 this

structure RskOk (I : List It) (T : List PN) : Prop where
  notes : ∀ pn ∈ T, pn.1.map (·.2) = pn.2
  perm : (T.map (·.1)).flatten.Perm (I.map (·.2))
  desc : (T.map (·.1.length)).Pairwise (· ≥ ·)
  odd : oddc (T.map (·.1.length)) = I.countP fun o => decide (o.1 = o.2.2)
theorem head_len (I : List It) : (((deals [] I).map (·.1.length)).headD 0) = (runP [] I).length := by
  cases I with
  | nil => rfl
  | cons q I => rw [deals_nil]; rfl
theorem rsk (N : Nat) : ∀ (n : Nat) (I : List It), I.length ≤ n → Lx I → Sy I → Bd I N → RskOk I (deals [] I)
  | n, [], _, _, _, _ => ⟨fun _ h => (by cases h), List.Perm.refl _, List.Pairwise.nil, rfl⟩
  | 0, q :: I, hn, _, _, _ => by simp at hn
  | n + 1, q :: I, hn, h, s, b => by
    have hl := runO_lt' q I
    have hn' : (runO [] (q :: I)).length ≤ n := by simp at hn; exact ar52 hl hn
    have ih := rsk N n (runO [] (q :: I)) hn' (runO_lx _ h Up_nil) (runO_sy h s) (runO_bd b)
    have hh := head_len (runO [] (q :: I))
    have hnext := len_next h b
    have hdesc : ((deals [] (q :: I)).map (·.1.length)).Pairwise (· ≥ ·) := by
      rw [deals_nil, List.map_cons]
      refine List.pairwise_cons.mpr ⟨fun l hl => ?_, ih.desc⟩
      have hd := ih.desc
      cases e : (deals [] (runO [] (q :: I))).map (·.1.length) with
      | nil => rw [e] at hl; cases hl
      | cons a r =>
        rw [e] at hl hd hh
        have ha : a = (runP [] (runO [] (q :: I))).length := hh
        show l ≤ (runP [] (q :: I)).length
        rcases List.mem_cons.mp hl with rfl | hl
        · exact ar158 ha hnext
        · have := (List.pairwise_cons.mp hd).1 l hl; exact ar159 ha this hnext
    refine ⟨fun pn hpn => ?_, ?_, hdesc, ?_⟩
    · rw [deals_nil] at hpn
      rcases List.mem_cons.mp hpn with rfl | hpn
      · exact names_note h s b
      · exact ih.notes pn hpn
    · rw [deals_nil, List.map_cons, List.flatten_cons]
      refine (ih.perm.append_left _).trans ?_
      have := run_perm [] (q :: I)
      rwa [List.nil_append] at this
    · have h1 := diag_all h s b
      rw [deals_nil, List.map_cons] at hdesc ⊢
      have h2 := oddc_cons hdesc
      have h3 := ih.odd
      dsimp only at h2 ⊢
      exact ar160 h2 h1 h3

/-- the longest choice of names that never fall -/
noncomputable def mxl (l : List Nat) : Nat := l.foldr max 0
theorem mxl_append (a b : List Nat) : mxl (a ++ b) = max (mxl a) (mxl b) := by
  induction a with
  | nil => exact (Nat.max_eq_right (Nat.zero_le _)).symm
  | cons x a ih => show max x (mxl (a ++ b)) = max (max x (mxl a)) (mxl b); rw [ih, Nat.max_assoc]
theorem mxl_ge {l : List Nat} {x : Nat} (h : x ∈ l) : x ≤ mxl l := by
  induction l with
  | nil => cases h
  | cons a l ih =>
    show x ≤ max a (mxl l)
    rcases List.mem_cons.mp h with rfl | h
    · exact Nat.le_max_left _ _
    · exact Nat.le_trans (ih h) (Nat.le_max_right _ _)
theorem mxl_mem {l : List Nat} (h : l ≠ []) : mxl l ∈ l := by
  induction l with
  | nil => exact absurd rfl h
  | cons a l ih =>
    show max a (mxl l) ∈ a :: l
    by_cases q : l = []
    · subst q; show max a 0 ∈ _; rw [Nat.max_zero]; exact List.mem_cons_self
    · have := ih q
      by_cases r : mxl l ≤ a
      · rw [Nat.max_eq_left r]; exact List.mem_cons_self
      · rw [Nat.max_eq_right (by exact ar161 r)]; exact List.mem_cons_of_mem _ this
/-- the values of those seen at or below y -/
noncomputable def below (seen : List (Nat × Nat)) (y : Nat) : List Nat := (seen.filter fun z => decide (z.1 ≤ y)).map (·.2)
noncomputable def rise (seen : List (Nat × Nat)) (x : Nat) : List (Nat × Nat) := seen ++ [(x, 1 + mxl (below seen x))]
theorem below_rise (seen : List (Nat × Nat)) (x y : Nat) : mxl (below (rise seen x) y) = if x ≤ y then max (mxl (below seen y)) (1 + mxl (below seen x)) else mxl (below seen y) := by
  unfold rise
  have : below (seen ++ [(x, 1 + mxl (below seen x))]) y = below seen y ++ below [(x, 1 + mxl (below seen x))] y := by
    unfold below; rw [List.filter_append, List.map_append]
  rw [this, mxl_append]
  by_cases h : x ≤ y
  · rw [if_pos h]
    have e : below [(x, 1 + mxl (below seen x))] y = [1 + mxl (below seen x)] := by unfold below; simp [h]
    rw [e]; show max _ (max _ 0) = _; rw [Nat.max_zero]
  · rw [if_neg h]
    have e : below [(x, 1 + mxl (below seen x))] y = [] := by unfold below; simp [h]
    rw [e]; exact Nat.max_zero _
theorem rise_run : ∀ (I : List It) (p : List Pc) (seen : List (Nat × Nat)), Up p → (∀ y, nbl p (y + 1) = mxl (below seen y)) → ∀ y, nbl (runP p I) (y + 1) = mxl (below ((I.map (·.2.2)).foldl rise seen) y)
  | [], p, seen, _, h, y => h y
  | q :: I, p, seen, hu, h, y => by
    refine rise_run I (pileS p q.2) (rise seen q.2.2) (step_up hu q.2) (fun z => ?_) y
    rw [step_nbl hu, below_rise, h z, h q.2.2]
    by_cases r : q.2.2 ≤ z
    · rw [if_neg (by exact ar162 r), if_pos r, Nat.add_comm 1]
    · rw [if_pos (by exact ar163 r), if_neg r]
noncomputable def rises (names : List Nat) : List (Nat × Nat) := names.foldl rise []
theorem rises_names : ∀ (names : List Nat) (seen : List (Nat × Nat)), (names.foldl rise seen).map (·.1) = seen.map (·.1) ++ names
  | [], seen => by simp
  | x :: r, seen => by
    show (r.foldl rise (rise seen x)).map (·.1) = _
    rw [rises_names r]; unfold rise; simp
theorem widest {I : List It} {N : Nat} (b : Bd I N) : mxl ((rises (I.map (·.2.2))).map (·.2)) = (runP [] I).length := by
  have h := rise_run I [] [] Up_nil (fun _ => rfl) N
  have e : nbl (runP [] I) (N + 1) = (runP [] I).length := nbl_all fun z hz => by
    have := (run_mem (p := []) I N (fun z h => nomatch h) fun o ho => (b o ho).2).1 z hz; exact ar24 this
  rw [← e, h]
  congr 1
  unfold below rises
  rw [List.filter_eq_self.mpr]
  intro z hz
  have hm : z.1 ∈ ((I.map (·.2.2)).foldl rise []).map (·.1) := List.mem_map_of_mem hz
  rw [rises_names] at hm
  rw [List.map_nil, List.nil_append] at hm; obtain ⟨o, ho, e⟩ := List.mem_map.mp hm
  have := (b o ho).2
  simp only [decide_eq_true_eq]
  have e' : o.2.2 = z.1 := e
  exact ar164 this e

end
section
set_option autoImplicit false
noncomputable def rawL (ts : List Pc) : List Pc := ts.flatMap fun t => if t.1 = t.2 then [t] else [t, (t.2, t.1)]
noncomputable abbrev LexS (ls : List Pc) : Prop := ls.Pairwise fun a b => a.1 < b.1 ∨ (a.1 = b.1 ∧ a.2 ≤ b.2)
noncomputable def items (ls : List Pc) : List It := ls.map fun x => (x.1, x)
noncomputable def selfs (ls : List Pc) : Nat := ls.countP fun x => decide (x.1 = x.2)
theorem raw_sym (ts : List Pc) (i y : Nat) : ((rawL ts).countP fun x => decide (x.1 = i ∧ x.2 = y)) = (rawL ts).countP fun x => decide (x.1 = y ∧ x.2 = i) := by
  induction ts with
  | nil => rfl
  | cons t ts ih =>
    have e : rawL (t :: ts) = (if t.1 = t.2 then [t] else [t, (t.2, t.1)]) ++ rawL ts := by unfold rawL; rw [List.flatMap_cons]
    rw [e, List.countP_append, List.countP_append, ih]
    congr 1
    by_cases h : t.1 = t.2
    · have e1 : decide (t.1 = i ∧ t.2 = y) = decide (t.1 = y ∧ t.2 = i) := decide_eq_decide.mpr ⟨fun z => ⟨h.trans z.2, h.symm.trans z.1⟩, fun z => ⟨h.trans z.2, h.symm.trans z.1⟩⟩
      rw [if_pos h, List.countP_cons, List.countP_cons, e1]; rfl
    · have e1 : decide (t.2 = i ∧ t.1 = y) = decide (t.1 = y ∧ t.2 = i) := decide_eq_decide.mpr And.comm
      have e2 : decide (t.2 = y ∧ t.1 = i) = decide (t.1 = i ∧ t.2 = y) := decide_eq_decide.mpr And.comm
      rw [if_neg h, List.countP_cons, List.countP_cons, List.countP_cons, List.countP_cons, e1, e2]
      exact Nat.add_right_comm 0 _ _
theorem rawL_len (ts : List Pc) : (rawL ts).length + selfs (rawL ts) = 2 * ts.length := by
  induction ts with
  | nil => rfl
  | cons t ts ih =>
    have e : rawL (t :: ts) = (if t.1 = t.2 then [t] else [t, (t.2, t.1)]) ++ rawL ts := by unfold rawL; rw [List.flatMap_cons]
    unfold selfs at ih ⊢
    rw [e, List.countP_append, List.length_append, List.length_cons]
    by_cases h : t.1 = t.2
    · rw [if_pos h, List.countP_cons]
      simp [h]; exact ar175 ih
    · rw [if_neg h, List.countP_cons, List.countP_cons]
      have h' : ¬ t.2 = t.1 := fun q => h q.symm
      simp [h, h']; exact ar176 ih
theorem raw_bd (ts : List Pc) (N : Nat) (h : ∀ t ∈ ts, t.1 < N ∧ t.2 < N) : ∀ x ∈ rawL ts, x.1 < N ∧ x.2 < N := by
  intro x hx
  obtain ⟨t, ht, hx⟩ := List.mem_flatMap.mp hx
  have := h t ht
  split at hx
  · rw [List.mem_singleton.mp hx]; exact this
  · rcases List.mem_cons.mp hx with rfl | hx
    · exact this
    · rw [List.mem_singleton.mp hx]; exact ⟨this.2, this.1⟩
section
variable {ts ls : List Pc}
theorem items_lx (s : LexS ls) : Lx (items ls) := by unfold items; exact List.pairwise_map.mpr s
theorem items_sy (p : ls.Perm (rawL ts)) : Sy (items ls) := by
  intro i y
  unfold Mc items
  rw [List.countP_map, List.countP_map]
  show ls.countP (fun x => decide (x.1 = i ∧ x.2 = y)) = ls.countP (fun x => decide (x.1 = y ∧ x.2 = i))
  rw [p.countP_eq, p.countP_eq]
  exact raw_sym ts i y
theorem items_bd {N : Nat} (p : ls.Perm (rawL ts)) (h : ∀ t ∈ ts, t.1 < N ∧ t.2 < N) : Bd (items ls) N := by
  intro o ho
  obtain ⟨x, hx, rfl⟩ := List.mem_map.mp ho
  exact raw_bd ts N h x (p.mem_iff.mp hx)
noncomputable def rowsOf (ls : List Pc) : List Nat := (List.range (((deals [] (items ls)).map (·.1.length)).headD 0)).map (colc ((deals [] (items ls)).map (·.1.length)))
noncomputable def wideOf (ls : List Pc) : Nat := mxl ((rises (ls.map (·.2))).map (·.2))
theorem rows_len {N : Nat} (p : ls.Perm (rawL ts)) (h : ∀ t ∈ ts, t.1 < N ∧ t.2 < N) : (rowsOf ls).length = wideOf ls := by
  unfold rowsOf wideOf
  rw [List.length_map, List.length_range, head_len, ← widest (items_bd p h)]
  congr 3
  unfold items; rw [List.map_map]; rfl
theorem rows_odd {N : Nat} (s : LexS ls) (p : ls.Perm (rawL ts)) (h : ∀ t ∈ ts, t.1 < N ∧ t.2 < N) : ((rowsOf ls).countP fun r => decide (r % 2 = 1)) = selfs ls := by
  have := (rsk N _ (items ls) (Nat.le_refl _) (items_lx s) (items_sy p) (items_bd p h)).odd
  unfold oddc at this
  unfold rowsOf
  rw [List.countP_map]
  refine Eq.trans this ?_
  unfold items selfs; rw [List.countP_map]; rfl
theorem desc_le {ls : List Nat} (h : ls.Pairwise (· ≥ ·)) : ∀ l ∈ ls, l ≤ ls.headD 0 := by
  cases ls with
  | nil => intro l hl; cases hl
  | cons a r =>
    intro l hl
    rcases List.mem_cons.mp hl with rfl | hl
    · exact Nat.le_refl _
    · exact (List.pairwise_cons.mp h).1 l hl
theorem rows_sum {N : Nat} (s : LexS ls) (p : ls.Perm (rawL ts)) (h : ∀ t ∈ ts, t.1 < N ∧ t.2 < N) : (rowsOf ls).sum = ls.length := by
  have R := rsk N _ (items ls) (Nat.le_refl _) (items_lx s) (items_sy p) (items_bd p h)
  unfold rowsOf
  rw [sum_cols _ _ (desc_le R.desc)]
  have h1 := R.perm.length_eq
  rw [List.length_flatten, List.map_map] at h1
  refine Eq.trans h1 ?_
  unfold items; simp
theorem rows_pos : ∀ r ∈ rowsOf ls, 1 ≤ r ∧ r ≤ (deals [] (items ls)).length := by
  intro r hr
  unfold rowsOf at hr
  obtain ⟨k, hk, rfl⟩ := List.mem_map.mp hr
  have hk := List.mem_range.mp hk
  refine ⟨?_, Nat.le_trans List.countP_le_length (by rw [List.length_map]; exact Nat.le_refl _)⟩
  cases e : (deals [] (items ls)).map (·.1.length) with
  | nil => rw [e] at hk; exact absurd hk (by simp)
  | cons a l =>
    rw [e] at hk
    have hk' : k < a := hk
    unfold colc
    rw [List.countP_cons_of_pos (by simpa using hk')]; exact ar40
end
theorem halves (o : Nat) : ∀ rows : List Nat, 2 * (rows.map fun r => (r + o) / 2).sum + (rows.countP fun r => decide ((r + o) % 2 = 1)) = rows.sum + o * rows.length
  | [] => by simp
  | r :: rows => by
    have ih := halves o rows
    have hm : o * (rows.length + 1) = o * rows.length + o := Nat.mul_succ _ _
    rw [List.map_cons, List.sum_cons, List.sum_cons, List.countP_cons, List.length_cons, hm]
    simp only [decide_eq_true_eq]
    split <;> (first | exact ar177 (by assumption) ih | exact ar178 ih (by assumption))
theorem odd_of (o : Nat) (rows : List Nat) : (rows.countP fun r => decide ((r + o) % 2 = 1)) = if o % 2 = 0 then rows.countP fun r => decide (r % 2 = 1) else rows.length - rows.countP fun r => decide (r % 2 = 1) := by
  induction rows with
  | nil => simp
  | cons r rows ih =>
    have hle : rows.countP (fun r => decide (r % 2 = 1)) ≤ rows.length := List.countP_le_length
    rw [List.countP_cons, List.countP_cons, List.length_cons, ih]
    simp only [decide_eq_true_eq]
    by_cases ho : o % 2 = 0
    · rw [if_pos ho, if_pos ho]
      (repeat' split) <;> (first | exact ar179 | exact ar180 (by assumption) ho (by assumption) | exact ar181 ho (by assumption) (by assumption) | exact ar182)
    · rw [if_neg ho, if_neg ho]
      (repeat' split) <;> (first | exact ar183 (by assumption) (by assumption) ho | exact ar184 hle | exact ar185 | exact ar186 (by assumption) (by assumption) ho)
/-- what the reading tells -/
theorem mail_counts {ts ls : List Pc} {N : Nat} (h7 : ts.length = 7) (s : LexS ls) (p : ls.Perm (rawL ts)) (h : ∀ t ∈ ts, t.1 < N ∧ t.2 < N) (o : Nat) :
    (((rowsOf ls).map fun r => (r + o) / 2).sum + selfs ls = 7 + o / 2 * wideOf ls + o % 2 * selfs ls) ∧ ((rowsOf ls).countP fun r => decide ((r + o) % 2 = 1)) = (if o % 2 = 0 then selfs ls else wideOf ls - selfs ls) ∧ selfs ls ≤ wideOf ls ∧ ls.length + selfs ls = 14 := by
  have h1 := halves o (rowsOf ls)
  have h2 := odd_of o (rowsOf ls)
  rw [rows_odd s p h, rows_len p h] at h2
  rw [h2, rows_len p h, rows_sum s p h] at h1
  have h3 := rawL_len ts
  have h4 : ls.length = (rawL ts).length := p.length_eq
  have h5 : selfs ls = selfs (rawL ts) := p.countP_eq _
  have h6 : selfs ls ≤ wideOf ls := by rw [← rows_odd s p h, ← rows_len p h]; exact List.countP_le_length
  refine ⟨?_, h2, h6, by exact ar187 h4 h5 h3 h7⟩
  generalize wideOf ls = wd at *
  have ho : o = 2 * (o / 2) + o % 2 := by exact ar188
  have hm : o * wd = 2 * (o / 2 * wd) + o % 2 * wd := by
    conv => lhs; rw [ho]
    rw [Nat.add_mul, Nat.mul_assoc]
  rcases Nat.mod_two_eq_zero_or_one o with q | q
  · rw [if_pos q, hm, q] at h1
    rw [q]; exact ar189 h1 h5 h4 h3 h7
  · rw [if_neg (by exact ar190 q), hm, q] at h1
    rw [q]; exact ar191 h7 h3 h4 h5 h1 h6

end
section
set_option autoImplicit false
set_option maxRecDepth 100000

theorem get_end {σ : Sto} {m : MO} : (σ ++ [m])[σ.length]? = some m := by rw [List.getElem?_append_right (Nat.le_refl _), Nat.sub_self]; rfl
theorem abc5_item {σ : Sto} {i : Nat} (hi : i < 5) : aItem σ (.str (Str.ofString "abcde")) (.int (i : Nat)) = some (.str (S [97 + i])) := by
  have e : L (Str.ofString "abcde") = [97, 98, 99, 100, 101] := by decide +kernel
  dsimp only [aItem]
  rw [e, if_pos ⟨by exact ar135, by exact ar391 hi⟩, Int.toNat_natCast]
  have h : i = 0 ∨ i = 1 ∨ i = 2 ∨ i = 3 ∨ i = 4 := by exact ar392 hi
  rcases h with rfl | rfl | rfl | rfl | rfl
  all_goals rfl
theorem items_of {σ : Sto} {v : V} {xs : List V} (h : aList σ v = some xs) : aItems σ v = some xs := by
  cases v with
  | list ys => exact h
  | ref k => exact h
  | _ => cases h
theorem gd_of {σ : Sto} {v : V} {xs : List V} (h : aList σ v = some xs) : aGd v xs σ := by
  cases v with
  | list ys => trivial
  | ref k =>
    dsimp only [aList, aGd] at h ⊢
    split at h
    · rename_i ys e; cases h; exact e
    · cases h
  | _ => trivial
/-- a letter, as strs -/
noncomputable def ltr (x : Pc) : Str × Str := (S [97 + x.1], S [97 + x.2])
noncomputable def lv (x : Pc) : V := prV (ltr x)
noncomputable def base7 : List Int := [6, 1, 13, 17, 0, 22, 9]
noncomputable def num7 (sc : List Int) (k : Nat) : Int := base7.getD k 0 + sc.getD k 0
noncomputable def talk (sc : List Int) (k : Nat) : Pc := ((num7 sc k % 5).toNat, (num7 sc k / 5 % 5).toNat)
noncomputable def talks (sc : List Int) : List Pc := (List.range 7).map (talk sc)
theorem talk_lt (sc : List Int) (k : Nat) : (talk sc k).1 < 5 ∧ (talk sc k).2 < 5 := by unfold talk; dsimp only; lia
theorem talks_lt (sc : List Int) : ∀ t ∈ talks sc, t.1 < 5 ∧ t.2 < 5 := fun t h => by
  obtain ⟨k, _, rfl⟩ := List.mem_map.mp h
  exact talk_lt sc k
/-- _law_letters -/
noncomputable def wLetters : WF := fun vs Q σ => ∃ (v : V) (sc : List Int), vs = [v] ∧ aList σ v = some (sc.map V.int) ∧ sc.length < 2 ^ 60 ∧ ∀ (ls : List Pc) (τ : Sto), ls.Perm (rawL (talks sc)) → LexS ls → Q (.list (ls.map lv)) (σ ++ τ)
noncomputable def keyS (p : Str × Str) : Nat := (L p.1).headD 0 * 1000 + (L p.2).headD 0
noncomputable def unl (p : Str × Str) : Pc := ((L p.1).headD 0 - 97, (L p.2).headD 0 - 97)
theorem unl_ltr (x : Pc) : unl (ltr x) = x := by
  unfold unl ltr
  dsimp only
  rw [L_S, L_S]
  simp
theorem key_ltr (x : Pc) : keyS (ltr x) = (97 + x.1) * 1000 + (97 + x.2) := by
  unfold keyS ltr
  dsimp only
  rw [L_S, L_S]; rfl
theorem lex_ltr {x y : Pc} (hx : x.1 < 5 ∧ x.2 < 5) (hy : y.1 < 5 ∧ y.2 < 5) : lexS (ltr x) (ltr y) = decide (keyS (ltr x) < keyS (ltr y)) := by
  rw [key_ltr, key_ltr]
  unfold lexS ltr
  dsimp only
  rw [L_S, L_S, L_S, L_S]
  have one : ∀ a b : Nat, ([a] < [b]) ↔ a < b := fun a b => by simp [List.cons_lt_cons_iff]
  by_cases h : x.1 = y.1
  · rw [h, if_pos rfl]
    apply decide_eq_decide.mpr
    rw [one]
    exact ar393
  · rw [if_neg (by simp; lia)]
    apply decide_eq_decide.mpr
    rw [one]
    exact ar394 hx hy h
theorem sorted_ltr {ts : List Pc} (hts : ∀ x ∈ ts, x.1 < 5 ∧ x.2 < 5) {out : List (Str × Str)} (hp : out.Perm (ts.map ltr)) (hs : out.Pairwise fun p q => keyS p ≤ keyS q) :
    ∃ ls : List Pc, out = ls.map ltr ∧ ls.Perm ts ∧ LexS ls := by
  have hm : ∀ p ∈ out, ∃ x ∈ ts, p = ltr x := fun p h => by
    obtain ⟨x, hx, e⟩ := List.mem_map.mp (hp.mem_iff.mp h)
    exact ⟨x, hx, e.symm⟩
  have he : out = (out.map unl).map ltr := by
    rw [List.map_map]
    conv => lhs; rw [← List.map_id out]
    refine List.map_congr_left fun p h => ?_
    obtain ⟨x, _, rfl⟩ := hm p h
    show ltr x = ltr (unl (ltr x))
    rw [unl_ltr]
  refine ⟨out.map unl, he, ?_, ?_⟩
  · have := hp.map unl
    rw [List.map_map] at this
    have e : ts.map (unl ∘ ltr) = ts := by
      conv => rhs; rw [← List.map_id ts]
      exact List.map_congr_left fun x _ => unl_ltr x
    rw [e] at this
    exact this
  · refine List.pairwise_map.mpr (hs.imp_of_mem fun {p q} h1 h2 hle => ?_)
    obtain ⟨x, hx, rfl⟩ := hm p h1
    obtain ⟨y, hy, rfl⟩ := hm q h2
    rw [unl_ltr, unl_ltr]
    rw [key_ltr, key_ltr] at hle
    have h1 := hts x hx
    have h2 := hts y hy
    exact ar395 hle h2
theorem raw_app (a b : List Pc) : rawL (a ++ b) = rawL a ++ rawL b := by unfold rawL; rw [List.flatMap_append]
section
variable {G : Glb} {P : Params} {ℓ : Nat} {sc : Scope} {np pos : Pos} {e : Expr} {rest : List Expr} {Ws : WL}
theorem c_sorted (T : TopG G P) (hk : sc.names.lookup (Str.ofString "sorted") = some .globalImplicit) (ha : Evs G ℓ sc (e :: rest) Ws)
    (h1 : ∀ env, starEach (e :: rest) env = (false, eval e env) :: starEach rest env) (h2 : ∀ env, (backTo pos (starEach rest env)).any (·.1) = false) :
    Ev G ℓ sc (.Call (.Name (Str.ofString "sorted") np) (e :: rest) [] pos) (wCall wSorted Ws) := c_any T.O (by rw [T.mg]; rfl) (T.mb _ _ (by decide +kernel)) (by decide +kernel) CallOk.builtin FnOk.sorted hk ha h1 h2
theorem c_max (T : TopG G P) (hk : sc.names.lookup (Str.ofString "max") = some .globalImplicit) (ha : Evs G ℓ sc (e :: rest) Ws)
    (h1 : ∀ env, starEach (e :: rest) env = (false, eval e env) :: starEach rest env) (h2 : ∀ env, (backTo pos (starEach rest env)).any (·.1) = false) :
    Ev G ℓ sc (.Call (.Name (Str.ofString "max") np) (e :: rest) [] pos) (wCall wMax Ws) := c_any T.O (by rw [T.mg]; rfl) (T.mb _ _ (by decide +kernel)) (by decide +kernel) CallOk.builtin FnOk.max hk ha h1 h2
end

end
section
set_option autoImplicit false
set_option maxRecDepth 100000
/-- what the top is, for program 2 -/
structure TopB (G : Glb) (P : Params) : Prop where
  A : TopA G P
  B : ∃ bm ob, BMods G bm ob
section
variable {G : Glb} {P : Params} {ℓ : Nat} {sc : Scope}
theorem m_push (T : TopB G P) {o e : Expr} {rest : List Expr} {apos pos : Pos} {Wo : WE} {Ws : WL} {pl : Env → Sem Bool} (ho : Ev G (ℓ + 1) sc o Wo) (ha : Evs G (ℓ + 1) sc (e :: rest) Ws) (he : MethEq o (Str.ofString "push") apos pos (e :: rest) pl)
    (h0 : ∀ env, attributeBase o (Str.ofString "push") env (eval o env) = eval o env) (h1 : ∀ env, starEach (e :: rest) env = (false, eval e env) :: starEach rest env) (h2 : ∀ env, (backTo pos (starEach rest env)).any (·.1) = false) :
    Ev G (ℓ + 1) sc (.Call (.Attribute o (Str.ofString "push") apos) (e :: rest) [] pos) (wMethA Wo Ws wPush) :=
  r_accM (acc1 T.A) (by rw [T.A.C]; kernel_rfl) (by kernel_rfl) rfl rfl (by decide +kernel) (fn62 (ℓ := ℓ) T.A) he ho ha h0 h1 h2
theorem m_popf (T : TopB G P) {o e : Expr} {rest : List Expr} {apos pos : Pos} {Wo : WE} {Ws : WL} {pl : Env → Sem Bool} (ho : Ev G (ℓ + 1) sc o Wo) (ha : Evs G (ℓ + 1) sc (e :: rest) Ws) (he : MethEq o (Str.ofString "pop_from") apos pos (e :: rest) pl)
    (h0 : ∀ env, attributeBase o (Str.ofString "pop_from") env (eval o env) = eval o env) (h1 : ∀ env, starEach (e :: rest) env = (false, eval e env) :: starEach rest env) (h2 : ∀ env, (backTo pos (starEach rest env)).any (·.1) = false) :
    Ev G (ℓ + 1) sc (.Call (.Attribute o (Str.ofString "pop_from") apos) (e :: rest) [] pos) (wMethA Wo Ws wPopFrom) :=
  r_accM (acc1 T.A) (by rw [T.A.C]; kernel_rfl) (by kernel_rfl) rfl rfl (by decide +kernel) (fn70 (ℓ := ℓ) T.A) he ho ha h0 h1 h2
theorem m_popf0 (T : TopB G P) {o : Expr} {apos pos : Pos} {Wo : WE} {pl : Env → Sem Bool} (ho : Ev G (ℓ + 1) sc o Wo) (he : MethEq o (Str.ofString "pop_from") apos pos [] pl)
    (h0 : ∀ env, attributeBase o (Str.ofString "pop_from") env (eval o env) = eval o env) :
    Ev G (ℓ + 1) sc (.Call (.Attribute o (Str.ofString "pop_from") apos) [] [] pos) (wMethA Wo lNil wPopFrom) :=
  r_accM0 (acc1 T.A) (by rw [T.A.C]; kernel_rfl) (by kernel_rfl) rfl rfl (by decide +kernel) (fn70 (ℓ := ℓ) T.A) he ho h0
theorem m_pc (T : TopB G P) {o : Expr} {apos pos : Pos} {Wo : WE} {pl : Env → Sem Bool} (ho : Ev G (ℓ + 1) sc o Wo) (he : MethEq o (Str.ofString "part_count") apos pos [] pl)
    (h0 : ∀ env, attributeBase o (Str.ofString "part_count") env (eval o env) = eval o env) :
    Ev G (ℓ + 1) sc (.Call (.Attribute o (Str.ofString "part_count") apos) [] [] pos) (wMethA Wo lNil wPc) :=
  r_accM0 (acc1 T.A) (by rw [T.A.C]; kernel_rfl) (by kernel_rfl) rfl rfl (by decide +kernel) (fn114 (ℓ := ℓ) T.A) he ho h0
theorem c_acc (T : TopB G P) {np pos : Pos} (hk : sc.names.lookup (Str.ofString "_Accumulator") = some .globalImplicit) : Ev G ℓ sc (.Call (.Name (Str.ofString "_Accumulator") np) [] [] pos) (wCall0 wNew) :=
  r_new (acc1 T.A) (ownNew T.A) (by rw [T.A.T.mg, T.A.C]; rfl) (by rw [T.A.C]; kernel_rfl) hk (by decide +kernel)
theorem p_new {Q : V → Sto → Prop} {ρ : Rho} {σ : Sto} (h : Q (.ref σ.length) (σ ++ [.acc []])) : wCall0 wNew Q ρ σ := ⟨rfl, h⟩
/-- str() of an accumulator -/
noncomputable def wStrAcc : WF := fun vs Q σ => ∃ (i t : Nat) (ps : List (Str × Str)), vs = [.ref i] ∧ σ[i]? = some (.acc (ps.map prV)) ∧ σ[t]? = some (.tab 86) ∧ ps.length ≤ 2 ^ 20 ∧ (ps.map fun p => p.1.length + p.2.length).sum ≤ 2 ^ 20 ∧ Q (.str (S ((ps.map fun p => L p.1 ++ L p.2).flatten))) σ
theorem str_acc (T : TopB G P) : FnOk G (ℓ + 2) (.type "str") wStrAcc :=
  FnOk.mono (FnOk.strAcc (acc1 T.A) (by rw [T.A.C]; kernel_rfl) (by kernel_rfl) (fn91 (ℓ := ℓ) T.A T.B)) fun vs Q σ h => by
    obtain ⟨i, t, ps, rfl, h1, h2, h3, h4, hQ⟩ := h
    exact ⟨i, _, rfl, h1, i, t, ps, rfl, h1, h2, h3, h4, _, rfl, hQ⟩
theorem c_strA (T : TopB G P) {np pos : Pos} {e : Expr} {rest : List Expr} {Ws : WL} (hk : sc.names.lookup (Str.ofString "str") = some .globalImplicit) (ha : Evs G (ℓ + 2) sc (e :: rest) Ws)
    (h1 : ∀ env, starEach (e :: rest) env = (false, eval e env) :: starEach rest env) (h2 : ∀ env, (backTo pos (starEach rest env)).any (·.1) = false) :
    Ev G (ℓ + 2) sc (.Call (.Name (Str.ofString "str") np) (e :: rest) [] pos) (wCall wStrAcc Ws) := c_any T.A.T.O (by rw [T.A.T.mg]; rfl) (T.A.T.mb _ _ (by decide +kernel)) (by decide +kernel) CallOk.type (str_acc T) hk ha h1 h2
/-- len() of whatever -/
noncomputable def wLenB : WF := fun vs Q σ => wLen vs Q σ ∨ ∃ (i t : Nat) (ps : List (Str × Str)), vs = [.ref i] ∧ σ[i]? = some (.acc (ps.map prV)) ∧ σ[t]? = some (.tab 79) ∧ (∀ p ∈ ps, p.1.length < 2 ^ 62 ∧ p.2.length < 2 ^ 62) ∧
  (ps.map fun p => ((p.1.length : Int) + (p.2.length : Int))).sum < 2 ^ 62 ∧ Q (.int ((ps.map fun p => ((p.1.length : Int) + (p.2.length : Int))).sum)) σ
theorem sum_nn : ∀ (ps : List (Str × Str)), 0 ≤ (ps.map fun p => ((p.1.length : Int) + (p.2.length : Int))).sum
  | [] => by simp
  | p :: ps => by have := sum_nn ps; rw [List.map_cons, List.sum_cons]; exact ar400 this
theorem len_acc (T : TopB G P) : FnOk G (ℓ + 2) (.builtin "len") wLenB :=
  FnOk.or FnOk.len (FnOk.mono (FnOk.lenAcc (acc1 T.A) (by rw [T.A.C]; kernel_rfl) (by kernel_rfl) (fn84 (ℓ := ℓ) T.A T.B)) fun vs Q σ h => by
    obtain ⟨i, t, ps, rfl, h1, h2, h3, h4, hQ⟩ := h
    exact ⟨i, _, rfl, h1, i, t, ps, rfl, h1, h2, h3, _, rfl, sum_nn ps, h4, hQ⟩)
theorem c_lenB (T : TopB G P) {np pos : Pos} {e : Expr} {rest : List Expr} {Ws : WL} (hk : sc.names.lookup (Str.ofString "len") = some .globalImplicit) (ha : Evs G (ℓ + 2) sc (e :: rest) Ws)
    (h1 : ∀ env, starEach (e :: rest) env = (false, eval e env) :: starEach rest env) (h2 : ∀ env, (backTo pos (starEach rest env)).any (·.1) = false) :
    Ev G (ℓ + 2) sc (.Call (.Name (Str.ofString "len") np) (e :: rest) [] pos) (wCall wLenB Ws) := c_any T.A.T.O (by rw [T.A.T.mg]; rfl) (T.A.T.mb _ _ (by decide +kernel)) (by decide +kernel) CallOk.builtin (len_acc T) hk ha h1 h2
end

end
section
set_option autoImplicit false
noncomputable def pcV (x : Pc) : V := prV (S (List.replicate x.1 32), S [97 + x.2])
noncomputable def ntV (t : Nat) : V := prV (S [], S [97 + t])
noncomputable def refsP (n k : Nat) : List V := (List.range k).map fun i => V.ref (n + 2 + 2 * i)
noncomputable def refsN (n k : Nat) : List V := (List.range k).map fun i => V.ref (n + 3 + 2 * i)
noncomputable def accsO (T : List PN) : Sto := T.flatMap fun pn => [.acc (pn.1.map pcV), .acc (pn.2.map ntV)]
/-- the store of _law_dealt -/
noncomputable def stD (σ : Sto) (T : List PN) : Sto := σ ++ (.list (refsP σ.length T.length) :: .list (refsN σ.length T.length) :: accsO T)
theorem accsO_len (T : List PN) : (accsO T).length = 2 * T.length := by
  induction T with
  | nil => rfl
  | cons p T ih => unfold accsO at ih ⊢; rw [List.flatMap_cons, List.length_append, ih]; simp; exact ar402
theorem accsO_app (A B : List PN) : accsO (A ++ B) = accsO A ++ accsO B := by unfold accsO; rw [List.flatMap_append]
theorem accsO_at (A R : List PN) (pn : PN) : (accsO (A ++ pn :: R))[2 * A.length]? = some (.acc (pn.1.map pcV)) ∧ (accsO (A ++ pn :: R))[2 * A.length + 1]? = some (.acc (pn.2.map ntV)) := by
  rw [accsO_app, show accsO (pn :: R) = .acc (pn.1.map pcV) :: .acc (pn.2.map ntV) :: accsO R from rfl, ← accsO_len]
  constructor
  · rw [List.getElem?_append_right (Nat.le_refl _), Nat.sub_self]; rfl
  · rw [List.getElem?_append_right (Nat.le_succ _), Nat.succ_sub (Nat.le_refl _), Nat.sub_self]; rfl
theorem accsO_setP (A R : List PN) (p : List Pc) (q : List Nat) (p' : List Pc) : (accsO (A ++ (p, q) :: R)).set (2 * A.length) (.acc (p'.map pcV)) = accsO (A ++ (p', q) :: R) := by
  rw [accsO_app, accsO_app, ← accsO_len, List.set_append_right _ _ (Nat.le_refl _), Nat.sub_self]; rfl
theorem accsO_setN (A R : List PN) (p : List Pc) (q q' : List Nat) : (accsO (A ++ (p, q) :: R)).set (2 * A.length + 1) (.acc (q'.map ntV)) = accsO (A ++ (p, q') :: R) := by
  rw [accsO_app, accsO_app, ← accsO_len, List.set_append_right _ _ (Nat.le_succ _), Nat.succ_sub (Nat.le_refl _), Nat.sub_self]; rfl
section
variable {σ : Sto}
theorem stD_len (T : List PN) : (stD σ T).length = σ.length + 2 + 2 * T.length := by unfold stD; rw [List.length_append, List.length_cons, List.length_cons, accsO_len]; exact ar404
theorem stD_old {T : List PN} {k : Nat} (h : k < σ.length) : (stD σ T)[k]? = σ[k]? := by unfold stD; rw [List.getElem?_append_left h]
theorem stD_p (T : List PN) : (stD σ T)[σ.length]? = some (.list (refsP σ.length T.length)) := by unfold stD; rw [List.getElem?_append_right (Nat.le_refl _), Nat.sub_self]; rfl
theorem stD_n (T : List PN) : (stD σ T)[σ.length + 1]? = some (.list (refsN σ.length T.length)) := by unfold stD; rw [List.getElem?_append_right (Nat.le_succ _), Nat.succ_sub (Nat.le_refl _), Nat.sub_self]; rfl
theorem stD_in (T : List PN) (k : Nat) : (stD σ T)[σ.length + 2 + k]? = (accsO T)[k]? := by
  unfold stD
  rw [List.getElem?_append_right (by exact ar405), show σ.length + 2 + k - σ.length = k + 2 by exact ar406]; rfl
theorem stD_set (T : List PN) (k : Nat) (m : MO) : (stD σ T).set (σ.length + 2 + k) m = σ ++ (.list (refsP σ.length T.length) :: .list (refsN σ.length T.length) :: (accsO T).set k m) := by
  unfold stD
  rw [List.set_append_right _ _ (by exact ar405), show σ.length + 2 + k - σ.length = k + 2 by exact ar406]; rfl
theorem stD_pile (A R : List PN) (pn : PN) : (stD σ (A ++ pn :: R))[σ.length + 2 + 2 * A.length]? = some (.acc (pn.1.map pcV)) := by rw [stD_in]; exact (accsO_at A R pn).1
theorem stD_note (A R : List PN) (pn : PN) : (stD σ (A ++ pn :: R))[σ.length + 3 + 2 * A.length]? = some (.acc (pn.2.map ntV)) := by
  rw [show σ.length + 3 + 2 * A.length = σ.length + 2 + (2 * A.length + 1) by exact ar407, stD_in]; exact (accsO_at A R pn).2
theorem stD_setP (A R : List PN) (p : List Pc) (q : List Nat) (p' : List Pc) : (stD σ (A ++ (p, q) :: R)).set (σ.length + 2 + 2 * A.length) (.acc (p'.map pcV)) = stD σ (A ++ (p', q) :: R) := by
  rw [stD_set, accsO_setP]
  unfold stD
  rw [List.length_append, List.length_append, List.length_cons, List.length_cons]
theorem stD_setN (A R : List PN) (p : List Pc) (q q' : List Nat) : (stD σ (A ++ (p, q) :: R)).set (σ.length + 3 + 2 * A.length) (.acc (q'.map ntV)) = stD σ (A ++ (p, q') :: R) := by
  rw [show σ.length + 3 + 2 * A.length = σ.length + 2 + (2 * A.length + 1) by exact ar407, stD_set, accsO_setN]
  unfold stD
  rw [List.length_append, List.length_append, List.length_cons, List.length_cons]
theorem refsP_succ (n k : Nat) : refsP n k ++ [.ref (n + 2 + 2 * k)] = refsP n (k + 1) := by unfold refsP; rw [List.range_succ, List.map_append]; rfl
theorem refsN_succ (n k : Nat) : refsN n k ++ [.ref (n + 3 + 2 * k)] = refsN n (k + 1) := by unfold refsN; rw [List.range_succ, List.map_append]; rfl
theorem stD_new (T : List PN) : (((stD σ T ++ [MO.acc []]).set σ.length (MO.list (refsP σ.length (T.length + 1)))) ++ [MO.acc []]).set (σ.length + 1) (MO.list (refsN σ.length (T.length + 1))) = stD σ (T ++ [([], [])]) := by
  unfold stD
  rw [accsO_app, List.length_append]
  show _ = σ ++ (MO.list (refsP σ.length (T.length + 1)) :: MO.list (refsN σ.length (T.length + 1)) :: (accsO T ++ [.acc [], .acc []]))
  rw [List.append_assoc, List.set_append_right _ _ (Nat.le_refl _), Nat.sub_self, List.append_assoc, List.set_append_right _ _ (Nat.le_succ _), Nat.succ_sub (Nat.le_refl _), Nat.sub_self]
  simp
theorem refsP_at {n k i : Nat} (h : i < k) (hk : k < 2 ^ 60) {τ : Sto} {j : Nat} (hj : τ[j]? = some (.list (refsP n k))) : aItem τ (.ref j) (.int (i : Nat)) = some (.ref (n + 2 + 2 * i)) := by
  rw [item_at (xs := refsP n k) (by dsimp only [aList]; rw [hj]) (by exact ar414 h hk)]
  unfold refsP
  rw [List.getElem?_map, List.getElem?_range h]; rfl
theorem refsN_at {n k i : Nat} (h : i < k) (hk : k < 2 ^ 60) {τ : Sto} {j : Nat} (hj : τ[j]? = some (.list (refsN n k))) : aItem τ (.ref j) (.int (i : Nat)) = some (.ref (n + 3 + 2 * i)) := by
  rw [item_at (xs := refsN n k) (by dsimp only [aList]; rw [hj]) (by exact ar414 h hk)]
  unfold refsN
  rw [List.getElem?_map, List.getElem?_range h]; rfl
end
/-- the signs of a pile's text -/
noncomputable def pileL (p : List Pc) : List Nat := (p.map fun x => List.replicate x.1 32 ++ [97 + x.2]).flatten
theorem pile_count (y : Nat) : ∀ p : List Pc, (pileL p).countP (fun c => decide (32 < c) && decide (c ≤ 97 + y)) = nbl p (y + 1)
  | [] => rfl
  | x :: p => by
    have ih := pile_count y p
    unfold pileL at ih ⊢
    rw [List.map_cons, List.flatten_cons, List.countP_append, ih, List.countP_append, nbl_cons]
    have h1 : (List.replicate x.1 32).countP (fun c => decide (32 < c) && decide (c ≤ 97 + y)) = 0 := by
      rw [List.countP_eq_zero]
      intro c hc
      rw [(List.mem_replicate.mp hc).2]; simp
    rw [h1]
    have h2 : [97 + x.2].countP (fun c => decide (32 < c) && decide (c ≤ 97 + y)) = if x.2 < y + 1 then 1 else 0 := by
      rw [List.countP_cons]
      by_cases h : x.2 < y + 1
      · rw [if_pos h, if_pos (by simp; exact ar416 h)]; rfl
      · rw [if_neg h, if_neg (by simp; exact ar417 h)]; rfl
    rw [h2]
    exact ar419
theorem pile_text (p : List Pc) : ((p.map fun x => (S (List.replicate x.1 32), S [97 + x.2])).map fun q : Str × Str => L q.1 ++ L q.2).flatten = pileL p := by
  rw [List.map_map]
  unfold pileL
  congr 1
theorem pile_len {p : List Pc} (h : ∀ x ∈ p, x.1 < 5) : (pileL p).length ≤ 5 * p.length := by
  induction p with
  | nil => simp [pileL]
  | cons x p ih =>
    have h1 := ih fun y hy => h y (List.mem_cons_of_mem _ hy)
    have h2 := h x List.mem_cons_self
    unfold pileL at h1 ⊢
    rw [List.map_cons, List.flatten_cons, List.length_append, List.length_append, List.length_replicate, List.length_cons]
    simp only [List.length_cons, List.length_nil]
    exact ar420 h2 h1
theorem pile_sum (p : List Pc) : ((p.map fun x => (S (List.replicate x.1 32), S [97 + x.2])).map fun q : Str × Str => q.1.length + q.2.length).sum = (pileL p).length := by
  rw [List.map_map]
  unfold pileL
  rw [List.length_flatten, List.map_map]
  congr 1
  refine List.map_congr_left fun x _ => ?_
  show (S _).length + (S _).length = (List.replicate x.1 32 ++ [97 + x.2]).length
  rw [← len_L, ← len_L, L_S, L_S, List.length_append]

end
section
set_option autoImplicit false
set_option maxRecDepth 100000

local macro_rules | `(tactic| walk_at "sn") => mkWays "?p_methA|?p_new"
noncomputable abbrev scopeOne : Scope := { kind := ScopeKind.function, names := [(Str.ofString ".0", NameKind.local), (Str.ofString "one", NameKind.local), (Str.ofString "name", NameKind.free)], isGenerator := false, isCoroutine := false }
noncomputable abbrev wPD : WE := wItem (wName (Str.ofString "piles")) (wName (Str.ofString "depth"))
noncomputable abbrev wStay : WS := wAsg (Str.ofString "stay")
                      (wCall wLen
                        (lCons
                          (wComp scopeOne
                            (wCall wStrAcc (lCons wPD lNil)) (aName (Str.ofString "one"))
                            (tCmp2 CmpOp.Lt CmpOp.LtE (wVal (V.str (Str.ofString " "))) (wName (Str.ofString "one")) (wName (Str.ofString "name"))) (wName (Str.ofString "one")))
                          lNil))
section
variable {QS : Fl → Rho → Sto → Prop} {ρ : Rho} {σ : Sto} {A R : List PN} {p : List Pc} {q : List Nat} {t : Nat}
theorem stay_ok {y : Nat} (ht : σ[t]? = some (.tab 86)) (e1 : ρ (Str.ofString "piles") = some (.ref σ.length)) (e2 : ρ (Str.ofString "depth") = some (.int (A.length : Nat))) (e3 : ρ (Str.ofString "name") = some (.str (S [97 + y])))
    (hb : ∀ x ∈ p, x.1 < 5 ∧ x.2 < 5) (hp : p.length ≤ 20) (hA : A.length + R.length < 50) (h : QS .nx (upd ρ (Str.ofString "stay") (.int (nbl p (y + 1) : Nat))) (stD σ (A ++ (p, q) :: R))) : wStay QS ρ (stD σ (A ++ (p, q) :: R)) := by
  repeat' walk_at "st"
  refine ⟨_, refsP_at (k := (A ++ (p, q) :: R).length) (by simp) (by simp; exact ar432 hA) (stD_p _), ?_⟩
  repeat' walk_at "st"
  have htl : t < σ.length := (List.getElem?_eq_some_iff.mp ht).1
  have hpl := pile_len (p := p) fun x hx => (hb x hx).1
  refine ⟨σ.length + 2 + 2 * A.length, t, p.map fun x => (S (List.replicate x.1 32), S [97 + x.2]), rfl, ?_, ?_, by rw [List.length_map]; exact ar433 hp, by rw [pile_sum]; exact ar434 hpl hp, ?_⟩
  · rw [stD_pile, List.map_map]; rfl
  · rw [stD_old htl]; exact ht
  rw [pile_text]
  repeat' walk_at "st"
  refine ⟨(pileL p).map fun c => V.str (S [c]), ?_, by rw [List.length_map]; exact ar434 hpl hp, ?_⟩
  · show some ((S (pileL p)).cps.toList.map fun c => V.str ⟨#[c]⟩) = _
    congr 1
  refine comp_over _ (fun ρ => ρ (Str.ofString "name") = some (.str (S [97 + y]))) (fun c => if (decide (32 < c) && decide (c ≤ 97 + y)) = true then [V.str (S [c])] else []) _ _ _ ?_ trivial ?_ ?_
  · walk_at "rho"
  · rintro c hc ρ acc K hI hK
    repeat' walk_at "st"
    have one : ∀ a b : Nat, ([a] < [b]) ↔ a < b := fun a b => by simp [List.cons_lt_cons_iff]
    have fin := hK (upd ρ (Str.ofString "one") (V.str (S [c]))) (by walk_at "rho")
    by_cases h1 : 32 < c
    · refine p_ift (decide_eq_true (by rw [show Str.ofString " " = S [32] by decide +kernel, L_S, L_S, one]; exact h1)) ?_
      repeat' walk_at "st"
      by_cases h2 : c ≤ 97 + y
      · refine p_ift (by rw [L_S, L_S, decide_eq_false (by rw [one]; exact ar435 h2)]; rfl) ?_
        repeat' walk_at "st"
        rw [if_pos (by simp [h1, h2])] at fin
        exact fin
      · refine p_iff (by rw [L_S, L_S, decide_eq_true (by rw [one]; exact ar436 h2)]; rfl) ?_
        rw [if_neg (by simp [h2]), List.append_nil] at fin
        exact fin
    · refine p_iff (decide_eq_false (by rw [show Str.ofString " " = S [32] by decide +kernel, L_S, L_S, one]; exact h1)) ?_
      refine p_ff ?_
      rw [if_neg (by simp [h1]), List.append_nil] at fin
      exact fin
  · rw [List.nil_append]
    refine p_frozen ?_
    repeat' walk_at "st"
    have hflen : ∀ l : List Nat, (l.map fun c => if (decide (32 < c) && decide (c ≤ 97 + y)) = true then [V.str (S [c])] else []).flatten.length = l.countP (fun c => decide (32 < c) && decide (c ≤ 97 + y)) := by
      intro l
      induction l with
      | nil => rfl
      | cons c l ih =>
        rw [List.map_cons, List.flatten_cons, List.length_append, ih, List.countP_cons]
        by_cases hc : (decide (32 < c) && decide (c ≤ 97 + y)) = true
        · rw [if_pos hc, if_pos hc]; simp; exact ar354
        · rw [if_neg hc, if_neg hc]; simp
    refine ⟨_, nbl p (y + 1), rfl, ?_, ?_, ?_⟩
    · show some _ = some _
      rw [hflen, pile_count]
    · have := nbl_le p (y + 1); exact ar437 this hp
    · exact h
end

end
section
set_option autoImplicit false
set_option maxRecDepth 100000

local macro_rules | `(tactic| walk_at "sn") => mkWays "?p_methA|?p_new"
noncomputable abbrev wOff : WS := wAsg (Str.ofString "off") (wMethA wPD (lCons (wName (Str.ofString "stay")) lNil) wPopFrom)
noncomputable abbrev wPushN : WS := wExpr (wMethA wPD (lCons (wName (Str.ofString "room")) (lCons (wName (Str.ofString "name")) lNil)) wPush)
noncomputable def wBack : WS := wForE (wName (Str.ofString "off")) (wPair (aName (Str.ofString "space")) (aName (Str.ofString "back")))
                              (wSeq
                                (wIte (tCmp CmpOp.Eq (wName (Str.ofString "name")) (wVal (V.str (Str.ofString ""))))
                                  (wSeq (wAsg (Str.ofString "room") (wName (Str.ofString "space"))) (wSeq (wAsg (Str.ofString "name") (wName (Str.ofString "back"))) sNil))
                                  (wSeq
                                    (wExpr
                                      (wMethA wPD (lCons (wName (Str.ofString "space")) (lCons (wName (Str.ofString "back")) lNil))
                                        wPush))
                                    sNil))
                                sNil)
noncomputable abbrev wTurn : WS := wSeq wStay (wSeq wOff (wSeq wPushN (wSeq (wAsg (Str.ofString "name") (wVal (V.str (Str.ofString "")))) (wSeq wBack (wSeq (wAsg (Str.ofString "depth") (wBin Operator.Add (wName (Str.ofString "depth")) (wVal (V.int 1)))) sNil)))))
noncomputable def turnNames : List Str := [Str.ofString "stay", Str.ofString "off", Str.ofString "name", Str.ofString "space", Str.ofString "back", Str.ofString "room", Str.ofString "depth"]
/-- the piece in hand -/
noncomputable def inHand (ρ : Rho) : Option Pc → Prop
  | none => ρ (Str.ofString "name") = some (.str (S []))
  | some z => ρ (Str.ofString "name") = some (.str (S [97 + z.2])) ∧ ρ (Str.ofString "room") = some (.str (S (List.replicate z.1 32)))
section
variable {K : Fl → Rho → Sto → Prop} {ρ : Rho} {σ : Sto} {A R : List PN} {p : List Pc} {q : List Nat} {t : Nat}
theorem pd_at {τ : Sto} (e : τ[σ.length]? = some (.list (refsP σ.length (A ++ (p, q) :: R).length))) (hA : A.length + R.length < 50) : aItem τ (.ref σ.length) (.int (A.length : Nat)) = some (.ref (σ.length + 2 + 2 * A.length)) :=
  refsP_at (k := (A ++ (p, q) :: R).length) (by simp) (by simp; exact ar432 hA) e
theorem back_ok {st : Nat} {y : Pc} {QS : Fl → Rho → Sto → Prop} (hst : st ≤ p.length) (e1 : ρ (Str.ofString "piles") = some (.ref σ.length)) (e2 : ρ (Str.ofString "depth") = some (.int (A.length : Nat))) (e3 : ρ (Str.ofString "name") = some (.str (S [])))
    (e4 : ρ (Str.ofString "off") = some (.list ((p.drop st).map pcV))) (hp : p.length ≤ 20) (hA : A.length + R.length < 50)
    (h : ∀ ρ', (∀ x, x ∉ turnNames → ρ' x = ρ x) → ρ' (Str.ofString "depth") = some (.int (A.length : Nat)) → inHand ρ' (p.drop st).head? → QS .nx ρ' (stD σ (A ++ (p.take st ++ y :: (p.drop st).tail, q) :: R))) :
    wBack QS ρ (stD σ (A ++ (p.take st ++ [y], q) :: R)) := by
  unfold wBack
  repeat' walk_at "st"
  refine ⟨(p.drop st).map pcV, rfl, ?_⟩
  generalize hd : p.drop st = d at *
  have hdl : d.length ≤ 20 := by rw [← hd, List.length_drop]; exact ar438 hp
  have htl : (p.take st).length ≤ 20 := by rw [List.length_take]; lia
  refine for_all (fun i ρ' σ' => σ' = stD σ (A ++ (p.take st ++ y :: (d.take i).tail, q) :: R) ∧ (∀ x, x ∉ turnNames → ρ' x = ρ x) ∧ ρ' (Str.ofString "depth") = some (.int (A.length : Nat)) ∧ inHand ρ' (d.take i).head?) ⟨rfl, fun _ _ => rfl, e2, e3⟩ ?_ ?_ ?_
  · rintro i ρ' σ' hi ⟨rfl, _⟩
    trivial
  · rintro ρ' σ' ⟨rfl, f1, f2, f3⟩
    rw [List.length_map, List.take_length] at *
    exact h ρ' f1 f2 f3
  · rintro i u ρ' σ' hx ⟨rfl, f1, f2, f3⟩ K hK hR
    rw [List.getElem?_map, Option.map_eq_some_iff] at hx
    obtain ⟨z, hz, rfl⟩ := hx
    have f0 : ρ' (Str.ofString "piles") = some (.ref σ.length) := by rw [f1 _ (by decide +kernel)]; exact e1
    have hil : i < d.length := (List.getElem?_eq_some_iff.mp hz).1
    have hin : ∀ (ρ₁ : Rho) x w, x ∈ turnNames → (∀ x, x ∉ turnNames → ρ₁ x = ρ x) → ∀ x', x' ∉ turnNames → upd ρ₁ x w x' = ρ x' := fun ρ₁ x w hm hh x' hx' => by
      unfold upd
      rw [if_neg (fun e : x' = x => hx' (by rw [e]; exact hm))]
      exact hh x' hx'
    have hem : Str.ofString "" = S [] := by decide +kernel
    show wPair _ _ (V.tup [.str (S (List.replicate z.1 32)), .str (S [97 + z.2])]) _ _ _
    cases i with
    | zero =>
      have f3' : ρ' (Str.ofString "name") = some (.str (S [])) := f3
      have hd0 : d.take 1 = [z] := by
        cases d with
        | nil => cases hz
        | cons a d => cases hz; rfl
      repeat' walk_at "st"
      refine p_ift (decide_eq_true (by rw [hem])) ?_
      repeat' walk_at "st"
      refine hK _ _ ⟨?_, ?_, ?_, ?_⟩
      · rw [hd0]; rfl
      · exact hin _ _ _ (by decide +kernel) (hin _ _ _ (by decide +kernel) (hin _ _ _ (by decide +kernel) (hin _ _ _ (by decide +kernel) f1)))
      · walk_at "rho"
      · rw [hd0]
        refine ⟨?_, ?_⟩
        · walk_at "rho"
        · walk_at "rho"
    | succ i =>
      obtain ⟨z0, d', hdd⟩ : ∃ z0 d', d = z0 :: d' := by
        cases d with
        | nil => cases hz
        | cons a d => exact ⟨a, d, rfl⟩
      rw [hdd] at f3 hz
      have hz' : d'[i]? = some z := hz
      rw [List.take_succ_cons] at f3
      obtain ⟨f3', f4'⟩ : ρ' (Str.ofString "name") = some (.str (S [97 + z0.2])) ∧ ρ' (Str.ofString "room") = some (.str (S (List.replicate z0.1 32))) := f3
      rw [hdd, List.take_succ_cons, List.tail_cons]
      have htk : d'.take (i + 1) = d'.take i ++ [z] := by rw [List.take_add_one, hz']; rfl
      have hil' : (d'.take i).length ≤ 20 := by rw [List.length_take]; rw [hdd] at hdl; simp at hdl; lia
      repeat' walk_at "st"
      refine p_iff (decide_eq_false (by rw [hem, L_S, L_S]; simp)) ?_
      repeat' walk_at "st"
      refine ⟨_, pd_at (stD_p _) hA, ?_⟩
      repeat' walk_at "st"
      refine ⟨⟨_, _, rfl, stD_pile _ _ _⟩, ?_⟩
      repeat' walk_at "st"
      refine ⟨_, _, _, _, rfl, stD_pile _ _ _, by rw [List.length_map, List.length_append, List.length_cons]; exact ar439 htl hil', ?_⟩
      have e9 : List.map pcV (List.take st p ++ y :: List.take i d') ++ [V.tup [V.str (S (List.replicate z.fst 32)), V.str (S [97 + z.snd])]] = List.map pcV (List.take st p ++ y :: List.take (i + 1) d') := by
        rw [htk]; simp [pcV, prV]
      rw [e9, stD_setP]
      repeat' walk_at "st"
      refine hK _ _ ⟨?_, ?_, ?_, ?_⟩
      · rw [hdd, List.take_succ_cons, List.tail_cons]
      · exact hin _ _ _ (by decide +kernel) (hin _ _ _ (by decide +kernel) f1)
      · walk_at "rho"
      · rw [hdd, List.take_succ_cons]
        refine ⟨?_, ?_⟩
        · walk_at "rho"
        · walk_at "rho"
theorem turn_ok {y : Pc} (ht : σ[t]? = some (.tab 86)) (e1 : ρ (Str.ofString "piles") = some (.ref σ.length)) (e2 : ρ (Str.ofString "depth") = some (.int (A.length : Nat))) (e3 : inHand ρ (some y))
    (hb : ∀ x ∈ p, x.1 < 5 ∧ x.2 < 5) (hp : p.length ≤ 19) (hA : A.length + R.length < 49)
    (h : ∀ ρ', (∀ x, x ∉ turnNames → ρ' x = ρ x) → ρ' (Str.ofString "depth") = some (.int ((A.length + 1 : Nat) : Int)) → inHand ρ' (offS p y) → K .nx ρ' (stD σ (A ++ (pileS p y, q) :: R))) :
    wTurn K ρ (stD σ (A ++ (p, q) :: R)) := by
  obtain ⟨e3, e4⟩ := e3
  have hin : ∀ (ρ₁ : Rho) x w, x ∈ turnNames → (∀ x, x ∉ turnNames → ρ₁ x = ρ x) → ∀ x', x' ∉ turnNames → upd ρ₁ x w x' = ρ x' := fun ρ₁ x w hm hh x' hx' => by
    unfold upd
    rw [if_neg (fun e : x' = x => hx' (by rw [e]; exact hm))]
    exact hh x' hx'
  have hst : nbl p (y.2 + 1) ≤ p.length := nbl_le _ _
  refine p_seq ?_
  refine stay_ok ht e1 e2 e3 hb (by exact ar440 hp) (by exact ar441 hA) ?_
  repeat' walk_at "st"
  refine ⟨_, pd_at (stD_p _) (by exact ar441 hA), ?_⟩
  repeat' walk_at "st"
  refine ⟨⟨_, _, rfl, stD_pile _ _ _⟩, ?_⟩
  repeat' walk_at "st"
  refine ⟨_, _, nbl p (y.2 + 1), .inl rfl, stD_pile _ _ _, by rw [List.length_map]; show p.length ≤ _; exact ar442 hp, by rw [List.length_map]; exact hst, p_frozen ?_⟩
  rw [← List.map_drop, ← List.map_take, stD_setP]
  repeat' walk_at "st"
  refine ⟨_, pd_at (stD_p _) (by exact ar441 hA), ?_⟩
  repeat' walk_at "st"
  refine ⟨⟨_, _, rfl, stD_pile _ _ _⟩, ?_⟩
  repeat' walk_at "st"
  refine ⟨_, _, _, _, rfl, stD_pile _ _ _, by rw [List.length_map, List.length_take]; lia, ?_⟩
  have e9 : List.map pcV (List.take (nbl p (y.2 + 1)) p) ++ [V.tup [V.str (S (List.replicate y.fst 32)), V.str (S [97 + y.snd])]] = List.map pcV (List.take (nbl p (y.2 + 1)) p ++ [y]) := by
    simp [pcV, prV]
  rw [e9, stD_setP]
  have hem : Str.ofString "" = S [] := by decide +kernel
  repeat' walk_at "st"
  rw [hem]
  refine back_ok (A := A) (R := R) (p := p) (q := q) (y := y) (st := nbl p (y.2 + 1)) hst ?_ ?_ ?_ ?_ (by exact ar440 hp) (by exact ar441 hA) fun ρ' f1 f2 f3 => ?_
  · walk_at "rho"
  · walk_at "rho"
  · walk_at "rho"
  · walk_at "rho"
  repeat' walk_at "st"
  have e8 : ((A.length : Nat) : Int) + 1 = ((A.length + 1 : Nat) : Int) := by exact ar443
  rw [e8]
  refine h _ ?_ ?_ ?_
  · refine hin _ _ _ (by decide +kernel) fun x hx => ?_
    rw [f1 x hx]
    exact hin _ _ _ (by decide +kernel) (hin _ _ _ (by decide +kernel) (hin _ _ _ (by decide +kernel) fun _ _ => rfl)) x hx
  · walk_at "rho"
  · unfold offS stay
    revert f3
    cases (List.drop (nbl p (y.snd + 1)) p).head? with
    | none =>
      intro f3
      have f3' : ρ' (Str.ofString "name") = some (.str (S [])) := f3
      show upd _ _ _ _ = _
      walk_at "rho"
    | some z =>
      intro f3
      obtain ⟨g1, g2⟩ := f3
      refine ⟨?_, ?_⟩
      · walk_at "rho"
      · walk_at "rho"
end

end
section
set_option autoImplicit false
/-- what the piles are, i letters laid -/
structure DB (i : Nat) (T : List PN) : Prop where
  len : T.length ≤ i
  pl : ∀ pn ∈ T, pn.1.length ≤ i ∧ pn.2.length ≤ i ∧ ∀ z ∈ pn.1, z.1 < 5 ∧ z.2 < 5
theorem pileS_bd {p : List Pc} {x : Pc} (hx : x.1 < 5 ∧ x.2 < 5) (h : ∀ z ∈ p, z.1 < 5 ∧ z.2 < 5) : (pileS p x).length ≤ p.length + 1 ∧ (∀ z ∈ pileS p x, z.1 < 5 ∧ z.2 < 5) ∧ ∀ z, offS p x = some z → z.1 < 5 ∧ z.2 < 5 := by
  have hp := step_perm p x
  have hl := hp.length_eq
  rw [List.length_append, List.length_cons] at hl
  have hm : ∀ z ∈ pileS p x ++ (offS p x).toList, z.1 < 5 ∧ z.2 < 5 := fun z hz => by
    rcases List.mem_cons.mp (hp.mem_iff.mp hz) with rfl | hz
    · exact hx
    · exact h z hz
  exact ⟨by exact ar430 hl, fun z hz => hm z (List.mem_append_left _ hz), fun z hz => hm z (List.mem_append_right _ (by rw [hz]; simp))⟩
theorem deal_db {i t : Nat} : ∀ (T : List PN) (x : Pc), (∀ pn ∈ T, pn.1.length ≤ i ∧ pn.2.length ≤ i ∧ ∀ z ∈ pn.1, z.1 < 5 ∧ z.2 < 5) → (x.1 < 5 ∧ x.2 < 5) →
    (deal t T x).length ≤ T.length + 1 ∧ ∀ pn ∈ deal t T x, pn.1.length ≤ i + 1 ∧ pn.2.length ≤ i + 1 ∧ ∀ z ∈ pn.1, z.1 < 5 ∧ z.2 < 5
  | [], x, h, hx => ⟨by simp [deal], fun pn hp => by
    have : pn = ([x], [t]) := by simpa [deal] using hp
    subst this
    exact ⟨by simp, by simp, fun z hz => by rw [List.mem_singleton.mp hz]; exact hx⟩⟩
  | pn :: r, x, h, hx => by
    obtain ⟨h1, h2, h3⟩ := h pn List.mem_cons_self
    obtain ⟨b1, b2, b3⟩ := pileS_bd hx h3
    have hr : ∀ q ∈ r, q.1.length ≤ i ∧ q.2.length ≤ i ∧ ∀ z ∈ q.1, z.1 < 5 ∧ z.2 < 5 := fun q hq => h q (List.mem_cons_of_mem _ hq)
    unfold deal
    cases ho : offS pn.1 x with
    | none =>
      refine ⟨by simp, fun q hq => ?_⟩
      rcases List.mem_cons.mp hq with rfl | hq
      · exact ⟨by show (pileS pn.1 x).length ≤ _; exact ar431 b1 h1, by show (pn.2 ++ [t]).length ≤ _; rw [List.length_append]; simp; lia, b2⟩
      · obtain ⟨c1, c2, c3⟩ := hr q hq; exact ⟨by exact ar147 c1, by exact ar147 c2, c3⟩
    | some y =>
      obtain ⟨d1, d2⟩ := deal_db r y hr (b3 y ho)
      refine ⟨by simp; omega, fun q hq => ?_⟩
      rcases List.mem_cons.mp hq with rfl | hq
      · exact ⟨by show (pileS pn.1 x).length ≤ _; exact ar431 b1 h1, by show pn.2.length ≤ _; exact ar147 h2, b2⟩
      · exact d2 q hq
theorem DB.deal {i t : Nat} {T : List PN} {x : Pc} (h : DB i T) (hx : x.1 < 5 ∧ x.2 < 5) : DB (i + 1) (deal t T x) := by
  obtain ⟨a, b⟩ := deal_db (t := t) T x h.pl hx
  exact ⟨by have := h.len; exact ar431 a this, b⟩
theorem DB.nil : DB 0 [] := ⟨Nat.le_refl _, fun _ h => by cases h⟩
theorem deals_take (ls : List Pc) (i : Nat) (x : Pc) (h : ls[i]? = some x) : deals [] (items (ls.take (i + 1))) = deal x.1 (deals [] (items (ls.take i))) x := by
  rw [List.take_add_one, h]
  unfold items deals
  rw [List.map_append, List.foldl_append]; rfl
theorem deals_db {ls : List Pc} (h : ∀ x ∈ ls, x.1 < 5 ∧ x.2 < 5) : ∀ i, i ≤ ls.length → DB i (deals [] (items (ls.take i)))
  | 0, _ => DB.nil
  | i + 1, hi => by
    have e : ls[i]? = some ls[i] := List.getElem?_eq_getElem (by exact ar167 hi)
    rw [deals_take ls i ls[i] e]
    exact (deals_db h i (by exact ar10 hi)).deal (h _ (List.getElem_mem _))
theorem offS_nil (x : Pc) : offS [] x = none := by simp [offS]
theorem pileS_nil (x : Pc) : pileS [] x = [x] := by simp [pileS]
theorem abc5_index {k : Nat} (h : k < 5) : ∃ rest, Builtin.Str.occurrences (Str.ofString "abcde") (S [97 + k]) 0 (Str.ofString "abcde").length 1 = k :: rest := by
  have h : k = 0 ∨ k = 1 ∨ k = 2 ∨ k = 3 ∨ k = 4 := by exact ar392 h
  rcases h with rfl | rfl | rfl | rfl | rfl
  all_goals exact ⟨[], by decide +kernel⟩

end
section
set_option autoImplicit false
set_option maxRecDepth 100000

local macro_rules | `(tactic| walk_at "sn") => mkWays "?p_methA|?p_new"
noncomputable def wGrow : WS := wIte (tCmp CmpOp.Eq (wName (Str.ofString "depth")) (wCall wLen (lCons (wName (Str.ofString "piles")) lNil)))
                    (wSeq (wExpr (wMethL (wName (Str.ofString "piles")) (lCons (wCall0 wNew) lNil) wAppend))
                      (wSeq (wExpr (wMethL (wName (Str.ofString "notes")) (lCons (wCall0 wNew) lNil) wAppend)) sNil))
                    sNil
noncomputable def wLoopD : WS := wWhile (tCmp CmpOp.NotEq (wName (Str.ofString "name")) (wVal (V.str (Str.ofString "")))) (wSeq wGrow wTurn)
noncomputable def wNote : WS := wExpr (wMethA (wItem (wName (Str.ofString "notes")) (wBin Operator.Sub (wName (Str.ofString "depth")) (wVal (V.int 1))))
                    (lCons (wVal (V.str (Str.ofString ""))) (lCons (wName (Str.ofString "writer")) lNil)) wPush)
noncomputable def wLetter : WS := wSeq (wAsg (Str.ofString "room") (wBin Operator.Mult (wVal (V.str (Str.ofString " "))) (wMethS (wVal (V.str (Str.ofString "abcde"))) (lCons (wName (Str.ofString "writer")) lNil) wIndex)))
        (wSeq (wAsg (Str.ofString "name") (wName (Str.ofString "reader")))
          (wSeq (wAsg (Str.ofString "depth") (wVal (V.int 0))) (wSeq wLoopD (wSeq wNote sNil))))
section
variable {QS : Fl → Rho → Sto → Prop} {ρ : Rho} {σ : Sto} {A R : List PN} {t : Nat}
theorem grow_ok (e1 : ρ (Str.ofString "piles") = some (.ref σ.length)) (e1' : ρ (Str.ofString "notes") = some (.ref (σ.length + 1))) (e2 : ρ (Str.ofString "depth") = some (.int (A.length : Nat))) (hA : A.length + R.length < 49)
    (h : ∀ pn R', (R = pn :: R' ∨ (R = [] ∧ pn = ([], []) ∧ R' = [])) → QS .nx ρ (stD σ (A ++ pn :: R'))) : wGrow QS ρ (stD σ (A ++ R)) := by
  unfold wGrow
  repeat' walk_at "st"
  have hpl : aList (stD σ (A ++ R)) (.ref σ.length) = some (refsP σ.length (A ++ R).length) := by dsimp only [aList]; rw [stD_p]
  refine ⟨_, _, rfl, aLen_list hpl, by unfold refsP; rw [List.length_map, List.length_range, List.length_append]; exact ar444 hA, ?_⟩
  repeat' walk_at "st"
  have hrl : (refsP σ.length (A ++ R).length).length = A.length + R.length := by unfold refsP; rw [List.length_map, List.length_range, List.length_append]
  rw [hrl]
  cases R with
  | cons pn R' =>
    refine p_iff (decide_eq_false (by rw [List.length_cons]; exact ar445)) ?_
    repeat' walk_at "st"
    exact h pn R' (.inl rfl)
  | nil =>
    refine p_ift (decide_eq_true (by rw [List.length_nil]; rfl)) ?_
    rw [List.append_nil] at hpl ⊢
    repeat' walk_at "st"
    refine ⟨⟨_, hpl⟩, ?_⟩
    repeat' walk_at "st"
    refine ⟨σ.length, _, refsP σ.length A.length, rfl, by rw [List.getElem?_append_left (by rw [stD_len]; exact ar446)]; exact stD_p A, by unfold refsP; rw [List.length_map, List.length_range]; exact ar447 hA, ?_⟩
    rw [stD_len, refsP_succ]
    repeat' walk_at "st"
    have hn : ((stD σ A ++ [MO.acc []]).set σ.length (MO.list (refsP σ.length (A.length + 1))))[σ.length + 1]? = some (.list (refsN σ.length A.length)) := by
      rw [List.getElem?_set, if_neg (by exact ar448), List.getElem?_append_left (by rw [stD_len]; exact ar449)]; exact stD_n A
    refine ⟨⟨refsN σ.length A.length, by dsimp only [aList]; rw [hn]⟩, ?_⟩
    repeat' walk_at "st"
    refine ⟨σ.length + 1, _, refsN σ.length A.length, rfl, by rw [List.getElem?_append_left (by rw [List.length_set, List.length_append, stD_len]; simp; exact ar446)]; exact hn, by unfold refsN; rw [List.length_map, List.length_range]; exact ar447 hA, ?_⟩
    have hl3 : ((stD σ A ++ [MO.acc []]).set σ.length (MO.list (refsP σ.length (A.length + 1)))).length = σ.length + 3 + 2 * A.length := by rw [List.length_set, List.length_append, stD_len]; simp; exact ar450
    rw [hl3, refsN_succ, stD_new]
    repeat' walk_at "st"
    exact h ([], []) [] (.inr ⟨rfl, rfl, rfl⟩)
/-- the loop's word: what is laid, what is not, the piece in hand -/
structure LD (i : Nat) (tk : Nat) (ρ₀ : Rho) (T' : List PN) (σ : Sto) (m : Nat) (ρ : Rho) (σ' : Sto) (A R : List PN) (oy : Option Pc) : Prop where
  old : ∀ x, x ∉ turnNames → ρ x = ρ₀ x
  st : σ' = stD σ (A ++ R)
  dep : ρ (Str.ofString "depth") = some (.int (A.length : Nat))
  hand : inHand ρ oy
  num : A.length + R.length ≤ 15 + (if oy.isSome then 0 else 1)
  rest : ∀ pn ∈ R, pn.1.length ≤ i ∧ pn.2.length ≤ i ∧ ∀ z ∈ pn.1, z.1 < 5 ∧ z.2 < 5
  m : m = R.length + (if oy.isSome then 1 else 0)
  some_ : ∀ y, oy = some y → (y.1 < 5 ∧ y.2 < 5) ∧ A ++ deal tk R y = T'
  none_ : oy = none → ∃ A0 p q, A = A0 ++ [(p, q)] ∧ q.length ≤ i ∧ A0 ++ (p, q ++ [tk]) :: R = T'
theorem loop_ok {i tk : Nat} {T' T : List PN} {x : Pc} (ht : σ[t]? = some (.tab 86)) (e1 : ρ (Str.ofString "piles") = some (.ref σ.length)) (e1' : ρ (Str.ofString "notes") = some (.ref (σ.length + 1))) (hi : i ≤ 15)
    (e2 : ρ (Str.ofString "depth") = some (.int 0)) (e3 : inHand ρ (some x)) (hx : x.1 < 5 ∧ x.2 < 5) (hT : DB i T) (hT' : deal tk T x = T')
    (h : ∀ ρ' A0 p q R, (∀ x, x ∉ turnNames → ρ' x = ρ x) → ρ' (Str.ofString "depth") = some (.int ((A0.length + 1 : Nat) : Int)) → A0.length + R.length ≤ 15 → q.length ≤ i → A0 ++ (p, q ++ [tk]) :: R = T' → QS .nx ρ' (stD σ (A0 ++ (p, q) :: R))) :
    wLoopD QS ρ (stD σ T) := by
  unfold wLoopD
  have hTl := hT.len
  refine p_while (fun m ρ' σ' => ∃ A R oy, LD i tk ρ T' σ m ρ' σ' A R oy) (T.length + 1) ⟨[], T, some x, fun _ _ => rfl, rfl, e2, e3, by simp; exact ar451 hTl hi, hT.pl, by simp, fun y hy => by cases hy; exact ⟨hx, hT'⟩, fun hn => by cases hn⟩ ?_
  rintro m ρ' σ' ⟨A, R, oy, d⟩
  obtain ⟨d1, rfl, d3, d4, d5, d6, d7, d8, d9⟩ := d
  have f1 : ρ' (Str.ofString "piles") = some (.ref σ.length) := by rw [d1 _ (by decide +kernel)]; exact e1
  have f1' : ρ' (Str.ofString "notes") = some (.ref (σ.length + 1)) := by rw [d1 _ (by decide +kernel)]; exact e1'
  have hem : Str.ofString "" = S [] := by decide +kernel
  cases oy with
  | none =>
    have g1 : ρ' (Str.ofString "name") = some (.str (S [])) := d4
    repeat' walk_at "st"
    refine p_iff (decide_eq_false (by rw [hem]; simp)) ?_
    obtain ⟨A0, p, q, rfl, hq, hT2⟩ := d9 rfl
    rw [List.append_assoc]
    rw [List.length_append] at d3 d5
    simp only [Option.isSome, List.length_cons, List.length_nil] at d5
    exact h ρ' A0 p q R d1 d3 (by simp at d5; lia) hq hT2
  | some y =>
    obtain ⟨g1, g2⟩ : ρ' (Str.ofString "name") = some (.str (S [97 + y.2])) ∧ ρ' (Str.ofString "room") = some (.str (S (List.replicate y.1 32))) := d4
    obtain ⟨hy, hdl⟩ := d8 y rfl
    simp only [Option.isSome, if_true] at d5 d7
    refine p_tcmp ?_
    repeat' walk_at "st"
    refine p_ift (decide_eq_true (by rw [hem, L_S, L_S]; simp)) ?_
    refine p_seq ?_
    refine grow_ok f1 f1' d3 (by exact ar452 d5) fun pn R' hR => ?_
    refine p_knx ?_
    have hpn : pn.1.length ≤ i ∧ pn.2.length ≤ i ∧ ∀ z ∈ pn.1, z.1 < 5 ∧ z.2 < 5 := by
      rcases hR with rfl | ⟨rfl, rfl, rfl⟩
      · exact d6 _ List.mem_cons_self
      · exact ⟨Nat.zero_le _, Nat.zero_le _, fun z hz => by cases hz⟩
    have hR' : ∀ q ∈ R', q.1.length ≤ i ∧ q.2.length ≤ i ∧ ∀ z ∈ q.1, z.1 < 5 ∧ z.2 < 5 := by
      rcases hR with rfl | ⟨rfl, rfl, rfl⟩
      · exact fun q hq => d6 q (List.mem_cons_of_mem _ hq)
      · intro q hq; cases hq
    have hnum : A.length + 1 + R'.length ≤ 15 + (if (offS pn.1 y).isSome then 0 else 1) ∧ (R'.length + (if (offS pn.1 y).isSome then 1 else 0) < m) := by
      rcases hR with rfl | ⟨rfl, rfl, rfl⟩
      · rw [List.length_cons] at d5 d7
        cases (offS pn.1 y) <;> simp <;> (first | exact ar453 d5 d7 | exact ar454 d5 d7)
      · rw [offS_nil]; simp at d5 d7 ⊢; exact ar455 d5 d7
    have hdeal : deal tk R y = match offS pn.1 y with
      | none => (pileS pn.1 y, pn.2 ++ [tk]) :: R'
      | some z => (pileS pn.1 y, pn.2) :: deal tk R' z := by
      rcases hR with rfl | ⟨rfl, rfl, rfl⟩
      · rfl
      · rw [offS_nil, pileS_nil]; rfl
    obtain ⟨p, q⟩ := pn
    obtain ⟨b1, b2, b3⟩ := pileS_bd hy hpn.2.2
    refine turn_ok ht f1 d3 ⟨g1, g2⟩ hpn.2.2 (by have := hpn.1; show p.length ≤ 19; have h' : p.length ≤ i := this; exact ar456 h' hi) (by have := hnum.1; split at this <;> (first | exact ar457 this | exact ar458 this)) fun ρ'' c1 c2 c3 => ?_
    refine p_whnx _ hnum.2 ⟨A ++ [(pileS p y, q)], R', offS p y, fun x hx => (c1 x hx).trans (d1 x hx), by rw [List.append_assoc]; rfl, by rw [List.length_append]; exact c2, c3, by rw [List.length_append]; exact hnum.1, hR', rfl, fun z hz => ⟨b3 z hz, ?_⟩, fun hn => ⟨A, pileS p y, q, rfl, hpn.2.1, ?_⟩⟩
    · rw [← hdl, hdeal, hz, List.append_assoc]; rfl
    · rw [← hdl, hdeal, hn]
theorem letter_ok {i : Nat} {T : List PN} {x : Pc} (ht : σ[t]? = some (.tab 86)) (e1 : ρ (Str.ofString "piles") = some (.ref σ.length)) (e1' : ρ (Str.ofString "notes") = some (.ref (σ.length + 1))) (hi : i ≤ 15)
    (w1 : ρ (Str.ofString "writer") = some (.str (S [97 + x.1]))) (w2 : ρ (Str.ofString "reader") = some (.str (S [97 + x.2]))) (hx : x.1 < 5 ∧ x.2 < 5) (hT : DB i T)
    (h : ∀ ρ', (∀ x, x ∉ turnNames → ρ' x = ρ x) → QS .nx ρ' (stD σ (deal x.1 T x))) : wLetter QS ρ (stD σ T) := by
  have hin : ∀ (ρ₁ : Rho) x w, x ∈ turnNames → (∀ x, x ∉ turnNames → ρ₁ x = ρ x) → ∀ x', x' ∉ turnNames → upd ρ₁ x w x' = ρ x' := fun ρ₁ x w hm hh x' hx' => by
    unfold upd
    rw [if_neg (fun e : x' = x => hx' (by rw [e]; exact hm))]
    exact hh x' hx'
  have hem : Str.ofString "" = S [] := by decide +kernel
  have hsp : Str.ofString " " = S [32] := by decide +kernel
  unfold wLetter
  repeat' walk_at "st"
  obtain ⟨rest, hix⟩ := abc5_index hx.1
  refine ⟨_, _, x.1, rest, rfl, hix, ?_⟩
  repeat' walk_at "st"
  refine p_muls (by exact ar135) (by rw [hsp, L_S]; decide) (by exact ar459 hx) ?_
  have hrep : (List.replicate ((x.1 : Nat) : Int).toNat (L (Str.ofString " "))).flatten = List.replicate x.1 32 := by
    rw [hsp, L_S, Int.toNat_natCast]
    induction x.1 with
    | zero => rfl
    | succ n ih => rw [List.replicate_succ, List.flatten_cons, ih]; rfl
  rw [hrep]
  repeat' walk_at "st"
  refine loop_ok (i := i) (tk := x.1) (x := x) ht ?_ ?_ hi ?_ ⟨?_, ?_⟩ hx hT rfl fun ρ' A0 p q R c1 c2 c3 c4 c5 => ?_
  · walk_at "rho"
  · walk_at "rho"
  · walk_at "rho"
  · walk_at "rho"
  · walk_at "rho"
  have g1 : ρ' (Str.ofString "notes") = some (.ref (σ.length + 1)) := by rw [c1 _ (by decide +kernel)]; walk_at "rho"
  have g2 : ρ' (Str.ofString "writer") = some (.str (S [97 + x.1])) := by rw [c1 _ (by decide +kernel)]; walk_at "rho"
  unfold wNote
  repeat' walk_at "st"
  have e8 : ((A0.length + 1 : Nat) : Int) - 1 = ((A0.length : Nat) : Int) := by exact ar460
  rw [e8]
  refine ⟨_, refsN_at (k := (A0 ++ (p, q) :: R).length) (by simp) (by simp; exact ar461 c3) (stD_n _), ?_⟩
  repeat' walk_at "st"
  refine ⟨⟨_, _, rfl, stD_note _ _ _⟩, ?_⟩
  repeat' walk_at "st"
  refine ⟨_, _, _, _, rfl, stD_note _ _ _, by rw [List.length_map]; show q.length ≤ _; exact ar462 c4 hi, ?_⟩
  have e9 : List.map ntV (p, q).2 ++ [V.tup [V.str (Str.ofString ""), V.str (S [97 + x.fst])]] = List.map ntV (q ++ [x.1]) := by
    rw [hem]; simp [ntV, prV]
  rw [e9, stD_setN, c5]
  repeat' walk_at "st"
  refine h ρ' fun y hy => ?_
  rw [c1 y hy]
  exact hin _ _ _ (by decide +kernel) (hin _ _ _ (by decide +kernel) (hin _ _ _ (by decide +kernel) fun _ _ => rfl)) y hy
end

end
section
set_option autoImplicit false
set_option maxRecDepth 100000

local macro_rules | `(tactic| walk_at "ev") => mkWays "@c_strA D el R1 R1"
local macro_rules | `(tactic| walk_at "fn") => mkWays "@m_push ev el R1 R1 R1 R1|@m_popf ev el R1 R1 R1 R1|@c_acc D"
local macro_rules | `(tactic| walk_at "sn") => mkWays "?p_methA"
theorem def182 {G : Glb} {P : Params} (T : TopG G P) : IsDef G 182 (fd 182) (bd 182) [] := isDef T 182 _ rfl rfl rfl rfl rfl rfl ⟨_, _, _, _, rfl, rfl, rfl, rfl⟩ rfl rfl rfl
/-- _law_dealt -/
noncomputable def wDealt : WF := fun vs Q σ => ∃ (v : V) (ls : List Pc) (t : Nat), vs = [v] ∧ aList σ v = some (ls.map lv) ∧ (∀ x ∈ ls, x.1 < 5 ∧ x.2 < 5) ∧ ls.length ≤ 14 ∧ σ[t]? = some (.tab 86) ∧
  Q (.tup [.ref σ.length, .ref (σ.length + 1)]) (stD σ (deals [] (items ls)))
set_option maxHeartbeats 2000000 in
theorem fn182 {G : Glb} {P : Params} (T : TopB G P) {ℓ : Nat} : FnOk G (ℓ + 3) (.ref 182) wDealt := by
  have T0 : TopG G P := T.A.T
  apply FnOk.mono
  apply FnOk.def T0.O (def182 T0) (ps := ["letters"])
  focus (intro x hx; simp only [List.mem_cons, List.not_mem_nil, or_false] at hx; rcases hx with rfl <;> walk_at "cs")
  focus (intro ws h; obtain ⟨a, rfl⟩ := List.length_eq_one_iff.mp h; rfl)
  focus (apply s_cons; (focus walk_at "e1"); (focus (apply s_cons; (focus walk_at "e1"); (focus (apply s_cons; (focus (apply s_for; (focus walk_at "ev"); (focus walk_at "ea"); (focus (apply s_cons; (focus walk_at "e1"); (focus (apply s_cons; (focus walk_at "e1"); (focus (apply s_cons; (focus walk_at "e1"); (focus (apply s_cons; (focus (apply s_while; (focus walk_at "et"); (focus (apply s_cons; (focus (apply s_ite; (focus walk_at "et"); (focus walk_at "es"); (focus walk_at "es"))); (focus (apply s_cons; (focus walk_at "e1"); (focus (apply s_cons; (focus walk_at "e1"); (focus (apply s_cons; (focus walk_at "e1"); (focus (apply s_cons; (focus walk_at "e1"); (focus (apply s_cons; (focus (apply s_for; (focus walk_at "ev"); (focus walk_at "ea"); (focus walk_at "es"); (focus exact fun _ _ => rfl))); (focus (apply s_cons; (focus walk_at "e1"); (focus walk_at "es"))))))))))))))))); (focus (apply s_cons; (focus walk_at "e1"); (focus walk_at "es"))))))))))); (focus exact fun _ _ => rfl))); (focus (apply s_cons; (focus walk_at "e1"); (focus walk_at "es"))))))))
  rintro vs Q σ ⟨v, ls, t, rfl, hl, hls, hlen, ht, hQ⟩
  refine ⟨_, rfl, ?_⟩
  repeat' walk_at "st"
  refine ⟨by decide, p_mut ?_⟩
  repeat' walk_at "st"
  refine ⟨by decide, p_mut ?_⟩
  repeat' walk_at "st"
  have hl' : aList (σ ++ [MO.list []] ++ [MO.list []]) v = some (ls.map lv) := aList_app _ (aList_app _ hl)
  refine ⟨_, items_of hl', ?_⟩
  have htl : t < σ.length := (List.getElem?_eq_some_iff.mp ht).1
  refine for_all (fun i ρ σ' => σ' = stD σ (deals [] (items (ls.take i))) ∧ ρ (Str.ofString "piles") = some (.ref σ.length) ∧ ρ (Str.ofString "notes") = some (.ref (σ.length + 1))) ⟨?_, ?_, ?_⟩ ?_ ?_ ?_
  · rw [List.append_assoc]; rfl
  · walk_at "rho"
  · rw [show (σ ++ [MO.list []]).length = σ.length + 1 by simp]; walk_at "rho"
  · rintro i ρ σ' hi ⟨rfl, f1, f2⟩
    refine gd_of ?_
    cases v with
    | list ys => exact hl
    | ref k =>
      dsimp only [aList] at hl ⊢
      have hk : k < σ.length := by
        cases e : σ[k]? with
        | none => rw [e] at hl; cases hl
        | some m => exact (List.getElem?_eq_some_iff.mp e).1
      rw [stD_old hk]; exact hl
    | _ => cases hl
  · rintro ρ σ' ⟨rfl, f1, f2⟩
    repeat' walk_at "st"
    refine ⟨(by decide : 2 ≤ 2 ^ 20), ?_⟩
    repeat' walk_at "st"
    rw [List.length_map, List.take_length]
    exact hQ
  · rintro i u ρ σ' hx ⟨rfl, f1, f2⟩ K hK hR
    rw [List.getElem?_map, Option.map_eq_some_iff] at hx
    obtain ⟨x, hx, rfl⟩ := hx
    have hil : i < ls.length := (List.getElem?_eq_some_iff.mp hx).1
    have hx5 := hls x (List.mem_of_getElem? hx)
    show wPair _ _ (V.tup [.str (S [97 + x.1]), .str (S [97 + x.2])]) _ _ _
    refine p_apair (p_aname (p_aname ?_))
    refine letter_ok (i := i) (x := x) ht ?_ ?_ (by exact ar463 hil hlen) ?_ ?_ hx5 (deals_db hls i (by exact ar44 hil)) fun ρ' c1 => ?_
    · walk_at "rho"
    · walk_at "rho"
    · walk_at "rho"
    · walk_at "rho"
    rw [← deals_take ls i x hx]
    refine hK ρ' _ ⟨rfl, ?_, ?_⟩
    · rw [c1 _ (by decide +kernel)]; walk_at "rho"
    · rw [c1 _ (by decide +kernel)]; walk_at "rho"

end
section
set_option autoImplicit false
set_option maxRecDepth 100000

local macro_rules | `(tactic| walk_at "fn") => mkWays "@c_sorted D el R1 R1|@c_max D el R1 R1"
noncomputable def seven : List V := (List.range 7).map fun i => V.int (i : Nat)
theorem base7_at {σ : Sto} {k : Nat} (h : k < 7) : aItem σ (.list [V.int 6, V.int 1, V.int 13, V.int 17, V.int 0, V.int 22, V.int 9]) (.int (k : Nat)) = some (.int (base7.getD k 0)) := by
  rw [item_at (xs := [V.int 6, V.int 1, V.int 13, V.int 17, V.int 0, V.int 22, V.int 9]) rfl (by exact ar397 h)]
  have h : k = 0 ∨ k = 1 ∨ k = 2 ∨ k = 3 ∨ k = 4 ∨ k = 5 ∨ k = 6 := by exact ar398 h
  rcases h with rfl | rfl | rfl | rfl | rfl | rfl | rfl
  all_goals rfl
theorem letters_turn {sc : List Int} {i : Nat} {lets : List Pc} {tk : Pc} {v : V} {σ : Sto} {K : Fl → Rho → Sto → Prop} (h5 : tk.1 < 5 ∧ tk.2 < 5) (hs1 : num7 sc i % 5 = ((tk.1 : Nat) : Int)) (hs2 : num7 sc i / 5 % 5 = ((tk.2 : Nat) : Int)) (hll : lets.length ≤ 14)
    (hK : ∀ (ρ' : Rho) (σ' : Sto), σ' = σ ++ [MO.list (List.map lv (lets ++ (if tk.1 = tk.2 then [tk] else [tk, (tk.2, tk.1)])))] ∧ ρ' (Str.ofString "script") = some v ∧ ρ' (Str.ofString "letters") = some (V.ref (List.length σ)) → K Fl.nx ρ' σ') :
    ∀ ρ' : Rho, ρ' (Str.ofString "script") = some v → ρ' (Str.ofString "letters") = some (V.ref (List.length σ)) → ρ' (Str.ofString "number") = some (.int (num7 sc i)) → aBin Operator.Mod (V.int (num7 sc i)) (V.int 5)
      (fun b σ₂ =>
        ∃ u,
          aItem σ₂ (V.str (Str.ofString "abcde")) b = some u ∧
            seqK
              (wSeq
                (wAsg (Str.ofString "other") (wItem (wVal (V.str (Str.ofString "abcde"))) (wBin Operator.Mod (wBin Operator.FloorDiv (wName (Str.ofString "number")) (wVal (V.int 5))) (wVal (V.int 5)))))
                (wSeq (wExpr (wMethL (wName (Str.ofString "letters")) (lCons (wTup (lCons (wName (Str.ofString "one")) (lCons (wName (Str.ofString "other")) lNil))) lNil) wAppend))
                  (wSeq
                    (wIte (tCmp CmpOp.NotEq (wName (Str.ofString "one")) (wName (Str.ofString "other")))
                      (wSeq (wExpr (wMethL (wName (Str.ofString "letters")) (lCons (wTup (lCons (wName (Str.ofString "other")) (lCons (wName (Str.ofString "one")) lNil))) lNil) wAppend)) sNil) sNil)
                    sNil)))
              K Fl.nx (upd ρ' (Str.ofString "one") u) σ₂) (σ ++ [MO.list (List.map lv lets)]) := by
  intro ρ e1 e2 e3
  refine p_modi (by decide) ?_
  rw [hs1]
  refine ⟨_, abc5_item h5.1, ?_⟩
  repeat' walk_at "st"
  refine p_divi (by decide) (by decide) ?_
  repeat' walk_at "st"
  refine p_modi (by decide) ?_
  rw [hs2]
  refine ⟨_, abc5_item h5.2, ?_⟩
  repeat' walk_at "st"
  refine ⟨⟨_, aList_end⟩, ?_⟩
  repeat' walk_at "st"
  refine ⟨by simp, ?_⟩
  repeat' walk_at "st"
  refine ⟨σ.length, _, _, rfl, get_end, by rw [List.length_map]; exact ar399 hll, ?_⟩
  rw [set_end]
  repeat' walk_at "st"
  rw [L_S, L_S]
  have e1' : List.map lv lets ++ [V.tup [V.str (S [97 + tk.fst]), V.str (S [97 + tk.snd])]] = List.map lv (lets ++ [tk]) := by rw [List.map_append]; rfl
  rw [e1']
  by_cases hne : tk.1 = tk.2
  · refine p_iff (decide_eq_false (by rw [hne]; simp)) ?_
    repeat' walk_at "st"
    rw [if_pos hne] at hK
    refine hK _ _ ⟨rfl, ?_, ?_⟩
    · walk_at "rho"
    · walk_at "rho"
  · refine p_ift (decide_eq_true (by simp; lia)) ?_
    repeat' walk_at "st"
    refine ⟨⟨_, aList_end⟩, ?_⟩
    repeat' walk_at "st"
    refine ⟨by simp, ?_⟩
    repeat' walk_at "st"
    refine ⟨σ.length, _, _, rfl, get_end, by rw [List.length_map, List.length_append]; simp; exact ar401 hll, ?_⟩
    rw [set_end]
    repeat' walk_at "st"
    rw [if_neg hne] at hK
    refine hK _ _ ⟨?_, ?_, ?_⟩
    · simp [lv, prV, ltr]
    · walk_at "rho"
    · walk_at "rho"
theorem def177 {G : Glb} {P : Params} (T : TopG G P) : IsDef G 177 (fd 177) (bd 177) [] := isDef T 177 _ rfl rfl rfl rfl rfl rfl ⟨_, _, _, _, rfl, rfl, rfl, rfl⟩ rfl rfl rfl
set_option maxHeartbeats 2000000 in
theorem fn177 {G : Glb} {P : Params} (T : TopG G P) {ℓ : Nat} : FnOk G (ℓ + 1) (.ref 177) wLetters := by
  apply FnOk.mono
  apply FnOk.def T.O (def177 T) (ps := ["script"])
  focus (intro x hx; simp only [List.mem_cons, List.not_mem_nil, or_false] at hx; rcases hx with rfl <;> walk_at "cs")
  focus (intro ws h; obtain ⟨a, rfl⟩ := List.length_eq_one_iff.mp h; rfl)
  focus (apply s_cons; (focus walk_at "e1"); (focus (apply s_cons; (focus (apply s_for; (focus walk_at "ev"); (focus walk_at "ea"); (focus (apply s_cons; (focus walk_at "e1"); (focus (apply s_cons; (focus walk_at "e1"); (focus (apply s_cons; (focus walk_at "e1"); (focus (apply s_cons; (focus walk_at "e1"); (focus (apply s_cons; (focus walk_at "e1"); (focus (apply s_cons; (focus walk_at "e1"); (focus walk_at "es"))))))))))))); (focus exact fun _ _ => rfl))); (focus (apply s_cons; (focus (apply s_ret; (focus ((with_reducible apply c_sorted (by assumption)); (focus decide +kernel); (focus walk_at "el"); (focus exact fun _ => rfl); (focus exact fun _ => rfl))))); (focus walk_at "es"))))))
  rintro vs Q σ ⟨v, sc, rfl, hl, hsc, hQ⟩
  refine ⟨_, rfl, ?_⟩
  repeat' walk_at "st"
  refine ⟨by decide, p_mut ?_⟩
  repeat' walk_at "st"
  refine ⟨7, rfl, ?_⟩
  repeat' walk_at "st"
  refine ⟨seven, rfl, ?_⟩
  refine for_all (fun i ρ σ' => σ' = σ ++ [.list ((rawL ((List.range i).map (talk sc))).map lv)] ∧ ρ (Str.ofString "script") = some v ∧ ρ (Str.ofString "letters") = some (.ref σ.length)) ⟨rfl, ?_, ?_⟩ ?_ ?_ ?_
  · walk_at "rho"
  · walk_at "rho"
  · rintro i ρ σ' hi ⟨rfl, e1, e2⟩
    trivial
  · rintro ρ σ' ⟨rfl, e1, e2⟩
    repeat' walk_at "st"
    have hlen : (rawL (talks sc)).length ≤ 14 ∧ 7 ≤ (rawL (talks sc)).length := by
      have h := rawL_len (talks sc)
      have h2 : (talks sc).length = 7 := by simp [talks]
      have h3 : selfs (rawL (talks sc)) ≤ (rawL (talks sc)).length := List.countP_le_length
      exact ar464 h h3 h2
    refine ⟨_, (rawL (talks sc)).map ltr, keyS, rfl, ?_, by rw [List.length_map]; exact ar465 hlen, by rw [List.length_map]; exact ar466 hlen, ?_, fun out hp hs => p_frozen ?_⟩
    · rw [List.map_map]; exact aList_end
    · intro p hp q hq
      obtain ⟨x, hx, rfl⟩ := List.mem_map.mp hp
      obtain ⟨y, hy, rfl⟩ := List.mem_map.mp hq
      exact lex_ltr (raw_bd _ 5 (talks_lt sc) x hx) (raw_bd _ 5 (talks_lt sc) y hy)
    · obtain ⟨ls, rfl, hls, hlx⟩ := sorted_ltr (raw_bd _ 5 (talks_lt sc)) hp hs
      repeat' walk_at "st"
      rw [List.map_map]
      exact hQ ls _ hls hlx
  · rintro i u ρ σ' hx ⟨rfl, e1, e2⟩ K hK hR
    unfold seven at hx
    rw [List.getElem?_map, Option.map_eq_some_iff] at hx
    obtain ⟨j, hj, rfl⟩ := hx
    obtain ⟨hj1, hj2⟩ := List.getElem?_eq_some_iff.mp hj
    rw [List.getElem_range] at hj2
    subst hj2
    rw [List.length_range] at hj1
    repeat' walk_at "st"
    refine ⟨by decide, p_frozen ?_⟩
    repeat' walk_at "st"
    refine ⟨_, base7_at hj1, ?_⟩
    repeat' walk_at "st"
    refine ⟨_, _, rfl, aLen_list (aList_app _ hl), by rw [List.length_map]; exact ar467 hsc, ?_⟩
    repeat' walk_at "st"
    have h5 := talk_lt sc i
    have hs1 : num7 sc i % 5 = (((talk sc i).1 : Nat) : Int) := by unfold talk; dsimp only; lia
    have hs2 : num7 sc i / 5 % 5 = (((talk sc i).2 : Nat) : Int) := by unfold talk; dsimp only; lia
    have hraw : rawL (List.map (talk sc) (List.range (i + 1))) = rawL (List.map (talk sc) (List.range i)) ++ (if (talk sc i).1 = (talk sc i).2 then [talk sc i] else [talk sc i, ((talk sc i).2, (talk sc i).1)]) := by
      rw [List.range_succ, List.map_append, raw_app]; simp [rawL]
    rw [hraw] at hK
    generalize hlets : rawL (List.map (talk sc) (List.range i)) = lets at *
    generalize htk : talk sc i = tk at *
    have hll : lets.length ≤ 14 := by
      have h := rawL_len (List.map (talk sc) (List.range i))
      rw [hlets, List.length_map, List.length_range] at h
      exact ar468 h hj1
    have fin := letters_turn (σ := σ) (v := v) h5 hs1 hs2 hll hK
    by_cases hlt : i < sc.length
    · refine p_ift (by rw [List.length_map]; exact decide_eq_true (by exact ar309 hlt)) ?_
      repeat' walk_at "st"
      refine ⟨.int sc[i], by rw [item_at (aList_app _ hl) (by exact ar397 hj1), List.getElem?_map, List.getElem?_eq_getElem hlt]; rfl, ?_⟩
      repeat' walk_at "st"
      rw [show base7.getD i 0 + sc[i] = num7 sc i by unfold num7; rw [List.getD_eq_getElem?_getD (l := sc), List.getElem?_eq_getElem hlt]; rfl]
      refine fin _ ?_ ?_ ?_
      · walk_at "rho"
      · walk_at "rho"
      · walk_at "rho"
    · refine p_iff (by rw [List.length_map]; exact decide_eq_false (by exact ar320 hlt)) ?_
      repeat' walk_at "st"
      rw [show base7.getD i 0 = num7 sc i by unfold num7; rw [List.getD_eq_getElem?_getD (l := sc), List.getElem?_eq_none (by exact ar3 hlt)]; simp]
      refine fin _ ?_ ?_ ?_
      · walk_at "rho"
      · walk_at "rho"
      · walk_at "rho"

end
section
set_option autoImplicit false
noncomputable def EndOk (x : List Nat) : Prop := x = [13] ∨ x = [10] ∨ x = [13, 10]
theorem crlfy_c {c : Nat} {r : List Nat} (h1 : c ≠ 13) (h2 : c ≠ 10) : crlfy (c :: r) = c :: crlfy r := by
  rw [crlfy]
  · rw [if_neg (by exact ar343 h2 h1)]
  · intro r' h; exact absurd h h1
theorem crlfy_cr {r : List Nat} (h : r.head? ≠ some 10) : crlfy (13 :: r) = 13 :: 10 :: crlfy r := by
  cases r with
  | nil => rfl
  | cons c r =>
    rw [crlfy]
    · rw [if_pos (.inl rfl)]
    · intro r' _ h'; injection h' with h' _; exact h (by rw [h']; rfl)
theorem crlfy_lf {r : List Nat} : crlfy (10 :: r) = 13 :: 10 :: crlfy r := by
  rw [crlfy]
  · rw [if_pos (.inr rfl)]
  · intro r' h; cases h
theorem crlfy_crlf {r : List Nat} : crlfy (13 :: 10 :: r) = 13 :: 10 :: crlfy r := by rw [crlfy]
theorem crlfy_dots (n : Nat) (r : List Nat) : crlfy (List.replicate n 46 ++ r) = List.replicate n 46 ++ crlfy r := by
  induction n with
  | zero => rfl
  | succ n ih => rw [List.replicate_succ, List.cons_append, crlfy_c (by decide) (by decide), ih]; rfl
theorem dotify_f {c : Nat} {r : List Nat} : dotify false (c :: r) = c :: dotify (c == 10) r := by
  rw [dotify, if_neg (by simp)]
theorem dotify_dots (n : Nat) (r : List Nat) : dotify false (List.replicate n 46 ++ r) = List.replicate n 46 ++ dotify false r := by
  induction n with
  | zero => rfl
  | succ n ih => rw [List.replicate_succ, List.cons_append, dotify_f]; show 46 :: dotify false _ = _; rw [ih]; rfl
end
section
set_option autoImplicit false
noncomputable def repliesN : Nat → List Nat → List (List Nat)
  | 0, _ => []
  | n + 1, t => if t = [] then [] else parseB t :: repliesN n (t.drop ((parseB t).length + (parseB t).count 34 + 1))
noncomputable def repliesL (t : List Nat) : List (List Nat) := repliesN t.length t
theorem repliesN_ge : ∀ (n m : Nat) (t : List Nat), t.length ≤ n → t.length ≤ m → repliesN n t = repliesN m t
  | 0, 0, t, _, _ => rfl
  | 0, m + 1, t, h, _ => by
    have : t = [] := List.length_eq_zero_iff.mp (by exact ar350 h)
    rw [this]; rfl
  | n + 1, 0, t, _, h => by
    have : t = [] := List.length_eq_zero_iff.mp (by exact ar350 h)
    rw [this]; rfl
  | n + 1, m + 1, t, h1, h2 => by
    unfold repliesN
    by_cases ht : t = []
    · rw [if_pos ht, if_pos ht]
    · rw [if_neg ht, if_neg ht]
      have : 0 < t.length := List.length_pos_iff.mpr ht
      rw [repliesN_ge n m _ (by rw [List.length_drop]; exact ar351 h1) (by rw [List.length_drop]; exact ar351 h2)]
theorem repliesL_nil : repliesL [] = [] := rfl
theorem repliesL_step {t : List Nat} (h : t ≠ []) : repliesL t = parseB t :: repliesL (t.drop ((parseB t).length + (parseB t).count 34 + 1)) := by
  have : 0 < t.length := List.length_pos_iff.mpr h
  unfold repliesL
  obtain ⟨n, hn⟩ : ∃ n, t.length = n + 1 := ⟨t.length - 1, by exact ar352 this⟩
  rw [hn]
  show (if t = [] then [] else _) = _
  rw [if_neg h]
  congr 1
  exact repliesN_ge _ _ _ (by rw [List.length_drop]; exact ar353 hn) (Nat.le_refl _)
theorem parseB_len : ∀ (n : Nat) (t : List Nat), t.length ≤ n → (parseB t).length ≤ t.length
  | _, [], _ => by simp [parseB]
  | 0, c :: r, h => by simp at h
  | n + 1, c :: r, h => by
    by_cases hc : c = 34
    · subst hc
      cases r with
      | nil => rw [parseB_e _ (by simp)]; simp
      | cons c' r' =>
        by_cases hc' : c' = 34
        · subst hc'
          rw [parseB_q]
          have := parseB_len n r' (by simp at h; exact ar10 h)
          simp; exact ar147 this
        · rw [parseB_e _ (by simpa using hc')]; simp
    · rw [parseB_c _ _ hc]
      have := parseB_len n r (by simp at h; lia)
      simp; lia

theorem repl1_len : ∀ (l : List Nat), (repl 46 [34] l).length = l.length
  | [] => rfl
  | a :: l => by
    have := repl1_len l
    show (repl 46 [34] ([a] ++ l)).length = _
    rw [repl_app, List.length_append, this]
    have h1 : (repl 46 [34] [a]).length = 1 := by unfold repl; rw [List.flatMap_singleton]; split <;> rfl
    rw [h1]; simp; exact ar354
noncomputable def dbl (l : List Nat) : List Nat := l.flatMap fun c => if c = 34 then [34, 34] else [c]
theorem dbl_app (a b : List Nat) : dbl (a ++ b) = dbl a ++ dbl b := by simp [dbl]
theorem dbl_free {l : List Nat} (h : 34 ∉ l) : dbl l = l := by
  induction l with
  | nil => rfl
  | cons c l ih =>
    have h1 : c ≠ 34 := fun q => h (q ▸ List.mem_cons_self)
    show (if c = 34 then [34, 34] else [c]) ++ dbl l = _
    rw [if_neg h1, ih fun q => h (List.mem_cons_of_mem _ q)]; rfl
theorem dbl_rep (q : Nat) : dbl (List.replicate q 34) = List.replicate (2 * q) 34 := by
  induction q with
  | zero => rfl
  | succ q ih =>
    show [34, 34] ++ dbl (List.replicate q 34) = _
    rw [ih, show 2 * (q + 1) = 2 * q + 1 + 1 by exact ar355, List.replicate_succ, List.replicate_succ]; rfl
theorem dbl_len (l : List Nat) : (dbl l).length = l.length + l.count 34 := by
  induction l with
  | nil => rfl
  | cons c l ih =>
    show ((if c = 34 then [34, 34] else [c]) ++ dbl l).length = _
    rw [List.length_append, ih, List.length_cons]
    by_cases h : c = 34
    · subst h; rw [if_pos rfl, List.count_cons_self]; simp; exact ar356
    · rw [if_neg h, List.count_cons_of_ne h]; simp; exact ar357
theorem parse_dbl (t : List Nat) : ∀ l : List Nat, parseB (dbl l ++ t) = l ++ parseB t
  | [] => rfl
  | c :: l => by
    show parseB (((if c = 34 then [34, 34] else [c]) ++ dbl l) ++ t) = _
    by_cases h : c = 34
    · subst h
      rw [if_pos rfl]
      show parseB (34 :: 34 :: (dbl l ++ t)) = _
      rw [parseB_q, parse_dbl t l]; rfl
    · rw [if_neg h]
      show parseB (c :: (dbl l ++ t)) = _
      rw [parseB_c _ _ h, parse_dbl t l]; rfl
theorem EndOk.no34 {x : List Nat} (h : EndOk x) : 34 ∉ x := by rcases h with h | h | h <;> rw [h] <;> decide
theorem EndOk.no46 {x : List Nat} (h : EndOk x) : 46 ∉ x := by rcases h with h | h | h <;> rw [h] <;> decide
theorem drop_dbl (l t : List Nat) : (dbl l ++ 34 :: t).drop (l.length + l.count 34 + 1) = t := by
  rw [← dbl_len, ← List.drop_drop, List.drop_left]; rfl

/-- a mail's row: dots, an end -/
noncomputable abbrev MR := Nat × List Nat
noncomputable def dotsL (p : MR) : List Nat := List.replicate p.1 46 ++ p.2
noncomputable def mailL (rs : List MR) : List Nat := (rs.map dotsL).flatten
noncomputable def halfL (rs : List MR) : List Nat := (rs.map fun p => List.replicate (p.1 / 2) 34 ++ p.2).flatten
noncomputable def cr2 (rs : List MR) : List MR := rs.map fun p => (p.1, [13, 10])
noncomputable def up2 (rs : List MR) : List MR := rs.map fun p => (p.1 + 1, p.2)
theorem mail_head {rs : List MR} (h : ∀ p ∈ rs, 1 ≤ p.1) : rs = [] ∨ ∃ r, mailL rs = 46 :: r := by
  cases rs with
  | nil => exact .inl rfl
  | cons p rs =>
    obtain ⟨n, hn⟩ : ∃ n, p.1 = n + 1 := ⟨p.1 - 1, by have := h p List.mem_cons_self; exact ar347 this⟩
    refine .inr ⟨List.replicate n 46 ++ p.2 ++ mailL rs, ?_⟩
    unfold mailL
    rw [List.map_cons, List.flatten_cons, dotsL, hn, List.replicate_succ]; rfl
theorem mail_crlf : ∀ {rs : List MR}, (∀ p ∈ rs, 1 ≤ p.1 ∧ EndOk p.2) → crlfy (mailL rs) = mailL (cr2 rs)
  | [], _ => rfl
  | p :: rs, h => by
    have ih := mail_crlf fun q hq => h q (List.mem_cons_of_mem _ hq)
    obtain ⟨h1, h2⟩ := h p List.mem_cons_self
    have hh : (mailL rs).head? ≠ some 10 := by
      rcases mail_head fun q hq => (h q (List.mem_cons_of_mem _ hq)).1 with q | ⟨r, q⟩
      · rw [q]; simp [mailL]
      · rw [q]; simp
    have e1 : mailL (p :: rs) = List.replicate p.1 46 ++ (p.2 ++ mailL rs) := by unfold mailL; rw [List.map_cons, List.flatten_cons, dotsL, List.append_assoc]
    have e2 : mailL (cr2 (p :: rs)) = List.replicate p.1 46 ++ ([13, 10] ++ mailL (cr2 rs)) := by
      show mailL ((p.1, [13, 10]) :: cr2 rs) = _
      unfold mailL; rw [List.map_cons, List.flatten_cons, dotsL, List.append_assoc]
    rw [e1, e2, crlfy_dots, ← ih]
    congr 1
    rcases h2 with q | q | q
    · rw [q]; exact crlfy_cr hh
    · rw [q]; exact crlfy_lf
    · rw [q]; exact crlfy_crlf
theorem mail_dots : ∀ {rs : List MR}, (∀ p ∈ rs, 1 ≤ p.1) → dotify true (mailL (cr2 rs)) = mailL (up2 (cr2 rs))
  | [], _ => rfl
  | p :: rs, h => by
    have ih := mail_dots fun q hq => h q (List.mem_cons_of_mem _ hq)
    obtain ⟨n, hn⟩ : ∃ n, p.1 = n + 1 := ⟨p.1 - 1, by have := h p List.mem_cons_self; exact ar347 this⟩
    have e1 : mailL (cr2 (p :: rs)) = 46 :: (List.replicate n 46 ++ 13 :: 10 :: mailL (cr2 rs)) := by
      show mailL ((p.1, [13, 10]) :: cr2 rs) = _
      unfold mailL
      rw [List.map_cons, List.flatten_cons, dotsL, hn, List.replicate_succ]
      simp
    have e2 : mailL (up2 (cr2 (p :: rs))) = 46 :: 46 :: (List.replicate n 46 ++ 13 :: 10 :: mailL (up2 (cr2 rs))) := by
      show mailL ((p.1 + 1, [13, 10]) :: up2 (cr2 rs)) = _
      unfold mailL
      rw [List.map_cons, List.flatten_cons, dotsL, hn, List.replicate_succ, List.replicate_succ]
      simp
    rw [e1, e2, ← ih, dotify, if_pos ⟨rfl, rfl⟩, dotify_dots, dotify_f]
    show 46 :: 46 :: (_ ++ 13 :: dotify false (10 :: mailL (cr2 rs))) = _
    rw [dotify_f]
    rfl
theorem mail_sent {rs : List MR} (h : ∀ p ∈ rs, 1 ≤ p.1 ∧ EndOk p.2) : dotify true (crlfy (mailL rs)) = mailL (up2 (cr2 rs)) := by
  rw [mail_crlf h, mail_dots fun p hp => (h p hp).1]
/-- the mail, dots as marks -/
noncomputable def markL (rs : List MR) : List Nat := (rs.map fun p => List.replicate p.1 34 ++ p.2).flatten
theorem mail_mark : ∀ {rs : List MR}, (∀ p ∈ rs, EndOk p.2) → repl 46 [34] (mailL rs) = markL rs
  | [], _ => rfl
  | p :: rs, h => by
    have ih := mail_mark fun q hq => h q (List.mem_cons_of_mem _ hq)
    have h1 : ∀ n, repl 46 [34] (List.replicate n 46) = List.replicate n 34 := fun n => by
      induction n with
      | zero => rfl
      | succ n ih =>
        show [34] ++ repl 46 [34] (List.replicate n 46) = _
        rw [ih]; rfl
    unfold mailL markL at ih ⊢
    rw [List.map_cons, List.flatten_cons, repl_app, ih, dotsL, repl_app, h1, repl_free (h p List.mem_cons_self).no46]; rfl
theorem read_rows : ∀ (rs : List MR) (cur : List Nat), (∀ p ∈ rs, EndOk p.2) → (rs ≠ [] ∨ cur ≠ []) →
    (repliesL (dbl cur ++ markL rs)).flatten = cur ++ halfL rs ∧ (repliesL (dbl cur ++ markL rs)).length = 1 + rs.countP fun p => decide (p.1 % 2 = 1)
  | [], cur, _, hne => by
    have hc : cur ≠ [] := hne.resolve_left (by simp)
    have hl := dbl_len cur
    have hpos : 0 < cur.length := List.length_pos_iff.mpr hc
    have hnz : dbl cur ++ [] ≠ [] := fun q => by
      have h0 : dbl cur = [] := by simpa using q
      rw [h0] at hl
      simp only [List.length_nil] at hl
      exact ar358 hpos hl
    rw [show markL [] = [] from rfl, repliesL_step hnz, parse_dbl, show parseB [] = [] from rfl, List.append_nil, List.append_nil, List.drop_of_length_le (by rw [hl]; exact ar359)]
    exact ⟨by simp [repliesL_nil, halfL], rfl⟩
  | p :: rs, cur, h, _ => by
    have hp := (h p List.mem_cons_self).no34
    have rec' := fun cur hne => read_rows rs cur (fun q hq => h q (List.mem_cons_of_mem _ hq)) hne
    have hm : markL (p :: rs) = List.replicate p.1 34 ++ p.2 ++ markL rs := rfl
    have hh : halfL (p :: rs) = List.replicate (p.1 / 2) 34 ++ p.2 ++ halfL rs := rfl
    have hpe : p.2 ≠ [] := by rcases h p List.mem_cons_self with q | q | q <;> rw [q] <;> simp
    rw [hm, hh, List.countP_cons]
    by_cases hd : p.1 % 2 = 1
    · have e1 : dbl cur ++ (List.replicate p.1 34 ++ p.2 ++ markL rs) = dbl (cur ++ List.replicate (p.1 / 2) 34) ++ 34 :: (dbl p.2 ++ markL rs) := by
        rw [dbl_app, dbl_rep, dbl_free hp]
        conv => lhs; rw [show p.1 = 2 * (p.1 / 2) + 1 by exact ar360 hd]
        rw [List.replicate_succ']
        simp [List.append_assoc]
      have hq : parseB (dbl (cur ++ List.replicate (p.1 / 2) 34) ++ 34 :: (dbl p.2 ++ markL rs)) = cur ++ List.replicate (p.1 / 2) 34 := by
        rw [parse_dbl, dbl_free hp, parseB_e, List.append_nil]
        cases e : p.2 with
        | nil => exact absurd e hpe
        | cons c r =>
          rw [e] at hp
          simp only [List.cons_append, List.head?_cons]
          intro q
          exact hp (by rw [Option.some.inj q]; exact List.mem_cons_self)
      obtain ⟨r1, r2⟩ := rec' p.2 (.inr hpe)
      rw [e1, repliesL_step (by simp), hq, drop_dbl, List.flatten_cons, List.length_cons, r1, r2, if_pos (by simpa using hd)]
      exact ⟨by simp [List.append_assoc], by exact ar361⟩
    · have e1 : dbl cur ++ (List.replicate p.1 34 ++ p.2 ++ markL rs) = dbl (cur ++ List.replicate (p.1 / 2) 34 ++ p.2) ++ markL rs := by
        rw [dbl_app, dbl_app, dbl_rep, dbl_free hp, show 2 * (p.1 / 2) = p.1 by exact ar362 hd]
        simp [List.append_assoc]
      obtain ⟨r1, r2⟩ := rec' (cur ++ List.replicate (p.1 / 2) 34 ++ p.2) (.inr (by simp [hpe]))
      rw [e1, r1, r2, if_neg (by simpa using hd)]
      exact ⟨by simp [List.append_assoc], by exact ar363⟩
theorem half_count : ∀ {rs : List MR}, (∀ p ∈ rs, EndOk p.2) → (halfL rs).count 34 = (rs.map fun p => p.1 / 2).sum
  | [], _ => rfl
  | p :: rs, h => by
    have ih := half_count fun q hq => h q (List.mem_cons_of_mem _ hq)
    have hp := List.count_eq_zero.mpr (h p List.mem_cons_self).no34
    have hh : halfL (p :: rs) = List.replicate (p.1 / 2) 34 ++ p.2 ++ halfL rs := rfl
    rw [hh, List.count_append, List.count_append, List.count_replicate_self, hp, ih]
    simp
/-- the mail, sent so often -/
noncomputable def sentM (rs : List MR) : Nat → List MR
  | 0 => rs
  | n + 1 => up2 (cr2 (sentM rs n))
theorem sentM_eq (rs : List MR) (n : Nat) : sentM rs n = rs.map fun p => (p.1 + n, if n = 0 then p.2 else [13, 10]) := by
  induction n with
  | zero => simp [sentM]
  | succ n ih =>
    show up2 (cr2 (sentM rs n)) = _
    rw [ih]
    unfold up2 cr2
    rw [List.map_map, List.map_map]
    refine List.map_congr_left fun p _ => ?_
    simp
    exact ar364
theorem sentM_ok {rs : List MR} (h : ∀ p ∈ rs, 1 ≤ p.1 ∧ EndOk p.2) (n : Nat) : ∀ p ∈ sentM rs n, 1 ≤ p.1 ∧ EndOk p.2 := by
  rw [sentM_eq]
  intro p hp
  obtain ⟨q, hq, rfl⟩ := List.mem_map.mp hp
  have := h q hq
  refine ⟨by show 1 ≤ q.1 + n; lia, ?_⟩
  dsimp only
  split
  · exact this.2
  · exact .inr (.inr rfl)

end
section
set_option autoImplicit false
set_option maxRecDepth 100000

section
variable {G : Glb} {P : Params} {ℓ : Nat} {sc : Scope} {np pos : Pos} {e : Expr} {rest : List Expr} {Ws : WL}
theorem c_parse (T : TopG G P) (hk : sc.names.lookup (Str.ofString "parse257") = some .globalImplicit) (ha : Evs G (ℓ + 1) sc (e :: rest) Ws)
    (h1 : ∀ env, starEach (e :: rest) env = (false, eval e env) :: starEach rest env) (h2 : ∀ env, (backTo pos (starEach rest env)).any (·.1) = false) :
    Ev G (ℓ + 1) sc (.Call (.Name (Str.ofString "parse257") np) (e :: rest) [] pos) (wCall wParse Ws) :=
  c_own T.O (by rw [T.mg]; rfl) (by decide +kernel) (CallOk.def (T.K 153 _ rfl) rfl) (fn153 T) hk ha h1 h2
end
local macro_rules | `(tactic| walk_at "fn") => mkWays "@c_parse D el R1 R1"
/-- _law_read -/
noncomputable def wRead : WF := fun vs Q σ => ∃ (t : List Nat), vs = [.str (S t)] ∧ t.length ≤ 2 ^ 18 ∧ Q (.tup [.str (S (repliesL t).flatten), .int ((repliesL t).length : Nat)]) σ
theorem def189 {G : Glb} {P : Params} (T : TopG G P) : IsDef G 189 (fd 189) (bd 189) [] := isDef T 189 _ rfl rfl rfl rfl rfl rfl ⟨_, _, _, _, rfl, rfl, rfl, rfl⟩ rfl rfl rfl
set_option maxHeartbeats 2000000 in
theorem fn189 {G : Glb} {P : Params} (T : TopG G P) {ℓ : Nat} : FnOk G (ℓ + 2) (.ref 189) wRead := by
  apply FnOk.mono
  apply FnOk.def T.O (def189 T) (ps := ["text"])
  focus (intro x hx; simp only [List.mem_cons, List.not_mem_nil, or_false] at hx; rcases hx with rfl <;> walk_at "cs")
  focus (intro ws h; obtain ⟨a, rfl⟩ := List.length_eq_one_iff.mp h; rfl)
  focus (apply s_cons; (focus walk_at "e1"); (focus (apply s_cons; (focus walk_at "e1"); (focus walk_at "es"))))
  rintro vs Q σ ⟨t0, rfl, hsz, hQ⟩
  refine ⟨_, rfl, ?_⟩
  repeat' walk_at "st"
  have e0 : Str.ofString "" = S [] := by decide +kernel
  have e257 : L (Str.ofString "257 \"") = [50, 53, 55, 32, 34] := by decide +kernel
  have eq1 : Str.ofString "\"" = S [34] := by decide +kernel
  refine p_while (fun m ρ σ' => ∃ (t acc : List Nat) (n : Nat), σ' = σ ∧ ρ (Str.ofString "text") = some (.str (S t)) ∧ ρ (Str.ofString "read") = some (.str (S acc)) ∧ ρ (Str.ofString "replies") = some (.int (n : Nat)) ∧
    acc ++ (repliesL t).flatten = (repliesL t0).flatten ∧ n + (repliesL t).length = (repliesL t0).length ∧ t.length = m ∧ acc.length + t.length ≤ 2 ^ 18) t0.length ⟨t0, [], 0, rfl, ?_, ?_, ?_, rfl, by simp, rfl, by simpa using hsz⟩ ?_
  · walk_at "rho"
  · rw [← e0]; walk_at "rho"
  · show _ = some (V.int 0)
    walk_at "rho"
  rintro m ρ σ' ⟨t, acc, n, rfl, e1, e2, e3, hrep, hnum, rfl, hlen⟩
  repeat' walk_at "st"
  rw [L_S]
  by_cases ht : t = []
  · refine p_iff (decide_eq_false (by rw [e0]; simp [ht])) ?_
    repeat' walk_at "st"
    refine ⟨(by decide : 2 ≤ 2 ^ 20), ?_⟩
    repeat' walk_at "st"
    rw [ht, repliesL_nil] at hrep hnum
    rw [List.flatten_nil, List.append_nil] at hrep
    rw [List.length_nil, Nat.add_zero] at hnum
    rw [hrep, hnum]; exact hQ
  · refine p_ift (decide_eq_true (by rw [e0]; exact ht)) ?_
    repeat' walk_at "st"
    have hpl := parseB_len _ t (Nat.le_refl _)
    refine p_adds (by rw [e257, L_S]; simp; exact ar403 hlen) ?_
    repeat' walk_at "st"
    refine ⟨_, rfl, by rw [L_S, e257]; rfl, by rw [L_S, e257, L_S]; simp; exact ar408 hlen, ?_⟩
    have hp : (if List.take 2 (List.drop 3 (L (S (L (Str.ofString "257 \"") ++ L (S t))))) = [32, 34] then parseB (List.drop 5 (L (S (L (Str.ofString "257 \"") ++ L (S t))))) else []) = parseB t := by
      rw [L_S, e257, L_S]; rfl
    rw [hp]
    repeat' walk_at "st"
    rw [eq1]
    refine ⟨_, 34, rfl, ?_⟩
    rw [L_S]
    repeat' walk_at "st"
    have hpos : 0 < t.length := List.length_pos_iff.mpr ht
    have hcut : cut (L (S t)) (some (((parseB t).length : Int) + (List.count 34 (parseB t) : Nat) + 1)) none = t.drop ((parseB t).length + (parseB t).count 34 + 1) := by
      rw [L_S]
      unfold cut
      rw [show (((parseB t).length : Int) + (List.count 34 (parseB t) : Nat) + 1) = (((parseB t).length + (parseB t).count 34 + 1 : Nat) : Int) by exact ar412]
      exact congrArg (fun k => t.drop k) (Int.toNat_natCast _)
    rw [hcut]
    have hst := repliesL_step ht
    refine p_whnx (t.drop ((parseB t).length + (parseB t).count 34 + 1)).length (by rw [List.length_drop]; exact ar415 hpos) ⟨_, acc ++ parseB t, n + 1, rfl, ?_, ?_, ?_, ?_, ?_, rfl, ?_⟩
    · walk_at "rho"
    · rw [L_S]; walk_at "rho"
    · rw [show ((n + 1 : Nat) : Int) = (n : Nat) + 1 by exact ar319]; walk_at "rho"
    · rw [List.append_assoc, ← hrep, hst, List.flatten_cons]
    · rw [← hnum, hst, List.length_cons]; exact ar231
    · rw [List.length_append, List.length_drop]; exact ar418 hlen hpl

end
section
set_option autoImplicit false
set_option maxRecDepth 100000

local macro_rules | `(tactic| walk_at "fn") => mkWays "@c_max D el R1 R1"
noncomputable def nmV (y : Nat) : V := .str (S [97 + y])
/-- _law_widest -/
noncomputable def wWidest : WF := fun vs Q σ => ∃ (v : V) (ns : List Nat), vs = [v] ∧ aList σ v = some (ns.map nmV) ∧ 1 ≤ ns.length ∧ ns.length ≤ 20 ∧ ∀ τ, Q (.int ((mxl ((rises ns).map (·.2)) : Nat) : Int)) (σ ++ τ)
theorem rises_len (l : List Nat) : (rises l).length = l.length := by
  have := congrArg List.length (rises_names l [])
  rw [List.length_map] at this
  simpa [rises] using this
theorem rises_fst (l : List Nat) : (rises l).map (·.1) = l := by have := rises_names l []; simpa [rises] using this
theorem rises_take {ns : List Nat} {i x : Nat} (h : ns[i]? = some x) : rises (ns.take (i + 1)) = rises (ns.take i) ++ [(x, 1 + mxl (below (rises (ns.take i)) x))] := by
  unfold rises
  rw [List.take_add_one, h, List.foldl_append]; rfl
theorem below_flat (x : Nat) : ∀ seen : List (Nat × Nat), (seen.map fun z => if z.1 ≤ x then [V.int (z.2 : Nat)] else []).flatten = (below seen x).map fun r => V.int (r : Nat)
  | [] => rfl
  | z :: seen => by
    rw [List.map_cons, List.flatten_cons, below_flat x seen]
    unfold below
    by_cases h : z.1 ≤ x
    · rw [if_pos h, List.filter_cons_of_pos (by simpa using h)]; rfl
    · rw [if_neg h, List.filter_cons_of_neg (by simpa using h)]; rfl
theorem range_pick (seen : List (Nat × Nat)) (x : Nat) : ((List.range seen.length).map fun j => if (seen.getD j (0, 0)).1 ≤ x then [V.int ((seen.getD j (0, 0)).2 : Nat)] else []) = seen.map fun z => if z.1 ≤ x then [V.int (z.2 : Nat)] else [] := by
  apply List.ext_getElem?
  intro j
  rw [List.getElem?_map, List.getElem?_map]
  by_cases h : j < seen.length
  · rw [List.getElem?_range h, List.getElem?_eq_getElem h, Option.map_some, Option.map_some, List.getD_eq_getElem?_getD, List.getElem?_eq_getElem h]; rfl
  · rw [List.getElem?_eq_none (by simpa using h), List.getElem?_eq_none (by exact ar3 h)]; rfl
theorem max_of (l : List Nat) : ((mxl l : Nat) : Int) ∈ (0 : Int) :: l.map (fun n : Nat => (n : Int)) ∧ ∀ m ∈ (0 : Int) :: l.map (fun n : Nat => (n : Int)), m ≤ ((mxl l : Nat) : Int) := by
  constructor
  · by_cases h : l = []
    · subst h; exact List.mem_cons_self
    · exact List.mem_cons_of_mem _ (List.mem_map.mpr ⟨_, mxl_mem h, rfl⟩)
  · intro m hm
    rcases List.mem_cons.mp hm with rfl | hm
    · exact ar135
    · obtain ⟨n, hn, rfl⟩ := List.mem_map.mp hm
      have := mxl_ge hn
      exact ar396 this
theorem def201 {G : Glb} {P : Params} (T : TopG G P) : IsDef G 201 (fd 201) (bd 201) [] := isDef T 201 _ rfl rfl rfl rfl rfl rfl ⟨_, _, _, _, rfl, rfl, rfl, rfl⟩ rfl rfl rfl
set_option maxHeartbeats 2000000 in
theorem fn201 {G : Glb} {P : Params} (T : TopG G P) {ℓ : Nat} : FnOk G (ℓ + 2) (.ref 201) wWidest := by
  apply FnOk.mono
  apply FnOk.def T.O (def201 T) (ps := ["names"])
  focus (intro x hx; simp only [List.mem_cons, List.not_mem_nil, or_false] at hx; rcases hx with rfl <;> walk_at "cs")
  focus (intro ws h; obtain ⟨a, rfl⟩ := List.length_eq_one_iff.mp h; rfl)
  focus (apply s_cons; (focus walk_at "e1"); (focus (apply s_cons; (focus (apply s_for; (focus walk_at "ev"); (focus walk_at "ea"); (focus walk_at "es"); (focus exact fun _ _ => rfl))); (focus walk_at "es"))))
  rintro vs Q σ ⟨v, ns, rfl, hl, h1, h20, hQ⟩
  refine ⟨_, rfl, ?_⟩
  repeat' walk_at "st"
  refine ⟨by decide, p_mut ?_⟩
  repeat' walk_at "st"
  refine ⟨_, _, rfl, aLen_list (aList_app _ hl), by rw [List.length_map]; exact ar409 h20, ?_⟩
  repeat' walk_at "st"
  refine ⟨ns.length, by rw [List.length_map], ?_⟩
  refine ⟨(List.range ns.length).map fun i => V.int (i : Nat), by show (if ns.length < 2 ^ 31 then _ else _) = _; rw [if_pos (by exact ar410 h20)], ?_⟩
  refine for_all (fun i ρ σ' => σ' = σ ++ [.list ((rises (ns.take i)).map fun z => V.int (z.2 : Nat))] ∧ ρ (Str.ofString "names") = some v ∧ ρ (Str.ofString "rising") = some (.ref σ.length)) ⟨rfl, ?_, ?_⟩ ?_ ?_ ?_
  · walk_at "rho"
  · walk_at "rho"
  · rintro i ρ σ' hi ⟨rfl, e1, e2⟩
    trivial
  · rintro ρ σ' ⟨rfl, e1, e2⟩
    repeat' walk_at "st"
    rw [List.length_map, List.length_range, List.take_length]
    have hne : (rises ns).map (·.2) ≠ [] := fun q => by
      have := congrArg List.length q
      rw [List.length_map, rises_len, List.length_nil] at this
      exact ar411 h1 this
    refine ⟨_, ((rises ns).map (·.2)).map fun n => ((n : Nat) : Int), _, rfl, ?_, List.mem_map.mpr ⟨_, mxl_mem hne, rfl⟩, fun m hm => ?_, ?_⟩
    · rw [List.map_map, List.map_map]; exact aList_end
    · obtain ⟨n, hn, rfl⟩ := List.mem_map.mp hm
      have := mxl_ge hn
      exact ar396 this
    repeat' walk_at "st"
    exact hQ _
  · rintro i u ρ σ' hx ⟨rfl, e1, e2⟩ K hK hR
    rw [List.getElem?_map, Option.map_eq_some_iff] at hx
    obtain ⟨j, hj, rfl⟩ := hx
    obtain ⟨hj1, hj2⟩ := List.getElem?_eq_some_iff.mp hj
    rw [List.getElem_range] at hj2
    subst hj2
    rw [List.length_range] at hj1
    have hx : ns[i]? = some ns[i] := List.getElem?_eq_getElem hj1
    rw [rises_take hx] at hK
    have hsl : (rises (ns.take i)).length = i := by rw [rises_len, List.length_take]; lia
    have hsf : ∀ j, j < i → ns[j]? = some ((rises (ns.take i)).getD j (0, 0)).1 := fun j hj => by
      have h1 : ((rises (ns.take i)).map (·.1))[j]? = (ns.take i)[j]? := by rw [rises_fst]
      rw [List.getElem?_map, List.getElem?_eq_getElem (by exact ar413 hj hsl), List.getElem?_take_of_lt hj] at h1
      rw [← h1, List.getD_eq_getElem?_getD, List.getElem?_eq_getElem (by exact ar413 hj hsl)]; rfl
    generalize hsn : rises (ns.take i) = seen at *
    generalize hxx : ns[i] = x at *
    repeat' walk_at "st"
    refine ⟨⟨_, aList_end⟩, ?_⟩
    repeat' walk_at "st"
    refine ⟨by decide, p_frozen ?_⟩
    repeat' walk_at "st"
    refine ⟨i, rfl, ?_⟩
    refine ⟨(List.range i).map fun i => V.int (i : Nat), by show (if i < 2 ^ 31 then _ else _) = _; rw [if_pos (by exact ar421 hj1 h20)], by rw [List.length_map, List.length_range]; exact ar422 hj1 h20, ?_⟩
    refine comp_over _ (fun ρ => ρ (Str.ofString "names") = some v ∧ ρ (Str.ofString "rising") = some (.ref σ.length) ∧ ρ (Str.ofString "k") = some (.int (i : Nat))) (fun j => if (seen.getD j (0, 0)).1 ≤ x then [V.int ((seen.getD j (0, 0)).2 : Nat)] else []) _ _ _ ⟨?_, ?_, ?_⟩ trivial ?_ ?_
    · walk_at "rho"
    · walk_at "rho"
    · walk_at "rho"
    · rintro j hj ρ' acc K' ⟨g1, g2, g3⟩ hK'
      have hji : j < i := List.mem_range.mp hj
      repeat' walk_at "st"
      refine ⟨nmV ((seen.getD j (0, 0)).1), by rw [item_at (aList_app _ hl) (by exact ar423 hji hj1 h20), List.getElem?_map, hsf j hji]; rfl, ?_⟩
      repeat' walk_at "st"
      refine ⟨nmV x, by rw [item_at (aList_app _ hl) (by exact ar424 hj1 h20), List.getElem?_map, hx]; rfl, ?_⟩
      refine p_les ?_
      rw [L_S, L_S]
      have one : ∀ a b : Nat, ([a] < [b]) ↔ a < b := fun a b => by simp [List.cons_lt_cons_iff]
      have fin := hK' (upd ρ' (Str.ofString "j") (V.int (j : Nat))) ⟨by walk_at "rho", by walk_at "rho", by walk_at "rho"⟩
      by_cases hle : (seen.getD j (0, 0)).1 ≤ x
      · refine p_ift (by rw [decide_eq_false (by rw [one]; exact ar425 hle)]; rfl) ?_
        repeat' walk_at "st"
        refine ⟨.int ((seen.getD j (0, 0)).2 : Nat), ?_, ?_⟩
        · rw [item_at aList_end (by exact ar423 hji hj1 h20), List.getElem?_map, List.getD_eq_getElem?_getD, List.getElem?_eq_getElem (by exact ar413 hji hsl)]; rfl
        · rw [if_pos hle] at fin
          exact fin
      · refine p_iff (by rw [decide_eq_true (by rw [one]; exact ar426 hle)]; rfl) ?_
        rw [if_neg hle, List.append_nil] at fin
        exact fin
    · rw [List.nil_append]
      conv => arg 2; arg 1; arg 2; rw [← hsl]
      rw [range_pick, below_flat]
      refine p_frozen ?_
      have hbl : (below seen x).length ≤ 20 := by
        unfold below
        rw [List.length_map]
        exact Nat.le_trans (List.length_filter_le _ _) (by exact ar427 hsl hj1 h20)
      refine BinR.addL ⟨[.int 0], (below seen x).map fun r => V.int (r : Nat), rfl, rfl, by rw [List.length_map]; simp; exact ar428 hbl, p_frozen ?_⟩
      repeat' walk_at "st"
      obtain ⟨m1, m2⟩ := max_of (below seen x)
      refine ⟨_, 0 :: (below seen x).map (fun n : Nat => (n : Int)), _, rfl, by rw [List.map_cons, List.map_map]; rfl, m1, m2, ?_⟩
      repeat' walk_at "st"
      refine ⟨σ.length, _, _, rfl, by rw [List.getElem?_append_right (Nat.le_refl _), Nat.sub_self]; rfl, by rw [List.length_map]; exact ar429 hsl hj1 h20, ?_⟩
      rw [set_end]
      repeat' walk_at "st"
      refine hK _ _ ⟨?_, ?_, ?_⟩
      · rw [List.map_append]
        congr 4
      · walk_at "rho"
      · walk_at "rho"

end
section
set_option autoImplicit false
set_option maxRecDepth 100000

theorem FR.keepsL {g g' : FM} {φ φ' : List Addr} {env : Env} {own : List Str} {ρ : Rho} {h h' : Heap} (F : FR g φ h env own ρ) (hg : ∀ b o, g b = some o → g' b = some o) (hp : ∀ (k : Nat) (a : Addr), φ[k]? = some a → φ'[k]? = some a)
    (hn : ∀ b, h.get? b ≠ none → g' b = none ∨ g b ≠ none) (hm : ∀ b ∈ φ', b ∈ φ ∨ h.get? b = none)
    (hk : ∀ b o, b ≠ env.locals → b ∈ fpOf env own ∨ g b ≠ none → h.get? b = some o → h'.get? b = some o)
    (hl : ∀ o, h.get? env.locals = some o → ∃ sl, h'.get? env.locals = some { o with slots := sl }) : FR g' φ' h' env own ρ := by
  have hc : ∀ x ∈ own, ∀ c, env.cells.lookup x = some c → c ∈ fpOf env own := fun x hx c e => List.mem_cons_of_mem _ (List.mem_filterMap.mpr ⟨x, hx, e⟩)
  obtain ⟨m, hns, hv⟩ := F.ns
  obtain ⟨o, es, ep, ho, hd, r⟩ := hns
  obtain ⟨sl, hsl⟩ := hl o ho
  refine ⟨?_, fun q => ?_, ⟨m, ⟨_, es, ep, hsl, hd, r⟩, fun x v h1 h2 => ?_⟩, fun x v h1 h2 => ?_, fun x hx => ?_, F.inj⟩
  · rcases hn _ (by rw [ho]; simp) with q | q
    · exact q
    · exact absurd F.Lg q
  · rcases hm _ q with q | q
    · exact F.Lφ q
    · rw [ho] at q; cases q
  · obtain ⟨w, e, q⟩ := hv x v h1 h2
    exact ⟨w, e, VR.mono hg hp q⟩
  · obtain ⟨c, w, e, ⟨oc, hoc, hd⟩, q, r⟩ := F.cell x v h1 h2
    have hcL : c ≠ env.locals := fun q => by
      rcases r with hx | ⟨o', e'⟩
      · obtain ⟨c', _, e', _, _, _, z⟩ := F.ownc x hx
        rw [e] at e'; cases e'; exact z q
      · rw [q, F.Lg] at e'; cases e'
    refine ⟨c, w, e, ⟨oc, hk _ _ hcL ?_ hoc, hd⟩, VR.mono hg hp q, r.imp id fun ⟨o, e⟩ => ⟨o, hg _ _ e⟩⟩
    exact r.imp (fun h => hc x h c e) fun ⟨o, e⟩ => by rw [e]; simp
  · obtain ⟨c, v0, e, ⟨oc, hoc, hd⟩, q, r, z⟩ := F.ownc x hx
    refine ⟨c, v0, e, ⟨oc, hk _ _ z (.inl (hc x hx c e)) hoc, hd⟩, ?_, fun y => ?_, z⟩
    · rcases hn _ (by rw [hoc]; simp) with y | y
      · exact y
      · exact absurd q y
    · rcases hm _ y with y | y
      · exact r y
      · rw [hoc] at y; cases y

/-- a statement, in a call of its own right behind the caller -/
noncomputable def SxF (G : Glb) (ℓ : Nat) (sc : Scope) (own : List Str) (st : Stmt) (W : WS) : Prop :=
  ∀ (A : Around) (env : Env) (s : Shared) (g : FM) (φ : List Addr) (σ : Sto) (ρ : Rho) (Q : Fl → Rho → Sto → Prop), Cx ℓ A → EnvOk sc env → A.frames = some [env] → env.frame = some env.locals → Rel G g φ σ env own ρ s → W Q ρ σ →
    ∀ (K : Flow → Shared → Prop) (E : Value → Shared → Prop),
      (∀ f s' g' φ' σ' ρ' fl, Nx (fpOf env own) s s' g g' φ φ' → Rel G g' φ' σ' env own ρ' s' → FlR g' φ' fl f → Q fl ρ' σ' → K f s') → wpAny (model G.prog G.w) A (exec st env) K E s
noncomputable def SxsF (G : Glb) (ℓ : Nat) (sc : Scope) (own : List Str) (st : List Stmt) (W : WS) : Prop :=
  ∀ (A : Around) (env : Env) (s : Shared) (g : FM) (φ : List Addr) (σ : Sto) (ρ : Rho) (Q : Fl → Rho → Sto → Prop), Cx ℓ A → EnvOk sc env → A.frames = some [env] → env.frame = some env.locals → Rel G g φ σ env own ρ s → W Q ρ σ →
    ∀ (K : Flow → Shared → Prop) (E : Value → Shared → Prop),
      (∀ f s' g' φ' σ' ρ' fl, Nx (fpOf env own) s s' g g' φ φ' → Rel G g' φ' σ' env own ρ' s' → FlR g' φ' fl f → Q fl ρ' σ' → K f s') → wpAny (model G.prog G.w) A (execs st env) K E s
section
variable {G : Glb} {P : Params} {ℓ : Nat} {sc : Scope} {own : List Str}
theorem SxF.of {st : Stmt} {W : WS} (h : Sx G ℓ sc own st W) : SxF G ℓ sc own st W := fun A env s g φ σ ρ Q cx eo _ _ R hW => h A env s g φ σ ρ Q cx eo R hW
theorem SxsF.nil : SxsF G ℓ sc own [] fun Q ρ σ => Q .nx ρ σ := fun A env s g φ σ ρ Q cx eo _ _ R hW => Sxs.nil A env s g φ σ ρ Q cx eo R hW
theorem SxsF.cons {st : Stmt} {rest : List Stmt} {W₁ W₂ : WS} (h₁ : SxF G ℓ sc own st W₁) (h₂ : SxsF G ℓ sc own rest W₂) : SxsF G ℓ sc own (st :: rest) (wSeq W₁ W₂) := by
  intro A env s g φ σ ρ Q cx eo hf1 hf2 R hW K E k
  refine wpAny_execs_cons (h₁ A env s g φ σ ρ _ cx eo hf1 hf2 R hW _ _ fun f s₁ g₁ φ₁ σ₁ ρ₁ fl N R₁ hf hQ => ?_)
  cases fl with
  | nx =>
    cases hf
    exact h₂ A env s₁ g₁ φ₁ σ₁ ρ₁ _ cx eo hf1 hf2 R₁ hQ _ _ fun f s₂ g₂ φ₂ σ₂ ρ₂ fl₂ N₂ R₂ hf₂ hQ₂ => k _ _ _ _ _ _ _ (N.trans N₂) R₂ hf₂ hQ₂
  | br => cases hf; exact k _ _ _ _ _ _ .br N R₁ rfl hQ
  | ct => cases hf; exact k _ _ _ _ _ _ .ct N R₁ rfl hQ
  | rt v => obtain ⟨w, rfl, hv⟩ := hf; exact k _ _ _ _ _ _ (.rt v) N R₁ ⟨w, rfl, hv⟩ hQ
theorem SxsF.mono {st : List Stmt} {W W' : WS} (h : SxsF G ℓ sc own st W) (hW : ∀ Q ρ σ, W' Q ρ σ → W Q ρ σ) : SxsF G ℓ sc own st W' :=
  fun A env s g φ σ ρ Q cx eo hf1 hf2 R hq => h A env s g φ σ ρ Q cx eo hf1 hf2 R (hW Q ρ σ hq)
noncomputable def wRef2 (Ws : WL) (Wt : WT) (Wb : WS) : WS := fun Q ρ σ => Ws (fun vs σ₁ => ∃ x, vs = [.str x] ∧ (L x).length ≤ 2 ^ 20 ∧ (L x).take 3 ≠ [50, 53, 55] ∧ Wt (fun y σ₃ => if y = true then Wb Q ρ σ₃ else Q .nx ρ σ₃) ρ σ₁) ρ σ
theorem sf_ref2 (T : TopG G P) {np cp npos pos ipos : Pos} {e t2 : Expr} {b : List Stmt} {Ws : WL} {Wt : WT} {Wb : WS} (hk : sc.names.lookup (Str.ofString "_law_refused") = some .globalImplicit) (ha : Evs G (ℓ + 2) sc [e] Ws)
    (h1 : ∀ env, starEach [e] env = (false, eval e env) :: starEach [] env) (h2 : ∀ env, (backTo cp (starEach [] env)).any (·.1) = false)
    (hp : ∀ env whole, isTrue (.Call (.Name (Str.ofString "_law_refused") np) [e] [] cp) env whole = (do let v ← whole; standAt (Expr.Call (.Name (Str.ofString "_law_refused") np) [e] [] cp).pos; holding [v] (truthy v)))
    (ht : Tt G (ℓ + 2) sc t2 Wt) (hb : Sxs G (ℓ + 2) sc own b Wb) :
    SxF G (ℓ + 2) sc own (.If (.BoolOp .Or [.UnaryOp .Not (.Call (.Name (Str.ofString "_law_refused") np) [e] [] cp) npos, t2] pos) b [] ipos) (wRef2 Ws Wt Wb) := by
  intro A env s g φ σ ρ Q cx eo hf1 hf2 R hW K E k
  refine wpAny_If (wpAny_isTrue_BoolOp (wpAny_allTrue_Or_cons (isTrue_not (isTrue_plain ?_ (hp env _)))))
  refine wpAny_Call_NameR (Ev.glob (ℓ := ℓ + 2) T.O hk (by rw [T.mg]; rfl) (v := .raw (.ref 196)) (fun _ _ => rfl) (by decide +kernel) A env _ s g φ σ ρ (fun v σ' => v = .raw (.ref 196) ∧ σ' = σ) cx eo R ⟨rfl, rfl⟩ _ _ fun wf s₁ g₁ φ₁ σ₁ v N₁ R₁ hv hQ => ?_)
  obtain ⟨rfl, rfl⟩ := hQ
  have hw : wf = .ref 196 := hv
  subst hw
  refine CallOk.def (G := G) (T.K 196 _ rfl) rfl (h1 env) (h2 env) (ha A env own s₁ g₁ φ₁ σ₁ ρ _ cx eo R₁ hW _ _ _ fun ws s₂ g₂ φ₂ σ₂ vs N₂ R₂ hvs hQ₂ => ⟨R₂.sr.inb, ?_⟩)
  obtain ⟨x, rfl, hsz, hx3, hQ₂⟩ := hQ₂
  obtain ⟨w, rfl, hv⟩ := hvs.one
  have hfs : frs [env] = [env.locals] := by unfold frs; rw [List.filterMap_cons, hf2]; rfl
  have hff : FF s₂.heap [env] := fun v hv => by
    rw [List.mem_singleton.mp hv]
    obtain ⟨m, ⟨oF, esF, epF, hoF, hdF, _⟩, _⟩ := R₂.fr.ns
    exact ⟨by rw [eo.scope, eo.kind]; decide, env.locals, oF, hf2, hoF, fun vs q => by rw [hdF] at q; cases q⟩
  refine refused T (ℓ := ℓ) cx R₂.ok R₂.sr hv hsz hf1 hff (fun b hb => by rw [hfs] at hb; rw [List.mem_singleton.mp hb]; exact ⟨R₂.fr.Lφ, R₂.fr.Lg⟩) fun s₃ g₃ φ₃ ok₃ dr₃ os₃ S₃ oth₃ up₃ sub₃ new₃ pre₃ => ?_
  rw [hfs] at oth₃ up₃
  have hL2 : ∃ o, s₂.heap.get? env.locals = some o := by
    obtain ⟨m, ⟨oF, esF, epF, hoF, _⟩, _⟩ := R₂.fr.ns
    exact ⟨oF, hoF⟩
  have ex₃ : ∀ b, s₂.heap.get? b ≠ Option.none → s₃.heap.get? b ≠ Option.none := fun b hb => by
    by_cases q : b = env.locals
    · obtain ⟨o, ho⟩ := hL2
      obtain ⟨sl, h3⟩ := up₃ env.locals (List.mem_singleton.mpr rfl) o ho
      rw [q, h3]; simp
    · by_cases m : b ∈ φ₂
      · obtain ⟨r, hr, _⟩ := pre₃
        obtain ⟨o, ho⟩ := S₃.live (a := b) (by rw [hr]; exact List.mem_append_left _ m)
        rw [ho]; simp
      · cases z : s₂.heap.get? b with
        | none => exact absurd z hb
        | some o => rw [oth₃ b o m (fun y => q (List.mem_singleton.mp y)) z]; simp
  have N₃ : Nx (fpOf env own) s₂ s₃ g₂ g₃ φ₂ φ₃ := ⟨dr₃, os₃, sub₃, new₃, pre₃, fun b o h1 h2 h3 => oth₃ b o h2 (fun q => h1 (by rw [List.mem_singleton.mp q]; exact List.mem_cons_self)) h3, ex₃⟩
  have R₃ : Rel G g₃ φ₃ σ₂ env own ρ s₃ := by
    refine ⟨ok₃, S₃, FR.keepsL R₂.fr sub₃ N₃.phi (fun b hb => ?_) (fun b hb => ?_) (fun b o h1 h2 h3 => oth₃ b o (fun q => ?_) (fun q => h1 (List.mem_singleton.mp q)) h3) (fun o ho => up₃ _ (List.mem_singleton.mpr rfl) o ho)⟩
    · cases z : g₃ b with
      | none => exact .inl rfl
      | some o =>
        rcases new₃ b o z with q | q
        · exact .inr (by rw [q]; simp)
        · exact absurd q hb
    · obtain ⟨r, hr, hr2⟩ := pre₃
      rw [hr] at hb
      rcases List.mem_append.mp hb with q | q
      · exact .inl q
      · exact .inr (hr2 b q)
    · rcases h2 with h2 | h2
      · rcases List.mem_cons.mp h2 with h2 | h2
        · exact h1 h2
        · obtain ⟨y, hy, hc⟩ := List.mem_filterMap.mp h2
          obtain ⟨c, v0, e, _, _, hcφ, _⟩ := R₂.fr.ownc y hy
          rw [hc] at e; cases e; exact hcφ q
      · exact h2 (R₂.sr.fresh b q)
  have N₀ : Nx (fpOf env own) s s₃ g g₃ φ φ₃ := (N₁.fp.trans N₂.fp).trans N₃
  rw [decide_eq_true hx3]
  refine wpAny_truthy_bool ?_
  show wpAny _ _ _ _ _ _
  refine wpAny_allTrue_Or_cons (ht A env own s₃ g₃ φ₃ σ₂ ρ _ cx eo R₃ hQ₂ _ _ fun t s₄ g₄ φ₄ σ₄ N₄ R₄ hQ => ?_)
  cases t with
  | true =>
    rw [if_pos rfl] at hQ
    exact hb A env s₄ g₄ φ₄ σ₄ ρ _ cx eo R₄ hQ _ _ fun f s₅ g₅ φ₅ σ₅ ρ₅ fl N₅ R₅ hf hQ₅ => k _ _ _ _ _ _ _ ((N₀.trans N₄.fp).trans N₅) R₅ hf hQ₅
  | false =>
    rw [if_neg (by simp)] at hQ
    exact wpAny_allTrue_Or_nil (wpAny_execs_nil (k _ _ _ _ _ _ .nx (N₀.trans N₄.fp) R₄ rfl hQ))
end

end
section
set_option autoImplicit false
set_option maxRecDepth 100000

local macro_rules | `(tactic| walk_at "sn") => mkWays "?p_methA|?p_new"
noncomputable def wCmpS : WS := wIte
            (tCmp CmpOp.NotEq
              (wComp
                { kind := ScopeKind.function, names := [(Str.ofString ".0", NameKind.local), (Str.ofString "pile", NameKind.local), (Str.ofString "str", NameKind.globalImplicit)],
                  isGenerator := false, isCoroutine := false }
                (wName (Str.ofString "piles")) (aName (Str.ofString "pile")) tYes (wRepl 32 [] (wCall wStrAcc (lCons (wName (Str.ofString "pile")) lNil))))
              (wComp
                { kind := ScopeKind.function, names := [(Str.ofString ".0", NameKind.local), (Str.ofString "note", NameKind.local), (Str.ofString "str", NameKind.globalImplicit)],
                  isGenerator := false, isCoroutine := false }
                (wName (Str.ofString "notes")) (aName (Str.ofString "note")) tYes (wCall wStrAcc (lCons (wName (Str.ofString "note")) lNil))))
            (wSeq (wRet (wVal (V.bool false))) sNil) sNil
section
variable {QS : Fl → Rho → Sto → Prop} {ρ : Rho} {σ : Sto} {T : List PN} {t : Nat}
theorem split_at {T : List PN} {i : Nat} {pn : PN} (h : T[i]? = some pn) : T = T.take i ++ pn :: T.drop (i + 1) ∧ (T.take i).length = i := by
  obtain ⟨hi, he⟩ := List.getElem?_eq_some_iff.mp h
  refine ⟨?_, by rw [List.length_take]; lia⟩
  conv => lhs; rw [← List.take_append_drop i T]
  rw [List.drop_eq_getElem_cons hi, he]
theorem stD_pileI {i : Nat} {pn : PN} (h : T[i]? = some pn) : (stD σ T)[σ.length + 2 + 2 * i]? = some (.acc (pn.1.map pcV)) := by
  obtain ⟨e, hl⟩ := split_at h
  have := stD_pile (σ := σ) (T.take i) (T.drop (i + 1)) pn
  rw [← e, hl] at this
  exact this
theorem stD_noteI {i : Nat} {pn : PN} (h : T[i]? = some pn) : (stD σ T)[σ.length + 3 + 2 * i]? = some (.acc (pn.2.map ntV)) := by
  obtain ⟨e, hl⟩ := split_at h
  have := stD_note (σ := σ) (T.take i) (T.drop (i + 1)) pn
  rw [← e, hl] at this
  exact this
theorem range_map {α : Type} [Inhabited α] {β : Type} (T : List α) (f : α → β) : ((List.range T.length).map fun i => f (T.getD i default)) = T.map f := by
  apply List.ext_getElem?
  intro i
  rw [List.getElem?_map, List.getElem?_map]
  by_cases h : i < T.length
  · rw [List.getElem?_range h, List.getElem?_eq_getElem h, Option.map_some, Option.map_some, List.getD_eq_getElem?_getD, List.getElem?_eq_getElem h]; rfl
  · rw [List.getElem?_eq_none (by simpa using h), List.getElem?_eq_none (by exact ar3 h)]; rfl
theorem repl_pile (p : List Pc) : repl 32 [] (pileL p) = p.map fun x => 97 + x.2 := by
  induction p with
  | nil => rfl
  | cons x p ih =>
    unfold pileL at ih ⊢
    rw [List.map_cons, List.flatten_cons, repl_app, ih, repl_app]
    have h1 : repl 32 [] (List.replicate x.1 32) = [] := by
      unfold repl
      rw [List.flatMap_eq_nil_iff]
      intro c hc
      rw [(List.mem_replicate.mp hc).2, if_pos rfl]
    have h2 : repl 32 [] [97 + x.2] = [97 + x.2] := by
      unfold repl
      rw [List.flatMap_singleton, if_neg (by exact ar469)]
    rw [h1, h2]; rfl
theorem note_text (q : List Nat) : ((q.map fun t => (S [], S [97 + t])).map fun q : Str × Str => L q.1 ++ L q.2).flatten = q.map (97 + ·) := by
  induction q with
  | nil => rfl
  | cons t q ih => rw [List.map_cons, List.map_cons, List.flatten_cons, ih]; rfl
theorem note_sum (q : List Nat) : ((q.map fun t => (S [], S [97 + t])).map fun q : Str × Str => q.1.length + q.2.length).sum = q.length := by
  induction q with
  | nil => rfl
  | cons t q ih => rw [List.map_cons, List.map_cons, List.sum_cons, ih, List.length_cons]; show 0 + 1 + _ = _; exact ar470
theorem strOk_small {l : List Nat} (h : ∀ c ∈ l, c < 128) : PyData.strOk (S l) = true := by
  unfold PyData.strOk
  rw [Array.all_eq_true']
  intro c hc
  have := h c (by simpa using hc)
  rw [decide_eq_true_iff]
  exact ar471 this
theorem cmpS_ok (ht : σ[t]? = some (.tab 86)) (e1 : ρ (Str.ofString "piles") = some (.ref σ.length)) (e2 : ρ (Str.ofString "notes") = some (.ref (σ.length + 1))) (hT : DB 14 T) (hN : ∀ pn ∈ T, pn.1.map (·.2) = pn.2)
    (h : QS .nx ρ (stD σ T)) : wCmpS QS ρ (stD σ T) := by
  unfold wCmpS
  have htl : t < σ.length := (List.getElem?_eq_some_iff.mp ht).1
  have hT' := hT.len
  have hget : ∀ i, i < T.length → T[i]? = some (T.getD i default) := fun i hi => by rw [List.getD_eq_getElem?_getD, List.getElem?_eq_getElem hi]; rfl
  have hmem : ∀ i, i < T.length → T.getD i default ∈ T := fun i hi => List.mem_of_getElem? (hget i hi)
  repeat' walk_at "st"
  refine ⟨refsP σ.length T.length, by dsimp only [aItems]; rw [stD_p], by unfold refsP; rw [List.length_map, List.length_range]; exact ar399 hT', ?_⟩
  unfold refsP
  refine comp_over _ (fun _ => True) (fun i => [V.str (S ((T.getD i default).2.map (97 + ·)))]) _ _ _ trivial ?_ ?_ ?_
  · dsimp only [aGd]; exact stD_p T
  · rintro i hi ρ' acc K _ hK
    have hi' := List.mem_range.mp hi
    obtain ⟨b1, b2, b3⟩ := hT.pl _ (hmem i hi')
    have hpl := pile_len (p := (T.getD i default).1) fun x hx => (b3 x hx).1
    repeat' walk_at "st"
    refine ⟨σ.length + 2 + 2 * i, t, (T.getD i default).1.map fun x => (S (List.replicate x.1 32), S [97 + x.2]), rfl, ?_, ?_, by rw [List.length_map]; exact ar399 b1, by rw [pile_sum]; exact ar472 hpl b1, ?_⟩
    · rw [stD_pileI (hget i hi'), List.map_map]; rfl
    · rw [stD_old htl]; exact ht
    rw [pile_text]
    refine ⟨S (pileL (T.getD i default).1), rfl, by rw [L_S]; exact ar472 hpl b1, ?_⟩
    rw [L_S, repl_pile, show ((T.getD i default).1.map fun x => 97 + x.2) = (T.getD i default).2.map (97 + ·) by rw [← hN _ (hmem i hi'), List.map_map]; rfl]
    exact hK _ trivial
  rw [flat_single, List.nil_append, range_map T (fun pn => V.str (S (pn.2.map (97 + ·))))]
  refine p_frozen ?_
  repeat' walk_at "st"
  refine ⟨refsN σ.length T.length, by dsimp only [aItems]; rw [stD_n], by unfold refsN; rw [List.length_map, List.length_range]; exact ar399 hT', ?_⟩
  unfold refsN
  refine comp_over _ (fun _ => True) (fun i => [V.str (S ((T.getD i default).2.map (97 + ·)))]) _ _ _ trivial ?_ ?_ ?_
  · dsimp only [aGd]; exact stD_n T
  · rintro i hi ρ' acc K _ hK
    have hi' := List.mem_range.mp hi
    obtain ⟨b1, b2, b3⟩ := hT.pl _ (hmem i hi')
    repeat' walk_at "st"
    refine ⟨σ.length + 3 + 2 * i, t, (T.getD i default).2.map fun t => (S [], S [97 + t]), rfl, ?_, ?_, by rw [List.length_map]; exact ar399 b2, by rw [note_sum]; exact ar399 b2, ?_⟩
    · rw [stD_noteI (hget i hi'), List.map_map]; rfl
    · rw [stD_old htl]; exact ht
    rw [note_text]
    exact hK _ trivial
  rw [flat_single, List.nil_append, range_map T (fun pn => V.str (S (pn.2.map (97 + ·))))]
  refine p_frozen ?_
  refine CmpR.neL ⟨_, rfl, rfl, fun x hx => ?_, ?_⟩
  · obtain ⟨pn, hpn, rfl⟩ := List.mem_map.mp hx
    refine .inl ⟨_, rfl, strOk_small fun c hc => ?_⟩
    obtain ⟨y, hy, rfl⟩ := List.mem_map.mp hc
    rw [← hN pn hpn] at hy
    obtain ⟨z, hz, rfl⟩ := List.mem_map.mp hy
    have := ((hT.pl pn hpn).2.2 z hz).2
    exact ar473 this
  refine p_ff ?_
  repeat' walk_at "st"
  exact h
end

end
section
set_option autoImplicit false
set_option maxRecDepth 100000

local macro_rules | `(tactic| walk_at "sn") => mkWays "?p_methA|?p_new"
noncomputable def wRowsW : WS := wForE (wCall wRange (lCons (wCall wLenB (lCons (wItem (wName (Str.ofString "notes")) (wVal (V.int 0))) lNil)) lNil)) (aName (Str.ofString "place"))
                (wSeq
                  (wExpr
                    (wMethL (wName (Str.ofString "rows"))
                      (lCons
                        (wCall wLenB
                          (lCons
                            (wComp
                              { kind := ScopeKind.function, names := [(Str.ofString ".0", NameKind.local), (Str.ofString "pile", NameKind.local), (Str.ofString "place", NameKind.free)],
                                isGenerator := false, isCoroutine := false }
                              (wName (Str.ofString "piles")) (aName (Str.ofString "pile")) (tCmp CmpOp.Gt (wMethA (wName (Str.ofString "pile")) lNil wPc) (wName (Str.ofString "place")))
                              (wName (Str.ofString "pile")))
                            lNil))
                        lNil)
                      wAppend))
                  sNil)
noncomputable def intsV (l : List Nat) : List V := l.map fun n => V.int (n : Nat)
theorem intsV_snoc (l : List Nat) (n : Nat) : intsV l ++ [V.int (n : Nat)] = intsV (l ++ [n]) := by unfold intsV; rw [List.map_append]; rfl
section
variable {QS : Fl → Rho → Sto → Prop} {ρ : Rho} {σ : Sto} {T : List PN} {t : Nat}
theorem colc_count (T : List PN) (k : Nat) : ((List.range T.length).map fun i => if k < (T.getD i default).1.length then [V.ref (σ.length + 2 + 2 * i)] else []).flatten.length = colc (T.map (·.1.length)) k := by
  have h : ∀ l : List Nat, (l.map fun i => if k < (T.getD i default).1.length then [V.ref (σ.length + 2 + 2 * i)] else []).flatten.length = (l.map fun i => (T.getD i default).1.length).countP fun n => decide (k < n) := by
    intro l
    induction l with
    | nil => rfl
    | cons i l ih =>
      rw [List.map_cons, List.flatten_cons, List.length_append, ih, List.map_cons, List.countP_cons]
      by_cases hk : k < (T.getD i default).1.length
      · rw [if_pos hk, if_pos (by simpa using hk)]; simp; exact ar354
      · rw [if_neg hk, if_neg (by simpa using hk)]; simp
  rw [h, range_map T (fun pn => pn.1.length)]; rfl
theorem rows_ok {pn0 : PN} (h0 : T[0]? = some pn0) (hl0 : pn0.2.length = pn0.1.length) (ht : σ[t]? = some (.tab 79)) (e1 : ρ (Str.ofString "piles") = some (.ref σ.length)) (e2 : ρ (Str.ofString "notes") = some (.ref (σ.length + 1)))
    (e3 : ρ (Str.ofString "rows") = some (.ref (stD σ T).length)) (hT : DB 14 T)
    (h : ∀ ρ', (∀ x, x ≠ Str.ofString "place" → ρ' x = ρ x) → QS .nx ρ' (stD σ T ++ [.list (intsV ((List.range pn0.1.length).map (colc (T.map (·.1.length)))))])) : wRowsW QS ρ (stD σ T ++ [.list []]) := by
  unfold wRowsW
  have htl : t < σ.length := (List.getElem?_eq_some_iff.mp ht).1
  have hT' := hT.len
  have hget : ∀ i, i < T.length → T[i]? = some (T.getD i default) := fun i hi => by rw [List.getD_eq_getElem?_getD, List.getElem?_eq_getElem hi]; rfl
  have hTl : 0 < T.length := (List.getElem?_eq_some_iff.mp h0).1
  have hsl := stD_len (σ := σ) T
  obtain ⟨b1, b2, b3⟩ := hT.pl _ (List.mem_of_getElem? h0)
  have old : ∀ {j : Nat} {m m' : MO}, (stD σ T)[j]? = some m → (stD σ T ++ [m'])[j]? = some m := fun {j m m'} e => by
    rw [List.getElem?_append_left (List.getElem?_eq_some_iff.mp e).1]; exact e
  repeat' walk_at "st"
  refine ⟨_, refsN_at (k := T.length) (i := 0) hTl (by exact ar474 hT') (old (stD_n T)), ?_⟩
  repeat' walk_at "st"
  refine .inr ⟨_, t, pn0.2.map fun t => (S [], S [97 + t]), rfl, ?_, ?_, ?_, ?_, ?_⟩
  · rw [old (stD_noteI h0), List.map_map]; rfl
  · exact old (by rw [stD_old htl]; exact ht)
  · intro p hp
    obtain ⟨y, _, rfl⟩ := List.mem_map.mp hp
    exact ⟨by show (S []).length < _; rw [← len_L, L_S]; decide, by show (S [97 + y]).length < _; rw [← len_L, L_S]; show 1 < _; decide⟩
  all_goals
    have hsum : ∀ q : List Nat, ((q.map fun t => (S [], S [97 + t])).map fun p : Str × Str => ((p.1.length : Int) + (p.2.length : Int))).sum = (q.length : Int) := by
      intro q
      induction q with
      | nil => rfl
      | cons a q ih => rw [List.map_cons, List.map_cons, List.sum_cons, ih, List.length_cons]; show (0 : Int) + 1 + _ = _; exact ar475
    rw [hsum]
  · exact ar476 hl0 b1
  repeat' walk_at "st"
  refine ⟨pn0.1.length, by rw [hl0], ?_⟩
  refine ⟨(List.range pn0.1.length).map fun i => V.int (i : Nat), by show (if pn0.1.length < 2 ^ 31 then _ else _) = _; rw [if_pos (by exact ar477 b1)], ?_⟩
  refine for_all (fun i ρ' σ' => σ' = stD σ T ++ [.list (intsV ((List.range i).map (colc (T.map (·.1.length)))))] ∧ ∀ x, x ≠ Str.ofString "place" → ρ' x = ρ x) ⟨rfl, fun _ _ => rfl⟩ (fun _ _ _ _ _ => trivial) ?_ ?_
  · rintro ρ' σ' ⟨rfl, f1⟩
    rw [List.length_map, List.length_range]
    exact h ρ' f1
  · rintro k u ρ' σ' hx ⟨rfl, f1⟩ K hK hR
    rw [List.getElem?_map, Option.map_eq_some_iff] at hx
    obtain ⟨j, hj, rfl⟩ := hx
    obtain ⟨hj1, hj2⟩ := List.getElem?_eq_some_iff.mp hj
    rw [List.getElem_range] at hj2
    subst hj2
    rw [List.length_range] at hj1
    have g1 : ρ' (Str.ofString "piles") = some (.ref σ.length) := by rw [f1 _ (by decide +kernel)]; exact e1
    have g3 : ρ' (Str.ofString "rows") = some (.ref (stD σ T).length) := by rw [f1 _ (by decide +kernel)]; exact e3
    repeat' walk_at "st"
    refine ⟨⟨_, aList_end⟩, ?_⟩
    repeat' walk_at "st"
    refine ⟨refsP σ.length T.length, by dsimp only [aItems]; rw [old (stD_p T)], by unfold refsP; rw [List.length_map, List.length_range]; exact ar399 hT', ?_⟩
    unfold refsP
    refine comp_over _ (fun ρ => ρ (Str.ofString "place") = some (.int (k : Nat))) (fun i => if k < (T.getD i default).1.length then [V.ref (σ.length + 2 + 2 * i)] else []) _ _ _ ?_ ?_ ?_ ?_
    · walk_at "rho"
    · dsimp only [aGd]; exact old (stD_p T)
    · rintro i hi ρ₂ acc K₂ hI hK₂
      have hi' := List.mem_range.mp hi
      repeat' walk_at "st"
      refine ⟨⟨_, _, rfl, old (stD_pileI (hget i hi'))⟩, ?_⟩
      repeat' walk_at "st"
      refine ⟨_, _, rfl, old (stD_pileI (hget i hi')), ?_⟩
      rw [List.length_map]
      repeat' walk_at "st"
      have fin := hK₂ (upd ρ₂ (Str.ofString "pile") (V.ref (σ.length + 2 + 2 * i))) (by walk_at "rho")
      by_cases hk : k < (T.getD i default).1.length
      · refine p_ift (decide_eq_true (by exact ar478 hk)) ?_
        repeat' walk_at "st"
        rw [if_pos hk] at fin
        exact fin
      · refine p_iff (decide_eq_false (by exact ar479 hk)) ?_
        rw [if_neg hk, List.append_nil] at fin
        exact fin
    rw [List.nil_append]
    refine p_frozen ?_
    repeat' walk_at "st"
    refine .inl ⟨_, _, rfl, rfl, ?_, ?_⟩
    · rw [colc_count]; unfold colc; have := List.countP_le_length (p := fun l => decide (k < l)) (l := T.map (·.1.length)); rw [List.length_map] at this; exact ar480 this hT'
    rw [colc_count]
    repeat' walk_at "st"
    refine ⟨_, _, _, rfl, get_end, by unfold intsV; rw [List.length_map, List.length_map, List.length_range]; exact ar481 hj1 b1, ?_⟩
    rw [set_end, intsV_snoc]
    repeat' walk_at "st"
    refine hK _ _ ⟨?_, fun x hx => ?_⟩
    · rw [List.range_succ, List.map_append]; rfl
    · unfold upd
      rw [if_neg hx]
      exact f1 x hx
end

end
section
set_option autoImplicit false
set_option maxRecDepth 100000

local macro_rules | `(tactic| walk_at "sn") => mkWays "?p_methA|?p_new"
noncomputable def wPiecesW : WS := wForE (wName (Str.ofString "piles")) (aName (Str.ofString "pile"))
                    (wSeq
                      (wExpr
                        (wMethL (wName (Str.ofString "pieces"))
                          (lCons
                            (wComp
                              { kind := ScopeKind.function,
                                names :=
                                  [(Str.ofString ".0", NameKind.local), (Str.ofString "room", NameKind.local), (Str.ofString "name", NameKind.local), (Str.ofString "len", NameKind.globalImplicit)],
                                isGenerator := false, isCoroutine := false }
                              (wMethA (wName (Str.ofString "pile")) lNil wPopFrom) (wPair (aName (Str.ofString "room")) (aName (Str.ofString "name"))) tYes
                              (wTup (lCons (wItem (wVal (V.str (Str.ofString "abcde"))) (wCall wLenB (lCons (wName (Str.ofString "room")) lNil))) (lCons (wName (Str.ofString "name")) lNil))))
                            lNil)
                          wExtend))
                      sNil)
noncomputable def clr (T : List PN) (i : Nat) : List PN := (T.take i).map (fun pn => ([], pn.2)) ++ T.drop i
theorem clr_len (T : List PN) (i : Nat) : (clr T i).length = T.length := by unfold clr; rw [List.length_append, List.length_map, ← List.length_append, List.take_append_drop]
theorem clr_at {T : List PN} {i : Nat} {pn : PN} (h : T[i]? = some pn) : ∃ A R, clr T i = A ++ pn :: R ∧ clr T (i + 1) = A ++ ([], pn.2) :: R ∧ A.length = i := by
  obtain ⟨hi, he⟩ := List.getElem?_eq_some_iff.mp h
  refine ⟨(T.take i).map (fun pn => ([], pn.2)), T.drop (i + 1), ?_, ?_, by rw [List.length_map, List.length_take]; lia⟩
  · unfold clr
    rw [List.drop_eq_getElem_cons hi, he]
  · unfold clr
    rw [List.take_add_one, h, List.map_append, List.append_assoc]; rfl
section
variable {QS : Fl → Rho → Sto → Prop} {ρ : Rho} {σ : Sto} {T : List PN} {t : Nat} {R : List V}
theorem pieces_ok (e1 : ρ (Str.ofString "piles") = some (.ref σ.length)) (e3 : ρ (Str.ofString "pieces") = some (.ref ((stD σ T).length + 1))) (hT : DB 14 T)
    (h : ∀ ρ' σ', (∀ x, x ≠ Str.ofString "pile" → ρ' x = ρ x) → (∀ k, k < σ.length → σ'[k]? = σ[k]?) → σ'[(stD σ T).length]? = some (.list R) → σ'[(stD σ T).length + 1]? = some (.list ((T.flatMap (·.1)).map lv)) → QS .nx ρ' σ') :
    wPiecesW QS ρ (stD σ T ++ [.list R, .list []]) := by
  unfold wPiecesW
  have hT' := hT.len
  have hsl := stD_len (σ := σ) T
  have hsc : ∀ i, (stD σ (clr T i)).length = (stD σ T).length := fun i => by rw [stD_len, stD_len, clr_len]
  repeat' walk_at "st"
  refine ⟨refsP σ.length T.length, by dsimp only [aItems]; rw [List.getElem?_append_left (by exact ar482 hsl), stD_p], ?_⟩
  refine for_all (fun i ρ' σ' => σ' = stD σ (clr T i) ++ [.list R, .list (((T.take i).flatMap (·.1)).map lv)] ∧ ∀ x, x ≠ Str.ofString "pile" → ρ' x = ρ x) ⟨rfl, fun _ _ => rfl⟩ ?_ ?_ ?_
  · rintro i ρ' σ' hi ⟨rfl, _⟩
    dsimp only [aGd]
    rw [List.getElem?_append_left (by rw [hsc]; exact ar482 hsl), stD_p, clr_len]
  · rintro ρ' σ' ⟨rfl, f1⟩
    rw [show (refsP σ.length T.length).length = T.length by unfold refsP; simp, List.take_length]
    refine h _ _ f1 (fun k hk => ?_) ?_ ?_
    · rw [List.getElem?_append_left (by rw [hsc]; exact ar483 hk hsl), stD_old hk]
    · rw [← hsc T.length, List.getElem?_append_right (Nat.le_refl _), Nat.sub_self]; rfl
    · rw [← hsc T.length, List.getElem?_append_right (Nat.le_succ _), Nat.succ_sub (Nat.le_refl _), Nat.sub_self]; rfl
  · rintro i u ρ' σ' hx ⟨rfl, f1⟩ K hK hR
    unfold refsP at hx
    rw [List.getElem?_map, Option.map_eq_some_iff] at hx
    obtain ⟨j, hj, rfl⟩ := hx
    obtain ⟨hj1, hj2⟩ := List.getElem?_eq_some_iff.mp hj
    rw [List.getElem_range] at hj2
    subst hj2
    rw [List.length_range] at hj1
    have g3 : ρ' (Str.ofString "pieces") = some (.ref ((stD σ T).length + 1)) := by rw [f1 _ (by decide +kernel)]; exact e3
    have hg : T[i]? = some T[i] := List.getElem?_eq_getElem hj1
    generalize T[i] = pn at hg
    obtain ⟨A, R', c1, c2, c3⟩ := clr_at hg
    obtain ⟨b1, b2, b3⟩ := hT.pl _ (List.mem_of_getElem? hg)
    have hacc : (stD σ (clr T i) ++ [MO.list R, MO.list (((T.take i).flatMap (·.1)).map lv)])[σ.length + 2 + 2 * i]? = some (.acc (pn.1.map pcV)) := by
      rw [List.getElem?_append_left (by rw [hsc]; exact ar484 hj1 hsl), c1, ← c3]; exact stD_pile A R' pn
    have hpc : ∀ {τ X : Sto}, τ.length = (stD σ T).length → X.length = 2 → (τ ++ [MO.list R, MO.list (((T.take i).flatMap (·.1)).map lv)])[(stD σ T).length + 1]? = some (.list (((T.take i).flatMap (·.1)).map lv)) := fun {τ X} h _ => by
      rw [← h, List.getElem?_append_right (Nat.le_succ _), Nat.succ_sub (Nat.le_refl _), Nat.sub_self]; rfl
    repeat' walk_at "st"
    refine ⟨⟨_, by dsimp only [aList]; rw [hpc (hsc i) (X := [.tab 0, .tab 0]) rfl]⟩, ?_⟩
    repeat' walk_at "st"
    refine ⟨⟨_, _, rfl, hacc⟩, ?_⟩
    repeat' walk_at "st"
    refine ⟨_, _, 0, .inr ⟨rfl, rfl⟩, hacc, by rw [List.length_map]; exact ar399 b1, Nat.zero_le _, p_frozen ?_⟩
    rw [List.drop_zero, List.take_zero]
    have hset : (stD σ (clr T i) ++ [MO.list R, MO.list (((T.take i).flatMap (·.1)).map lv)]).set (σ.length + 2 + 2 * i) (MO.acc []) = stD σ (clr T (i + 1)) ++ [MO.list R, MO.list (((T.take i).flatMap (·.1)).map lv)] := by
      rw [List.set_append_left _ _ (by rw [hsc]; exact ar484 hj1 hsl), c1, c2]
      congr 1
      have := stD_setP (σ := σ) A R' pn.1 pn.2 []
      rw [c3] at this
      exact this
    rw [hset]
    refine ⟨pn.1.map pcV, rfl, by rw [List.length_map]; exact ar399 b1, ?_⟩
    refine comp_over _ (fun _ => True) (fun x => [lv x]) _ _ _ trivial trivial ?_ ?_
    · rintro x hx ρ₂ acc K₂ _ hK₂
      show wPair _ _ (V.tup [.str (S (List.replicate x.1 32)), .str (S [97 + x.2])]) _ _ _
      repeat' walk_at "st"
      refine .inl ⟨_, x.1, rfl, by show some _ = some _; rw [L_S, List.length_replicate], by have := (b3 x hx).1; exact ar485 this, ?_⟩
      refine ⟨_, abc5_item (b3 x hx).1, ?_⟩
      repeat' walk_at "st"
      refine ⟨(by decide : 2 ≤ 2 ^ 20), ?_⟩
      repeat' walk_at "st"
      exact hK₂ _ trivial
    rw [flat_single, List.nil_append]
    refine p_frozen ?_
    repeat' walk_at "st"
    have hfl : ((T.take i).flatMap (·.1)).length ≤ 14 * 14 := by
      have : ∀ (l : List PN), (∀ q ∈ l, q.1.length ≤ 14) → (l.flatMap (·.1)).length ≤ 14 * l.length := by
        intro l
        induction l with
        | nil => intro _; simp
        | cons q l ih =>
          intro hq
          have h1 := ih fun r hr => hq r (List.mem_cons_of_mem _ hr)
          have h2 := hq q List.mem_cons_self
          rw [List.flatMap_cons, List.length_append, List.length_cons]; exact ar486 h2 h1
      have h2 := this (T.take i) fun q hq => (hT.pl q (List.mem_of_mem_take hq)).1
      rw [List.length_take] at h2
      lia
    refine ⟨(stD σ T).length + 1, _, _, pn.1.map lv, rfl, hpc (hsc (i + 1)) (X := [.tab 0, .tab 0]) rfl, rfl, by rw [List.length_map, List.length_map]; exact ar487 hfl b1, ?_⟩
    have hset2 : (stD σ (clr T (i + 1)) ++ [MO.list R, MO.list (((T.take i).flatMap (·.1)).map lv)]).set ((stD σ T).length + 1) (.list (((T.take i).flatMap (·.1)).map lv ++ pn.1.map lv)) = stD σ (clr T (i + 1)) ++ [MO.list R, MO.list (((T.take (i + 1)).flatMap (·.1)).map lv)] := by
      rw [← hsc (i + 1), List.set_append_right _ _ (Nat.le_succ _), Nat.succ_sub (Nat.le_refl _), Nat.sub_self, List.take_add_one, hg, List.flatMap_append, List.map_append]
      simp
    rw [hset2]
    repeat' walk_at "st"
    refine hK _ _ ⟨rfl, fun x hx => ?_⟩
    unfold upd
    rw [if_neg hx]
    exact f1 x hx
end

end
section
set_option autoImplicit false
set_option maxRecDepth 100000

local macro_rules | `(tactic| walk_at "sn") => mkWays "?p_methA|?p_new"
noncomputable def wSortCmp : WS := wIte (tCmp CmpOp.NotEq (wCall wSorted (lCons (wName (Str.ofString "pieces")) lNil)) (wName (Str.ofString "letters"))) (wSeq (wRet (wVal (V.bool false))) sNil) sNil
noncomputable abbrev scWR : Scope := { kind := ScopeKind.function, names := [(Str.ofString ".0", NameKind.local), (Str.ofString "writer", NameKind.local), (Str.ofString "reader", NameKind.local)], isGenerator := false, isCoroutine := false }
noncomputable def wSelves : WS := wAsg (Str.ofString "selves")
                        (wCall wLenB
                          (lCons
                            (wComp scWR
                              (wName (Str.ofString "letters")) (wPair (aName (Str.ofString "writer")) (aName (Str.ofString "reader")))
                              (tCmp CmpOp.Eq (wName (Str.ofString "writer")) (wName (Str.ofString "reader"))) (wName (Str.ofString "writer")))
                            lNil))
noncomputable def wWide : WS := wAsg (Str.ofString "wide")
                          (wCall wWidest
                            (lCons
                              (wComp scWR
                                (wName (Str.ofString "letters")) (wPair (aName (Str.ofString "writer")) (aName (Str.ofString "reader"))) tYes (wName (Str.ofString "reader")))
                              lNil))
noncomputable def wEnds : WS := wAsg (Str.ofString "ends")
                            (wComp { kind := ScopeKind.function, names := [(Str.ofString ".0", NameKind.local), (Str.ofString "k", NameKind.local)], isGenerator := false, isCoroutine := false }
                              (wCall wRange (lCons (wCall wLenB (lCons (wName (Str.ofString "rows")) lNil)) lNil)) (aName (Str.ofString "k")) tYes
                              (wItem (wList (lCons (wVal (V.str (Str.ofString "\x0d"))) (lCons (wVal (V.str (Str.ofString "\n"))) (lCons (wVal (V.str (Str.ofString "\x0d\n"))) lNil))))
                                (wBin Operator.Mod (wName (Str.ofString "k")) (wVal (V.int 3)))))
noncomputable def endAt (k : Nat) : List Nat := if k % 3 = 0 then [13] else if k % 3 = 1 then [10] else [13, 10]
theorem endAt_ok (k : Nat) : EndOk (endAt k) := by
  unfold endAt EndOk
  split
  · exact .inl rfl
  · split
    · exact .inr (.inl rfl)
    · exact .inr (.inr rfl)
noncomputable def endsV (n : Nat) : List V := (List.range n).map fun k => V.str (S (endAt k))
section
variable {QS : Fl → Rho → Sto → Prop} {ρ : Rho} {σ : Sto} {ls : List Pc}
theorem sortCmp_ok {p : Nat} {Pl : List Pc} (e1 : ρ (Str.ofString "pieces") = some (.ref p)) (e2 : ρ (Str.ofString "letters") = some (.list (ls.map lv))) (hp : σ[p]? = some (.list (Pl.map lv))) (hP : Pl.Perm ls) (hs : LexS ls)
    (hb : ∀ x ∈ ls, x.1 < 5 ∧ x.2 < 5) (h2 : 2 ≤ ls.length) (h14 : ls.length ≤ 14) (h : QS .nx ρ σ) : wSortCmp QS ρ σ := by
  unfold wSortCmp
  repeat' walk_at "st"
  have hbP : ∀ x ∈ Pl, x.1 < 5 ∧ x.2 < 5 := fun x hx => hb x (hP.mem_iff.mp hx)
  have hl := hP.length_eq
  refine ⟨_, Pl.map ltr, keyS, rfl, by dsimp only [aList]; rw [hp, List.map_map]; rfl, by rw [List.length_map]; exact ar388 h2 hl, by rw [List.length_map]; exact ar488 hl h14, fun a ha b hb' => ?_, fun out ho hso => ?_⟩
  · obtain ⟨x, hx, rfl⟩ := List.mem_map.mp ha
    obtain ⟨y, hy, rfl⟩ := List.mem_map.mp hb'
    exact lex_ltr (hbP x hx) (hbP y hy)
  obtain ⟨ls', rfl, hp', hs'⟩ := sorted_ltr hbP ho hso
  have he : ls' = ls := List.Perm.eq_of_pairwise (fun a b _ _ h1 h2 => by
    have e1 : a.1 = b.1 := by exact ar489 h1 h2
    have e2 : a.2 = b.2 := by exact ar490 h1 h2
    exact Prod.ext e1 e2) hs' hs (hp'.trans hP)
  subst he
  rw [List.map_map]
  refine p_frozen ?_
  repeat' walk_at "st"
  refine CmpR.neL ⟨ls'.map lv, rfl, rfl, fun v hv => ?_, ?_⟩
  · obtain ⟨x, hx, rfl⟩ := List.mem_map.mp hv
    have := hb x hx
    exact .inr ⟨_, _, rfl, ⟨_, rfl, strOk_small fun c hc => by rw [List.mem_singleton.mp hc]; exact ar491 this⟩, ⟨_, rfl, strOk_small fun c hc => by rw [List.mem_singleton.mp hc]; exact ar492 this⟩⟩
  refine p_ff ?_
  repeat' walk_at "st"
  exact h
theorem selves_ok (e2 : ρ (Str.ofString "letters") = some (.list (ls.map lv))) (h14 : ls.length ≤ 14) (h : QS .nx (upd ρ (Str.ofString "selves") (.int (selfs ls : Nat))) σ) : wSelves QS ρ σ := by
  unfold wSelves
  repeat' walk_at "st"
  refine ⟨ls.map lv, rfl, by rw [List.length_map]; exact ar399 h14, ?_⟩
  refine comp_over _ (fun _ => True) (fun x => if x.1 = x.2 then [V.str (S [97 + x.1])] else []) _ _ _ trivial trivial ?_ ?_
  · rintro x hx ρ₂ acc K₂ _ hK₂
    show wPair _ _ (V.tup [.str (S [97 + x.1]), .str (S [97 + x.2])]) _ _ _
    repeat' walk_at "st"
    rw [L_S, L_S]
    have fin := hK₂ (upd (upd ρ₂ (Str.ofString "writer") (V.str (S [97 + x.1]))) (Str.ofString "reader") (V.str (S [97 + x.2]))) trivial
    by_cases hx : x.1 = x.2
    · refine p_ift (decide_eq_true (by rw [hx])) ?_
      repeat' walk_at "st"
      rw [if_pos hx] at fin
      exact fin
    · refine p_iff (decide_eq_false (by simp; lia)) ?_
      rw [if_neg hx, List.append_nil] at fin
      exact fin
  rw [List.nil_append]
  refine p_frozen ?_
  repeat' walk_at "st"
  have hc : ∀ l : List Pc, (l.map fun x => if x.1 = x.2 then [V.str (S [97 + x.1])] else []).flatten.length = selfs l := by
    intro l
    induction l with
    | nil => rfl
    | cons x l ih =>
      unfold selfs at ih ⊢
      rw [List.map_cons, List.flatten_cons, List.length_append, ih, List.countP_cons]
      by_cases hx : x.1 = x.2
      · rw [if_pos hx, if_pos (by simpa using hx)]; simp; exact ar354
      · rw [if_neg hx, if_neg (by simpa using hx)]; simp
  refine .inl ⟨_, _, rfl, rfl, ?_, ?_⟩
  · rw [hc]; unfold selfs; have := List.countP_le_length (p := fun x : Pc => decide (x.1 = x.2)) (l := ls); exact ar480 this h14
  rw [hc]; exact h
theorem wide_ok (e2 : ρ (Str.ofString "letters") = some (.list (ls.map lv))) (h1 : 1 ≤ ls.length) (h14 : ls.length ≤ 14) (h : ∀ τ, QS .nx (upd ρ (Str.ofString "wide") (.int (wideOf ls : Nat))) (σ ++ τ)) : wWide QS ρ σ := by
  unfold wWide
  repeat' walk_at "st"
  refine ⟨ls.map lv, rfl, by rw [List.length_map]; exact ar399 h14, ?_⟩
  refine comp_over _ (fun _ => True) (fun x => [nmV x.2]) _ _ _ trivial trivial ?_ ?_
  · rintro x hx ρ₂ acc K₂ _ hK₂
    show wPair _ _ (V.tup [.str (S [97 + x.1]), .str (S [97 + x.2])]) _ _ _
    repeat' walk_at "st"
    exact hK₂ _ trivial
  rw [flat_single, List.nil_append]
  refine p_frozen ?_
  repeat' walk_at "st"
  have h' : ∀ τ, QS .nx (upd ρ (Str.ofString "wide") (.int ((mxl ((rises (ls.map (fun x : Pc => x.2))).map (·.2)) : Nat) : Int))) (σ ++ τ) := h
  exact ⟨_, (ls.map (fun x : Pc => x.2) : List Nat), rfl, by show some _ = some _; rw [List.map_map]; rfl, by rw [List.length_map]; exact h1, by rw [List.length_map]; exact ar493 h14, h'⟩
theorem ends_ok {m : Nat} {rl : List Nat} (e1 : ρ (Str.ofString "rows") = some (.ref m)) (hm : σ[m]? = some (.list (intsV rl))) (hl : rl.length ≤ 100) (h : QS .nx (upd ρ (Str.ofString "ends") (.list (endsV rl.length))) σ) : wEnds QS ρ σ := by
  unfold wEnds
  have hli : (intsV rl).length = rl.length := by unfold intsV; rw [List.length_map]
  repeat' walk_at "st"
  refine .inl ⟨_, rl.length, rfl, by dsimp only [aLen]; rw [hm]; dsimp only; rw [hli], by exact ar494 hl, ?_⟩
  repeat' walk_at "st"
  refine ⟨rl.length, rfl, ?_⟩
  refine ⟨(List.range rl.length).map fun i => V.int (i : Nat), by show (if rl.length < 2 ^ 31 then _ else _) = _; rw [if_pos (by exact ar495 hl)], by rw [List.length_map, List.length_range]; exact ar496 hl, ?_⟩
  refine comp_over _ (fun _ => True) (fun k => [V.str (S (endAt k))]) _ _ _ trivial trivial ?_ ?_
  · rintro k hk ρ₂ acc K₂ _ hK₂
    repeat' walk_at "st"
    refine ⟨by decide, p_frozen ?_⟩
    repeat' walk_at "st"
    refine p_modi (by decide) ?_
    refine ⟨V.str (S (endAt k)), ?_, ?_⟩
    · have e3 : ((k : Nat) : Int) % 3 = ((k % 3 : Nat) : Int) := by exact ar497
      rw [e3, item_at (xs := [V.str (Str.ofString "\x0d"), V.str (Str.ofString "\n"), V.str (Str.ofString "\x0d\n")]) rfl (by exact ar498)]
      have h3 : k % 3 = 0 ∨ k % 3 = 1 ∨ k % 3 = 2 := by exact ar499
      unfold endAt
      rcases h3 with q | q | q
      · rw [q]; exact congrArg some (congrArg V.str (by decide +kernel))
      · rw [q]; exact congrArg some (congrArg V.str (by decide +kernel))
      · rw [q]; exact congrArg some (congrArg V.str (by decide +kernel))
    exact hK₂ _ trivial
  rw [flat_single, List.nil_append]
  refine p_frozen ?_
  exact h
end

end
section
set_option autoImplicit false
set_option maxRecDepth 100000

local macro_rules | `(tactic| walk_at "sn") => mkWays "?p_methA|?p_new"
noncomputable def wMail : WS := wAsg (Str.ofString "mail")
                              (wMethS (wVal (V.str (Str.ofString "")))
                                (lCons
                                  (wComp
                                    { kind := ScopeKind.function,
                                      names := [(Str.ofString ".0", NameKind.local), (Str.ofString "k", NameKind.local), (Str.ofString "ends", NameKind.free), (Str.ofString "rows", NameKind.free)],
                                      isGenerator := false, isCoroutine := false }
                                    (wCall wRange (lCons (wCall wLenB (lCons (wName (Str.ofString "rows")) lNil)) lNil)) (aName (Str.ofString "k")) tYes
                                    (wBin Operator.Add (wBin Operator.Mult (wVal (V.str (Str.ofString "."))) (wItem (wName (Str.ofString "rows")) (wName (Str.ofString "k"))))
                                      (wItem (wName (Str.ofString "ends")) (wName (Str.ofString "k")))))
                                  lNil)
                                wJoin)
noncomputable def wRefd : WS := wRef2 (lCons (wName (Str.ofString "mail")) lNil)
                                (tCmp CmpOp.NotEq (wCall wParse (lCons (wBin Operator.Add (wVal (V.str (Str.ofString "257 "))) (wName (Str.ofString "mail"))) lNil)) (wVal (V.str (Str.ofString ""))))
                                (wSeq (wRet (wVal (V.bool false))) sNil)
/-- the ends of the rows -/
noncomputable def endV (n : Nat) (f : Nat → List Nat) : List V := (List.range n).map fun k => V.str (S (f k))
noncomputable def rsOf (rl : List Nat) (f : Nat → List Nat) : List MR := (List.range rl.length).map fun k => (rl.getD k 0, f k)
theorem flat_len {l : List (List Nat)} {b : Nat} (h : ∀ x ∈ l, x.length ≤ b) : l.flatten.length ≤ b * l.length := by
  induction l with
  | nil => simp
  | cons x l ih =>
    have h1 := ih fun y hy => h y (List.mem_cons_of_mem _ hy)
    have h2 := h x List.mem_cons_self
    rw [List.flatten_cons, List.length_append, List.length_cons, Nat.mul_add]; exact ar500 h2 h1
theorem rep_str (n c : Nat) : (List.replicate n [c]).flatten = List.replicate n c := by
  induction n with
  | zero => rfl
  | succ n ih => rw [List.replicate_succ, List.flatten_cons, ih]; rfl
section
variable {QS : Fl → Rho → Sto → Prop} {ρ : Rho} {σ : Sto} {m : Nat} {rl : List Nat}
theorem row_item (hm : σ[m]? = some (.list (intsV rl))) (hl : rl.length ≤ 100) {k : Nat} (hk : k < rl.length) : aItem σ (.ref m) (.int (k : Nat)) = some (.int (rl.getD k 0 : Nat)) := by
  rw [item_at (xs := intsV rl) (by dsimp only [aList]; rw [hm]) (by exact ar501 hk hl)]
  unfold intsV
  rw [List.getElem?_map, List.getElem?_eq_getElem hk, List.getD_eq_getElem?_getD, List.getElem?_eq_getElem hk]; rfl
theorem end_item {f : Nat → List Nat} {n k : Nat} (hn : n ≤ 100) (hk : k < n) : aItem σ (.list (endV n f)) (.int (k : Nat)) = some (.str (S (f k))) := by
  rw [item_at (xs := endV n f) rfl (by exact ar501 hk hn)]
  unfold endV
  rw [List.getElem?_map, List.getElem?_range hk]; rfl
theorem mail_ok (e1 : ρ (Str.ofString "rows") = some (.ref m)) (hm : σ[m]? = some (.list (intsV rl))) (hl : rl.length ≤ 100) (hr : ∀ r ∈ rl, r ≤ 100) {f : Nat → List Nat} (hf : ∀ k, (f k).length ≤ 2) (e2 : ρ (Str.ofString "ends") = some (.list (endV rl.length f)))
    (h : QS .nx (upd ρ (Str.ofString "mail") (.str (S (mailL (rsOf rl f))))) σ) : wMail QS ρ σ := by
  unfold wMail
  have hli : (intsV rl).length = rl.length := by unfold intsV; rw [List.length_map]
  have hem : Str.ofString "" = S [] := by decide +kernel
  have hdot : Str.ofString "." = S [46] := by decide +kernel
  have hg : ∀ k, k < rl.length → rl.getD k 0 ≤ 100 := fun k hk => by
    rw [List.getD_eq_getElem?_getD, List.getElem?_eq_getElem hk]; exact hr _ (List.getElem_mem hk)
  repeat' walk_at "st"
  refine .inl ⟨_, rl.length, rfl, by dsimp only [aLen]; rw [hm]; dsimp only; rw [hli], by exact ar494 hl, ?_⟩
  repeat' walk_at "st"
  refine ⟨rl.length, rfl, ?_⟩
  refine ⟨(List.range rl.length).map fun i => V.int (i : Nat), by show (if rl.length < 2 ^ 31 then _ else _) = _; rw [if_pos (by exact ar495 hl)], by rw [List.length_map, List.length_range]; exact ar496 hl, ?_⟩
  refine comp_over _ (fun ρ => ρ (Str.ofString "rows") = some (.ref m) ∧ ρ (Str.ofString "ends") = some (.list (endV rl.length f))) (fun k => [V.str (S (List.replicate (rl.getD k 0) 46 ++ f k))]) _ _ _ ⟨?_, ?_⟩ trivial ?_ ?_
  · walk_at "rho"
  · walk_at "rho"
  · rintro k hk ρ₂ acc K₂ ⟨f1, f2⟩ hK₂
    have hk' := List.mem_range.mp hk
    have := hg k hk'
    have := hf k
    repeat' walk_at "st"
    refine ⟨_, row_item hm hl hk', ?_⟩
    rw [hdot]
    refine p_muls (by exact ar135) (by rw [L_S]; decide) (by exact ar502 (by assumption)) ?_
    rw [L_S, Int.toNat_natCast, rep_str]
    repeat' walk_at "st"
    refine ⟨_, end_item hl hk', ?_⟩
    refine p_adds (by rw [L_S, L_S, List.length_replicate]; exact ar503 (by assumption) this) ?_
    rw [L_S, L_S]
    exact hK₂ _ ⟨by walk_at "rho", by walk_at "rho"⟩
  rw [flat_single, List.nil_append]
  refine p_frozen ?_
  repeat' walk_at "st"
  have hfl : (((List.range rl.length).map fun k => S (List.replicate (rl.getD k 0) 46 ++ f k)).map L).flatten = mailL (rsOf rl f) := by
    unfold mailL rsOf
    rw [List.map_map, List.map_map]; rfl
  have hlen : (mailL (rsOf rl f)).length ≤ 102 * rl.length := by
    have := flat_len (l := (rsOf rl f).map dotsL) (b := 102) (fun x hx => by
      obtain ⟨p, hp, rfl⟩ := List.mem_map.mp hx
      obtain ⟨k, hk, rfl⟩ := List.mem_map.mp hp
      have h1 := hg k (List.mem_range.mp hk)
      have h2 := hf k
      unfold dotsL
      rw [List.length_append, List.length_replicate]
      show rl.getD k 0 + (f k).length ≤ _
      exact ar504 h1 h2)
    unfold mailL
    unfold rsOf at this ⊢
    simpa using this
  refine ⟨_, (List.range rl.length).map fun k => S (List.replicate (rl.getD k 0) 46 ++ f k), by rw [hem], by show some _ = some _; rw [List.map_map]; rfl, by rw [hfl]; exact ar505 hlen hl, ?_⟩
  rw [hfl]
  exact h
theorem refd_ok {r : List Nat} (e1 : ρ (Str.ofString "mail") = some (.str (S (46 :: r)))) (hl : r.length ≤ 2 ^ 17) (h : QS .nx ρ σ) : wRefd QS ρ σ := by
  unfold wRefd
  have hem : Str.ofString "" = S [] := by decide +kernel
  have h257 : Str.ofString "257 " = S [50, 53, 55, 32] := by decide +kernel
  show lCons (wName (Str.ofString "mail")) lNil (fun vs σ₁ => ∃ x, vs = [.str x] ∧ (L x).length ≤ 2 ^ 20 ∧ (L x).take 3 ≠ [50, 53, 55] ∧ tCmp CmpOp.NotEq (wCall wParse (lCons (wBin Operator.Add (wVal (V.str (Str.ofString "257 "))) (wName (Str.ofString "mail"))) lNil)) (wVal (V.str (Str.ofString "")))
    (fun y σ₃ => if y = true then wSeq (wRet (wVal (V.bool false))) sNil QS ρ σ₃ else QS .nx ρ σ₃) ρ σ₁) ρ σ
  repeat' walk_at "st"
  refine ⟨_, rfl, by rw [L_S, List.length_cons]; exact ar506 hl, by rw [L_S]; simp, ?_⟩
  repeat' walk_at "st"
  rw [h257]
  refine p_adds (by rw [L_S, L_S]; simp only [List.length_cons, List.length_nil]; exact ar507 hl) ?_
  rw [L_S, L_S]
  repeat' walk_at "st"
  refine ⟨_, rfl, by rw [L_S]; rfl, by rw [L_S]; simp; exact ar508 hl, ?_⟩
  rw [L_S, if_neg (by simp)]
  repeat' walk_at "st"
  refine p_iff (decide_eq_false (by rw [hem]; simp)) ?_
  exact h
end

end
section
set_option autoImplicit false
set_option maxRecDepth 100000

local macro_rules | `(tactic| walk_at "sn") => mkWays "?p_methA|?p_new"
noncomputable def wRest : WS := (wSeq (wAsgT (wPair (aName (Str.ofString "read")) (aName (Str.ofString "replies"))) (wCall wRead (lCons (wRepl 46 [34] (wName (Str.ofString "mail"))) lNil)))
                                      (wSeq
                                        (wIte
                                          (tCmp CmpOp.NotEq (wName (Str.ofString "read"))
                                            (wMethS (wVal (V.str (Str.ofString "")))
                                              (lCons
                                                (wComp
                                                  { kind := ScopeKind.function,
                                                    names :=
                                                      [(Str.ofString ".0", NameKind.local), (Str.ofString "k", NameKind.local), (Str.ofString "ends", NameKind.free),
                                                        (Str.ofString "often", NameKind.free), (Str.ofString "rows", NameKind.free)],
                                                    isGenerator := false, isCoroutine := false }
                                                  (wCall wRange (lCons (wCall wLenB (lCons (wName (Str.ofString "rows")) lNil)) lNil)) (aName (Str.ofString "k")) tYes
                                                  (wBin Operator.Add
                                                    (wBin Operator.Mult (wVal (V.str (Str.ofString "\"")))
                                                      (wBin Operator.FloorDiv (wBin Operator.Add (wItem (wName (Str.ofString "rows")) (wName (Str.ofString "k"))) (wName (Str.ofString "often")))
                                                        (wVal (V.int 2))))
                                                    (wItem (wName (Str.ofString "ends")) (wName (Str.ofString "k")))))
                                                lNil)
                                              wJoin))
                                          (wSeq (wRet (wVal (V.bool false))) sNil) sNil)
                                        (wSeq
                                          (wIte
                                            (tCmp CmpOp.NotEq (wMethS (wName (Str.ofString "read")) (lCons (wVal (V.str (Str.ofString "\""))) lNil) wCount)
                                              (wBin Operator.Add
                                                (wBin Operator.Add (wBin Operator.Sub (wVal (V.int 7)) (wName (Str.ofString "selves")))
                                                  (wBin Operator.Mult (wBin Operator.FloorDiv (wName (Str.ofString "often")) (wVal (V.int 2))) (wName (Str.ofString "wide"))))
                                                (wBin Operator.Mult (wBin Operator.Mod (wName (Str.ofString "often")) (wVal (V.int 2))) (wName (Str.ofString "selves")))))
                                            (wSeq (wRet (wVal (V.bool false))) sNil) sNil)
                                          (wSeq
                                            (wIte
                                              (tCmp CmpOp.NotEq (wName (Str.ofString "replies"))
                                                (wBin Operator.Add (wVal (V.int 1))
                                                  (wItem (wList (lCons (wName (Str.ofString "selves")) (lCons (wBin Operator.Sub (wName (Str.ofString "wide")) (wName (Str.ofString "selves"))) lNil)))
                                                    (wBin Operator.Mod (wName (Str.ofString "often")) (wVal (V.int 2))))))
                                              (wSeq (wRet (wVal (V.bool false))) sNil) sNil)
                                            sNil))))
noncomputable def wOften : WS := wForE (wCall wRange (lCons (wVal (V.int 4)) lNil)) (aName (Str.ofString "often"))
                                  (wSeq
                                    (wIte (tCmp CmpOp.Gt (wName (Str.ofString "often")) (wVal (V.int 0)))
                                      (wSeq (wAsg (Str.ofString "mail") (wCall wQuote (lCons (wName (Str.ofString "mail")) lNil)))
                                        (wSeq
                                          (wAsg (Str.ofString "ends")
                                            (wBin Operator.Mult (wList (lCons (wVal (V.str (Str.ofString "\x0d\n"))) lNil)) (wCall wLenB (lCons (wName (Str.ofString "rows")) lNil))))
                                          sNil))
                                      sNil)
                                    wRest)
/-- the end of row k, the mail sent j times -/
noncomputable def endJ (j : Nat) : Nat → List Nat := fun k => if j = 0 then endAt k else [13, 10]
theorem sent_rs (rl : List Nat) (j : Nat) : sentM (rsOf rl endAt) j = (List.range rl.length).map fun k => (rl.getD k 0 + j, endJ j k) := by
  rw [sentM_eq]
  unfold rsOf
  rw [List.map_map]
  refine List.map_congr_left fun k _ => ?_
  unfold endJ
  by_cases h : j = 0
  · rw [if_pos h]; show (rl.getD k 0 + j, if j = 0 then endAt k else [13, 10]) = _; rw [if_pos h]
  · rw [if_neg h]; show (rl.getD k 0 + j, if j = 0 then endAt k else [13, 10]) = _; rw [if_neg h]
theorem endV_crlf (n j : Nat) : (List.replicate n [V.str (Str.ofString "\x0d\n")]).flatten = endV n (endJ (j + 1)) := by
  have h : Str.ofString "\x0d\n" = S [13, 10] := by decide +kernel
  rw [h]
  unfold endV endJ
  apply List.ext_getElem?
  intro k
  rw [List.getElem?_map]
  have hf : ∀ n : Nat, (List.replicate n [V.str (S [13, 10])]).flatten = List.replicate n (V.str (S [13, 10])) := fun n => by
    induction n with
    | zero => rfl
    | succ n ih => rw [List.replicate_succ, List.flatten_cons, ih]; rfl
  rw [hf, List.getElem?_replicate]
  by_cases hk : k < n
  · rw [if_pos hk, List.getElem?_range hk]; rfl
  · rw [if_neg hk, List.getElem?_eq_none (by simpa using hk)]; rfl
theorem range_sum (rl : List Nat) (g : Nat → Nat) : ((List.range rl.length).map fun k => g (rl.getD k 0)).sum = (rl.map g).sum := by
  have := range_map rl g
  exact congrArg List.sum this
theorem range_count (rl : List Nat) (g : Nat → Bool) : ((List.range rl.length).countP fun k => g (rl.getD k 0)) = rl.countP g := by
  have := congrArg (List.countP (fun b : Bool => b)) (range_map rl g)
  rw [List.countP_map, List.countP_map] at this
  exact this
section
variable {QS : Fl → Rho → Sto → Prop} {ρ : Rho} {σ : Sto} {m : Nat} {rl : List Nat} {sf wd : Nat}
theorem mail_bound (hl : rl.length ≤ 100) (hr : ∀ r ∈ rl, 1 ≤ r ∧ r ≤ 100) {j : Nat} (hj : j ≤ 4) : (mailL (sentM (rsOf rl endAt) j)).length ≤ 2 ^ 14 := by
  rw [sent_rs]
  have := flat_len (l := ((List.range rl.length).map fun k => (rl.getD k 0 + j, endJ j k)).map dotsL) (b := 106) (fun x hx => by
    obtain ⟨p, hp, rfl⟩ := List.mem_map.mp hx
    obtain ⟨k, hk, rfl⟩ := List.mem_map.mp hp
    have h1 := List.mem_range.mp hk
    have h2 : rl.getD k 0 ≤ 100 := by rw [List.getD_eq_getElem?_getD, List.getElem?_eq_getElem h1]; exact (hr _ (List.getElem_mem h1)).2
    have h3 : (endJ j k).length ≤ 2 := by
      have := endAt_ok k
      unfold endJ
      split
      · rcases this with q | q | q <;> rw [q] <;> decide
      · decide
    unfold dotsL
    rw [List.length_append, List.length_replicate]
    show rl.getD k 0 + j + (endJ j k).length ≤ _
    exact ar509 h2 hj h3)
  unfold mailL
  rw [List.length_map, List.length_map, List.length_range] at this
  exact ar510 this hl
theorem rs_ok (hr : ∀ r ∈ rl, 1 ≤ r ∧ r ≤ 100) : ∀ p ∈ rsOf rl endAt, 1 ≤ p.1 ∧ EndOk p.2 := fun p hp => by
  obtain ⟨k, hk, rfl⟩ := List.mem_map.mp hp
  have h1 := List.mem_range.mp hk
  refine ⟨?_, endAt_ok k⟩
  show 1 ≤ rl.getD k 0
  rw [List.getD_eq_getElem?_getD, List.getElem?_eq_getElem h1]; exact (hr _ (List.getElem_mem h1)).1
end

end
section
set_option autoImplicit false
set_option maxRecDepth 100000

local macro_rules | `(tactic| walk_at "sn") => mkWays "?p_methA|?p_new"
section
variable {QS : Fl → Rho → Sto → Prop} {ρ : Rho} {σ : Sto} {m : Nat} {rl : List Nat} {sf wd : Nat}
set_option maxHeartbeats 2000000 in
theorem often_ok (e1 : ρ (Str.ofString "rows") = some (.ref m)) (hm : σ[m]? = some (.list (intsV rl))) (h1 : 1 ≤ rl.length) (hl : rl.length ≤ 100) (hr : ∀ r ∈ rl, 1 ≤ r ∧ r ≤ 100)
    (e2 : ρ (Str.ofString "ends") = some (.list (endV rl.length endAt))) (e3 : ρ (Str.ofString "mail") = some (.str (S (mailL (rsOf rl endAt))))) (e4 : ρ (Str.ofString "selves") = some (.int (sf : Nat))) (e5 : ρ (Str.ofString "wide") = some (.int (wd : Nat)))
    (hsw : sf ≤ wd) (hw : wd ≤ 100) (hs1 : ∀ o, (rl.map fun r => (r + o) / 2).sum + sf = 7 + o / 2 * wd + o % 2 * sf) (hs2 : ∀ o, (rl.countP fun r => decide ((r + o) % 2 = 1)) = if o % 2 = 0 then sf else wd - sf)
    (h : ∀ ρ', QS .nx ρ' σ) : wOften QS ρ σ := by
  unfold wOften
  have hli : (intsV rl).length = rl.length := by unfold intsV; rw [List.length_map]
  have hem : Str.ofString "" = S [] := by decide +kernel
  have hq34 : Str.ofString "\"" = S [34] := by decide +kernel
  have hg : ∀ k, k < rl.length → rl.getD k 0 ≤ 100 := fun k hk => by
    rw [List.getD_eq_getElem?_getD, List.getElem?_eq_getElem hk]; exact (hr _ (List.getElem_mem hk)).2
  repeat' walk_at "st"
  refine ⟨4, rfl, ?_⟩
  refine ⟨(List.range 4).map fun i => V.int (i : Nat), rfl, ?_⟩
  refine for_all (fun i ρ' σ' => σ' = σ ∧ ρ' (Str.ofString "rows") = some (.ref m) ∧ ρ' (Str.ofString "ends") = some (.list (endV rl.length (endJ (i - 1)))) ∧ ρ' (Str.ofString "mail") = some (.str (S (mailL (sentM (rsOf rl endAt) (i - 1))))) ∧
    ρ' (Str.ofString "selves") = some (.int (sf : Nat)) ∧ ρ' (Str.ofString "wide") = some (.int (wd : Nat))) ⟨rfl, e1, e2, e3, e4, e5⟩ (fun _ _ _ _ _ => trivial) ?_ ?_
  · rintro ρ' σ' ⟨rfl, _⟩
    exact h ρ'
  · rintro i u ρ' σ' hx ⟨rfl, f1, f2, f3, f4, f5⟩ K hK hR
    rw [List.getElem?_map, Option.map_eq_some_iff] at hx
    obtain ⟨j, hj, rfl⟩ := hx
    obtain ⟨hj1, hj2⟩ := List.getElem?_eq_some_iff.mp hj
    rw [List.getElem_range] at hj2
    subst hj2
    rw [List.length_range] at hj1
    -- what stands behind the first statement
    have rest : ∀ ρ₁ : Rho, ρ₁ (Str.ofString "rows") = some (.ref m) → ρ₁ (Str.ofString "ends") = some (.list (endV rl.length (endJ i))) → ρ₁ (Str.ofString "mail") = some (.str (S (mailL (sentM (rsOf rl endAt) i)))) →
        ρ₁ (Str.ofString "selves") = some (.int (sf : Nat)) → ρ₁ (Str.ofString "wide") = some (.int (wd : Nat)) → ρ₁ (Str.ofString "often") = some (.int (i : Nat)) →
        wRest K ρ₁ σ' := by
      intro ρ₁ g1 g2 g3 g4 g5 g6
      unfold wRest
      have hmb := mail_bound hl hr (j := i) (by exact ar511 hj1)
      have hok := sentM_ok (rs_ok hr) i
      have hne : sentM (rsOf rl endAt) i ≠ [] := by
        rw [sent_rs]
        intro q
        have := congrArg List.length q
        rw [List.length_map, List.length_range] at this
        rw [List.length_nil] at this; exact ar411 h1 this
      have hmark := mail_mark (fun p hp => (hok p hp).2)
      obtain ⟨r1, r2⟩ := read_rows (sentM (rsOf rl endAt) i) [] (fun p hp => (hok p hp).2) (.inl hne)
      have hcnt := half_count (fun p hp => (hok p hp).2)
      rw [show dbl [] = [] from rfl, List.nil_append] at r1 r2
      rw [List.nil_append] at r1
      have hml : (markL (sentM (rsOf rl endAt) i)).length ≤ 2 ^ 14 := by rw [← hmark, repl1_len]; exact hmb
      repeat' walk_at "st"
      rw [L_S, hmark]
      refine ⟨markL (sentM (rsOf rl endAt) i), rfl, by exact ar512 hml, ?_⟩
      rw [r1, r2]
      repeat' walk_at "st"
      refine .inl ⟨_, rl.length, rfl, by dsimp only [aLen]; rw [hm]; dsimp only; rw [hli], by exact ar494 hl, ?_⟩
      repeat' walk_at "st"
      refine ⟨rl.length, rfl, ?_⟩
      refine ⟨(List.range rl.length).map fun i => V.int (i : Nat), by show (if rl.length < 2 ^ 31 then _ else _) = _; rw [if_pos (by exact ar495 hl)], by rw [List.length_map, List.length_range]; exact ar496 hl, ?_⟩
      refine comp_over _ (fun ρ => ρ (Str.ofString "rows") = some (.ref m) ∧ ρ (Str.ofString "ends") = some (.list (endV rl.length (endJ i))) ∧ ρ (Str.ofString "often") = some (.int (i : Nat))) (fun k => [V.str (S (List.replicate ((rl.getD k 0 + i) / 2) 34 ++ endJ i k))]) _ _ _ ⟨?_, ?_, ?_⟩ trivial ?_ ?_
      · walk_at "rho"
      · walk_at "rho"
      · walk_at "rho"
      · rintro k hk ρ₂ acc K₂ ⟨c1, c2, c3⟩ hK₂
        have hk' := List.mem_range.mp hk
        have hgk := hg k hk'
        repeat' walk_at "st"
        refine ⟨_, row_item hm hl hk', ?_⟩
        repeat' walk_at "st"
        refine p_divi (by decide) (by decide) ?_
        have e9 : (((rl.getD k 0 : Nat) : Int) + (i : Nat)) / 2 = (((rl.getD k 0 + i) / 2 : Nat) : Int) := by exact ar513
        rw [e9, hq34]
        refine p_muls (by exact ar514) (by rw [L_S]; decide) (by exact ar515 hgk hj1) ?_
        rw [L_S, Int.toNat_natCast, rep_str]
        repeat' walk_at "st"
        refine ⟨_, end_item hl hk', ?_⟩
        have h3 : (endJ i k).length ≤ 2 := by
          have := endAt_ok k
          unfold endJ
          split
          · rcases this with q | q | q <;> rw [q] <;> decide
          · decide
        refine p_adds (by rw [L_S, L_S, List.length_replicate]; exact ar516 hgk hj1 h3) ?_
        rw [L_S, L_S]
        exact hK₂ _ ⟨by walk_at "rho", by walk_at "rho", by walk_at "rho"⟩
      rw [flat_single, List.nil_append]
      refine p_frozen ?_
      repeat' walk_at "st"
      have hhalf : (((List.range rl.length).map fun k => S (List.replicate ((rl.getD k 0 + i) / 2) 34 ++ endJ i k)).map L).flatten = halfL (sentM (rsOf rl endAt) i) := by
        rw [sent_rs]
        unfold halfL
        rw [List.map_map, List.map_map]; rfl
      have hhl : (halfL (sentM (rsOf rl endAt) i)).length ≤ 2 ^ 14 := by
        rw [sent_rs]
        have := flat_len (l := ((List.range rl.length).map fun k => (rl.getD k 0 + i, endJ i k)).map fun p : MR => List.replicate (p.1 / 2) 34 ++ p.2) (b := 106) (fun x hx => by
          obtain ⟨p, hp, rfl⟩ := List.mem_map.mp hx
          obtain ⟨k, hk, rfl⟩ := List.mem_map.mp hp
          have hgk := hg k (List.mem_range.mp hk)
          have h3 : (endJ i k).length ≤ 2 := by
            have := endAt_ok k
            unfold endJ
            split
            · rcases this with q | q | q <;> rw [q] <;> decide
            · decide
          rw [List.length_append, List.length_replicate]
          show (rl.getD k 0 + i) / 2 + (endJ i k).length ≤ _
          exact ar517 hgk hj1 h3)
        unfold halfL
        rw [List.length_map, List.length_map, List.length_range] at this
        exact ar510 this hl
      refine ⟨_, (List.range rl.length).map fun k => S (List.replicate ((rl.getD k 0 + i) / 2) 34 ++ endJ i k), by rw [hem], by show some _ = some _; rw [List.map_map]; rfl, by rw [hhalf]; exact ar518 hhl, ?_⟩
      rw [hhalf]
      refine p_nes ?_
      refine p_iff (decide_eq_false (by simp)) ?_
      repeat' walk_at "st"
      rw [hq34]
      refine ⟨_, 34, rfl, ?_⟩
      rw [L_S, hcnt]
      have hsum : (List.map (fun p => p.fst / 2) (sentM (rsOf rl endAt) i)).sum = (rl.map fun r => (r + i) / 2).sum := by
        rw [sent_rs, List.map_map]
        exact range_sum rl fun r => (r + i) / 2
      have hodd : (sentM (rsOf rl endAt) i).countP (fun p => decide (p.1 % 2 = 1)) = rl.countP fun r => decide ((r + i) % 2 = 1) := by
        rw [sent_rs, List.countP_map]
        exact range_count rl fun r => decide ((r + i) % 2 = 1)
      have hs1i := hs1 i
      have hs2i := hs2 i
      rw [hsum]
      repeat' walk_at "st"
      refine p_divi (by decide) (by decide) ?_
      have e10 : ((i : Nat) : Int) / 2 = ((i / 2 : Nat) : Int) := by exact ar519
      have e11 : ((i : Nat) : Int) % 2 = ((i % 2 : Nat) : Int) := by exact ar520
      rw [e10]
      repeat' walk_at "st"
      refine p_muli (by lia) ?_
      repeat' walk_at "st"
      refine p_modi (by decide) ?_
      rw [e11]
      repeat' walk_at "st"
      refine p_muli (by lia) ?_
      repeat' walk_at "st"
      have e12 : ((i / 2 : Nat) : Int) * ((wd : Nat) : Int) = ((i / 2 * wd : Nat) : Int) := (Int.natCast_mul _ _).symm
      have e13 : ((i % 2 : Nat) : Int) * ((sf : Nat) : Int) = ((i % 2 * sf : Nat) : Int) := (Int.natCast_mul _ _).symm
      rw [e12, e13]
      refine p_iff (decide_eq_false (by
        generalize i / 2 * wd = a at hs1i
        generalize i % 2 * sf = b at hs1i
        exact ar521 hs1i)) ?_
      repeat' walk_at "st"
      refine ⟨(by decide : 2 ≤ 2 ^ 20), p_frozen ?_⟩
      repeat' walk_at "st"
      refine p_modi (by decide) ?_
      rw [e11]
      refine ⟨.int (if i % 2 = 0 then (sf : Int) else (wd : Int) - sf), ?_, ?_⟩
      · rw [item_at (xs := [V.int (sf : Nat), V.int ((wd : Nat) - (sf : Nat) : Int)]) rfl (by exact ar522)]
        rcases Nat.mod_two_eq_zero_or_one i with q | q
        · rw [q]; rfl
        · rw [q]; rfl
      repeat' walk_at "st"
      rw [hodd, hs2i]
      refine p_iff (decide_eq_false (by
        rcases Nat.mod_two_eq_zero_or_one i with q | q
        · rw [if_pos q, if_pos q]; exact ar523
        · rw [if_neg (by exact ar190 q), if_neg (by exact ar190 q)]; exact ar524 hsw)) ?_
      repeat' walk_at "st"
      refine hK _ _ ⟨rfl, ?_, ?_, ?_, ?_, ?_⟩
      · walk_at "rho"
      · rw [Nat.add_sub_cancel]; walk_at "rho"
      · rw [Nat.add_sub_cancel]; walk_at "rho"
      · walk_at "rho"
      · walk_at "rho"
    cases i with
    | zero =>
      repeat' walk_at "st"
      refine p_iff (by decide) ?_
      repeat' walk_at "st"
      refine rest _ ?_ ?_ ?_ ?_ ?_ ?_
      · walk_at "rho"
      · walk_at "rho"
      · walk_at "rho"
      · walk_at "rho"
      · walk_at "rho"
      · walk_at "rho"
    | succ i =>
      rw [Nat.add_sub_cancel] at f2 f3
      repeat' walk_at "st"
      refine p_ift (decide_eq_true (by exact ar525)) ?_
      repeat' walk_at "st"
      have hmb := mail_bound hl hr (j := i) (by exact ar526 hj1)
      refine ⟨_, rfl, by rw [L_S]; exact ar527 hmb, ?_⟩
      rw [L_S, mail_sent (sentM_ok (rs_ok hr) i)]
      repeat' walk_at "st"
      refine ⟨by decide, p_frozen ?_⟩
      repeat' walk_at "st"
      refine .inl ⟨_, rl.length, rfl, by dsimp only [aLen]; rw [hm]; dsimp only; rw [hli], by exact ar494 hl, ?_⟩
      repeat' walk_at "st"
      refine BinR.mulL ⟨_, rfl, by decide, by exact ar135, by exact ar502 hl, p_frozen ?_⟩
      rw [Int.toNat_natCast, endV_crlf _ i]
      repeat' walk_at "st"
      refine rest _ ?_ ?_ ?_ ?_ ?_ ?_
      · walk_at "rho"
      · walk_at "rho"
      · show _ = some (V.str (S (mailL (up2 (cr2 (sentM (rsOf rl endAt) i))))))
        walk_at "rho"
      · walk_at "rho"
      · walk_at "rho"
      · walk_at "rho"
end

end
section
set_option autoImplicit false
set_option maxRecDepth 100000

local macro_rules | `(tactic| walk_at "sn") => mkWays "?p_methA|?p_new"
noncomputable def w206 : WS := wSeq (wAsg (Str.ofString "letters") (wCall wLetters (lCons (wName (Str.ofString "script")) lNil)))
      (wSeq (wAsgT (wPair (aName (Str.ofString "piles")) (aName (Str.ofString "notes"))) (wCall wDealt (lCons (wName (Str.ofString "letters")) lNil)))
        (wSeq wCmpS (wSeq (wAsg (Str.ofString "rows") (wList lNil)) (wSeq wRowsW (wSeq (wAsg (Str.ofString "pieces") (wList lNil)) (wSeq wPiecesW (wSeq wSortCmp (wSeq wSelves (wSeq wWide (wSeq wEnds (wSeq wMail (wSeq wRefd (wSeq wOften
          (wSeq (wRet (wVal (V.bool true))) fun Q ρ σ => Q Fl.nx ρ σ))))))))))))))
set_option maxHeartbeats 2000000 in
theorem law_ok {Q : Fl → Rho → Sto → Prop} {ρ : Rho} {σ : Sto} {v : V} {sc : List Int} (hsc : sc.length ≤ 63) (hv : ρ (Str.ofString "script") = some v) (hl : aList σ v = some (sc.map V.int)) (t0 : σ[0]? = some (.tab 79)) (t1 : σ[1]? = some (.tab 86))
    (hQ : ∀ ρ' σ', σ'[0]? = some (.tab 79) → σ'[1]? = some (.tab 86) → Q (.rt (.bool true)) ρ' σ') : w206 Q ρ σ := by
  unfold w206
  repeat' walk_at "st"
  refine ⟨v, sc, rfl, hl, by exact ar528 hsc, fun ls τ hp hs => ?_⟩
  have hb : ∀ x ∈ ls, x.1 < 5 ∧ x.2 < 5 := fun x hx => raw_bd _ 5 (talks_lt sc) x (hp.mem_iff.mp hx)
  have h7 : (talks sc).length = 7 := by simp [talks]
  have hlen : ls.length ≤ 14 ∧ 7 ≤ ls.length := by
    have h := rawL_len (talks sc)
    have h3 : selfs (rawL (talks sc)) ≤ (rawL (talks sc)).length := List.countP_le_length
    have h4 := hp.length_eq
    exact ar529 h4 h h3 h7
  have htab : ∀ {k : Nat} {m : MO}, σ[k]? = some m → (σ ++ τ)[k]? = some m := fun {k m} e => by rw [List.getElem?_append_left (List.getElem?_eq_some_iff.mp e).1]; exact e
  have t0' := htab t0
  have t1' := htab t1
  generalize σ ++ τ = σ₁ at t0' t1'
  repeat' walk_at "st"
  refine ⟨_, ls, 1, rfl, rfl, hb, hlen.1, t1', ?_⟩
  have hr : RskOk (items ls) (deals [] (items ls)) := rsk 5 ls.length (items ls) (by simp [items]) (items_lx hs) (items_sy hp) (items_bd hp (talks_lt sc))
  have hDB : DB 14 (deals [] (items ls)) := by
    have h := deals_db hb ls.length (Nat.le_refl _)
    rw [List.take_length] at h
    exact ⟨Nat.le_trans h.len hlen.1, fun pn hpn => by obtain ⟨a, b, c⟩ := h.pl pn hpn; exact ⟨by exact ar530 a hlen, by exact ar530 b hlen, c⟩⟩
  have hsum := rows_sum hs hp (talks_lt sc)
  have hrl := rows_len hp (talks_lt sc)
  have hpos := rows_pos (ls := ls)
  obtain ⟨pn0, hT0, hrows⟩ : ∃ pn0, (deals [] (items ls))[0]? = some pn0 ∧ rowsOf ls = (List.range pn0.1.length).map (colc ((deals [] (items ls)).map (·.1.length))) := by
    cases hls : ls with
    | nil => rw [hls] at hlen; simp at hlen
    | cons x r =>
      refine ⟨_, by rw [show items (x :: r) = (x.1, x) :: items r from rfl, deals_nil]; rfl, ?_⟩
      unfold rowsOf
      rw [show items (x :: r) = (x.1, x) :: items r from rfl, deals_nil]; rfl
  have hperm : ((deals [] (items ls)).flatMap (·.1)).Perm ls := by
    have := hr.perm
    rw [show (items ls).map (·.2) = ls by unfold items; rw [List.map_map]; exact List.map_id ls] at this
    rw [List.flatMap_def]
    exact this
  have hnote := hr.notes
  generalize deals [] (items ls) = T at *
  have hl0 : pn0.2.length = pn0.1.length := by rw [← hnote pn0 (List.mem_of_getElem? hT0), List.length_map]
  have hTl := hDB.len
  have hp0 := (hDB.pl pn0 (List.mem_of_getElem? hT0)).1
  have hrl2 : (rowsOf ls).length = pn0.1.length := by rw [hrows, List.length_map, List.length_range]
  have hr1 : 1 ≤ (rowsOf ls).length := by
    rcases Nat.eq_zero_or_pos (rowsOf ls).length with q | q
    · rw [List.length_eq_zero_iff.mp q] at hsum
      simp at hsum; exact ar531 hsum hlen
    · exact q
  show wPair _ _ (V.tup [V.ref (List.length σ₁), V.ref (List.length σ₁ + 1)]) _ _ _
  refine p_apair (p_aname (p_aname ?_))
  refine p_knx (p_seq ?_)
  refine cmpS_ok (t := 1) t1' ?_ ?_ hDB hnote ?_
  · walk_at "rho"
  · walk_at "rho"
  repeat' walk_at "st"
  refine ⟨by decide, p_mut ?_⟩
  repeat' walk_at "st"
  refine rows_ok (t := 0) hT0 hl0 t0' ?_ ?_ ?_ hDB fun ρ₁ f1 => ?_
  · walk_at "rho"
  · walk_at "rho"
  · walk_at "rho"
  rw [← hrows]
  have a1 : ρ₁ (Str.ofString "piles") = some (.ref σ₁.length) := by rw [f1 _ (by decide +kernel)]; walk_at "rho"
  have a2 : ρ₁ (Str.ofString "letters") = some (.list (ls.map lv)) := by rw [f1 _ (by decide +kernel)]; walk_at "rho"
  have a3 : ρ₁ (Str.ofString "rows") = some (.ref (stD σ₁ T).length) := by rw [f1 _ (by decide +kernel)]; walk_at "rho"
  repeat' walk_at "st"
  refine ⟨by decide, p_mut ?_⟩
  rw [List.append_assoc, show (stD σ₁ T ++ [MO.list (intsV (rowsOf ls))]).length = (stD σ₁ T).length + 1 by simp]
  show seqK _ _ _ _ (stD σ₁ T ++ [MO.list (intsV (rowsOf ls)), MO.list []])
  refine p_knx (p_seq ?_)
  refine pieces_ok ?_ ?_ hDB fun ρ₂ σ₂ f2 hk hR hP => ?_
  · walk_at "rho"
  · walk_at "rho"
  have b2 : ρ₂ (Str.ofString "letters") = some (.list (ls.map lv)) := by rw [f2 _ (by decide +kernel)]; walk_at "rho"
  have b3 : ρ₂ (Str.ofString "rows") = some (.ref (stD σ₁ T).length) := by rw [f2 _ (by decide +kernel)]; walk_at "rho"
  have b4 : ρ₂ (Str.ofString "pieces") = some (.ref ((stD σ₁ T).length + 1)) := by rw [f2 _ (by decide +kernel)]; walk_at "rho"
  have z0 : σ₂[0]? = some (.tab 79) := by rw [hk 0 (List.getElem?_eq_some_iff.mp t0').1]; exact t0'
  have z1 : σ₂[1]? = some (.tab 86) := by rw [hk 1 (List.getElem?_eq_some_iff.mp t1').1]; exact t1'
  generalize (stD σ₁ T).length = m at hR hP b3 b4
  refine p_knx (p_seq ?_)
  refine sortCmp_ok b4 b2 hP hperm hs hb (by exact ar465 hlen) hlen.1 ?_
  refine p_knx (p_seq ?_)
  refine selves_ok b2 hlen.1 ?_
  refine p_knx (p_seq ?_)
  refine wide_ok (ls := ls) ?_ (by exact ar532 hlen) hlen.1 fun τ₃ => ?_
  · walk_at "rho"
  have hR3 : (σ₂ ++ τ₃)[m]? = some (.list (intsV (rowsOf ls))) := by rw [List.getElem?_append_left (List.getElem?_eq_some_iff.mp hR).1]; exact hR
  have y0 : (σ₂ ++ τ₃)[0]? = some (.tab 79) := by rw [List.getElem?_append_left (List.getElem?_eq_some_iff.mp z0).1]; exact z0
  have y1 : (σ₂ ++ τ₃)[1]? = some (.tab 86) := by rw [List.getElem?_append_left (List.getElem?_eq_some_iff.mp z1).1]; exact z1
  generalize σ₂ ++ τ₃ = σ₃ at hR3 y0 y1
  have hrb : ∀ r ∈ rowsOf ls, 1 ≤ r ∧ r ≤ 100 := fun r hr => ⟨(hpos r hr).1, by have := (hpos r hr).2; exact ar533 this hTl⟩
  refine p_knx (p_seq ?_)
  refine ends_ok (m := m) (rl := rowsOf ls) ?_ hR3 (by exact ar534 hrl2 hp0) ?_
  · walk_at "rho"
  refine p_knx (p_seq ?_)
  refine mail_ok (m := m) (rl := rowsOf ls) (f := endAt) ?_ hR3 (by exact ar534 hrl2 hp0) (fun r hr => (hrb r hr).2) (fun k => by rcases endAt_ok k with q | q | q <;> rw [q] <;> decide) ?_ ?_
  · walk_at "rho"
  · show _ = some (V.list (endsV (rowsOf ls).length))
    walk_at "rho"
  refine p_knx (p_seq ?_)
  obtain ⟨tl, hmail⟩ : ∃ tl, mailL (rsOf (rowsOf ls) endAt) = 46 :: tl := by
    rcases mail_head (fun p hp => (rs_ok hrb p hp).1) with q | q
    · have := congrArg List.length q
      unfold rsOf at this
      rw [List.length_map, List.length_range, List.length_nil] at this
      exact (ar411 hr1 this).elim
    · exact q
  have hml := mail_bound (rl := rowsOf ls) (by exact ar534 hrl2 hp0) hrb (j := 0) (by exact ar535)
  have hml' : tl.length ≤ 2 ^ 17 := by
    have : (mailL (rsOf (rowsOf ls) endAt)).length ≤ 2 ^ 14 := hml
    rw [hmail, List.length_cons] at this
    exact ar536 this
  refine refd_ok (r := tl) ?_ hml' ?_
  · rw [← hmail]; walk_at "rho"
  refine p_knx (p_seq ?_)
  obtain ⟨m1, m2, m3, m4⟩ := mail_counts h7 hs hp (talks_lt sc) 0
  refine often_ok (m := m) (rl := rowsOf ls) (sf := selfs ls) (wd := wideOf ls) ?_ hR3 hr1 (by exact ar534 hrl2 hp0) hrb ?_ ?_ ?_ ?_ m3 (by exact ar537 hrl hrl2 hp0) (fun o => (mail_counts h7 hs hp (talks_lt sc) o).1) (fun o => (mail_counts h7 hs hp (talks_lt sc) o).2.1) fun ρ₄ => ?_
  · walk_at "rho"
  · show _ = some (V.list (endsV (rowsOf ls).length))
    walk_at "rho"
  · walk_at "rho"
  · walk_at "rho"
  · walk_at "rho"
  repeat' walk_at "st"
  exact hQ _ _ y0 y1

end
section
set_option autoImplicit false
set_option maxRecDepth 100000

section
variable {G : Glb} {P : Params} {ℓ : Nat} {sc : Scope} {np pos apos : Pos} {e o : Expr} {rest : List Expr} {Ws : WL} {Wo : WE}
theorem c_letters (T : TopG G P) (hk : sc.names.lookup (Str.ofString "_law_letters") = some .globalImplicit) (ha : Evs G (ℓ + 3) sc (e :: rest) Ws)
    (h1 : ∀ env, starEach (e :: rest) env = (false, eval e env) :: starEach rest env) (h2 : ∀ env, (backTo pos (starEach rest env)).any (·.1) = false) :
    Ev G (ℓ + 3) sc (.Call (.Name (Str.ofString "_law_letters") np) (e :: rest) [] pos) (wCall wLetters Ws) :=
  c_own T.O (by rw [T.mg]; rfl) (by decide +kernel) (CallOk.def (T.K 177 _ rfl) rfl) (fn177 T (ℓ := ℓ + 2)) hk ha h1 h2
theorem c_dealt (T : TopB G P) (hk : sc.names.lookup (Str.ofString "_law_dealt") = some .globalImplicit) (ha : Evs G (ℓ + 3) sc (e :: rest) Ws)
    (h1 : ∀ env, starEach (e :: rest) env = (false, eval e env) :: starEach rest env) (h2 : ∀ env, (backTo pos (starEach rest env)).any (·.1) = false) :
    Ev G (ℓ + 3) sc (.Call (.Name (Str.ofString "_law_dealt") np) (e :: rest) [] pos) (wCall wDealt Ws) :=
  c_own T.A.T.O (by rw [T.A.T.mg]; rfl) (by decide +kernel) (CallOk.def (T.A.T.K 182 _ rfl) rfl) (fn182 T (ℓ := ℓ)) hk ha h1 h2
theorem c_read (T : TopG G P) (hk : sc.names.lookup (Str.ofString "_law_read") = some .globalImplicit) (ha : Evs G (ℓ + 3) sc (e :: rest) Ws)
    (h1 : ∀ env, starEach (e :: rest) env = (false, eval e env) :: starEach rest env) (h2 : ∀ env, (backTo pos (starEach rest env)).any (·.1) = false) :
    Ev G (ℓ + 3) sc (.Call (.Name (Str.ofString "_law_read") np) (e :: rest) [] pos) (wCall wRead Ws) :=
  c_own T.O (by rw [T.mg]; rfl) (by decide +kernel) (CallOk.def (T.K 189 _ rfl) rfl) (fn189 T (ℓ := ℓ + 1)) hk ha h1 h2
theorem c_widest (T : TopG G P) (hk : sc.names.lookup (Str.ofString "_law_widest") = some .globalImplicit) (ha : Evs G (ℓ + 3) sc (e :: rest) Ws)
    (h1 : ∀ env, starEach (e :: rest) env = (false, eval e env) :: starEach rest env) (h2 : ∀ env, (backTo pos (starEach rest env)).any (·.1) = false) :
    Ev G (ℓ + 3) sc (.Call (.Name (Str.ofString "_law_widest") np) (e :: rest) [] pos) (wCall wWidest Ws) :=
  c_own T.O (by rw [T.mg]; rfl) (by decide +kernel) (CallOk.def (T.K 201 _ rfl) rfl) (fn201 T (ℓ := ℓ + 1)) hk ha h1 h2
theorem c_quote (T : TopG G P) (hk : sc.names.lookup (Str.ofString "quotedata") = some .globalImplicit) (ha : Evs G (ℓ + 1) sc (e :: rest) Ws)
    (h1 : ∀ env, starEach (e :: rest) env = (false, eval e env) :: starEach rest env) (h2 : ∀ env, (backTo pos (starEach rest env)).any (·.1) = false) :
    Ev G (ℓ + 1) sc (.Call (.Name (Str.ofString "quotedata") np) (e :: rest) [] pos) (wCall wQuote Ws) :=
  c_own T.O (by rw [T.mg]; rfl) (by decide +kernel) (CallOk.def (T.K 170 _ rfl) rfl) (fn170 T) hk ha h1 h2
end
local macro_rules | `(tactic| walk_at "rq") => `(tactic| ((with_reducible apply r_repl (c := 32) (z := [])); (focus decide +kernel); (focus decide +kernel); (focus decide); (focus decide); (focus walk_at "ev"); (focus exact fun _ => rfl); (focus exact rfl)))
local macro_rules | `(tactic| walk_at "ev") => mkWays "@c_strA D el R1 R1|@c_lenB D el R1 R1|#rq"
local macro_rules | `(tactic| walk_at "fn") => mkWays "@c_letters D el R1 R1|@c_dealt D el R1 R1|@c_read D el R1 R1|@c_widest D el R1 R1|@c_parse D el R1 R1|@c_quote D el R1 R1|@c_sorted D el R1 R1|@m_pc ev R1 R1|@m_popf0 ev R1 R1"
local macro_rules | `(tactic| walk_at "ef1") => mkWays "@sf_ref2 D el R1 R1 R2 et es|SxF.of e1"
local macro_rules | `(tactic| walk_at "ef") => mkWays "!SxsF.nil|SxsF.cons ef1 ef"
set_option maxHeartbeats 4000000 in
theorem body206 {G : Glb} {P : Params} (T : TopB G P) {ℓ : Nat} : SxsF G (ℓ + 3) (fd 206).scope (ownOf (fd 206).scope) (bd 206) fun Q ρ σ => w206 Q ρ σ := by
  have T0 : TopG G P := T.A.T
  apply SxsF.mono
  focus (apply SxsF.cons; (focus (apply SxF.of; (focus walk_at "e1"))); (focus (apply SxsF.cons; (focus (apply SxF.of; (focus walk_at "e1"))); (focus (apply SxsF.cons; (focus (apply SxF.of; (focus walk_at "e1"))); (focus (apply SxsF.cons; (focus (apply SxF.of; (focus walk_at "e1"))); (focus (apply SxsF.cons; (focus (apply SxF.of; (focus (apply s_for; (focus walk_at "ev"); (focus walk_at "ea"); (focus walk_at "es"); (focus exact fun _ _ => rfl))))); (focus (apply SxsF.cons; (focus (apply SxF.of; (focus walk_at "e1"))); (focus (apply SxsF.cons; (focus (apply SxF.of; (focus (apply s_for; (focus walk_at "ev"); (focus walk_at "ea"); (focus walk_at "es"); (focus exact fun _ _ => rfl))))); (focus (apply SxsF.cons; (focus (apply SxF.of; (focus walk_at "e1"))); (focus (apply SxsF.cons; (focus (apply SxF.of; (focus walk_at "e1"))); (focus (apply SxsF.cons; (focus (apply SxF.of; (focus walk_at "e1"))); (focus (apply SxsF.cons; (focus (apply SxF.of; (focus walk_at "e1"))); (focus (apply SxsF.cons; (focus (apply SxF.of; (focus walk_at "e1"))); (focus (apply SxsF.cons; (focus ((with_reducible apply sf_ref2 (by assumption)); (focus decide +kernel); (focus walk_at "el"); (focus exact fun _ => rfl); (focus exact fun _ => rfl); (focus exact fun _ _ => rfl); (focus walk_at "et"); (focus walk_at "es"))); (focus (apply SxsF.cons; (focus (apply SxF.of; (focus (apply s_for; (focus walk_at "ev"); (focus walk_at "ea"); (focus (apply s_cons; (focus (apply s_ite; (focus walk_at "et"); (focus walk_at "es"); (focus walk_at "es"))); (focus (apply s_cons; (focus walk_at "e1"); (focus (apply s_cons; (focus walk_at "e1"); (focus (apply s_cons; (focus walk_at "e1"); (focus (apply s_cons; (focus walk_at "e1"); (focus walk_at "es"))))))))))); (focus exact fun _ _ => rfl))))); (focus (apply SxsF.cons; (focus (apply SxF.of; (focus walk_at "e1"))); (focus exact SxsF.nil))))))))))))))))))))))))))))))
  exact fun Q ρ σ h => h

end
section
set_option autoImplicit false
set_option maxRecDepth 100000
theorem biT_boot : ∀ p ∈ biT, bootBuiltins p.1 = some p.2 := by
  intro p hp
  unfold biT at hp
  simp only [List.mem_cons, List.not_mem_nil, or_false] at hp
  rcases hp with rfl | rfl | rfl | rfl | rfl | rfl | rfl | rfl | rfl | rfl <;> kernel_rfl
/-- what the law's call knows -/
noncomputable def G2 (w : World) (h : Heap) (mb : Str → Option Value) (bm : Addr) : Glb where
  prog := PySem.Challenge.rw_xl0003_02.row.prog
  w := w
  base := fun a => if a = builtinsNs ∨ a = cStatics ∨ a = bm then h.get? a else (hd2.heap_39 w.params).lookup a
  mg := fun x => match (hd2.heap_39 w.params).lookup 3 with | some o => (match o.data with | .dict es _ => nsFind es x | _ => none) | none => none
  mb := mb
  C := 117
theorem look3 (P : Params) : ((hd2.heap_39 P).lookup 3).isSome = true := rfl
theorem top2 {w : World} {h : Heap} {mg mb : Str → Option Value} {bm : Addr} {ob : Obj} (hm1 : mg "__builtins__" = some (.ref bm)) (hm2 : bm ≠ builtinsNs) (hm3 : h.get? bm = some ob) (hm4 : ob.cls = .type "module") (hm5 : ob.dict = some builtinsNs) (hm6 : ob.data = .plain) (KX : (hd2.heap_39 w.params).In h) (hg : h.Ns mainGlobals mg) (hb : h.Ns builtinsNs mb) (hbi : ∀ x : Str, x ≠ "__name__" → mb x = bootBuiltins x) (hl : h.NoLimit) :
    TopB (G2 w h mb bm) w.params ∧ (G2 w h mb bm).In h ∧ ∀ x, mg x = (G2 w h mb bm).mg x := by
  have hin : ∀ b o, (G2 w h mb bm).base b = some o → h.get? b = some o := fun b o e => by
    by_cases q : b = builtinsNs ∨ b = cStatics ∨ b = bm
    · exact (if_pos q (α := Option Obj) (t := h.get? b) (e := (hd2.heap_39 w.params).lookup b)).symm.trans e
    · exact KX b o ((if_neg q (α := Option Obj) (t := h.get? b) (e := (hd2.heap_39 w.params).lookup b)).symm.trans e)
  have hb2 : ∀ a, (a = builtinsNs ∨ a = cStatics ∨ a = bm) → (G2 w h mb bm).base a = h.get? a := fun a q => if_pos q
  have hnb : ∀ a, ¬ (a = builtinsNs ∨ a = cStatics ∨ a = bm) → (G2 w h mb bm).base a = (hd2.heap_39 w.params).lookup a := fun a q => if_neg q
  have h3 : (G2 w h mb bm).base 3 = (hd2.heap_39 w.params).lookup 3 := hnb 3 (fun q => by
    rcases q with q | q | q
    · exact absurd q (by decide)
    · exact absurd q (by decide)
    · obtain ⟨o, es, ep, ho, hd, _⟩ := hg
      rw [show mainGlobals = 3 from rfl, q, hm3] at ho
      cases ho
      rw [hm6] at hd; cases hd)
  have hmg : ∀ x, mg x = (G2 w h mb bm).mg x := fun x => by
    obtain ⟨o, es, ep, ho, hd, hk, hf⟩ := hg
    show _ = (match (hd2.heap_39 w.params).lookup 3 with | some o => (match o.data with | .dict es _ => nsFind es x | _ => none) | none => none)
    cases e : (hd2.heap_39 w.params).lookup 3 with
    | none => exact absurd ((look3 w.params).symm.trans (congrArg Option.isSome e)) (by simp)
    | some o' =>
      have := KX 3 o' e
      rw [show mainGlobals = 3 from rfl] at ho
      rw [ho] at this; cases this
      dsimp only; rw [hd]; exact (hf x).symm
  refine ⟨⟨⟨⟨⟨fun h' hin' => ?_, fun h' hin' => ?_, fun h' hin' => ?_⟩, fun a o e => ?_, fun x => rfl, fun x v e => ?_⟩, rfl, ?_, ?_⟩, ⟨bm, ob, (hmg _).symm.trans hm1, hm2, (hb2 _ (.inr (.inr rfl))).trans hm3, hm4, hm5, hm6⟩⟩, hin, hmg⟩
  · obtain ⟨o, es, ep, ho, hd, hk, hf⟩ := hg
    have e3 : (hd2.heap_39 w.params).lookup 3 = some o := by
      cases e : (hd2.heap_39 w.params).lookup 3 with
      | none => exact absurd ((look3 w.params).symm.trans (congrArg Option.isSome e)) (by simp)
      | some o' =>
        have := KX 3 o' e
        rw [show mainGlobals = 3 from rfl] at ho
        rw [ho] at this; cases this; rfl
    exact ⟨o, es, ep, hin' 3 o (h3.trans e3), hd, hk, fun x => (hf x).trans (hmg x)⟩
  · obtain ⟨o, es, ep, ho, r⟩ := hb
    exact ⟨o, es, ep, hin' _ _ ((hb2 _ (.inl rfl)).trans ho), r⟩
  · obtain ⟨mc, ⟨o, es, ep, ho, r⟩, z⟩ := hl
    exact ⟨mc, ⟨o, es, ep, hin' _ _ ((hb2 _ (.inr (.inl rfl))).trans ho), r⟩, z⟩
  · by_cases q : a = builtinsNs ∨ a = cStatics ∨ a = bm
    · rw [hb2 _ q]; exact KX a o e
    · rw [hnb _ q]; exact e
  · show mb x = some v
    have hx : x ≠ "__name__" := fun q => by
      have z : biT.lookup (Str.ofString "__name__") = none := by kernel_rfl
      rw [q] at e; rw [z] at e; cases e
    rw [hbi x hx]
    exact biT_boot _ (mem_of_lookup e)
  · show (PySem.Challenge.rw_xl0003_02.row.prog.main.file == Str.ofString "/claim/cut.py") = true
    decide +kernel
  · show (PySem.Challenge.rw_xl0003_02.row.prog.main.scope.names.lookup (Str.ofString "super")).isSome = false
    decide +kernel

theorem def206 {G : Glb} {P : Params} (T : TopG G P) : IsDef G 206 (fd 206) (bd 206) [] := isDef T 206 _ rfl rfl rfl rfl rfl rfl ⟨_, _, _, _, rfl, rfl, rfl, rfl⟩ rfl rfl rfl
theorem ints_of {P : Params} {h : Heap} {g : FM} {φ : List Addr} : ∀ {ns : List Int} {vs : List Value}, WellAll P h vs (ofPys (ns.map PyData.int)) → VRs g φ (ns.map V.int) vs
  | [], vs, h => by
    have h' : WellAll P _ vs [] := h
    cases h'; rfl
  | n :: r, vs, h => by
    have h' : WellAll P _ vs (.int n :: ofPys (r.map PyData.int)) := h
    cases h' with
    | cons h1 h2 =>
      cases h1
      exact ⟨_, _, rfl, ⟨_, rfl⟩, ints_of h2⟩
/-- the law's call -/
theorem law2 {w : World} {s : Shared} {mg mb : Str → Option Value} (KX : (hd2.heap_39 w.params).In s.heap) (tabs : ∀ P ∈ [79, 86], s.heap.get? P = some (tabObj #[])) (hg : s.heap.Ns mainGlobals mg) (hb : s.heap.Ns builtinsNs mb) (hbi : ∀ x : Str, x ≠ "__name__" → mb x = bootBuiltins x) (hl : s.heap.NoLimit)
    (hbm : ∃ bm ob, mg "__builtins__" = some (.ref bm) ∧ bm ≠ builtinsNs ∧ s.heap.get? bm = some ob ∧ ob.cls = .type "module" ∧ ob.dict = some builtinsNs ∧ ob.data = .plain)
    (bare : AllBare s.gens) {la fa : Addr} {ns : List Int} (hL : Well w.params s.heap (.ref la) (ofPy (.list (ns.map PyData.int)))) (hn : ns.length ≤ 63) (hf : mg (Str.ofString "law") = some (.ref fa)) {K E : Value → Shared → Prop}
    (hK : ∀ s', OldK s.heap s'.heap → s'.os = s.os → AllBare s'.gens → K (.bool true) s') :
    wpAny (model PySem.Challenge.rw_xl0003_02.row.prog w) callerA (call (.ref fa) [.ref la]) K E s := by
  obtain ⟨bm, ob, hm1, hm2, hm3, hm4, hm5, hm6⟩ := hbm
  obtain ⟨T, hin, hmg⟩ := top2 (w := w) (mb := mb) hm1 hm2 hm3 hm4 hm5 hm6 KX hg hb hbi hl
  have hfa : fa = 206 := by
    have h1 := (hmg _).symm.trans hf
    have h2 : (G2 w s.heap mb bm).mg (Str.ofString "law") = some (.ref 206) := by rw [T.A.T.mg]; rfl
    rw [h2] at h1; cases h1; rfl
  subst hfa
  obtain ⟨vs, hla, hvs⟩ : ∃ vs : List Value, s.heap.get? la = some (listObj vs.toArray 0) ∧ WellAll w.params s.heap vs (ofPys (ns.map PyData.int)) := by
    have h' : Well w.params s.heap (.ref la) (.list (ofPys (ns.map PyData.int))) := hL
    cases h' with
    | list h1 h2 => exact ⟨_, h1, h2⟩
  have ht1 := tabs 79 (by simp)
  have ht2 := tabs 86 (by simp)
  have hnb : ∀ P, (P = 79 ∨ P = 86) → (G2 w s.heap mb bm).base P = none ∧ P ≠ la := fun P hP => by
    have hP' : s.heap.get? P = some (tabObj #[]) := by rcases hP with rfl | rfl <;> assumption
    refine ⟨?_, fun q => by rw [q, hla] at hP'; cases hP'⟩
    have hq : ¬ (P = builtinsNs ∨ P = cStatics ∨ P = bm) := fun q => by
      rcases q with q | q | q
      · rcases hP with rfl | rfl
        · exact absurd q (by decide)
        · exact absurd q (by decide)
      · rcases hP with rfl | rfl
        · exact absurd q (by decide)
        · exact absurd q (by decide)
      · rw [q, hm3] at hP'
        rw [Option.some.inj hP'] at hm4
        cases hm4
    refine (if_neg hq (α := Option Obj) (t := s.heap.get? P) (e := (hd2.heap_39 w.params).lookup P)).trans ?_
    rcases hP with rfl | rfl
    · rfl
    · rfl
  have S : SR (G2 w s.heap mb bm) (fun a => if a = la then some (listObj vs.toArray 0) else (G2 w s.heap mb bm).base a) s.heap [79, 86] [.tab 79, .tab 86] := by
    refine ⟨fun b o e => ?_, fun b o e => ?_, rfl, fun k a m h1 h2 => ?_, fun a h => ?_, by simp⟩
    · by_cases q : b = la
      · subst q
        rw [if_pos rfl, ← hla, hin b o e]
      · rw [if_neg q]; exact e
    · by_cases q : b = la
      · subst q
        rw [if_pos rfl] at e; rw [hla]; exact e
      · rw [if_neg q] at e; exact hin b o e
    · match k, h1, h2 with
      | 0, h1, h2 => cases h1; cases h2; exact ⟨rfl, #[], ht1, trivial⟩
      | 1, h1, h2 => cases h1; cases h2; exact ⟨rfl, #[], ht2, trivial⟩
      | k + 2, h1, h2 => simp at h1
    · have hP : a = 79 ∨ a = 86 := by simpa using h
      obtain ⟨z1, z2⟩ := hnb a hP
      rw [if_neg z2]; exact z1
  have hc1 : isCodeTable s.heap 79 := ((codeHd_of_K KX (c := 83) (P := 79) (by kernel_rfl)).tab ht1).isCodeTable
  have hc2 : isCodeTable s.heap 86 := ((codeHd_of_K KX (c := 90) (P := 86) (by kernel_rfl)).tab ht2).isCodeTable
  generalize hG : G2 w s.heap mb bm = G at T hin hmg S
  have hprog : G.prog = PySem.Challenge.rw_xl0003_02.row.prog := by rw [← hG]; rfl
  have hw : G.w = w := by rw [← hG]; rfl
  rw [← hprog, ← hw]
  have hv : VR (fun a => if a = la then some (listObj vs.toArray 0) else G.base a) [79, 86] (.list (ns.map V.int)) (.ref la) := ⟨la, vs.toArray, 0, rfl, if_pos rfl, by rw [List.toList_toArray]; exact ints_of hvs⟩
  generalize (fun a => if a = la then some (listObj vs.toArray 0) else G.base a) = g at S hv
  refine enter1 (ℓ := 30) T.A.T.O (def206 T.A.T) (x := "script") (by decide +kernel) (fun w => rfl) ⟨rfl, by decide, by decide⟩ bare S hv fun env s₁ eo hfl cx hfr N₁ R₁ E' => ?_
  have hfs : (callerA.deeper env).frames = some [env] := Around.frames_deeper rfl
  generalize callerA.deeper env = A at cx hfs
  refine body206 T (ℓ := 27) A env s₁ g [79, 86] [.tab 79, .tab 86] _ (fun fl _ σ' => fl = .rt (.bool true) ∧ σ'[0]? = some (.tab 79) ∧ σ'[1]? = some (.tab 86)) cx eo hfs hfl R₁ (law_ok hn (v := .list (ns.map V.int)) (by unfold upd; rw [if_pos rfl]) rfl rfl rfl fun ρ' σ' y0 y1 => ⟨rfl, y0, y1⟩) _ _ fun f s₄ g₄ φ₄ σ₄ ρ₄ fl N₄ R₄ hf hQ => ?_
  obtain ⟨hQ, y0, y1⟩ := hQ
  subst hQ
  obtain ⟨wr, rfl, hwr⟩ := hf
  have hwr' : wr = .bool true := hwr
  subst hwr'
  have N : Nx [] s s₄ g g₄ [79, 86] φ₄ := N₁.leave N₄ hfr
  obtain ⟨r, hr, _⟩ := N.pre
  obtain ⟨_, ps1, q1, _⟩ := R₄.sr.mo 0 79 _ (by rw [hr]; rfl) y0
  obtain ⟨_, ps2, q2, _⟩ := R₄.sr.mo 1 86 _ (by rw [hr]; rfl) y1
  have hold : OldK s.heap s₄.heap := by
    refine ⟨fun b o e => ?_, fun b o e => ?_⟩
    · by_cases h1 : b = 79
      · subst h1
        rw [ht1] at e; cases e
        exact .inr (.inl ⟨hc1, rfl, #[], ps1, rfl, by rw [q1]; simp⟩)
      · by_cases h2 : b = 86
        · subst h2
          rw [ht2] at e; cases e
          exact .inr (.inl ⟨hc2, rfl, #[], ps2, rfl, by rw [q2]; simp⟩)
        · exact .inl (N.oth b o (by simp) (by simp [h1, h2]) e)
    · cases z : s₄.heap.get? b with
      | none => exact absurd z (N.ex b (by rw [e]; simp))
      | some o' => exact ⟨o', rfl⟩
  exact ⟨(fun h => nomatch h), (fun w h => by cases h; exact hK s₄ hold N.os R₄.ok.bare), .inr ⟨_, rfl⟩⟩

end
end Mine
set_option maxRecDepth 100000 in
set_option maxHeartbeats 8000000 in
theorem PySem.Challenge.cw_xl0003_02_holds : PySem.Challenge.rw_xl0003_02.Holds := by
  w_on; o_law
  o_head (kmHook Mine.hd2.heap_39 [2,3,32,34,35,37,38,39,42,47,48,49,51,52,54,55,56,58,59,61,62,63,64,66,67,69,70,71,73,74,76,77,78,80,81,83,84,85,87,88,90,91,92,93,95,96,98,99,100,102,103,105,106,107,108,110,111,113,114,115,116,117,118,119,122,129,130,131,132,135,142,143,144,147,149,150,152,153,157,158,162,163,164,166,167,169,170,171,173,174,176,177,178,181,182,183,185,186,188,189,190,192,193,195,196,197,200,201,202,205,206] (fun _ => by kernel_rfl) [79, 86])
  (case hw => w_witness2)
  intro w s₀ s₁ mg mb G Y fa o pm cd doc dV kV ho hd hcd hD hmg hg args vals as hpre hlay hrd hwl hlo
  have KX := km_in_of Y
  have TB := km_tabs_of Y
  refine Ground.open G ?_
  intro T B D TE TW
  wrow_args hpre hlay hrd hwl hlo
  refine Mine.law2 KX TB T.g T.b T.builtins T.nolimit T.bmain (.of_eq hg) (by assumption) (by omega) hmg fun s' hk hos hba => ?_
  refine ⟨.inl ⟨.bool true, .bool true, [], rfl, fun cls => rfl, .bool true, ?_, fun _ => ⟨List.nodup_nil, fun a h => by cases h⟩⟩, hk, hos, hba⟩
  wrow_post

import PyProof.Rows.All
import Wide.All
import OpenK.AllK
import Wide.FinOn
import PyProof.StationsW
import KE.KFromBytes
import KE.KSuper
import PySem.Challenge.RW_xl0003_01
open PySem PySem.W PyProof.Rows
set_option Elab.async false
set_option linter.unusedVariables false
namespace Mine
set_option maxRecDepth 100000 in
set_option maxHeartbeats 8000000 in
open_top hd1 for PySem.Challenge.rw_xl0003_01
section
set_option autoImplicit false
theorem ar3 {a : Nat} {b : Nat} (h1 : ¬b < a) : a ≤ b := Nat.le_of_not_lt h1
theorem ar5 {a : Nat} {b : Nat} (h1 : b ≤ a) : ¬a < b := Nat.not_lt.mpr h1
theorem ar10 {a : Nat} {b : Nat} (h1 : a + 1 ≤ b) : a ≤ b := Nat.le_of_succ_le h1
theorem ar13 {a : Nat} : a ≤ a := Nat.le_refl a
theorem ar19 {a : Nat} {b : Nat} (h1 : b = a) : a ≤ b := Nat.le_of_eq (id (Eq.symm h1))
theorem ar20 {a : Nat} {b : Nat} (h1 : a < b) : a + 1 ≤ b := Nat.succ_le_of_lt h1
theorem ar32 {a : Nat} {b : Nat} (h1 : a - b > 0) : 1 ≤ a - b := Nat.one_le_of_lt h1
theorem ar40 {a : Nat} : 1 ≤ a + 1 := Nat.le_add_left 1 a
theorem ar44 {a : Nat} {b : Nat} (h1 : a < b) : a ≤ b := Nat.le_of_succ_le h1
theorem ar52 {a : Nat} {b : Nat} {c : Nat} (h1 : a ≤ c) (h2 : c ≤ b) : a ≤ b := Nat.le_trans h1 h2
theorem ar102 {a : Nat} {b : Nat} : a + (b + 1) = a + 1 + b := Eq.symm (Nat.succ_add_eq_add_succ a b)
theorem ar105 {a : Nat} {b : Nat} (h1 : b ≤ a) (h2 : ¬b < a) : a = b := by lia
theorem ar127 {a : Nat} {b : Nat} (h1 : b < a) : 0 < (↑a : Int) - (↑b : Int) := by lia
theorem ar128 {a : Nat} {b : Nat} : (↑a : Int) - ((↑b : Int) + 1) = (↑a : Int) - (↑b : Int) - 1 := Eq.symm (Int.sub_sub (↑a) (↑b) 1)
theorem ar129 {a : Nat} : ((↑a : Int) - 0 - 1) / 1 + 1 = (↑a : Int) := by lia
theorem ar130 {a : Nat} (h1 : ¬0 < (↑a : Int)) : 0 = (↑a : Int) := by lia
theorem ar131 {a : Int} (h1 : 0 ≤ a) : -2 ^ 63 ≤ a := by lia
theorem ar132 {a : Int} (h1 : a ≤ 2 ^ 31) : a < 2 ^ 63 := by lia
theorem ar133 {a : Nat} : 0 ≤ (↑a : Int) + (1 - 1) := Int.zero_le_ofNat (a + (1 - Nat.succ 0))
theorem ar134 {a : Nat} (h1 : a < 2 ^ 31) : (↑a : Int) + (1 - 1) ≤ 2 ^ 31 := by lia
theorem ar135 {a : Nat} : 0 ≤ (↑a : Int) := Int.natCast_nonneg a
theorem ar136 {a : Nat} (h1 : a < 2 ^ 31) : (↑a : Int) ≤ 2 ^ 31 := by lia
theorem ar149 {a : Nat} {b : Nat} (h1 : b < a) : a - (b + 1) < a - b := Nat.sub_succ_lt_self a b h1
theorem ar151 {a : Nat} {b : Nat} : a ≤ a + b := Nat.le_add_right a b
theorem ar165 {a : Nat} (h1 : a + 1 ≤ a) : False := by lia
theorem ar166 {a : Nat} : a ≤ a + 1 := Nat.le_add_right a 1
theorem ar167 {a : Nat} {b : Nat} (h1 : a + 1 ≤ b) : a < b := Nat.lt_of_succ_le h1
theorem ar168 {a : Nat} {b : Nat} (h1 : a + 10 * (b + 1) ≤ 900) : a < 1000 := by lia
theorem ar169 {a : Nat} {b : Nat} (h1 : a + 10 * (b + 1) ≤ 900) : a + 1 + 10 * b ≤ 900 := by lia
theorem ar170 {a : Nat} {b : Nat} (h1 : a + 100 * (b + 1) ≤ 9000) : a + 3 + 100 * b ≤ 9000 := by lia
theorem ar192 {a : Nat} {b : Nat} (h1 : 2 ^ 21 ≤ b) (h2 : b ≤ 2 ^ 20) : a ≤ 20 := by lia
theorem ar193 {a : Int} (h1 : 1 ≤ a) : a ≠ 0 := Ne.symm (Int.ne_of_lt h1)
theorem ar194 {a : Nat} (h1 : a ≤ 20) : ¬a / 30 + 1 > 300 := by lia
theorem ar195 {a : Int} (h1 : 0 ≤ a) : ¬a < -2 ^ 63 := by lia
theorem ar196 {a : Int} (h1 : a ≤ 2 ^ 10) : ¬a ≥ 2 ^ 63 := by lia
theorem ar197 {a : Int} (h1 : a ≤ 2 ^ 10) : 1024 * a ≤ 2 ^ 63 - 1 := by lia
theorem ar198 {a : Int} (h1 : ¬a < 1) : 0 < a := by lia
theorem ar199 {a : Nat} {b : Int} (h1 : (↑a : Int) > b) (h2 : 1024 ≤ b) (h3 : a ≤ 2 ^ 10) : False := by lia
theorem ar200 {a : Nat} (h1 : a ≤ 2 ^ 10 * 2 ^ 10) : ¬a > 2 ^ 24 := by lia
theorem ar201 {a : Int} (h1 : -2 ^ 63 ≤ a) (h2 : a < 2 ^ 63) : -9223372036854775808 ≤ a ∧ a < 9223372036854775808 := ⟨h1, h2⟩
theorem ar202 {a : Nat} (h1 : a ≤ 2 ^ 24) : ¬a > (2 ^ 63 - 1) / 8 := by lia
theorem ar203 {a : Int} (h1 : a ≤ 2 ^ 10) : a < 2 ^ 63 := by lia
theorem ar204 {a : Nat} (h1 : a ≤ 2 ^ 10 * 2 ^ 10) : a ≤ 2 ^ 24 := by lia
theorem ar205 {a : Nat} {b : Nat} {c : Nat} {d : Nat} (h1 : a = c) (h2 : b = d) (h3 : c + d ≤ 2 ^ 20) : a + b ≤ 2 ^ 24 := by lia
theorem ar206 {a : Int} (h1 : 1 ≤ a) : 0 ≤ a := Int.le_of_lt h1
theorem ar207 {a : Nat} {b : Nat} {c : Nat} (h1 : a + 100 * c ≤ 9000) (h2 : b ≤ 3) : a + (b + 1) < 9900 := by lia
theorem ar208 {a : Nat} {b : Nat} {c : Nat} (h1 : a + (b + 1) ≤ c) : a + b ≤ c := Nat.le_of_succ_le h1
theorem ar209 {a : Nat} {b : Nat} {c : Nat} (h1 : a + (b + 1) ≤ c) : a + b < c := by lia
theorem ar210 {a : Nat} {b : Nat} (h1 : ¬(↑b : Int) < (↑a : Int)) : a - b = 0 := by lia
theorem ar211 {a : Int} (h1 : 0 ≤ a) : ¬a < 0 := Int.not_lt_of_ge h1
theorem ar212 {a : Nat} {b : Nat} {c : Nat} {d : Nat} (h1 : a ≤ b) (h2 : b ≤ d) (h3 : c = d) : a + (b - a) ≤ c := by lia
theorem ar213 {a : Nat} {b : Nat} (h1 : a ≤ b) : a - b = 0 := Nat.sub_eq_zero_of_le h1
theorem ar214 {a : Nat} {b : Nat} {c : Nat} (h1 : c - b = a) (h2 : c ≤ a) : a = 0 ∨ b = 0 ∧ c = a := by lia
theorem ar215 {a : Nat} {b : Nat} (h1 : a = b) (h2 : b = 0) : a = 0 := by lia
theorem ar216 {a : Nat} {b : Nat} (h1 : a = b) : a ≤ b := Nat.le_of_eq h1
theorem ar217 {a : Int} (h1 : a < 2 ^ 60) : a < 2 ^ 63 := by lia
theorem ar218 {a : Int} (h1 : ¬0 ≤ a) : a < 0 := Int.lt_of_not_ge h1
theorem ar219 {a : Int} {b : Nat} (h1 : -(↑b : Int) ≤ a ∧ -2 ^ 60 ≤ a) : -2 ^ 63 ≤ a := by lia
theorem ar220 {a : Int} (h1 : 0 ≤ a ∧ a < 2 ^ 60) : ¬a < -2 ^ 63 := by lia
theorem ar221 {a : Int} (h1 : 0 ≤ a ∧ a < 2 ^ 60) : ¬a ≥ 2 ^ 63 := by lia
theorem ar222 {a : Int} (h1 : 0 ≤ a ∧ a < 2 ^ 60) : ¬a < 0 := by lia
theorem ar223 {a : Int} (h1 : 0 ≤ a ∧ a < 2 ^ 60) : 0 ≤ a := by lia
theorem ar224 {a : Nat} (h1 : a < 2 ^ 62) : (↑a : Int) < 2 ^ 63 := by lia
theorem ar225 {a : Nat} : 1 ≤ a + 1 + 1 := Nat.le_add_left 1 (a + 1)
theorem ar226 {a : Nat} (h1 : a < 2 ^ 62) : ¬(↑a : Int) ≥ 2 ^ 63 := by lia
theorem ar227 {a : Nat} {b : Nat} (h1 : 2 ^ 1920 ≤ b) (h2 : b < 2 ^ 64) : a < 1920 := by lia
theorem ar228 {a : Nat} (h1 : a ≤ 2 ^ 20) : (↑a : Int) + (1 - 1) ≤ 2 ^ 31 := by lia
theorem ar229 {a : Nat} (h1 : a ≤ 2 ^ 20) : (↑a : Int) ≤ 2 ^ 31 := by lia
theorem ar230 {a : Nat} (h1 : a ≤ 2 ^ 20) : a ≤ 2 ^ 24 := by lia
theorem ar231 {a : Nat} {b : Nat} : a + 1 + b = a + (b + 1) := Nat.succ_add_eq_add_succ a b
theorem ar232 {a : Nat} : 0 + (↑a : Int) * 1 = (↑(0 + a) : Int) := Int.zero_add (↑a * 1)
theorem ar233 {a : Nat} : 1 + (↑a : Int) = (↑a : Int) + 1 := Int.add_comm 1 ↑a
theorem ar234 {a : Nat} {b : Nat} {c : Nat} : a + (b + (c + 1 + 1)) = a + (b + 2) + c := by lia
theorem ar235 {a : Nat} {b : Nat} : a + b - a = b := Nat.add_sub_self_left a b
theorem ar236 {a : Nat} {b : Nat} : a ≤ a + b + 1 := by lia
theorem ar237 {a : Nat} {b : Nat} : a + b + 1 - a = b + 1 := Eq.symm (Nat.eq_sub_of_add_eq' rfl)
theorem ar238 {a : Nat} : a + 2 = a + 1 + 1 := by lia
theorem ar239 {a : Nat} {b : Nat} {c : Nat} {d : Nat} (h1 : c = a + (b + 2) + d) : a + b + 2 ≤ c := Nat.le.intro (id (Eq.symm h1))
theorem ar240 {a : Nat} (h1 : a + 2 ≤ a) : False := by lia
theorem ar241 {a : Nat} {b : Nat} {c : Nat} (h1 : a + (c + 1) < b) : a < b := Nat.lt_of_add_right_lt h1
theorem ar242 {a : Nat} {b : Nat} : a + (b + 2) = a + b + 2 := by lia
theorem ar243 {a : Nat} {b : Nat} {c : Nat} (h1 : a + (b + 1) < c) : a + 1 + b < c := by lia
theorem ar244 {a : Nat} {b : Nat} : a + (b + 1 + 1) + 1 = a + 2 + (b + 1) := Eq.symm (Nat.add_right_comm a 2 (b + 1))
theorem ar245 {a : Nat} {b : Nat} {c : Nat} (h1 : a ≤ c) : a + 1 ≤ b + (c + 1 + 1) := by lia
theorem ar246 {a : Nat} {b : Nat} (h1 : a ≤ b) : a < b + 1 := Nat.lt_succ_of_le h1
theorem ar247 {a : Nat} {b : Nat} : 2 ≤ a + (b + 1 + 1) := Nat.le_add_left 2 (a.add b)
theorem ar248 {a : Nat} (h1 : a ≤ 2 ^ 20) : ¬a > 2 ^ 24 := by lia
theorem ar249 {a : Nat} {b : Nat} (h1 : a ≤ b + 1) (h2 : b ≤ 2 ^ 20) : a + 1 ≤ 2 ^ 24 := by lia
theorem ar250 {a : Nat} {b : Nat} {c : Nat} (h1 : b ≤ (a + 1) * 1) (h2 : c = a) (h3 : c ≤ 2 ^ 20) : a + b ≤ 16777216 := by lia
theorem ar251 {a : Nat} {b : Nat} {c : Nat} (h1 : a < c) (h2 : c = b) : a < b := Nat.lt_of_lt_of_eq h1 h2
theorem ar255 {a : Int} {b : Nat} (h1 : a < (↑b : Int)) (h2 : b ≤ 2 ^ 40) : a < 2 ^ 63 := by lia
theorem ar256 {a : Int} {b : Nat} (h1 : -(↑b : Int) ≤ a) (h2 : b ≤ 2 ^ 40) : -2 ^ 63 ≤ a := by lia
theorem ar259 {a : Nat} (h1 : a < 6) : a = 0 ∨ a = 1 ∨ a = 2 ∨ a = 3 ∨ a = 4 ∨ a = 5 := by lia
theorem ar260 {a : Nat} {b : Nat} (h1 : a ≤ b) : a + 1 ≤ b + 1 := Nat.add_le_add_right h1 1
theorem ar261 {a : Nat} {b : Nat} (h1 : a ≤ b) (h2 : b - a = 0) : a = b := by lia
theorem ar262 {a : Nat} {b : Nat} {c : Nat} (h1 : a < b) (h2 : c = b) (h3 : c ≤ a) : False := by lia
theorem ar263 {a : Nat} {b : Nat} (h1 : a = b) : ¬a < b := by lia
theorem ar264 : 2 + 1 + 1 ≤ 3 * 0 + 10 := Nat.le_add_left (2 + 1 + 1) 6
theorem ar265 : 2 + 1 ≤ 3 * 0 + 10 := Nat.le_add_left (2 + 1) 7
theorem ar266 {a : Nat} {b : Nat} {c : Nat} (h1 : b - a = c + 1) : a < b := Nat.lt_of_sub_eq_succ h1
theorem ar267 {a : Nat} {b : Nat} {c : Nat} (h1 : a - b = c + 1) : a - (b + 1) = c := by lia
theorem ar268 {a : Nat} : 0 + 1 + 1 + 1 + 1 + 1 ≤ 3 * (a + 1) + 10 := Nat.le_add_left (0 + 1 + 1 + 1 + 1 + 1) (3 * (a + 1) + 5)
theorem ar269 {a : Nat} {b : Nat} (h1 : a < b) (h2 : b ≤ a) : False := by lia
theorem ar270 {a : Nat} : 3 * a + 11 + 1 + 1 ≤ 3 * (a + 1) + 10 := Nat.le_refl (3 * a + 11 + 1 + 1)
theorem ar271 {a : Nat} : 3 * a + 11 + 1 ≤ 3 * (a + 1) + 10 := by lia
theorem ar272 {a : Nat} {b : Nat} (h1 : b + 0 = a) : a ≤ b := by lia
theorem ar273 {a : Nat} {b : Nat} (h1 : a + 0 = b) : a ≤ b := Nat.le_of_eq h1
theorem ar274 {a : Nat} {b : Nat} (h1 : b + 0 = a) : a = b := by lia
theorem ar275 {a : Nat} {b : Nat} {c : Nat} (h1 : a + (c + 1) = b) : a < b := by lia
theorem ar276 {a : Nat} {b : Nat} (h1 : a < b) : a ≤ b ∧ ¬b - a = 0 := by lia
theorem ar277 {a : Nat} {b : Nat} {c : Nat} (h1 : a + (b + 1) = c) : a + 1 + b = c := by lia
theorem ar278 {a : Nat} {b : Nat} : 3 * (a - b) + 10 ≤ 3 * a + 20 := by lia
theorem ar279 {a : Nat} : 0 + a = a := Nat.zero_add a
theorem ar280 {a : Nat} {b : Nat} (h1 : ¬b < a) : a < b ∨ a - b = 0 := by lia
theorem ar281 {a : Nat} : 0 + 1 ≤ 3 * a + 20 := Nat.le_add_left (0 + 1) (3 * a + 19)
theorem ar282 {a : Nat} {b : Nat} {c : Nat} (h1 : a < b) (h2 : c ≤ a) (h3 : ¬c < b) : False := by lia
theorem ar283 {a : Nat} : 1 ≤ (↑a : Int) + 1 := by lia
theorem ar284 {a : Nat} : -(↑(a + 1) : Int) ≤ -1 := Rat.intCast_le_intCast.mp rfl
theorem ar285 : 19 + 1 ≤ 20 := by lia
theorem ar286 {a : Nat} (h1 : a = 10) : a ≠ 13 := by lia
theorem ar287 {a : Nat} {b : Nat} {c : Nat} {d : Nat} (h1 : a = 10) : ¬(a = 13 ∧ b + 1 < c ∧ d = 10) := by lia
theorem ar288 : 3 + 1 + 1 + 1 + 1 + 1 ≤ 19 := Nat.le_of_ble_eq_true rfl
theorem ar289 : 3 + 1 + 1 + 1 + 1 ≤ 19 := Nat.le_of_ble_eq_true rfl
theorem ar290 {a : Nat} (h1 : a = 13) : a ≠ 10 := by lia
theorem ar291 : 3 + 1 + 1 + 1 + 1 + 1 + 1 + 1 + 1 + 1 + 1 + 1 ≤ 19 := Nat.le_of_ble_eq_true rfl
theorem ar292 {a : Nat} (h1 : ¬a = 10) (h2 : ¬a = 13) : ¬(a = 10 ∨ a = 13) := not_or_intro h1 h2
theorem ar293 {a : Nat} {b : Nat} {c : Nat} (h1 : a + 0 = b + 1) (h2 : a ≤ c) (h3 : c < b) : False := by lia
theorem ar294 {a : Nat} {b : Nat} {c : Nat} (h1 : a < b) (h2 : c ≤ a) (h3 : c ≥ b) : False := by lia
theorem ar295 {a : Nat} {b : Nat} (h1 : ¬a ≥ b) : a < b := by lia
theorem ar296 {a : Nat} {b : Nat} {c : Nat} (h1 : a + (b + 1) = c + 1) : a + 1 + b = c + 1 := by lia
theorem ar297 {a : Nat} {b : Nat} (h1 : a < b) : a + (b + 1 - a) = b + 1 := by lia
theorem ar298 {a : Nat} (h1 : a ≤ 20) : a ≤ 30 := by lia
theorem ar299 : 0 + 1 ≤ 30 := Nat.le_of_ble_eq_true rfl
theorem ar300 {a : Nat} {b : Nat} : a + 1 + b = a + b + 1 := Nat.add_right_comm a 1 b
theorem ar301 (h1 : 1 ≤ 0) : False := by lia
theorem ar302 {a : Nat} (h1 : a ≤ 4) : 4 = a + (4 - a) := Eq.symm (Nat.add_sub_of_le h1)
theorem ar303 {a : Nat} (h1 : 4 ≤ a) : a = 4 + (a - 4) := Eq.symm (Nat.add_sub_of_le h1)
theorem ar304 {a : Nat} (h1 : 4 ≥ a) : 4 = a + (4 - a) := by lia
theorem ar305 {a : Nat} (h1 : 4 < a) : a = 4 + (a - 4) := by lia
theorem ar306 {a : Nat} {b : Nat} (h1 : a ≤ 4 * (b + 1)) : a - 4 ≤ 4 * b := Nat.sub_le_of_le_add h1
theorem ar307 {a : Nat} {b : Nat} (h1 : 4 < b) (h2 : b ≤ 4 * (a + 1)) : 1 ≤ a := by lia
theorem ar308 {a : Nat} {b : Nat} (h1 : a ≤ b) (h2 : b ≤ 2 ^ 60) : a ≤ 4 * 2 ^ 64 := by lia
theorem ar321 {a : Nat} (h1 : a ≤ 2 ^ 23) : a ≤ 2 ^ 24 := by lia
theorem ar322 {a : Nat} (h1 : a ≤ 2 ^ 23) : ¬a > 2 ^ 24 := by lia
theorem ar323 {a : Nat} {b : Nat} (h1 : b + a ≤ 2 ^ 23) : a ≤ 2 ^ 24 := by lia
theorem ar324 {a : Nat} {b : Nat} {c : Nat} (h1 : a ≤ 2 * b) (h2 : b < c) (h3 : c ≤ 2 ^ 20) : a ≤ 2 ^ 23 := by lia
theorem ar325 {a : Nat} {b : Nat} (h1 : a + b ≤ 2 ^ 23) : a ≤ 2 ^ 23 := Nat.le_of_add_right_le h1
theorem ar326 {a : Nat} {b : Nat} (h1 : b < a) : a ≠ b := Ne.symm (Nat.ne_of_lt h1)
theorem ar327 {a : Nat} {b : Nat} {c : Nat} {d : Nat} {e : Nat} (h1 : a ≤ b + 1) (h2 : b ≤ 2 * c) (h3 : c ≤ d) (h4 : d < e) (h5 : e ≤ 2 ^ 20) : a ≤ 2 ^ 23 := by lia
theorem ar328 {a : Nat} {b : Nat} {c : Nat} {d : Nat} {e : Nat} (h1 : a ≤ c + 1) (h2 : c ≤ 2 * d) (h3 : d ≤ e) (h4 : e < b) : a + 1 ≤ 2 * b := by lia
theorem ar329 {a : Nat} {b : Nat} {c : Nat} {d : Nat} (h1 : a + (b + c + d) ≤ 2 ^ 23) : a + (b + c) + d ≤ 2 ^ 23 := by lia
theorem ar330 {a : Nat} {b : Nat} (h1 : a ≤ b) (h2 : b ≤ 2 ^ 20) : a ≤ 2 ^ 24 := by lia
theorem ar331 {a : Nat} {b : Nat} {c : Nat} {d : Nat} {e : Nat} (h1 : a ≤ 2 * b) (h2 : b < c) (h3 : c < d) (h4 : d ≤ e) (h5 : e ≤ 2 ^ 20) : a ≤ 2 ^ 23 := by lia
theorem ar332 {a : Nat} (h1 : a ≤ 2 ^ 23) : 0 + a ≤ 2 ^ 23 := by lia
theorem ar333 {a : Nat} {b : Nat} (h1 : b < a) : a - b = a - (b + 1) + 1 := by lia
theorem ar334 {a : Nat} {b : Nat} {c : Nat} (h1 : b ≤ c) (h2 : c ≤ a) : ¬a < b := by lia
theorem ar335 {a : Nat} {b : Nat} (h1 : a ≤ b) : a - b = 0 ∨ a ≤ b := Or.inr h1
theorem ar336 {a : Nat} : a < a + 2 := by lia
theorem ar337 {a : Nat} : a < a + 1 := Nat.lt_add_one a
theorem ar338 {a : Nat} (h1 : a ≤ 2 ^ 20) : 3 * a + 20 ≤ 2 ^ 24 := by lia
theorem ar339 : 30 ≤ 2 ^ 24 := Nat.le_of_ble_eq_true rfl
theorem ar340 {a : Nat} {b : Nat} (h1 : a ≤ 2 * b) : a + 1 + 1 ≤ 2 * (b + 1 + 1) := by lia
theorem ar341 {a : Nat} {b : Nat} (h1 : a ≤ 2 * b) : a + 1 + 1 ≤ 2 * (b + 1) := by lia
theorem ar342 {a : Nat} {b : Nat} (h1 : a ≤ 2 * b) : a + 1 ≤ 2 * (b + 1) := by lia
theorem ar343 {a : Nat} (h1 : a ≠ 10) (h2 : a ≠ 13) : ¬(a = 13 ∨ a = 10) := not_or_intro h2 h1
theorem ar344 {a : Nat} : 97 + a ≠ 13 := by lia
theorem ar345 {a : Nat} : 97 + a ≠ 10 := by lia
theorem ar346 {a : Nat} {b : Nat} {c : Nat} (h1 : a ≤ 2 * b) (h2 : b = c) (h3 : c ≤ 2 ^ 20) : a ≤ 2 ^ 23 := by lia
theorem ar347 {a : Nat} (h1 : 1 ≤ a) : a = a - 1 + 1 := (Nat.sub_eq_iff_eq_add h1).mp rfl
theorem ar348 (h1 : 13 = 46) : False := by lia
theorem ar349 {a : Nat} (h1 : 13 = 97 + a) : False := by lia
theorem ar367 {a : Nat} (h1 : a ≤ 2 ^ 20) : a + 1 ≤ 2 ^ 24 + 1 := by lia
theorem ar368 {a : Nat} (h1 : a ≤ 2 ^ 20) : a + 1 ≤ 2 ^ 24 := by lia
theorem ar369 {a : Nat} (h1 : a ≤ 2 ^ 20) : a ≤ 2 ^ 24 + 1 := by lia
theorem ar370 {a : Nat} {b : Nat} (h1 : a + 10 * b ≤ 900) : a + 1 < 1000 := by lia

end
section

/-- abstract values -/
inductive V where
  | none
  | bool (b : Bool)
  | int (i : Int)
  | str (s : Str)
  | list (xs : List V)
  | tup (xs : List V)
  | rng (n : Nat)
  | ref (k : Nat)
  | raw (v : Value)

/-- mutable objects -/
inductive MO where
  | list (xs : List V)
  | acc (xs : List V)
  | tab (P : Addr)

noncomputable abbrev FM := Addr → Option Obj
noncomputable abbrev Sto := List MO
noncomputable abbrev Rho := Str → Option V

noncomputable abbrev listObj (arr : Array Value) (n : Nat) : Obj := { cls := .type "list", data := .seq arr n }
noncomputable abbrev tupObj (arr : Array Value) (n : Nat) : Obj := { cls := .type "tuple", data := .seq arr n }
noncomputable abbrev accObj (C d : Addr) (arr : Array Value) (n : Nat) : Obj := { cls := .ref C, dict := some d, data := .seq arr n }

mutual
noncomputable def VR (g : FM) (φ : List Addr) : V → Value → Prop
  | .none, w => w = .none
  | .bool b, w => w = .bool b
  | .int i, w => ∃ t, w = .int i t
  | .str s, w => ∃ t, w = .str s t
  | .list xs, w => ∃ a arr n, w = .ref a ∧ g a = some (listObj arr n) ∧ VRs g φ xs arr.toList
  | .tup xs, w => ∃ a arr n, w = .ref a ∧ g a = some (tupObj arr n) ∧ VRs g φ xs arr.toList
  | .rng n, w => ∃ a t0 t1 t2, w = .ref a ∧ g a = some { cls := .type "range", data := .fields #[.int 0 t0, .int n t1, .int 1 t2] }
  | .ref k, w => ∃ a, w = .ref a ∧ φ[k]? = some a
  | .raw v, w => w = v
noncomputable def VRs (g : FM) (φ : List Addr) : List V → List Value → Prop
  | [], ws => ws = []
  | x :: xs, ws => ∃ w r, ws = w :: r ∧ VR g φ x w ∧ VRs g φ xs r
end

mutual
theorem VR.mono {g g' : FM} {φ φ' : List Addr} (hg : ∀ b o, g b = some o → g' b = some o) (hφ : ∀ (k : Nat) (a : Addr), φ[k]? = some a → φ'[k]? = some a) : ∀ {v : V} {w : Value}, VR g φ v w → VR g' φ' v w
  | .none, _, h => h
  | .bool _, _, h => h
  | .int _, _, h => h
  | .str _, _, h => h
  | .list _, _, h => by obtain ⟨a, arr, n, rfl, h1, h2⟩ := h; exact ⟨a, arr, n, rfl, hg _ _ h1, VRs.mono hg hφ h2⟩
  | .tup _, _, h => by obtain ⟨a, arr, n, rfl, h1, h2⟩ := h; exact ⟨a, arr, n, rfl, hg _ _ h1, VRs.mono hg hφ h2⟩
  | .rng _, _, h => by obtain ⟨a, t0, t1, t2, rfl, h1⟩ := h; exact ⟨a, t0, t1, t2, rfl, hg _ _ h1⟩
  | .ref _, _, h => by obtain ⟨a, rfl, h1⟩ := h; exact ⟨a, rfl, hφ _ _ h1⟩
  | .raw _, _, h => h
theorem VRs.mono {g g' : FM} {φ φ' : List Addr} (hg : ∀ b o, g b = some o → g' b = some o) (hφ : ∀ (k : Nat) (a : Addr), φ[k]? = some a → φ'[k]? = some a) : ∀ {vs : List V} {ws : List Value}, VRs g φ vs ws → VRs g' φ' vs ws
  | [], _, h => h
  | _ :: _, _, h => by obtain ⟨w, r, rfl, h1, h2⟩ := h; exact ⟨w, r, rfl, VR.mono hg hφ h1, VRs.mono hg hφ h2⟩
end

/-- frozen objects that are hidden bear no sequence and no range -/
noncomputable def Dull (o : Obj) : Prop := (∀ arr n, o ≠ listObj arr n) ∧ (∀ arr n, o ≠ tupObj arr n) ∧ (∀ fs, o ≠ { cls := .type "range", data := .fields fs })

mutual
theorem VR.hide {g g' : FM} {φ : List Addr} (hg : ∀ b o, g b = some o → g' b = some o ∨ Dull o) : ∀ {v : V} {w : Value}, VR g φ v w → VR g' φ v w
  | .none, _, h => h
  | .bool _, _, h => h
  | .int _, _, h => h
  | .str _, _, h => h
  | .list _, _, h => by obtain ⟨a, arr, n, rfl, h1, h2⟩ := h; exact ⟨a, arr, n, rfl, (hg _ _ h1).resolve_right fun q => q.1 arr n rfl, VRs.hide hg h2⟩
  | .tup _, _, h => by obtain ⟨a, arr, n, rfl, h1, h2⟩ := h; exact ⟨a, arr, n, rfl, (hg _ _ h1).resolve_right fun q => q.2.1 arr n rfl, VRs.hide hg h2⟩
  | .rng _, _, h => by obtain ⟨a, t0, t1, t2, rfl, h1⟩ := h; exact ⟨a, t0, t1, t2, rfl, (hg _ _ h1).resolve_right fun q => q.2.2 _ rfl⟩
  | .ref _, _, h => h
  | .raw _, _, h => h
theorem VRs.hide {g g' : FM} {φ : List Addr} (hg : ∀ b o, g b = some o → g' b = some o ∨ Dull o) : ∀ {vs : List V} {ws : List Value}, VRs g φ vs ws → VRs g' φ vs ws
  | [], _, h => h
  | _ :: _, _, h => by obtain ⟨w, r, rfl, h1, h2⟩ := h; exact ⟨w, r, rfl, VR.hide hg h1, VRs.hide hg h2⟩
end

theorem VRs.length {g : FM} {φ : List Addr} : ∀ {vs : List V} {ws : List Value}, VRs g φ vs ws → ws.length = vs.length
  | [], _, h => by simp only [VRs] at h; rw [h]; rfl
  | _ :: _, _, h => by obtain ⟨w, r, rfl, _, h2⟩ := h; simp [VRs.length h2]
theorem VRs.get {g : FM} {φ : List Addr} : ∀ {vs : List V} {ws : List Value}, VRs g φ vs ws → ∀ {i : Nat} {v : V}, vs[i]? = some v → ∃ w, ws[i]? = some w ∧ VR g φ v w
  | [], _, _, i, v, e => by simp at e
  | x :: xs, _, h, i, v, e => by
    obtain ⟨w, r, rfl, h1, h2⟩ := h
    cases i with
    | zero => simp at e; subst e; exact ⟨w, rfl, h1⟩
    | succ i => simp at e; obtain ⟨w', e', h'⟩ := VRs.get h2 e; exact ⟨w', by simpa using e', h'⟩
theorem VRs.append {g : FM} {φ : List Addr} : ∀ {vs : List V} {ws : List Value} {vs' : List V} {ws' : List Value}, VRs g φ vs ws → VRs g φ vs' ws' → VRs g φ (vs ++ vs') (ws ++ ws')
  | [], _, _, _, h, h' => by simp only [VRs] at h; subst h; exact h'
  | _ :: _, _, _, _, h, h' => by obtain ⟨w, r, rfl, h1, h2⟩ := h; exact ⟨w, _, rfl, h1, VRs.append h2 h'⟩
theorem VRs.set {g : FM} {φ : List Addr} {v : V} {w : Value} (hv : VR g φ v w) : ∀ {vs : List V} {ws : List Value} (i : Nat), VRs g φ vs ws → VRs g φ (vs.set i v) (ws.set i w)
  | [], _, _, h => by simp only [VRs] at h; subst h; simp [VRs]
  | _ :: _, _, 0, h => by obtain ⟨w', r, rfl, h1, h2⟩ := h; exact ⟨w, r, rfl, hv, h2⟩
  | _ :: _, _, i + 1, h => by obtain ⟨w', r, rfl, h1, h2⟩ := h; exact ⟨w', _, rfl, h1, VRs.set hv i h2⟩
theorem VRs.single {g : FM} {φ : List Addr} {v : V} {w : Value} (hv : VR g φ v w) : VRs g φ [v] [w] := ⟨w, [], rfl, hv, rfl⟩
/-- what is fixed through the law's call -/
structure Glb where
  prog : Program
  w : World
  base : FM
  mg : Str → Option Value
  mb : Str → Option Value
  C : Addr

noncomputable def Glb.In (G : Glb) (h : Heap) : Prop := ∀ b o, G.base b = some o → h.get? b = some o
structure Glb.Ok (G : Glb) : Prop where
  nsg : ∀ h, G.In h → h.Ns mainGlobals G.mg
  nsb : ∀ h, G.In h → h.Ns builtinsNs G.mb
  nolimit : ∀ h, G.In h → h.NoLimit

noncomputable def MOR (G : Glb) (g : FM) (φ : List Addr) (h : Heap) (a : Addr) : MO → Prop
  | .list xs => ∃ arr n, h.get? a = some (listObj arr n) ∧ VRs g φ xs arr.toList
  | .acc xs => ∃ d arr n od, h.get? a = some (accObj G.C d arr n) ∧ VRs g φ xs arr.toList ∧ g d = some od ∧ (∀ name : Str, name ≠ Str.ofString "_initial_size" → lookIn name od = some none) ∧ ∃ t, lookIn (Str.ofString "_initial_size") od = some (some (.int 0 t))
  | .tab P => a = P ∧ ∃ ps, h.get? a = some { cls := .none, data := .fields ps } ∧ TriplesOk ps.toList
theorem MOR.live {G : Glb} {g : FM} {φ : List Addr} {h : Heap} {a : Addr} {m : MO} (x : MOR G g φ h a m) : ∃ o, h.get? a = some o := by
  cases m with
  | list xs => obtain ⟨arr, n, e, _⟩ := x; exact ⟨_, e⟩
  | acc xs => obtain ⟨d, arr, n, od, e, _⟩ := x; exact ⟨_, e⟩
  | tab P => obtain ⟨_, ps, e, _⟩ := x; exact ⟨_, e⟩

/-- the store's relation -/
structure SR (G : Glb) (g : FM) (h : Heap) (φ : List Addr) (σ : Sto) : Prop where
  base : ∀ b o, G.base b = some o → g b = some o
  keep : ∀ b o, g b = some o → h.get? b = some o
  len : φ.length = σ.length
  mo : ∀ (k : Nat) (a : Addr) (m : MO), φ[k]? = some a → σ[k]? = some m → MOR G g φ h a m
  fresh : ∀ a ∈ φ, g a = none
  nodup : φ.Nodup

theorem SR.live {G : Glb} {g : FM} {h : Heap} {φ : List Addr} {σ : Sto} (S : SR G g h φ σ) {a : Addr} (ha : a ∈ φ) : ∃ o, h.get? a = some o := by
  obtain ⟨k, hk'⟩ := List.getElem?_of_mem ha
  have hlt : k < σ.length := by rw [← S.len]; exact (List.getElem?_eq_some_iff.mp hk').1
  exact (S.mo k a σ[k] hk' (List.getElem?_eq_getElem hlt)).live
theorem SR.inb {G : Glb} {g : FM} {h : Heap} {φ : List Addr} {σ : Sto} (S : SR G g h φ σ) : G.In h := fun b o e => S.keep b o (S.base b o e)

/-- the frame's relation: `own` are the names whose cells are the frame's own -/
structure FR (g : FM) (φ : List Addr) (h : Heap) (env : Env) (own : List Str) (ρ : Rho) : Prop where
  Lg : g env.locals = none
  Lφ : env.locals ∉ φ
  ns : ∃ m, h.Ns env.locals m ∧ ∀ x v, env.kindOf x = some .local → ρ x = some v → ∃ w, m x = some w ∧ VR g φ v w
  cell : ∀ x v, (env.kindOf x = some .cell ∨ env.kindOf x = some .free) → ρ x = some v → ∃ c w, env.cells.lookup x = some c ∧ h.IsCell c (some w) ∧ VR g φ v w ∧ (x ∈ own ∨ ∃ o, g c = some o)
  ownc : ∀ x ∈ own, ∃ c v0, env.cells.lookup x = some c ∧ h.IsCell c v0 ∧ g c = none ∧ c ∉ φ ∧ c ≠ env.locals
  inj : ∀ x ∈ own, ∀ y ∈ own, ∀ c, env.cells.lookup x = some c → env.cells.lookup y = some c → x = y

/-- the frame's own addresses -/
noncomputable def fpOf (env : Env) (own : List Str) : List Addr := env.locals :: own.filterMap fun x => env.cells.lookup x

structure EnvOk (sc : Scope) (env : Env) : Prop where
  scope : env.scope = sc
  kind : sc.kind = .function
  globals : env.globals = mainGlobals
  builtins : env.builtins = builtinsNs

structure Cx (ℓ : Nat) (A : Around) : Prop where
  handled : A.handled = none
  depth : A.depth + 10 * ℓ ≤ 900
  units : A.units + 100 * ℓ ≤ 9000

structure SOk (s : Shared) : Prop where
  toks : 1 ≤ s.toks
  bare : AllBare s.gens

/-- the state is related -/
structure Rel (G : Glb) (g : FM) (φ : List Addr) (σ : Sto) (env : Env) (own : List Str) (ρ : Rho) (s : Shared) : Prop where
  ok : SOk s
  sr : SR G g s.heap φ σ
  fr : FR g φ s.heap env own ρ

/-- a step from s to s' that may touch `fp` and the store -/
structure Nx (fp : List Addr) (s s' : Shared) (g g' : FM) (φ φ' : List Addr) : Prop where
  drawn : s'.drawn = s.drawn
  os : s'.os = s.os
  sub : ∀ b o, g b = some o → g' b = some o
  new : ∀ b o, g' b = some o → g b = some o ∨ s.heap.get? b = none
  pre : ∃ r, φ' = φ ++ r ∧ ∀ a ∈ r, s.heap.get? a = none
  oth : ∀ b o, b ∉ fp → b ∉ φ → s.heap.get? b = some o → s'.heap.get? b = some o
  ex : ∀ b, s.heap.get? b ≠ none → s'.heap.get? b ≠ none

theorem Nx.refl {fp : List Addr} {s s' : Shared} {g : FM} {φ : List Addr} (hh : s'.heap = s.heap) (hd : s'.drawn = s.drawn := by rfl) (ho : s'.os = s.os := by rfl) : Nx fp s s' g g φ φ :=
  ⟨hd, ho, fun _ _ e => e, fun _ _ e => .inl e, ⟨[], by simp, by simp⟩, fun b o _ _ e => by rw [hh]; exact e, fun b e => by rw [hh]; exact e⟩

theorem Nx.trans {fp : List Addr} {s₁ s₂ s₃ : Shared} {g₁ g₂ g₃ : FM} {φ₁ φ₂ φ₃ : List Addr} (x : Nx fp s₁ s₂ g₁ g₂ φ₁ φ₂) (y : Nx fp s₂ s₃ g₂ g₃ φ₂ φ₃) : Nx fp s₁ s₃ g₁ g₃ φ₁ φ₃ := by
  obtain ⟨r, rfl, hr⟩ := x.pre
  obtain ⟨r', rfl, hr'⟩ := y.pre
  have nn : ∀ b, s₂.heap.get? b = none → s₁.heap.get? b = none := fun b e => by
    cases q : s₁.heap.get? b with
    | none => rfl
    | some o => exact absurd e (x.ex b (by rw [q]; simp))
  refine ⟨y.drawn.trans x.drawn, y.os.trans x.os, fun b o e => y.sub b o (x.sub b o e), fun b o e => ?_, ⟨r ++ r', by simp, fun a ha => ?_⟩, fun b o h1 h2 e => ?_, fun b e => y.ex b (x.ex b e)⟩
  · rcases y.new b o e with q | q
    · exact x.new b o q
    · exact .inr (nn b q)
  · rcases List.mem_append.mp ha with q | q
    · exact hr a q
    · exact nn a (hr' a q)
  · refine y.oth b o h1 (fun q => ?_) (x.oth b o h1 h2 e)
    rcases List.mem_append.mp q with q | q
    · exact h2 q
    · rw [hr b q] at e; cases e

theorem Nx.weaken {fp fp' : List Addr} {s s' : Shared} {g g' : FM} {φ φ' : List Addr} (x : Nx fp s s' g g' φ φ') (hf : ∀ a ∈ fp, a ∈ fp') : Nx fp' s s' g g' φ φ' :=
  { x with oth := fun b o h1 h2 e => x.oth b o (fun q => h1 (hf b q)) h2 e }

theorem Nx.phi {fp : List Addr} {s s' : Shared} {g g' : FM} {φ φ' : List Addr} (x : Nx fp s s' g g' φ φ') : ∀ (k : Nat) (a : Addr), φ[k]? = some a → φ'[k]? = some a := by
  obtain ⟨r, rfl, _⟩ := x.pre
  intro k a e
  rw [List.getElem?_append_left]
  · exact e
  · exact (List.getElem?_eq_some_iff.mp e).1
theorem Nx.vr {fp : List Addr} {s s' : Shared} {g g' : FM} {φ φ' : List Addr} (x : Nx fp s s' g g' φ φ') {v : V} {w : Value} (h : VR g φ v w) : VR g' φ' v w := VR.mono x.sub x.phi h
theorem Nx.vrs {fp : List Addr} {s s' : Shared} {g g' : FM} {φ φ' : List Addr} (x : Nx fp s s' g g' φ φ') {v : List V} {w : List Value} (h : VRs g φ v w) : VRs g' φ' v w := VRs.mono x.sub x.phi h

/-- an expression -/
noncomputable def Ev (G : Glb) (ℓ : Nat) (sc : Scope) (e : Expr) (W : (V → Sto → Prop) → Rho → Sto → Prop) : Prop :=
  ∀ (A : Around) (env : Env) (own : List Str) (s : Shared) (g : FM) (φ : List Addr) (σ : Sto) (ρ : Rho) (Q : V → Sto → Prop), Cx ℓ A → EnvOk sc env → Rel G g φ σ env own ρ s → W Q ρ σ →
    ∀ (K : Value → Shared → Prop) (E : Value → Shared → Prop),
      (∀ w s' g' φ' σ' v, Nx [] s s' g g' φ φ' → Rel G g' φ' σ' env own ρ s' → VR g' φ' v w → Q v σ' → K w s') → wpAny (model G.prog G.w) A (eval e env) K E s

/-- a test -/
noncomputable def Tt (G : Glb) (ℓ : Nat) (sc : Scope) (e : Expr) (W : (Bool → Sto → Prop) → Rho → Sto → Prop) : Prop :=
  ∀ (A : Around) (env : Env) (own : List Str) (s : Shared) (g : FM) (φ : List Addr) (σ : Sto) (ρ : Rho) (Q : Bool → Sto → Prop), Cx ℓ A → EnvOk sc env → Rel G g φ σ env own ρ s → W Q ρ σ →
    ∀ (K : Bool → Shared → Prop) (E : Value → Shared → Prop),
      (∀ b s' g' φ' σ', Nx [] s s' g g' φ φ' → Rel G g' φ' σ' env own ρ s' → Q b σ' → K b s') → wpAny (model G.prog G.w) A (isTrue e env (eval e env)) K E s

inductive Fl where
  | nx | br | ct
  | rt (v : V)
noncomputable def FlR (g : FM) (φ : List Addr) : Fl → Flow → Prop
  | .nx, f => f = .next
  | .br, f => f = .brk
  | .ct, f => f = .cont
  | .rt v, f => ∃ w, f = .ret w ∧ VR g φ v w

noncomputable abbrev WS := (Fl → Rho → Sto → Prop) → Rho → Sto → Prop
noncomputable abbrev WE := (V → Sto → Prop) → Rho → Sto → Prop
noncomputable abbrev WT := (Bool → Sto → Prop) → Rho → Sto → Prop

/-- a statement -/
noncomputable def Sx (G : Glb) (ℓ : Nat) (sc : Scope) (own : List Str) (st : Stmt) (W : WS) : Prop :=
  ∀ (A : Around) (env : Env) (s : Shared) (g : FM) (φ : List Addr) (σ : Sto) (ρ : Rho) (Q : Fl → Rho → Sto → Prop), Cx ℓ A → EnvOk sc env → Rel G g φ σ env own ρ s → W Q ρ σ →
    ∀ (K : Flow → Shared → Prop) (E : Value → Shared → Prop),
      (∀ f s' g' φ' σ' ρ' fl, Nx (fpOf env own) s s' g g' φ φ' → Rel G g' φ' σ' env own ρ' s' → FlR g' φ' fl f → Q fl ρ' σ' → K f s') → wpAny (model G.prog G.w) A (exec st env) K E s
noncomputable def Sxs (G : Glb) (ℓ : Nat) (sc : Scope) (own : List Str) (st : List Stmt) (W : WS) : Prop :=
  ∀ (A : Around) (env : Env) (s : Shared) (g : FM) (φ : List Addr) (σ : Sto) (ρ : Rho) (Q : Fl → Rho → Sto → Prop), Cx ℓ A → EnvOk sc env → Rel G g φ σ env own ρ s → W Q ρ σ →
    ∀ (K : Flow → Shared → Prop) (E : Value → Shared → Prop),
      (∀ f s' g' φ' σ' ρ' fl, Nx (fpOf env own) s s' g g' φ φ' → Rel G g' φ' σ' env own ρ' s' → FlR g' φ' fl f → Q fl ρ' σ' → K f s') → wpAny (model G.prog G.w) A (execs st env) K E s

theorem of_toks {α : Type} {M : Model} {A : Around} {s : Shared} {t : Sem α} {K : α → Shared → Prop} {E : Value → Shared → Prop} (h1 : 1 ≤ s.toks)
    (h : wpAny M A t (fun a s' => 1 ≤ s'.toks → K a s') (fun e s' => E e s') s) : wpAny M A t K E s :=
  wpAny_mono (wpAny_toks_of h1 h) (fun _ _ q => q.2 q.1) fun _ _ q => q.2

/-- the state moves, the heap stays -/
theorem Rel.same {G : Glb} {g : FM} {φ : List Addr} {σ : Sto} {env : Env} {own : List Str} {ρ : Rho} {s s' : Shared} (R : Rel G g φ σ env own ρ s) (hh : s'.heap = s.heap) (ht : 1 ≤ s'.toks) (hg : AllBare s'.gens) : Rel G g φ σ env own ρ s' :=
  ⟨⟨ht, hg⟩, by rw [hh]; exact R.sr, by rw [hh]; exact R.fr⟩

/-- a heap in which all but what is listed stays: the relation stays -/
theorem MOR.keeps {G : Glb} {g g' : FM} {φ φ' : List Addr} {h h' : Heap} {a : Addr} {m : MO} (hg : ∀ b o, g b = some o → g' b = some o) (hφ : ∀ (k : Nat) (a : Addr), φ[k]? = some a → φ'[k]? = some a) (hh : ∀ o, h.get? a = some o → h'.get? a = some o) (x : MOR G g φ h a m) : MOR G g' φ' h' a m := by
  cases m with
  | list xs => obtain ⟨arr, n, h1, h2⟩ := x; exact ⟨arr, n, hh _ h1, VRs.mono hg hφ h2⟩
  | acc xs => obtain ⟨d, arr, n, od, h1, h2, h3, r⟩ := x; exact ⟨d, arr, n, od, hh _ h1, VRs.mono hg hφ h2, hg _ _ h3, r⟩
  | tab P => obtain ⟨h0, ps, h1, h2⟩ := x; exact ⟨h0, ps, hh _ h1, h2⟩


end
section
set_option autoImplicit false

section
variable {G : Glb} {g g' : FM} {φ φ' : List Addr} {σ : Sto} {env : Env} {own : List Str} {ρ : Rho} {s s' : Shared}

theorem FR.keeps {h h' : Heap} (F : FR g φ h env own ρ) (hg : ∀ b o, g b = some o → g' b = some o) (hp : ∀ (k : Nat) (a : Addr), φ[k]? = some a → φ'[k]? = some a)
    (hn : ∀ b, h.get? b ≠ none → g' b = none ∨ g b ≠ none) (hm : ∀ b ∈ φ', b ∈ φ ∨ h.get? b = none)
    (hk : ∀ b o, b ∈ fpOf env own ∨ g b ≠ none → h.get? b = some o → h'.get? b = some o) : FR g' φ' h' env own ρ := by
  have hL : env.locals ∈ fpOf env own := List.mem_cons_self
  have hc : ∀ x ∈ own, ∀ c, env.cells.lookup x = some c → c ∈ fpOf env own := fun x hx c e => List.mem_cons_of_mem _ (List.mem_filterMap.mpr ⟨x, hx, e⟩)
  obtain ⟨m, hns, hv⟩ := F.ns
  obtain ⟨o, es, ep, ho, r⟩ := hns
  refine ⟨?_, fun q => ?_, ⟨m, ⟨o, es, ep, hk _ _ (.inl hL) ho, r⟩, fun x v h1 h2 => ?_⟩, fun x v h1 h2 => ?_, fun x hx => ?_, F.inj⟩
  · rcases hn _ (by rw [ho]; simp) with q | q
    · exact q
    · exact absurd F.Lg q
  · rcases hm _ q with q | q
    · exact F.Lφ q
    · rw [ho] at q; cases q
  · obtain ⟨w, e, q⟩ := hv x v h1 h2
    exact ⟨w, e, VR.mono hg hp q⟩
  · obtain ⟨c, w, e, ⟨oc, hoc, hd⟩, q, r⟩ := F.cell x v h1 h2
    refine ⟨c, w, e, ⟨oc, hk _ _ ?_ hoc, hd⟩, VR.mono hg hp q, r.imp id fun ⟨o, e⟩ => ⟨o, hg _ _ e⟩⟩
    exact r.imp (fun h => hc x h c e) fun ⟨o, e⟩ => by rw [e]; simp
  · obtain ⟨c, v0, e, ⟨oc, hoc, hd⟩, q, r, z⟩ := F.ownc x hx
    refine ⟨c, v0, e, ⟨oc, hk _ _ (.inl (hc x hx c e)) hoc, hd⟩, ?_, fun y => ?_, z⟩
    · rcases hn _ (by rw [hoc]; simp) with y | y
      · exact y
      · exact absurd q y
    · rcases hm _ y with y | y
      · exact r y
      · rw [hoc] at y; cases y

theorem Rel.moLive (R : Rel G g φ σ env own ρ s) {a : Addr} (ha : a ∈ φ) : ∃ o, s.heap.get? a = some o := R.sr.live ha

end

section
variable {G : Glb} {ℓ : Nat} {sc : Scope}

theorem Ev.int {i : Int} {k : Nat} {pos : Pos} : Ev G ℓ sc (.Constant (.int i) k pos) fun Q _ σ => Q (.int i) σ := by
  intro A env own s g φ σ ρ Q _ _ R hW K E k
  refine wpAny_Constant_int (k _ _ _ _ _ (.int i) (Nx.refl rfl) (R.same rfl (Nat.le_succ_of_le R.ok.toks) R.ok.bare) ⟨_, rfl⟩ hW)
theorem Ev.str {x : Str} {k : Nat} {pos : Pos} : Ev G ℓ sc (.Constant (.str x) k pos) fun Q _ σ => Q (.str x) σ := by
  intro A env own s g φ σ ρ Q _ _ R hW K E k
  refine wpAny_Constant_str (k _ _ _ _ _ (.str x) (Nx.refl rfl) (R.same rfl (Nat.le_succ_of_le R.ok.toks) R.ok.bare) ⟨_, rfl⟩ hW)
theorem Ev.bool {b : Bool} {k : Nat} {pos : Pos} : Ev G ℓ sc (.Constant (.bool b) k pos) fun Q _ σ => Q (.bool b) σ := by
  intro A env own s g φ σ ρ Q _ _ R hW K E k
  refine wpAny_Constant_bool (k _ _ _ _ _ (.bool b) (Nx.refl rfl) R rfl hW)
noncomputable def wName (x : Str) : WE := fun Q ρ σ => ∃ v, ρ x = some v ∧ Q v σ
theorem Ev.local {x : Str} {pos : Pos} (hk : sc.names.lookup x = some .local) (hd : (x == ("__debug__" : Str)) = false := by decide) : Ev G ℓ sc (.Name x pos) (wName x) := by
  intro A env own s g φ σ ρ Q _ eo R hW K E k
  obtain ⟨v, hv, hq⟩ := hW
  obtain ⟨m, hns, hm⟩ := R.fr.ns
  have hk' : env.kindOf x = some .local := by unfold Env.kindOf; rw [eo.scope]; exact hk
  obtain ⟨w, hw, hr⟩ := hm x v hk' hv
  exact wpAny_Name (wpAny_loadName_local (by rw [eo.scope]; exact eo.kind) hk' hns hw (k _ _ _ _ _ _ (Nx.refl rfl) R hr hq)) hd
theorem Ev.cell {x : Str} {pos : Pos} (hk : sc.names.lookup x = some .cell) (hd : (x == ("__debug__" : Str)) = false := by decide) : Ev G ℓ sc (.Name x pos) (wName x) := by
  intro A env own s g φ σ ρ Q _ eo R hW K E k
  obtain ⟨v, hv, hq⟩ := hW
  have hk' : env.kindOf x = some .cell := by unfold Env.kindOf; rw [eo.scope]; exact hk
  obtain ⟨c, w, hc, hw, hr, _⟩ := R.fr.cell x v (.inl hk') hv
  exact wpAny_Name (wpAny_loadName_cell (by rw [eo.scope]; exact eo.kind) hk' hc hw (k _ _ _ _ _ _ (Nx.refl rfl) R hr hq)) hd
theorem Ev.glob (O : G.Ok) {x : Str} {pos : Pos} {w : Value} {v : V} (hk : sc.names.lookup x = some .globalImplicit) (hm : G.mg x = some w) (hr : ∀ g φ, VR g φ v w) (hd : (x == ("__debug__" : Str)) = false := by decide) :
    Ev G ℓ sc (.Name x pos) fun Q _ σ => Q v σ := by
  intro A env own s g φ σ ρ Q _ eo R hW K E k
  have hk' : env.kindOf x = some .globalImplicit := by unfold Env.kindOf; rw [eo.scope]; exact hk
  exact Calls.Name_function_global (by rw [eo.scope]; exact eo.kind) hk' (Calls.loadGlobal_global (by rw [eo.globals]; exact O.nsg _ R.sr.inb) hm (k _ _ _ _ _ _ (Nx.refl rfl) R (hr _ _) hW)) hd
theorem Ev.builtin (O : G.Ok) {x : Str} {pos : Pos} {w : Value} (hk : sc.names.lookup x = some .globalImplicit) (hm : G.mg x = Option.none) (hb : G.mb x = some w) (hd : (x == ("__debug__" : Str)) = false := by decide) :
    Ev G ℓ sc (.Name x pos) fun Q _ σ => Q (.raw w) σ := by
  intro A env own s g φ σ ρ Q _ eo R hW K E k
  have hk' : env.kindOf x = some .globalImplicit := by unfold Env.kindOf; rw [eo.scope]; exact hk
  exact Calls.Name_function_global (by rw [eo.scope]; exact eo.kind) hk' (Calls.loadGlobal_builtin (by rw [eo.globals]; exact O.nsg _ R.sr.inb) hm (by rw [eo.builtins]; exact O.nsb _ R.sr.inb) hb (k _ _ _ _ _ (.raw w) (Nx.refl rfl) R rfl hW)) hd
end

noncomputable def upd (ρ : Rho) (x : Str) (v : V) : Rho := fun y => if y = x then some v else ρ y

section
variable {G : Glb} {g : FM} {φ : List Addr} {σ : Sto} {env : Env} {own : List Str} {ρ : Rho} {s : Shared} {A : Around} {E : Value → Shared → Prop}

/-- a local name stored makes a token -/
theorem store_local0 {sc : Scope} {x : Str} {v : V} {w : Value} {K : Unit → Shared → Prop} (eo : EnvOk sc env) (hb : AllBare s.gens) (S : SR G g s.heap φ σ) (F : FR g φ s.heap env own ρ) (hk : sc.names.lookup x = some .local) (hv : VR g φ v w)
    (k : ∀ s', Nx (fpOf env own) s s' g g φ φ → Rel G g φ σ env own (upd ρ x v) s' → K () s') : wpAny (model G.prog G.w) A (storeName env x w) K E s := by
  have hk' : env.kindOf x = some .local := by unfold Env.kindOf; rw [eo.scope]; exact hk
  obtain ⟨m, hns, hm⟩ := F.ns
  refine wpAny_storeName_local hk' hns (fun h' hn' hs => k _ ⟨rfl, rfl, fun _ _ e => e, fun _ _ e => .inl e, ⟨[], by simp, by simp⟩, fun b o h1 h2 e => ?_, fun b e => ?_⟩
    ⟨⟨Nat.le_add_left _ _, hb⟩, ⟨S.base, fun b o e => ?_, S.len, fun i a mm h1 h2 => MOR.keeps (fun _ _ e => e) (fun _ _ e => e) (fun o e => ?_) (S.mo i a mm h1 h2), S.fresh, S.nodup⟩,
      F.Lg, F.Lφ, ⟨_, hn', fun y u h1 h2 => ?_⟩, fun y u h1 h2 => ?_, fun y hy => ?_, F.inj⟩) (by rw [eo.scope, eo.kind]; rfl)
  · exact (hs.2 b fun q => h1 (by rw [q]; exact List.mem_cons_self)).trans e
  · by_cases q : b = env.locals
    · subst q
      obtain ⟨o, es, ep, ho, _⟩ := hn'
      show h'.get? env.locals ≠ _
      rw [ho]; simp
    · show h'.get? b ≠ _
      rw [hs.2 b q]; exact e
  · exact (hs.2 b fun q => by rw [q, F.Lg] at e; cases e).trans (S.keep b o e)
  · exact (hs.2 a fun q => F.Lφ (q ▸ List.mem_of_getElem? h1)).trans e
  · unfold upd at h2
    by_cases q : y = x
    · subst q; rw [if_pos rfl] at h2; cases h2; exact ⟨w, by simp, hv⟩
    · rw [if_neg q] at h2
      obtain ⟨w', e, r⟩ := hm y u h1 h2
      exact ⟨w', by simp [q, e], r⟩
  · have q : y ≠ x := fun q => by rw [q, hk'] at h1; rcases h1 with h1 | h1 <;> cases h1
    unfold upd at h2
    rw [if_neg q] at h2
    obtain ⟨c, w', e, ⟨oc, hoc, hd⟩, r, z⟩ := F.cell y u h1 h2
    refine ⟨c, w', e, ⟨oc, (hs.2 c fun q => ?_).trans hoc, hd⟩, r, z⟩
    rcases z with z | ⟨o, z⟩
    · obtain ⟨c', v0, e', _, _, _, hne⟩ := F.ownc y z
      rw [e] at e'; cases e'; exact hne q
    · rw [q, F.Lg] at z; cases z
  · obtain ⟨c, v0, e, ⟨oc, hoc, hd⟩, r⟩ := F.ownc y hy
    exact ⟨c, v0, e, ⟨oc, (hs.2 c r.2.2).trans hoc, hd⟩, r⟩

theorem store_cell0 {sc : Scope} {x : Str} {v : V} {w : Value} {K : Unit → Shared → Prop} (eo : EnvOk sc env) (hb : AllBare s.gens) (S : SR G g s.heap φ σ) (F : FR g φ s.heap env own ρ) (hk : sc.names.lookup x = some .cell) (ho : x ∈ own) (hv : VR g φ v w)
    (k : ∀ s', Nx (fpOf env own) s s' g g φ φ → s'.toks = s.toks → AllBare s'.gens → SR G g s'.heap φ σ → FR g φ s'.heap env own (upd ρ x v) → K () s') : wpAny (model G.prog G.w) A (storeName env x w) K E s := by
  have hk' : env.kindOf x = some .cell := by unfold Env.kindOf; rw [eo.scope]; exact hk
  obtain ⟨c, v0, hc, hcl, hgc, hcφ, hcL⟩ := F.ownc x ho
  obtain ⟨m, hns, hm⟩ := F.ns
  refine wpAny_storeName_cell (by rw [eo.scope]; exact eo.kind) hk' hc hcl fun h' hn' hs => k _ ⟨rfl, rfl, fun _ _ e => e, fun _ _ e => .inl e, ⟨[], by simp, by simp⟩, fun b o h1 h2 e => ?_, fun b e => ?_⟩
    rfl hb ⟨S.base, fun b o e => ?_, S.len, fun i a mm h1 h2 => MOR.keeps (fun _ _ e => e) (fun _ _ e => e) (fun o e => ?_) (S.mo i a mm h1 h2), S.fresh, S.nodup⟩
      ⟨F.Lg, F.Lφ, ⟨m, hns.sameBut hs (Ne.symm hcL), fun y u h1 h2 => ?_⟩, fun y u h1 h2 => ?_, fun y hy => ?_, F.inj⟩
  · exact (hs.2 b fun q => h1 (by rw [q]; exact List.mem_cons_of_mem _ (List.mem_filterMap.mpr ⟨x, ho, hc⟩))).trans e
  · by_cases q : b = c
    · subst q
      obtain ⟨o, ho, _⟩ := hn'
      show h'.get? b ≠ _
      rw [ho]; simp
    · show h'.get? b ≠ _
      rw [hs.2 b q]; exact e
  · exact (hs.2 b fun q => by rw [q, hgc] at e; cases e).trans (S.keep b o e)
  · exact (hs.2 a fun q => hcφ (q ▸ List.mem_of_getElem? h1)).trans e
  · have q : y ≠ x := fun q => by rw [q, hk'] at h1; cases h1
    unfold upd at h2
    rw [if_neg q] at h2
    exact hm y u h1 h2
  · unfold upd at h2
    by_cases q : y = x
    · subst q; rw [if_pos rfl] at h2; cases h2
      exact ⟨c, w, hc, hn', hv, .inl ho⟩
    · rw [if_neg q] at h2
      obtain ⟨c', w', e, ⟨oc, hoc, hd⟩, r, z⟩ := F.cell y u h1 h2
      refine ⟨c', w', e, ⟨oc, (hs.2 c' fun q' => ?_).trans hoc, hd⟩, r, z⟩
      subst q'
      rcases z with z | ⟨o, z⟩
      · exact q (F.inj y z x ho c' e hc)
      · rw [hgc] at z; cases z
  · obtain ⟨c', v0', e, ⟨oc, hoc, hd⟩, r⟩ := F.ownc y hy
    by_cases q : c' = c
    · subst q
      exact ⟨c', some w, e, hn', r⟩
    · exact ⟨c', v0', e, ⟨oc, (hs.2 c' q).trans hoc, hd⟩, r⟩

theorem store_local {sc : Scope} {x : Str} {v : V} {w : Value} {K : Unit → Shared → Prop} (eo : EnvOk sc env) (R : Rel G g φ σ env own ρ s) (hk : sc.names.lookup x = some .local) (hv : VR g φ v w)
    (k : ∀ s', Nx (fpOf env own) s s' g g φ φ → Rel G g φ σ env own (upd ρ x v) s' → K () s') : wpAny (model G.prog G.w) A (storeName env x w) K E s := store_local0 eo R.ok.bare R.sr R.fr hk hv k
theorem store_cell {sc : Scope} {x : Str} {v : V} {w : Value} {K : Unit → Shared → Prop} (eo : EnvOk sc env) (R : Rel G g φ σ env own ρ s) (hk : sc.names.lookup x = some .cell) (ho : x ∈ own) (hv : VR g φ v w)
    (k : ∀ s', Nx (fpOf env own) s s' g g φ φ → Rel G g φ σ env own (upd ρ x v) s' → K () s') : wpAny (model G.prog G.w) A (storeName env x w) K E s :=
  store_cell0 eo R.ok.bare R.sr R.fr hk ho hv fun s' N ht B S F => k s' N ⟨⟨by rw [ht]; exact R.ok.toks, B⟩, S, F⟩
end

/-- a name that the frame may store -/
noncomputable def canStore (sc : Scope) (own : List Str) (x : Str) : Prop := sc.names.lookup x = some .local ∨ (sc.names.lookup x = some .cell ∧ x ∈ own)
theorem store_name {G : Glb} {g : FM} {φ : List Addr} {σ : Sto} {env : Env} {own : List Str} {ρ : Rho} {s : Shared} {A : Around} {E : Value → Shared → Prop} {sc : Scope} {x : Str} {v : V} {w : Value} {K : Unit → Shared → Prop}
    (eo : EnvOk sc env) (R : Rel G g φ σ env own ρ s) (hk : canStore sc own x) (hv : VR g φ v w)
    (k : ∀ s', Nx (fpOf env own) s s' g g φ φ → Rel G g φ σ env own (upd ρ x v) s' → K () s') : wpAny (model G.prog G.w) A (storeName env x w) K E s := by
  rcases hk with hk | ⟨hk, ho⟩
  · exact store_local eo R hk hv k
  · exact store_cell eo R hk ho hv k


end
section
set_option autoImplicit false

noncomputable abbrev WL := (List V → Sto → Prop) → Rho → Sto → Prop
noncomputable abbrev WA := V → (Rho → Sto → Prop) → Rho → Sto → Prop

/-- several expressions, one behind the other -/
noncomputable def Evs (G : Glb) (ℓ : Nat) (sc : Scope) (es : List Expr) (W : WL) : Prop :=
  ∀ (A : Around) (env : Env) (own : List Str) (s : Shared) (g : FM) (φ : List Addr) (σ : Sto) (ρ : Rho) (Q : List V → Sto → Prop), Cx ℓ A → EnvOk sc env → Rel G g φ σ env own ρ s → W Q ρ σ →
    ∀ (pos : Pos) (K : List Value → Shared → Prop) (E : Value → Shared → Prop),
      (∀ ws s' g' φ' σ' vs, Nx [] s s' g g' φ φ' → Rel G g' φ' σ' env own ρ s' → VRs g' φ' vs ws → Q vs σ' → K ws s') → wpAny (model G.prog G.w) A (spliced (backTo pos (starEach es env))) K E s

/-- an assignment's target -/
noncomputable def Asg (G : Glb) (ℓ : Nat) (sc : Scope) (own : List Str) (t : Expr) (W : WA) : Prop :=
  ∀ (A : Around) (env : Env) (s : Shared) (g : FM) (φ : List Addr) (σ : Sto) (ρ : Rho) (v : V) (w : Value) (Q : Rho → Sto → Prop), Cx ℓ A → EnvOk sc env → Rel G g φ σ env own ρ s → VR g φ v w → W v Q ρ σ →
    ∀ (K : Unit → Shared → Prop) (E : Value → Shared → Prop),
      (∀ s' g' φ' σ' ρ', Nx (fpOf env own) s s' g g' φ φ' → Rel G g' φ' σ' env own ρ' s' → Q ρ' σ' → K () s') → wpAny (model G.prog G.w) A (assign t env w) K E s

section
variable {G : Glb} {ℓ : Nat} {sc : Scope} {own : List Str}

theorem Evs.nil : Evs G ℓ sc [] fun Q _ σ => Q [] σ := by
  intro A env own s g φ σ ρ Q _ _ R hW pos K E k
  exact wpAny_pure (k _ _ _ _ _ [] (Nx.refl rfl) R rfl hW)
theorem Evs.cons {e : Expr} {es : List Expr} {W : WE} {Ws : WL} (h : Ev G ℓ sc e W) (hs : Evs G ℓ sc es Ws)
    (hst : ∀ env, starEach (e :: es) env = (false, eval e env) :: starEach es env := by intro _; rfl) :
    Evs G ℓ sc (e :: es) fun Q ρ σ => W (fun v σ' => Ws (fun vs σ'' => Q (v :: vs) σ'') ρ σ') ρ σ := by
  intro A env own s g φ σ ρ Q cx eo R hW pos K E k
  rw [hst]
  show wpAny _ A (do let v ← eval e env; return [v] ++ (← holding [v] (spliced (backTo pos (starEach es env))))) K E s
  refine wpAny_bind (h A env own s g φ σ ρ _ cx eo R hW _ _ fun w s₁ g₁ φ₁ σ₁ v N R₁ hv hQ => ?_)
  refine wpAny_bind (wpAny_holding (hs A env own s₁ g₁ φ₁ σ₁ ρ _ cx eo R₁ hQ pos _ _ fun ws s₂ g₂ φ₂ σ₂ vs N₂ R₂ hvs hQ₂ => ?_))
  exact wpAny_pure (k _ _ _ _ _ (v :: vs) (N.trans N₂) R₂ ⟨_, _, rfl, N₂.vr hv, hvs⟩ hQ₂)

theorem Sxs.nil : Sxs G ℓ sc own [] fun Q ρ σ => Q .nx ρ σ := by
  intro A env s g φ σ ρ Q _ _ R hW K E k
  exact wpAny_execs_nil (k _ _ _ _ _ _ .nx (Nx.refl rfl) R rfl hW)
noncomputable def wSeq (W₁ W₂ : WS) : WS := fun Q ρ σ => W₁ (fun fl ρ' σ' => match fl with | .nx => W₂ Q ρ' σ' | .br => Q .br ρ' σ' | .ct => Q .ct ρ' σ' | .rt v => Q (.rt v) ρ' σ') ρ σ
theorem Sxs.cons {st : Stmt} {rest : List Stmt} {W₁ W₂ : WS} (h₁ : Sx G ℓ sc own st W₁) (h₂ : Sxs G ℓ sc own rest W₂) : Sxs G ℓ sc own (st :: rest) (wSeq W₁ W₂) := by
  intro A env s g φ σ ρ Q cx eo R hW K E k
  refine wpAny_execs_cons (h₁ A env s g φ σ ρ _ cx eo R hW _ _ fun f s₁ g₁ φ₁ σ₁ ρ₁ fl N R₁ hf hQ => ?_)
  cases fl with
  | nx =>
    cases hf
    exact h₂ A env s₁ g₁ φ₁ σ₁ ρ₁ _ cx eo R₁ hQ _ _ fun f s₂ g₂ φ₂ σ₂ ρ₂ fl₂ N₂ R₂ hf₂ hQ₂ => k _ _ _ _ _ _ _ (N.trans N₂) R₂ hf₂ hQ₂
  | br => cases hf; exact k _ _ _ _ _ _ .br N R₁ rfl hQ
  | ct => cases hf; exact k _ _ _ _ _ _ .ct N R₁ rfl hQ
  | rt v => obtain ⟨w, rfl, hv⟩ := hf; exact k _ _ _ _ _ _ (.rt v) N R₁ ⟨w, rfl, hv⟩ hQ

theorem Nx.fp {fp : List Addr} {s₁ s₂ : Shared} {g₁ g₂ : FM} {φ₁ φ₂ : List Addr} (x : Nx [] s₁ s₂ g₁ g₂ φ₁ φ₂) : Nx fp s₁ s₂ g₁ g₂ φ₁ φ₂ := x.weaken (by simp)

theorem Sx.assign {e : Expr} {W : WE} {x : Str} {p pos : Pos} (h : Ev G ℓ sc e W) (hx : canStore sc own x)
    (hs : ∀ env, swapsWith e (some (.Name x p)) pos.line env = pure false := by intro _; rfl) :
    Sx G ℓ sc own (.Assign [.Name x p] e pos) fun Q ρ σ => W (fun v σ' => Q .nx (upd ρ x v) σ') ρ σ := by
  intro A env s g φ σ ρ Q cx eo R hW K E k
  refine wpAny_Assign_Name (h A env own s g φ σ ρ _ cx eo R hW _ _ fun w s₁ g₁ φ₁ σ₁ v N R₁ hv hQ => ?_) (hs env)
  exact store_name eo R₁ hx hv fun s₂ N₂ R₂ => k _ _ _ _ _ _ .nx (N.fp.trans N₂) R₂ rfl hQ

theorem Sx.expr {e : Expr} {W : WE} {pos : Pos} (h : Ev G ℓ sc e W) (hi : ∀ env, env.scope = sc → interactive env = false)
    (hs : ∀ env, swapsWith e none pos.line env = pure false := by intro _; rfl) :
    Sx G ℓ sc own (.Expr e pos) fun Q ρ σ => W (fun _ σ' => Q .nx ρ σ') ρ σ := by
  intro A env s g φ σ ρ Q cx eo R hW K E k
  refine wpAny_Expr_any (h A env own s g φ σ ρ _ cx eo R hW _ _ fun w s₁ g₁ φ₁ σ₁ v N R₁ hv hQ => ?_) (hi env eo.scope) (hs env)
  exact k _ _ _ _ _ _ .nx N.fp R₁ rfl hQ

theorem Sx.ite {t : Expr} {b c : List Stmt} {pos : Pos} {Wt : WT} {Wb Wc : WS} (ht : Tt G ℓ sc t Wt) (hb : Sxs G ℓ sc own b Wb) (hc : Sxs G ℓ sc own c Wc) :
    Sx G ℓ sc own (.If t b c pos) fun Q ρ σ => Wt (fun y σ' => if y = true then Wb Q ρ σ' else Wc Q ρ σ') ρ σ := by
  intro A env s g φ σ ρ Q cx eo R hW K E k
  refine wpAny_If (ht A env own s g φ σ ρ _ cx eo R hW _ _ fun y s₁ g₁ φ₁ σ₁ N R₁ hQ => ?_)
  have k' : ∀ f s' g' φ' σ' ρ' fl, Nx (fpOf env own) s₁ s' g₁ g' φ₁ φ' → Rel G g' φ' σ' env own ρ' s' → FlR g' φ' fl f → Q fl ρ' σ' → K f s' :=
    fun f s₂ g₂ φ₂ σ₂ ρ₂ fl N₂ R₂ hf hQ₂ => k _ _ _ _ _ _ _ (N.fp.trans N₂) R₂ hf hQ₂
  cases y with
  | true => rw [if_pos rfl] at hQ ⊢; exact hb A env s₁ g₁ φ₁ σ₁ ρ _ cx eo R₁ hQ _ _ k'
  | false =>
    rw [if_neg (by simp)] at hQ ⊢; exact hc A env s₁ g₁ φ₁ σ₁ ρ _ cx eo R₁ hQ _ _ k'

theorem Sx.ret {e : Expr} {W : WE} {pos : Pos} (h : Ev G ℓ sc e W) : Sx G ℓ sc own (.Return (some e) pos) fun Q ρ σ => W (fun v σ' => Q (.rt v) ρ σ') ρ σ := by
  intro A env s g φ σ ρ Q cx eo R hW K E k
  refine wpAny_Return_some (h A env own s g φ σ ρ _ cx eo R hW _ _ fun w s₁ g₁ φ₁ σ₁ v N R₁ hv hQ => ?_)
  exact k _ _ _ _ _ _ (.rt v) N.fp R₁ ⟨w, rfl, hv⟩ hQ
theorem Sx.brk {pos : Pos} : Sx G ℓ sc own (.Break pos) fun Q ρ σ => Q .br ρ σ := by
  intro A env s g φ σ ρ Q cx eo R hW K E k
  exact wpAny_Break (k _ _ _ _ _ _ .br (Nx.refl rfl) R rfl hW)

/-- a while: a word of what holds at each turn's start, and a number that each turn lowers -/
noncomputable def wWhile (Wt : WT) (Wb : WS) : WS := fun Q ρ σ => ∃ (I : Nat → Rho → Sto → Prop) (n : Nat), I n ρ σ ∧ ∀ m ρ σ, I m ρ σ →
  Wt (fun y σ' => if y = true then Wb (fun fl ρ' σ'' => match fl with | .nx | .ct => ∃ k, k < m ∧ I k ρ' σ'' | .br => Q .nx ρ' σ'' | .rt v => Q (.rt v) ρ' σ'') ρ σ' else Q .nx ρ σ') ρ σ
theorem Sx.while {t : Expr} {b : List Stmt} {pos : Pos} {Wt : WT} {Wb : WS} (ht : Tt G ℓ sc t Wt) (hb : Sxs G ℓ sc own b Wb) : Sx G ℓ sc own (.While t b [] pos) (wWhile Wt Wb) := by
  intro A env s g φ σ ρ Q cx eo R hW K E k
  obtain ⟨I, n, h0, hI⟩ := hW
  refine wpAny_While (codeAny_whileLoop (fun m s' => ∃ g' φ' σ' ρ', Nx (fpOf env own) s s' g g' φ φ' ∧ Rel G g' φ' σ' env own ρ' s' ∧ I m ρ' σ') ?_ n ⟨g, φ, σ, ρ, Nx.refl rfl, R, h0⟩)
  rintro m s₁ ⟨g₁, φ₁, σ₁, ρ₁, N₁, R₁, i₁⟩
  refine ht A env own s₁ g₁ φ₁ σ₁ ρ₁ _ cx eo R₁ (hI m ρ₁ σ₁ i₁) _ _ fun y s₂ g₂ φ₂ σ₂ N₂ R₂ hQ => ?_
  cases y with
  | true =>
    rw [if_pos rfl] at hQ ⊢
    refine hb A env s₂ g₂ φ₂ σ₂ ρ₁ _ cx eo R₂ hQ _ _ fun f s₃ g₃ φ₃ σ₃ ρ₃ fl N₃ R₃ hf hQ₃ => ?_
    have N := (N₁.trans N₂.fp).trans N₃
    cases fl with
    | nx => cases hf; obtain ⟨j, hj, ij⟩ := hQ₃; exact ⟨j, hj, _, _, _, _, N, R₃, ij⟩
    | ct => cases hf; obtain ⟨j, hj, ij⟩ := hQ₃; exact ⟨j, hj, _, _, _, _, N, R₃, ij⟩
    | br => cases hf; exact k _ _ _ _ _ _ .nx N R₃ rfl hQ₃
    | rt v => obtain ⟨w, rfl, hv⟩ := hf; exact k _ _ _ _ _ _ (.rt v) N R₃ ⟨w, rfl, hv⟩ hQ₃
  | false =>
    rw [if_neg (by simp)] at hQ ⊢
    exact wpAny_execs_nil (k _ _ _ _ _ _ .nx (N₁.trans N₂.fp) R₂ rfl hQ)

/-- tests -/
theorem Tt.not {x : Expr} {pos : Pos} {W : WT} (h : Tt G ℓ sc x W) : Tt G ℓ sc (.UnaryOp .Not x pos) fun Q ρ σ => W (fun y σ' => Q (!y) σ') ρ σ := by
  intro A env own s g φ σ ρ Q cx eo R hW K E k
  exact isTrue_not (h A env own s g φ σ ρ _ cx eo R hW _ _ fun y s₁ g₁ φ₁ σ₁ N R₁ hQ => k _ _ _ _ _ N R₁ hQ)
theorem Tt.or {x y : Expr} {pos : Pos} {Wx Wy : WT} (hx : Tt G ℓ sc x Wx) (hy : Tt G ℓ sc y Wy) :
    Tt G ℓ sc (.BoolOp .Or [x, y] pos) fun Q ρ σ => Wx (fun b σ' => if b = true then Q true σ' else Wy Q ρ σ') ρ σ := by
  intro A env own s g φ σ ρ Q cx eo R hW K E k
  refine wpAny_isTrue_BoolOp (wpAny_allTrue_Or_cons (hx A env own s g φ σ ρ _ cx eo R hW _ _ fun b s₁ g₁ φ₁ σ₁ N R₁ hQ => ?_))
  cases b with
  | true => rw [if_pos rfl] at hQ; exact k _ _ _ _ _ N R₁ hQ
  | false =>
    rw [if_neg (by simp)] at hQ
    refine wpAny_allTrue_Or_cons (hy A env own s₁ g₁ φ₁ σ₁ ρ _ cx eo R₁ hQ _ _ fun c s₂ g₂ φ₂ σ₂ N₂ R₂ hQ₂ => ?_)
    cases c with
    | true => exact k _ _ _ _ _ (N.trans N₂) R₂ hQ₂
    | false => exact wpAny_allTrue_Or_nil (k _ _ _ _ _ (N.trans N₂) R₂ hQ₂)

/-- an iterator over `xs`, each turn under a guard -/
structure Itr (G : Glb) (src : V) (w : Value) (I : Addr) (xs : List V) (Gd : Sto → Prop) (At : Nat → Heap → Prop) : Prop where
  frame : ∀ i h h', At i h → (∀ o, h.get? I = some o → h'.get? I = some o) → At i h'
  live : ∀ i h, At i h → ∃ o n, h.get? I = some o ∧ o.cls = .type n ∧ ["enumerate", "zip", "dict_itemiterator", "dict_reverseitemiterator", "odict_iterator", "itertools.zip_longest", "itertools.pairwise"].contains n = false
  item : ∀ (A : Around) (s : Shared) (g : FM) (φ : List Addr) (σ : Sto) (i : Nat) (x : V) (Q : Option Value → Shared → Prop) (E : Value → Shared → Prop), SR G g s.heap φ σ → VR g φ src w → Gd σ → At i s.heap → xs[i]? = some x →
    (∀ v h' tk, VR g φ x v → At (i + 1) h' → (∀ b o, b ≠ I → s.heap.get? b = some o → h'.get? b = some o) → s.toks ≤ tk → Q (some v) { s with heap := h', toks := tk }) → wpAny (model G.prog G.w) A (pyNext (.ref I)) Q E s
  done : ∀ (A : Around) (s : Shared) (g : FM) (φ : List Addr) (σ : Sto) (Q : Option Value → Shared → Prop) (E : Value → Shared → Prop), A.handled = none → SR G g s.heap φ σ → VR g φ src w → Gd σ → At xs.length s.heap →
    (∀ h' tk, (∀ b o, b ≠ I → s.heap.get? b = some o → h'.get? b = some o) → s.toks ≤ tk → Q none { s with heap := h', toks := tk }) → wpAny (model G.prog G.w) A (pyNext (.ref I)) Q E s
  self : ∀ (A : Around) (s : Shared) (i : Nat) (Q : Value → Shared → Prop) (E : Value → Shared → Prop), At i s.heap → Q (.ref I) s → wpAny (model G.prog G.w) A (pyIter (.ref I)) Q E s

/-- a step that may change one private address alone -/
theorem Nx.priv {fp : List Addr} {s s₁ s₂ : Shared} {g g₁ : FM} {φ φ₁ : List Addr} {I : Addr} (N : Nx fp s s₁ g g₁ φ φ₁) (hI : s.heap.get? I = none) (hd : s₂.drawn = s₁.drawn) (ho : s₂.os = s₁.os)
    (hk : ∀ b o, b ≠ I → s₁.heap.get? b = some o → s₂.heap.get? b = some o) : Nx fp s s₂ g g₁ φ φ₁ where
  drawn := hd.trans N.drawn
  os := ho.trans N.os
  sub := N.sub
  new := N.new
  pre := N.pre
  oth := fun b o h1 h2 e => hk b o (fun q => by rw [q, hI] at e; cases e) (N.oth b o h1 h2 e)
  ex := fun b e => by
    have h1 := N.ex b e
    cases q : s₁.heap.get? b with
    | none => exact absurd q h1
    | some o => rw [hk b o (fun z => e (z ▸ hI)) q]; simp

theorem Rel.priv {g : FM} {φ : List Addr} {σ : Sto} {env : Env} {ρ : Rho} {s s₂ : Shared} {I : Addr} (R : Rel G g φ σ env own ρ s) (h1 : I ∉ φ) (h2 : I ∉ fpOf env own) (h3 : g I = none)
    (hk : ∀ b o, b ≠ I → s.heap.get? b = some o → s₂.heap.get? b = some o) (ht : 1 ≤ s₂.toks) (hb : AllBare s₂.gens) : Rel G g φ σ env own ρ s₂ := by
  refine ⟨⟨ht, hb⟩, ⟨R.sr.base, fun b o e => hk b o (fun q => by rw [q, h3] at e; cases e) (R.sr.keep b o e), R.sr.len, fun k a m e1 e2 => MOR.keeps (fun _ _ e => e) (fun _ _ e => e)
    (fun o e => hk a o (fun q => h1 (q ▸ List.mem_of_getElem? e1)) e) (R.sr.mo k a m e1 e2), R.sr.fresh, R.sr.nodup⟩, FR.keeps R.fr (fun _ _ e => e) (fun _ _ e => e) (fun b e => ?_) (fun b e => .inl e) fun b o z e => hk b o (fun q => ?_) e⟩
  · cases q : g b with
    | none => exact .inl rfl
    | some o => exact .inr (by simp)
  · subst q
    rcases z with z | z
    · exact h2 z
    · exact z h3

end

end
section
set_option autoImplicit false

/-- the items that a value yields -/
noncomputable def aItems (σ : Sto) : V → Option (List V)
  | .list xs => some xs
  | .tup xs => some xs
  | .rng n => if n < 2 ^ 31 then some ((List.range n).map fun i => V.int (i : Nat)) else none
  | .str x => some (x.cps.toList.map fun c => V.str ⟨#[c]⟩)
  | .ref k => match σ[k]? with | some (.list xs) => some xs | _ => none
  | _ => none
/-- what must hold of the store at each turn -/
noncomputable def aGd (v : V) (xs : List V) : Sto → Prop := fun σ => match v with | .ref k => σ[k]? = some (.list xs) | _ => True

section
variable {G : Glb}

theorem SR.mo' {g : FM} {h : Heap} {φ : List Addr} {σ : Sto} (S : SR G g h φ σ) {k : Nat} {m : MO} (e : σ[k]? = some m) {w : Value} (hv : VR g φ (.ref k) w) : ∃ a, w = .ref a ∧ a ∈ φ ∧ φ[k]? = some a ∧ MOR G g φ h a m := by
  obtain ⟨a, rfl, ha⟩ := hv
  exact ⟨a, rfl, List.mem_of_getElem? ha, ha, S.mo k a m ha e⟩

theorem pushIter {h : Heap} (o : Obj) : (∀ b p, h.get? b = some p → (h.push o).get? b = some p) ∧ h.get? h.objs.size = none := by
  refine ⟨fun b p e => Heap.get?_push_of_some _ e, ?_⟩
  cases e : h.get? h.objs.size with
  | none => rfl
  | some o' => exact absurd (Heap.lt_size e) (Nat.lt_irrefl _)

theorem get?_size (h : Heap) : h.get? h.objs.size = none := (pushIter (h := h) { cls := .none }).2

noncomputable def IterK (G : Glb) (s : Shared) (v : V) (w : Value) (xs : List V) (K : Value → Shared → Prop) : Prop :=
  ∀ At o, Itr G v w s.heap.objs.size xs (aGd v xs) At → At 0 (s.heap.push o) → K (.ref s.heap.objs.size) { s with heap := s.heap.push o }

theorem isListObj {h : Heap} {a : Addr} {arr : Array Value} {n : Nat} (e : h.get? a = some (listObj arr n)) : h.IsList a arr := ⟨_, e, rfl, n, rfl⟩
theorem isTupObj {h : Heap} {a : Addr} {arr : Array Value} {n : Nat} (e : h.get? a = some (tupObj arr n)) : h.IsTuple a arr := ⟨_, e, rfl, n, rfl⟩

theorem Itr.listRef (k : Nat) (xs : List V) (a I : Addr) (φ₀ : List Addr) (hk : φ₀[k]? = some a) :
    Itr G (.ref k) (.ref a) I xs (fun σ => σ[k]? = some (.list xs)) (fun i h => h.IsListIter I a i) where
  frame := fun i h h' x hk => x.at hk
  live := fun i h x => by obtain ⟨o, ho, hc, _⟩ := x; exact ⟨o, _, ho, hc, by decide⟩
  item := fun A s g φ σ i x Q E S hv hG hA hx hQ => by
    obtain ⟨a', ha', _, _, m⟩ := S.mo' hG hv
    cases ha'
    obtain ⟨arr, n, ho, hvs⟩ := m
    obtain ⟨w, hw, hr⟩ := hvs.get hx
    exact wpAny_pyNext_list_item hA (isListObj ho) (by simpa using hw) fun h' hi hs => hQ _ _ _ hr hi (fun b o hb e => hs.extBut b o hb e) (Nat.le_refl _)
  done := fun A s g φ σ Q E hh S hv hG hA hQ => by
    obtain ⟨a', ha', _, _, m⟩ := S.mo' hG hv
    cases ha'
    obtain ⟨arr, n, ho, hvs⟩ := m
    have hl := hvs.length
    exact wpAny_pyNext_list_end hh hA (isListObj ho) (by rw [← hl]; simp) fun h' he => hQ _ _ he (Nat.le_refl _)
  self := fun A s i Q E hA hQ => wpAny_pyIter_listiter hA hQ

theorem Itr.list (xs : List V) (a I : Addr) : Itr G (.list xs) (.ref a) I xs (fun _ => True) (fun i h => h.IsListIter I a i) where
  frame := fun i h h' x hk => x.at hk
  live := fun i h x => by obtain ⟨o, ho, hc, _⟩ := x; exact ⟨o, _, ho, hc, by decide⟩
  item := fun A s g φ σ i x Q E S hv _ hA hx hQ => by
    obtain ⟨a', arr, n, ha', hg, hvs⟩ := hv
    cases ha'
    obtain ⟨w, hw, hr⟩ := hvs.get hx
    exact wpAny_pyNext_list_item hA (isListObj (S.keep _ _ hg)) (by simpa using hw) fun h' hi hs => hQ _ _ _ hr hi (fun b o hb e => hs.extBut b o hb e) (Nat.le_refl _)
  done := fun A s g φ σ Q E hh S hv _ hA hQ => by
    obtain ⟨a', arr, n, ha', hg, hvs⟩ := hv
    cases ha'
    have hl := hvs.length
    exact wpAny_pyNext_list_end hh hA (isListObj (S.keep _ _ hg)) (by rw [← hl]; simp) fun h' he => hQ _ _ he (Nat.le_refl _)
  self := fun A s i Q E hA hQ => wpAny_pyIter_listiter hA hQ

theorem Itr.tup (xs : List V) (a I : Addr) : Itr G (.tup xs) (.ref a) I xs (fun _ => True) (fun i h => h.IsTupleIter I a i) where
  frame := fun i h h' x hk => by obtain ⟨o, ho, r⟩ := x; exact ⟨o, hk o ho, r⟩
  live := fun i h x => by obtain ⟨o, ho, hc, _⟩ := x; exact ⟨o, _, ho, hc, by decide⟩
  item := fun A s g φ σ i x Q E S hv _ hA hx hQ => by
    obtain ⟨a', arr, n, ha', hg, hvs⟩ := hv
    cases ha'
    obtain ⟨w, hw, hr⟩ := hvs.get hx
    exact wpAny_pyNext_tuple_item hA (isTupObj (S.keep _ _ hg)) (by simpa using hw) fun h' hi hs => hQ _ _ _ hr hi (fun b o hb e => hs.extBut b o hb e) (Nat.le_refl _)
  done := fun A s g φ σ Q E hh S hv _ hA hQ => by
    obtain ⟨a', arr, n, ha', hg, hvs⟩ := hv
    cases ha'
    have hl := hvs.length
    exact wpAny_pyNext_tuple_end hh hA (isTupObj (S.keep _ _ hg)) (by rw [← hl]; simp) fun h' he => hQ _ _ he (Nat.le_refl _)
  self := fun A s i Q E hA hQ => wpAny_pyIter_tupleiter hA hQ

theorem Itr.range (n : Nat) (w : Value) (I : Addr) : Itr G (.rng n) w I ((List.range n).map fun i => V.int (i : Nat)) (fun _ => True) (fun i h => IsRangeIter h I (i : Nat) ((n : Int) - (i : Nat)) 1) where
  frame := fun i h h' x hk => hk _ x
  live := fun i h x => ⟨_, _, x, rfl, by decide⟩
  item := fun A s g φ σ i x Q E S hv _ hA hx hQ => by
    have hi : i < n := by
      have := (List.getElem?_eq_some_iff.mp hx).1
      simpa using this
    have hx' : x = V.int (i : Nat) := by
      rw [List.getElem?_map, List.getElem?_range hi] at hx
      simpa using hx.symm
    subst hx'
    refine wpAny_pyNext_range_item hA (by exact ar127 hi) fun h' hit hs => hQ _ _ _ ⟨_, rfl⟩ ?_ (fun b o hb e => hs.extBut b o hb e) (Nat.le_succ _)
    have e2 : (n : Int) - ((i + 1 : Nat) : Int) = (n : Int) - (i : Int) - 1 := by push_cast; exact ar128
    rw [e2]; exact hit
  done := fun A s g φ σ Q E hh S hv _ hA hQ => wpAny_pyNext_range_end hh hA (by simp) fun h' he => hQ _ _ he (Nat.le_refl _)
  self := fun A s i Q E hA hQ => wpAny_pyIter_rangeiter hA hQ

theorem Itr.ascii (x : Str) (t : Tok) (w : Value) (I : Addr) : Itr G (.str x) w I (x.cps.toList.map fun c => V.str ⟨#[c]⟩) (fun _ => True) (fun i h => h.IsStrIter I "str_ascii_iterator" x t i) where
  frame := fun i h h' x hk => by obtain ⟨o, ho, r⟩ := x; exact ⟨o, hk o ho, r⟩
  live := fun i h x => by obtain ⟨o, ho, hc, _⟩ := x; exact ⟨o, _, ho, hc, by decide⟩
  item := fun A s g φ σ i y Q E S hv _ hA hx hQ => by
    rw [List.getElem?_map] at hx
    cases hc : x.cps.toList[i]? with
    | none => rw [hc] at hx; cases hx
    | some c =>
      rw [hc] at hx; cases hx
      exact wpAny_pyNext_ascii_item hA (by simpa using hc) fun h' hi hs => hQ _ _ _ ⟨_, rfl⟩ hi (fun b o hb e => hs.extBut b o hb e) (Nat.le_succ _)
  done := fun A s g φ σ Q E hh S hv _ hA hQ => wpAny_pyNext_ascii_end hh hA (by simp) fun h' he => hQ _ _ he (Nat.le_refl _)
  self := fun A s i Q E hA hQ => wpAny_pyIter_striter_ascii hA hQ
theorem Itr.wide (x : Str) (t : Tok) (w : Value) (I : Addr) : Itr G (.str x) w I (x.cps.toList.map fun c => V.str ⟨#[c]⟩) (fun _ => True) (fun i h => h.IsStrIter I "str_iterator" x t i) where
  frame := fun i h h' x hk => by obtain ⟨o, ho, r⟩ := x; exact ⟨o, hk o ho, r⟩
  live := fun i h x => by obtain ⟨o, ho, hc, _⟩ := x; exact ⟨o, _, ho, hc, by decide⟩
  item := fun A s g φ σ i y Q E S hv _ hA hx hQ => by
    rw [List.getElem?_map] at hx
    cases hc : x.cps.toList[i]? with
    | none => rw [hc] at hx; cases hx
    | some c =>
      rw [hc] at hx; cases hx
      exact wpAny_pyNext_wide_item hA (by simpa using hc) fun h' hi hs => hQ _ _ _ ⟨_, rfl⟩ hi (fun b o hb e => hs.extBut b o hb e) (Nat.le_succ _)
  done := fun A s g φ σ Q E hh S hv _ hA hQ => wpAny_pyNext_wide_end hh hA (by simp) fun h' he => hQ _ _ he (Nat.le_refl _)
  self := fun A s i Q E hA hQ => wpAny_pyIter_striter_wide hA hQ

theorem iter_itr {A : Around} {s : Shared} {g : FM} {φ : List Addr} {σ : Sto} {v : V} {w : Value} {xs : List V} {K : Value → Shared → Prop} {E : Value → Shared → Prop}
    (S : SR G g s.heap φ σ) (hv : VR g φ v w) (hx : aItems σ v = some xs) (k : IterK G s v w xs K) : wpAny (model G.prog G.w) A (pyIter w) K E s := by
  cases v with
  | none => cases hx
  | bool b => cases hx
  | int i => cases hx
  | raw r => cases hx
  | list ys =>
    cases hx
    obtain ⟨a, arr, n, rfl, hg, hvs⟩ := hv
    exact wpAny_pyIter_list (isListObj (S.keep _ _ hg)) (k _ _ (Itr.list _ _ _) ⟨_, Heap.get?_push_size _ rfl, rfl, rfl⟩)
  | tup ys =>
    cases hx
    obtain ⟨a, arr, n, rfl, hg, hvs⟩ := hv
    exact wpAny_pyIter_tuple (isTupObj (S.keep _ _ hg)) (k _ _ (Itr.tup _ _ _) ⟨_, Heap.get?_push_size _ rfl, rfl, rfl⟩)
  | rng n =>
    obtain ⟨a, t0, t1, t2, rfl, hg⟩ := hv
    dsimp only [aItems] at hx
    by_cases hn : n < 2 ^ 31
    · rw [if_pos hn] at hx; cases hx
      have hsz : Builtin.Range.rangeSize 0 n 1 = n := by
        unfold Builtin.Range.rangeSize
        by_cases z : (0 : Int) < n
        · rw [if_pos (by decide), if_pos z]; exact ar129
        · rw [if_pos (by decide), if_neg z]; exact ar130 z
      have hsm : Builtin.Range.small 0 n 1 = true := by
        have fit : ∀ z : Int, 0 ≤ z → z ≤ 2 ^ 31 → Builtin.Range.rangeFitsLong z = true := fun z h1 h2 => by
          unfold Builtin.Range.rangeFitsLong
          rw [Bool.and_eq_true]
          exact ⟨decide_eq_true (by exact ar131 h1), decide_eq_true (by exact ar132 h2)⟩
        have h4 : ((n : Int) == 0 || if (1 : Int) > 0 then Builtin.Range.rangeFitsLong ((n : Int) + (1 - 1)) else Builtin.Range.rangeFitsLong ((n : Int) + (1 + 1))) = true := by
          rw [if_pos (by decide), fit _ (by exact ar133) (by exact ar134 hn), Bool.or_true]
        unfold Builtin.Range.small
        rw [hsz, h4, fit 0 (by decide) (by decide), fit n (by exact ar135) (by exact ar136 hn), fit 1 (by decide) (by decide)]; rfl
      refine wpAny_pyIter_range (S.keep _ _ hg) hsm (k _ _ (Itr.range n _ _) ?_)
      show IsRangeIter _ _ _ _ _
      rw [hsz]
      exact (Heap.get?_push_size _ rfl).trans (by simp)
    · rw [if_neg hn] at hx; cases hx
  | str x =>
    obtain ⟨t, rfl⟩ := hv
    cases hx
    cases ha : (Array.all x.cps fun x => decide (x < 128)) with
    | true => exact wpAny_pyIter_ascii ha (k _ _ (Itr.ascii x t _ _) ⟨_, Heap.get?_push_size _ rfl, rfl, rfl⟩)
    | false => exact wpAny_pyIter_wide ha (k _ _ (Itr.wide x t _ _) ⟨_, Heap.get?_push_size _ rfl, rfl, rfl⟩)
  | ref i =>
    dsimp only [aItems] at hx
    split at hx
    · rename_i ys hm
      cases hx
      obtain ⟨a, rfl, ha⟩ := hv
      obtain ⟨arr, n, ho, hvs⟩ := S.mo _ _ _ ha hm
      exact wpAny_pyIter_list (isListObj ho) (k _ _ (Itr.listRef _ _ _ _ φ ha) ⟨_, Heap.get?_push_size _ rfl, rfl, rfl⟩)
    · cases hx

end

noncomputable def wFor (Gd : Sto → Prop) (Wa : WA) (Wb : WS) : List V → WS
  | [] => fun Q ρ σ => Gd σ ∧ Q .nx ρ σ
  | v :: vs => fun Q ρ σ => Gd σ ∧ Wa v (fun ρ' σ' => Wb (fun fl ρ'' σ'' => match fl with | .nx | .ct => wFor Gd Wa Wb vs Q ρ'' σ'' | .br => Q .nx ρ'' σ'' | .rt v => Q (.rt v) ρ'' σ'') ρ' σ') ρ σ
noncomputable def wForE (We : WE) (Wa : WA) (Wb : WS) : WS := fun Q ρ σ => We (fun v σ' => ∃ xs, aItems σ' v = some xs ∧ wFor (aGd v xs) Wa Wb xs Q ρ σ') ρ σ

section
variable {G : Glb} {ℓ : Nat} {sc : Scope} {own : List Str}

theorem letGo_itr {A : Around} {s : Shared} {K : Unit → Shared → Prop} {E : Value → Shared → Prop} {t : Expr} {I : Addr} {v : Value}
    (h : ∃ o n, s.heap.get? I = some o ∧ o.cls = .type n ∧ ["enumerate", "zip", "dict_itemiterator", "dict_reverseitemiterator", "odict_iterator", "itertools.zip_longest", "itertools.pairwise"].contains n = false)
    (k : K () s) : wpAny (model G.prog G.w) A (letOwnedTupleGo t (.ref I) v) K E s := by
  obtain ⟨o, n, ho, hc, hn⟩ := h
  have main : ∀ a, wpAny (model G.prog G.w) A (do
      let o ← load I
      match o.cls, o.data with
      | .type n, .fields vs =>
        if ["enumerate", "zip", "dict_itemiterator", "dict_reverseitemiterator", "odict_iterator", "itertools.zip_longest", "itertools.pairwise"].contains n && vs[0]? == some (rawInt a) then
          rule "for.unpacks-the-owned-tuple"
          updateField I 0 .none
      | _, _ => pure ()) K E s := fun a => by
    refine wpAny_bind (wpAny_load ho ?_)
    rw [hc]
    cases hd : o.data <;> first | exact wpAny_pure k | (dsimp only; rw [hn]; exact wpAny_pure k)
  have two : wpAny (model G.prog G.w) A (letOwnedTupleGo (.Tuple [] default default) (.ref I) v) K E s := by cases v <;> first | exact wpAny_pure k | exact main _
  cases t <;> first | exact wpAny_pure k | exact two

theorem Sx.for {t iter : Expr} {b : List Stmt} {pos : Pos} {We : WE} {Wa : WA} {Wb : WS} (he : Ev G ℓ sc iter We) (ha : Asg G ℓ sc own t Wa) (hb : Sxs G ℓ sc own b Wb)
    (hf : ∀ env x, foldedSetIterable iter env x = pure x := by intro _ _; rfl) : Sx G ℓ sc own (.For t iter b [] pos) (wForE We Wa Wb) := by
  intro A env s g φ σ ρ Q cx eo R hW K E k
  refine wpAny_For (he A env own s g φ σ ρ _ cx eo R hW _ _ fun w s₁ g₁ φ₁ σ₁ v N₁ R₁ hv hQ => ?_) (hf env)
  obtain ⟨xs, hx, hF⟩ := hQ
  refine iter_itr R₁.sr hv hx fun At o T h0 => ?_
  generalize hI : s₁.heap.objs.size = I at T h0 ⊢
  have hIn : s₁.heap.get? I = none := by rw [← hI]; exact get?_size _
  have hIφ : I ∉ φ₁ := fun q => by obtain ⟨o, e⟩ := R₁.moLive q; rw [hIn] at e; cases e
  have hIg : g₁ I = none := by
    cases q : g₁ I with
    | none => rfl
    | some o => rw [R₁.sr.keep _ _ q] at hIn; cases hIn
  have hfp : I ∉ fpOf env own := fun q => by
    rcases List.mem_cons.mp q with q | q
    · obtain ⟨m, ⟨o, es, ep, ho, _⟩, _⟩ := R₁.fr.ns
      rw [← q, hIn] at ho; cases ho
    · obtain ⟨x, hx, hc⟩ := List.mem_filterMap.mp q
      obtain ⟨c, v0, e, ⟨oc, hoc, _⟩, _⟩ := R₁.fr.ownc x hx
      rw [hc] at e; cases e
      rw [hIn] at hoc; cases hoc
  have hI0 : s.heap.get? I = none := by
    cases q : s.heap.get? I with
    | none => rfl
    | some o => exact absurd hIn (N₁.ex I (by rw [q]; simp))
  refine codeAny_forLoop_any (fun m s' => ∃ g' φ' σ' ρ' i, Nx (fpOf env own) s s' g g' φ φ' ∧ Rel G g' φ' σ' env own ρ' s' ∧ I ∉ φ' ∧ g' I = none ∧ At i s'.heap ∧ VR g' φ' v w ∧ m = xs.length - i ∧ i ≤ xs.length ∧
      wFor (aGd v xs) Wa Wb (xs.drop i) Q ρ' σ') ?_ xs.length ⟨g₁, φ₁, σ₁, ρ, 0, ?_, ?_, hIφ, hIg, h0, hv, rfl, Nat.zero_le _, by simpa using hF⟩
  · rintro m s₂ ⟨g₂, φ₂, σ₂, ρ₂, i, N₂, R₂, hφ₂, hg₂, hA₂, hv₂, rfl, hi, hW₂⟩
    have cases' : xs.drop i = [] ∧ i = xs.length ∨ ∃ x, xs[i]? = some x ∧ xs.drop i = x :: xs.drop (i + 1) := by
      rcases Nat.lt_or_ge i xs.length with q | q
      · exact .inr ⟨xs[i], by simp [q], by rw [List.drop_eq_getElem_cons q]⟩
      · exact .inl ⟨List.drop_eq_nil_of_le q, Nat.le_antisymm hi q⟩
    rcases cases' with ⟨hd, hl⟩ | ⟨x, hxi, hd⟩
    · rw [hd] at hW₂
      obtain ⟨hGd, hQ₂⟩ := hW₂
      refine T.done A s₂ g₂ φ₂ σ₂ _ _ cx.handled R₂.sr hv₂ hGd (hl ▸ hA₂) fun h' tk hk htk => ?_
      exact wpAny_execs_nil (k _ _ _ _ _ _ .nx (N₂.priv (I := I) hI0 rfl rfl hk) (R₂.priv hφ₂ hfp hg₂ hk (Nat.le_trans R₂.ok.toks htk) R₂.ok.bare) rfl hQ₂)
    · rw [hd] at hW₂
      obtain ⟨hGd, hQ₂⟩ := hW₂
      refine T.item A s₂ g₂ φ₂ σ₂ i x _ _ R₂.sr hv₂ hGd hA₂ hxi fun u h' tk hr hA₃ hk htk => ?_
      have N₃ : Nx (fpOf env own) s { s₂ with heap := h', toks := tk } g g₂ φ φ₂ := N₂.priv (I := I) hI0 rfl rfl hk
      have R₃ : Rel G g₂ φ₂ σ₂ env own ρ₂ { s₂ with heap := h', toks := tk } := R₂.priv hφ₂ hfp hg₂ hk (Nat.le_trans R₂.ok.toks htk) R₂.ok.bare
      refine letGo_itr (T.live _ _ hA₃) ?_
      have step : ∀ {sa sb : Shared} {ga gb : FM} {φa φb : List Addr}, Nx (fpOf env own) sa sb ga gb φa φb → I ∉ φa → ga I = none → At (i + 1) sa.heap → I ∉ φb ∧ gb I = none ∧ At (i + 1) sb.heap := by
        intro sa sb ga gb φa φb N h1 h2 h3
        obtain ⟨o, n, ho, _⟩ := T.live _ _ h3
        refine ⟨fun q => ?_, ?_, T.frame _ _ _ h3 fun o' e => N.oth _ _ hfp h1 e⟩
        · obtain ⟨r, rfl, hr⟩ := N.pre
          rcases List.mem_append.mp q with q | q
          · exact h1 q
          · rw [hr _ q] at ho; cases ho
        · cases q : gb I with
          | none => rfl
          | some o' =>
            rcases N.new _ _ q with z | z
            · rw [h2] at z; cases z
            · rw [z] at ho; cases ho
      refine ha A env _ g₂ φ₂ σ₂ ρ₂ x u _ cx eo R₃ hr hQ₂ _ _ fun s₄ g₄ φ₄ σ₄ ρ₄ N₄ R₄ hQ₄ => ?_
      obtain ⟨a1, a2, a3⟩ := step N₄ hφ₂ hg₂ hA₃
      refine hb A env s₄ g₄ φ₄ σ₄ ρ₄ _ cx eo R₄ hQ₄ _ _ fun f s₅ g₅ φ₅ σ₅ ρ₅ fl N₅ R₅ hf hQ₅ => ?_
      obtain ⟨b1, b2, b3⟩ := step N₅ a1 a2 a3
      have N := (N₃.trans N₄).trans N₅
      have hlt : i < xs.length := (List.getElem?_eq_some_iff.mp hxi).1
      cases fl with
      | nx => cases hf; exact ⟨xs.length - (i + 1), by exact ar149 hlt, g₅, φ₅, σ₅, ρ₅, i + 1, N, R₅, b1, b2, b3, N₅.vr (N₄.vr hv₂), rfl, hlt, hQ₅⟩
      | ct => cases hf; exact ⟨xs.length - (i + 1), by exact ar149 hlt, g₅, φ₅, σ₅, ρ₅, i + 1, N, R₅, b1, b2, b3, N₅.vr (N₄.vr hv₂), rfl, hlt, hQ₅⟩
      | br => cases hf; exact k _ _ _ _ _ _ .nx N R₅ rfl hQ₅
      | rt v => obtain ⟨w', rfl, hv'⟩ := hf; exact k _ _ _ _ _ _ (.rt v) N R₅ ⟨w', rfl, hv'⟩ hQ₅
  · exact N₁.fp.priv (I := I) hI0 rfl rfl fun b o _ e => Heap.get?_push_of_some _ e
  · exact R₁.priv (I := I) hIφ hfp hIg (fun b o _ e => Heap.get?_push_of_some _ e) R₁.ok.toks R₁.ok.bare

/-- targets -/
theorem Asg.name {x : Str} {p : Pos} (hx : canStore sc own x) : Asg G ℓ sc own (.Name x p) fun v Q ρ σ => Q (upd ρ x v) σ := by
  intro A env s g φ σ ρ v w Q cx eo R hv hW K E k
  exact wpAny_assign_Name (store_name eo R hx hv fun s₁ N R₁ => k _ _ _ _ _ N R₁ hW)

noncomputable def wPair (Wa Wb : WA) : WA := fun v Q ρ σ => ∃ a b, v = .tup [a, b] ∧ Wa a (fun ρ' σ' => Wb b Q ρ' σ') ρ σ
theorem Asg.pair {x y : Expr} {k : Nat} {p : Pos} {Wx Wy : WA} (hx : Asg G ℓ sc own x Wx) (hy : Asg G ℓ sc own y Wy)
    (hs : ∀ env, assignEach [x, y] env = [(false, assign x env), (false, assign y env)] := by intro _; rfl) : Asg G ℓ sc own (.Tuple [x, y] k p) (wPair Wx Wy) := by
  intro A env s g φ σ ρ v w Q cx eo R hv hW K E kk
  obtain ⟨a, b, rfl, hW⟩ := hW
  obtain ⟨t, arr, n, rfl, hg, hvs⟩ := hv
  obtain ⟨w₁, r, he, hv₁, w₂, r₂, he₂, hv₂, hr₂⟩ := hvs
  subst he₂
  have hr₂' : r₂ = [] := hr₂
  subst hr₂'
  have hsz : arr.size = 2 := by rw [← Array.length_toList, he]; rfl
  refine wpAny_assign_Tuple cx.handled (isTupObj (R.sr.keep _ _ hg)) (by rw [hs, hsz]; rfl) (by rw [hs]; rfl) fun h' he' => ?_
  rw [hs, he]
  have hI : s.heap.get? s.heap.objs.size = none := get?_size _
  have hIφ : s.heap.objs.size ∉ φ := fun q => by obtain ⟨o, e⟩ := R.moLive q; rw [hI] at e; cases e
  have hIg : g s.heap.objs.size = none := by
    cases q : g s.heap.objs.size with
    | none => rfl
    | some o => rw [R.sr.keep _ _ q] at hI; cases hI
  have hfp : s.heap.objs.size ∉ fpOf env own := fun q => by
    rcases List.mem_cons.mp q with q | q
    · obtain ⟨m, ⟨o, es, ep, ho, _⟩, _⟩ := R.fr.ns
      rw [← q, hI] at ho; cases ho
    · obtain ⟨x, hx, hc⟩ := List.mem_filterMap.mp q
      obtain ⟨c, v0, e, ⟨oc, hoc, _⟩, _⟩ := R.fr.ownc x hx
      rw [hc] at e; cases e
      rw [hI] at hoc; cases hoc
  have N₀ : Nx (fpOf env own) s { s with heap := h' } g g φ φ := Nx.priv (Nx.refl (s' := s) rfl) hI rfl rfl he'
  have R₀ : Rel G g φ σ env own ρ { s with heap := h' } := R.priv hIφ hfp hIg he' R.ok.toks R.ok.bare
  refine wpAny_assignInOrder_more (hx A env _ g φ σ ρ a w₁ _ cx eo R₀ hv₁ hW _ _ fun s₁ g₁ φ₁ σ₁ ρ₁ N₁ R₁ hQ₁ => ?_)
  refine wpAny_assignInOrder_more (hy A env _ g₁ φ₁ σ₁ ρ₁ b w₂ _ cx eo R₁ (N₁.vr hv₂) hQ₁ _ _ fun s₂ g₂ φ₂ σ₂ ρ₂ N₂ R₂ hQ₂ => ?_)
  exact PyProof.Rows.assignInOrder_nil (kk _ _ _ _ _ ((N₀.trans N₁).trans N₂) R₂ hQ₂)

end

end
section
set_option autoImplicit false

section
variable {G : Glb} {g g' : FM} {φ φ' : List Addr} {σ σ' : Sto} {env : Env} {own : List Str} {ρ : Rho} {s s' : Shared}

theorem Rel.fpφ (R : Rel G g φ σ env own ρ s) {b : Addr} (hb : b ∈ fpOf env own) : b ∉ φ ∧ g b = none := by
  rcases List.mem_cons.mp hb with q | q
  · exact q ▸ ⟨R.fr.Lφ, R.fr.Lg⟩
  · obtain ⟨x, hx, hc⟩ := List.mem_filterMap.mp q
    obtain ⟨c, v0, e, _, z, y, _⟩ := R.fr.ownc x hx
    rw [hc] at e; cases e
    exact ⟨y, z⟩

theorem Rel.step (R : Rel G g φ σ env own ρ s) (N : Nx [] s s' g g' φ φ') (ok : SOk s') (S : SR G g' s'.heap φ' σ') : Rel G g' φ' σ' env own ρ s' := by
  refine ⟨ok, S, FR.keeps R.fr N.sub N.phi (fun b q => ?_) (fun b q => ?_) fun b o z e => N.oth b o (by simp) ?_ e⟩
  · cases y : g' b with
    | none => exact .inl rfl
    | some o =>
      rcases N.new b o y with z | z
      · exact .inr (by rw [z]; simp)
      · exact absurd z q
  · obtain ⟨r, rfl, hr⟩ := N.pre
    rcases List.mem_append.mp q with q | q
    · exact .inl q
    · exact .inr (hr b q)
  · rcases z with z | z
    · exact (R.fpφ z).1
    · exact fun y => z (R.sr.fresh b y)

theorem Nx.leave {fp : List Addr} {s s₁ s₂ : Shared} {g g₁ g₂ : FM} {φ φ₁ φ₂ : List Addr} (N : Nx [] s s₁ g g₁ φ φ₁) (M : Nx fp s₁ s₂ g₁ g₂ φ₁ φ₂) (hf : ∀ a ∈ fp, s.heap.get? a = none) : Nx [] s s₂ g g₂ φ φ₂ :=
  have T := N.fp.trans M
  { T with oth := fun b o _ h2 e => T.oth b o (fun q => by rw [hf b q] at e; cases e) h2 e }

theorem cells_spec : ∀ (names : List (Str × NameKind)) (h : Heap) (acc : List (Str × Addr)),
    (∀ x, (x, NameKind.cell) ∈ names → ∃ c, (cellsFrom h.objs.size names acc).lookup x = some c ∧ (pushCells h names).IsCell c none ∧ h.objs.size ≤ c) ∧
    (∀ x, (x, NameKind.cell) ∉ names → (cellsFrom h.objs.size names acc).lookup x = acc.lookup x) ∧
    (∀ x y c, (x, NameKind.cell) ∈ names → (y, NameKind.cell) ∈ names → (cellsFrom h.objs.size names acc).lookup x = some c → (cellsFrom h.objs.size names acc).lookup y = some c → x = y)
  | [], h, acc => by simp [cellsFrom]
  | (name, kind) :: r, h, acc => by
    by_cases hk : kind = .cell
    · subst hk
      have e1 : cellsFrom h.objs.size ((name, .cell) :: r) acc = cellsFrom (h.objs.size + 1) r ((name, h.objs.size) :: acc) := by simp [cellsFrom]
      have e2 : pushCells h ((name, .cell) :: r) = pushCells (h.push { cls := .type "cell", data := .cell none }) r := by simp [pushCells]
      obtain ⟨i1, i2, i3⟩ := cells_spec r (h.push { cls := .type "cell", data := .cell none }) ((name, h.objs.size) :: acc)
      rw [Heap.size_push] at i1 i2 i3
      rw [e1, e2]
      have low : ∀ x c, (x, NameKind.cell) ∈ r → (cellsFrom (h.objs.size + 1) r ((name, h.objs.size) :: acc)).lookup x = some c → h.objs.size + 1 ≤ c := fun x c hx hc => by
        obtain ⟨c', e, _, z⟩ := i1 x hx
        rw [hc] at e; cases e; exact z
      have at' : (name, NameKind.cell) ∉ r → (cellsFrom (h.objs.size + 1) r ((name, h.objs.size) :: acc)).lookup name = some h.objs.size := fun hn => by
        rw [i2 name hn, List.lookup_cons]; simp
      refine ⟨fun x hx => ?_, fun x hx => ?_, fun x y c hx hy h1 h2 => ?_⟩
      · by_cases hr : (x, NameKind.cell) ∈ r
        · obtain ⟨c, e, z, y⟩ := i1 x hr
          exact ⟨c, e, z, by exact ar10 y⟩
        · rcases List.mem_cons.mp hx with q | q
          · cases q
            exact ⟨_, at' hr, ⟨_, pushCells_keeps r _ _ _ (Heap.get?_push_size _ rfl), rfl⟩, Nat.le_refl _⟩
          · exact absurd q hr
      · have hr : (x, NameKind.cell) ∉ r := fun q => hx (List.mem_cons_of_mem _ q)
        have hne : x ≠ name := fun q => hx (q ▸ List.mem_cons_self)
        have hb : (x == name) = false := by simpa using hne
        rw [i2 x hr, List.lookup_cons, hb]
      · by_cases hxr : (x, NameKind.cell) ∈ r <;> by_cases hyr : (y, NameKind.cell) ∈ r
        · exact i3 x y c hxr hyr h1 h2
        · have q : y = name := by
            rcases List.mem_cons.mp hy with q | q
            · cases q; rfl
            · exact absurd q hyr
          subst q
          rw [at' hyr] at h2; cases h2
          have := low x _ hxr h1; exact (ar165 this).elim
        · have q : x = name := by
            rcases List.mem_cons.mp hx with q | q
            · cases q; rfl
            · exact absurd q hxr
          subst q
          rw [at' hxr] at h1; cases h1
          have := low y _ hyr h2; exact (ar165 this).elim
        · have q : y = name := by
            rcases List.mem_cons.mp hy with q | q
            · cases q; rfl
            · exact absurd q hyr
          have q' : x = name := by
            rcases List.mem_cons.mp hx with q | q
            · cases q; rfl
            · exact absurd q hxr
          rw [q, q']
    · have hk' : (kind == NameKind.cell) = false := by simpa using hk
      have e1 : cellsFrom h.objs.size ((name, kind) :: r) acc = cellsFrom h.objs.size r acc := by simp [cellsFrom, hk]
      have e2 : pushCells h ((name, kind) :: r) = pushCells h r := by simp [pushCells, hk]
      obtain ⟨i1, i2, i3⟩ := cells_spec r h acc
      rw [e1, e2]
      have mm : ∀ x, (x, NameKind.cell) ∈ (name, kind) :: r ↔ (x, NameKind.cell) ∈ r := fun x => by
        rw [List.mem_cons]
        exact ⟨fun q => q.resolve_left fun z => hk (by cases z; rfl), .inr⟩
      exact ⟨fun x hx => i1 x ((mm x).mp hx), fun x hx => i2 x fun q => hx ((mm x).mpr q), fun x y c hx hy => i3 x y c ((mm x).mp hx) ((mm y).mp hy)⟩

/-- the names of a scope that are cells of its own -/
noncomputable def ownOf (sc : Scope) : List Str := (sc.names.filter fun x => x.2 == .cell).map (·.1)
theorem mem_ownOf {sc : Scope} {x : Str} : x ∈ ownOf sc ↔ (x, NameKind.cell) ∈ sc.names := by
  unfold ownOf
  rw [List.mem_map]
  constructor
  · rintro ⟨⟨n, k⟩, h, rfl⟩
    obtain ⟨h1, h2⟩ := List.mem_filter.mp h
    have : k = .cell := by simpa using h2
    exact this ▸ h1
  · intro h
    exact ⟨(x, .cell), List.mem_filter.mpr ⟨h, by simp⟩, rfl⟩

/-- what a closure bears -/
noncomputable def Clo (g : FM) (φ : List Addr) (h : Heap) (cl : List (Str × Addr)) (sc sc' : Scope) (ρ₀ : Rho) : Prop :=
  ∀ x v, ρ₀ x = some v → sc'.names.lookup x ≠ some .local ∧ (x, NameKind.cell) ∉ sc.names ∧ ∃ c w, cl.lookup x = some c ∧ h.IsCell c (some w) ∧ VR g φ v w ∧ ∃ o, g c = some o

theorem Rel.frame {sc sc' : Scope} {cl : List (Str × Addr)} {cls : Value} {ρ₀ : Rho} {env' : Env} (ok : SOk s) (S : SR G g s.heap φ σ) (hc : Clo g φ s.heap cl sc sc' ρ₀)
    (hs : env'.scope = sc') (hl : env'.locals = s.heap.objs.size) (hcs : env'.cells = cellsFrom (s.heap.objs.size + 1) sc.names cl) :
    Rel G g φ σ env' (ownOf sc) ρ₀ { s with heap := pushCells (s.heap.push { cls := cls, data := .dict #[] }) sc.names } ∧
    Nx [] s { s with heap := pushCells (s.heap.push { cls := cls, data := .dict #[] }) sc.names } g g φ φ ∧ ∀ a ∈ fpOf env' (ownOf sc), s.heap.get? a = none := by
  have keep : ∀ b o, s.heap.get? b = some o → (pushCells (s.heap.push { cls := cls, data := .dict #[] }) sc.names).get? b = some o := fun b o e => pushCells_keeps _ _ _ _ (Heap.get?_push_of_some _ e)
  have fresh : ∀ a, s.heap.objs.size ≤ a → s.heap.get? a = none := fun a ha => by
    cases e : s.heap.get? a with
    | none => rfl
    | some o' => exact absurd (Heap.lt_size e) (Nat.not_lt.mpr ha)
  have ung : ∀ a, s.heap.objs.size ≤ a → g a = none := fun a ha => by
    cases e : g a with
    | none => rfl
    | some o => have := S.keep _ _ e; rw [fresh a ha] at this; cases this
  have unφ : ∀ a, s.heap.objs.size ≤ a → a ∉ φ := fun a ha q => by
    obtain ⟨o, e⟩ := S.live q
    rw [fresh a ha] at e; cases e
  obtain ⟨c1, c2, c3⟩ := cells_spec sc.names (s.heap.push { cls := cls, data := .dict #[] }) cl
  rw [Heap.size_push] at c1 c2 c3
  rw [← hcs] at c1 c2 c3
  refine ⟨⟨⟨ok.toks, ok.bare⟩, ⟨S.base, fun b o e => keep b o (S.keep b o e), S.len, fun k a m h1 h2 => MOR.keeps (fun _ _ e => e) (fun _ _ e => e) (keep a) (S.mo k a m h1 h2), S.fresh, S.nodup⟩, ?_⟩, ⟨rfl, rfl, fun _ _ e => e, fun _ _ e => .inl e, ⟨[], by simp, by simp⟩, fun b o _ _ e => keep b o e, fun b e => ?_⟩, fun a ha => ?_⟩
  · refine ⟨by rw [hl]; exact ung _ (Nat.le_refl _), by rw [hl]; exact unφ _ (Nat.le_refl _), ⟨fun _ => none, ?_, fun x v h1 h2 => ?_⟩, fun x v h1 h2 => ?_, fun x hx => ?_, fun x hx y hy c h1 h2 => c3 x y c (mem_ownOf.mp hx) (mem_ownOf.mp hy) h1 h2⟩
    · rw [hl]; exact (Heap.Ns.new s.heap cls).keeps (pushCells_keeps _ _)
    · exact absurd (by unfold Env.kindOf at h1; rw [hs] at h1; exact h1) (hc x v h2).1
    · obtain ⟨_, hx, c, w, hcl, hcell, hr, hg⟩ := hc x v h2
      exact ⟨c, w, (c2 x hx).trans hcl, hcell.keeps keep, hr, .inr hg⟩
    · obtain ⟨c, e, z, lo⟩ := c1 x (mem_ownOf.mp hx)
      exact ⟨c, none, e, z, ung c (by exact ar10 lo), unφ c (by exact ar10 lo), by rw [hl]; exact Nat.ne_of_gt (by exact ar167 lo)⟩
  · cases q : s.heap.get? b with
    | none => exact absurd q e
    | some o => rw [show ({ s with heap := pushCells (s.heap.push { cls := cls, data := .dict #[] }) sc.names } : Shared).heap.get? b = some o from keep b o q]; simp
  · refine fresh a ?_
    rcases List.mem_cons.mp ha with q | q
    · rw [q, hl]; exact Nat.le_refl _
    · obtain ⟨x, hx, e⟩ := List.mem_filterMap.mp q
      obtain ⟨c, e', _, lo⟩ := c1 x (mem_ownOf.mp hx)
      rw [e] at e'; cases e'; exact ar10 lo
end

/-- a value that may be called -/
noncomputable def FnOk (G : Glb) (ℓ : Nat) (f : Value) (W : List V → (V → Sto → Prop) → Sto → Prop) : Prop :=
  ∀ (A : Around) (s : Shared) (g : FM) (φ : List Addr) (σ : Sto) (vs : List V) (ws : List Value) (Q : V → Sto → Prop), Cx ℓ A → SOk s → SR G g s.heap φ σ → VRs g φ vs ws → W vs Q σ →
    ∀ (K : Value → Shared → Prop) (E : Value → Shared → Prop),
      (∀ w s' g' φ' σ' v, Nx [] s s' g g' φ φ' → SOk s' → SR G g' s'.heap φ' σ' → VR g' φ' v w → Q v σ' → K w s') → wpAny (model G.prog G.w) A (call f ws) K E s

/-- the parameters bound, one behind the other -/
noncomputable def bindRho : List Str → List V → Rho → Option Rho
  | [], [], ρ => some ρ
  | x :: xs, v :: vs, ρ => bindRho xs vs (upd ρ x v)
  | _, _, _ => none

noncomputable def retK (Q : V → Sto → Prop) : Fl → Rho → Sto → Prop := fun fl _ σ => match fl with | .rt v => Q v σ | .nx => Q .none σ | .br => False | .ct => False
noncomputable def wFn (ps : List Str) (W : WS) : List V → (V → Sto → Prop) → Sto → Prop := fun vs Q σ => ∃ ρ, bindRho ps vs (fun _ => none) = some ρ ∧ W (retK Q) ρ σ

theorem stores {G : Glb} {A : Around} {env : Env} {sc : Scope} {own : List Str} (eo : EnvOk sc env) (f : Str × Value → PUnit → Sem (ForInStep PUnit)) (hf : ∀ n v u, f (n, v) u = (do storeName env n v; pure (.yield ⟨⟩))) :
    ∀ (xs : List Str) (vs : List V) (ws : List Value) (s : Shared) (g : FM) (φ : List Addr) (σ : Sto) (ρ ρ' : Rho) (K : PUnit → Shared → Prop) (E : Value → Shared → Prop), (∀ x ∈ xs, canStore sc own x) →
      Rel G g φ σ env own ρ s → VRs g φ vs ws → bindRho xs vs ρ = some ρ' → (∀ s', Nx (fpOf env own) s s' g g φ φ → Rel G g φ σ env own ρ' s' → K ⟨⟩ s') → wpAny (model G.prog G.w) A (forIn (xs.zip ws) ⟨⟩ f) K E s
  | [], [], ws, s, g, φ, σ, ρ, ρ', K, E, _, R, hv, hb, k => by
    cases hb
    rw [List.zip_nil_left, List.forIn_nil]
    exact wpAny_pure (k s (Nx.refl rfl) R)
  | [], _ :: _, _, _, _, _, _, _, _, _, _, _, _, _, hb, _ => by cases hb
  | _ :: _, [], _, _, _, _, _, _, _, _, _, _, _, _, hb, _ => by cases hb
  | x :: xs, v :: vs, ws, s, g, φ, σ, ρ, ρ', K, E, hx, R, hv, hb, k => by
    obtain ⟨w, r, rfl, h1, h2⟩ := hv
    rw [List.zip_cons_cons, List.forIn_cons, hf]
    refine wpAny_bind (wpAny_bind (store_name eo R (hx x List.mem_cons_self) h1 fun s₁ N₁ R₁ => wpAny_pure ?_))
    exact stores eo f hf xs vs r s₁ g φ σ _ ρ' K E (fun y hy => hx y (List.mem_cons_of_mem _ hy)) R₁ h2 hb fun s₂ N₂ R₂ => k s₂ (N₁.trans N₂) R₂

theorem lookup_mem {x : Str} {k : NameKind} : ∀ {l : List (Str × NameKind)}, l.lookup x = some k → (x, k) ∈ l := fun h => mem_of_lookup h

/-- what a def is, for the layer -/
structure IsDef (G : Glb) (a : Addr) (fd : FuncData) (body : List Stmt) (cl : List (Str × Addr)) : Prop where
  obj : ∃ o, G.base a = some o ∧ o.data = .func fd
  body : fd.body = .stmts body
  closure : fd.closure = cl
  globals : fd.globals = mainGlobals
  builtins : fd.builtins = builtinsNs
  code : ∀ h, G.In h → h.CodeRec fd.code fd.qualname
  co : fd.scope.isCoroutine = false
  gen : fd.scope.isGenerator = false
  kind : fd.scope.kind = .function

theorem FnOk.defB {G : Glb} (O : G.Ok) {ℓ : Nat} {a : Addr} {fd : FuncData} {body : List Stmt} {ps : List Str} {W : WS} (D : IsDef G a fd body [])
    (hp : ∀ x ∈ ps, canStore fd.scope (ownOf fd.scope) x) (full : List V → Option (List V))
    (hb : ∀ s g φ σ vs ws vs', SR G g s.heap φ σ → VRs g φ vs ws → full vs = some vs' → ∃ ws', VRs g φ vs' ws' ∧ BindsTo s fd ⟨ws, []⟩ (ps.zip ws'))
    (hW : Sxs G ℓ fd.scope (ownOf fd.scope) body W) : FnOk G (ℓ + 1) (.ref a) fun vs Q σ => ∃ vs', full vs = some vs' ∧ wFn ps W vs' Q σ := by
  intro A s g φ σ vs ws Q cx ok S hv hw K E k
  obtain ⟨vs', hfull, ρ, hρ, hw⟩ := hw
  obtain ⟨o, hbase, hdata⟩ := D.obj
  obtain ⟨ws', hv', hbind⟩ := hb s g φ σ vs ws vs' S hv hfull
  have inb : G.In s.heap := fun b o e => S.keep b o (S.base b o e)
  have dep := cx.depth
  have uni := cx.units
  refine wpAny_call (codeAny_call_function (by show A.depth < 1000; exact ar168 dep) (inb _ _ hbase) hdata D.co D.gen D.body (D.code _ inb) (hbind _ _ _ _ ?_))
  rw [D.closure]
  simp only [newFunctionEnv, Option.isSome_none, Bool.false_eq_true, if_false]
  refine wpAny_bind (wpAny_alloc ?_)
  refine wpAny_bind (wpAny_layCells _ (fun name kind cells => by cases kind == NameKind.cell <;> simp) _ _ _ _ ?_)
  rw [show ({ s with heap := s.heap.push { cls := .type "frame", data := .dict #[] } } : Shared).heap.objs.size = s.heap.objs.size + 1 from Heap.size_push ..]
  generalize hE : ({ scope := fd.scope, locals := s.heap.objs.size, globals := fd.globals, cells := cellsFrom (s.heap.objs.size + 1) fd.scope.names [], qual := fd.qualname ++ ".<locals>.", func := some a, code := fd.code, frame := some s.heap.objs.size, builtins := fd.builtins } : Env) = env
  have eo : EnvOk fd.scope env := ⟨by rw [← hE], D.kind, by rw [← hE]; exact D.globals, by rw [← hE]; exact D.builtins⟩
  obtain ⟨R₁, N₁, hfr⟩ := Rel.frame (cls := .type "frame") (sc := fd.scope) (sc' := fd.scope) (cl := []) (ρ₀ := fun _ => none) (env' := env) ok S (fun x v h => by cases h) eo.scope (by rw [← hE]) (by rw [← hE])
  refine wpAny_bind (stores eo _ (fun _ _ _ => rfl) ps vs' ws' _ g φ σ _ ρ _ _ hp R₁ (N₁.vrs hv') hρ fun s₂ N₂ R₂ => ?_)
  refine wpAny_pure ⟨O.nolimit _ R₂.sr.inb, codeAny_func ?_⟩
  have cx' : Cx ℓ (A.deeper env) := ⟨cx.handled, by show A.depth + 1 + 10 * ℓ ≤ 900; exact ar169 dep, by show A.units + 3 + 100 * ℓ ≤ 9000; exact ar170 uni⟩
  refine hW (A.deeper env) env s₂ g φ σ ρ _ cx' eo R₂ hw _ _ fun f s₃ g₃ φ₃ σ₃ ρ₃ fl N₃ R₃ hf hQ => ?_
  have N : Nx [] s s₃ g g₃ φ φ₃ := (N₁.leave N₂ hfr).leave N₃ hfr
  cases fl with
  | nx => cases hf; exact k _ _ _ _ _ .none N R₃.ok R₃.sr rfl hQ
  | br => exact hQ.elim
  | ct => exact hQ.elim
  | rt v => obtain ⟨w, rfl, hv⟩ := hf; exact k _ _ _ _ _ v N R₃.ok R₃.sr hv hQ

theorem FnOk.def {G : Glb} (O : G.Ok) {ℓ : Nat} {a : Addr} {fd : FuncData} {body : List Stmt} {ps : List Str} {W : WS} (D : IsDef G a fd body [])
    (hp : ∀ x ∈ ps, canStore fd.scope (ownOf fd.scope) x) (hb : ∀ ws : List Value, ws.length = ps.length → bindArgs fd ⟨ws, []⟩ = pure (ps.zip ws))
    (hW : Sxs G ℓ fd.scope (ownOf fd.scope) body W) : FnOk G (ℓ + 1) (.ref a) (wFn ps W) := by
  have bl : ∀ (ps : List Str) (vs : List V) (ρ ρ' : Rho), bindRho ps vs ρ = some ρ' → vs.length = ps.length := by
    intro ps
    induction ps with
    | nil => intro vs ρ ρ' h; cases vs with
      | nil => rfl
      | cons _ _ => cases h
    | cons x xs ih => intro vs ρ ρ' h; cases vs with
      | nil => cases h
      | cons v vs => simp [ih vs _ _ h]
  have := FnOk.defB O D hp (fun vs => if vs.length = ps.length then some vs else none) (fun s g φ σ vs ws vs' S hv h => by
    split at h
    · cases h
      rename_i hl
      exact ⟨ws, hv, BindsTo.of_eq (hb ws (hv.length.trans hl))⟩
    · cases h) hW
  intro A s g φ σ vs ws Q cx ok S hv hw
  obtain ⟨ρ, hρ, _⟩ := id hw
  exact this A s g φ σ vs ws Q cx ok S hv ⟨vs, if_pos (bl ps vs _ _ hρ), hw⟩


end
section
set_option autoImplicit false

section
variable {G : Glb} {g g' : FM} {φ φ' : List Addr} {σ σ' : Sto} {env : Env} {own : List Str} {ρ : Rho} {s s' : Shared}

theorem SR.keeps {h h' : Heap} (S : SR G g h φ σ) (hk : ∀ b o, h.get? b = some o → h'.get? b = some o) : SR G g h' φ σ :=
  ⟨S.base, fun b o e => hk b o (S.keep b o e), S.len, fun k a m h1 h2 => MOR.keeps (fun _ _ e => e) (fun _ _ e => e) (hk a) (S.mo k a m h1 h2), S.fresh, S.nodup⟩

/-- hiding cells -/
noncomputable def Hid (g g' : FM) : Prop := ∀ b o, g b = some o → g' b = some o ∨ ∃ v, o.data = .cell v
theorem Hid.dull (H : Hid g g') : ∀ b o, g b = some o → g' b = some o ∨ Dull o := fun b o e => (H b o e).imp id fun ⟨v, hv⟩ => by
  refine ⟨fun arr n q => ?_, fun arr n q => ?_, fun fs q => ?_⟩ <;> (rw [q] at hv; cases hv)
theorem VRs.hid (H : Hid g g') {v : List V} {w : List Value} (h : VRs g φ v w) : VRs g' φ v w := VRs.hide H.dull h
theorem MOR.hid (H : Hid g g') {h : Heap} {a : Addr} {m : MO} (x : MOR G g φ h a m) : MOR G g' φ h a m := by
  cases m with
  | list xs => obtain ⟨arr, n, h1, h2⟩ := x; exact ⟨arr, n, h1, h2.hid H⟩
  | acc xs =>
    obtain ⟨d, arr, n, od, h1, h2, h3, h4, t, h6⟩ := x
    refine ⟨d, arr, n, od, h1, h2.hid H, (H _ _ h3).resolve_right fun ⟨v, q⟩ => ?_, h4, t, h6⟩
    unfold PySem.W.lookIn at h6
    rw [q] at h6; cases h6
  | tab P => exact x

/-- the frame's own cells -/
noncomputable def cellsOf (env : Env) (own : List Str) : List Addr := own.filterMap fun x => env.cells.lookup x
noncomputable def frz (g : FM) (C : List Addr) (h : Heap) : FM := fun a => if a ∈ C then h.get? a else g a
noncomputable def thaw (g : FM) (C : List Addr) : FM := fun a => if a ∈ C then none else g a

theorem Rel.cellC (R : Rel G g φ σ env own ρ s) {c : Addr} (h : c ∈ cellsOf env own) : c ∉ φ ∧ g c = none ∧ ∃ o v, s.heap.get? c = some o ∧ o.data = .cell v := by
  obtain ⟨x, hx, hc⟩ := List.mem_filterMap.mp h
  obtain ⟨c', v0, e, ⟨oc, hoc, hd⟩, z, y, _⟩ := R.fr.ownc x hx
  rw [hc] at e; cases e
  exact ⟨y, z, oc, v0, hoc, hd⟩

theorem Rel.frz_sub (R : Rel G g φ σ env own ρ s) : ∀ b o, g b = some o → frz g (cellsOf env own) s.heap b = some o := fun b o e => by
  unfold frz
  by_cases q : b ∈ cellsOf env own
  · rw [(R.cellC q).2.1] at e; cases e
  · rw [if_neg q]; exact e
theorem Rel.frz_sr (R : Rel G g φ σ env own ρ s) : SR G (frz g (cellsOf env own) s.heap) s.heap φ σ := by
  refine ⟨fun b o e => R.frz_sub b o (R.sr.base b o e), fun b o e => ?_, R.sr.len, fun k a m h1 h2 => MOR.keeps R.frz_sub (fun _ _ e => e) (fun _ e => e) (R.sr.mo k a m h1 h2), fun a ha => ?_, R.sr.nodup⟩
  · unfold frz at e
    by_cases q : b ∈ cellsOf env own
    · rw [if_pos q] at e; exact e
    · rw [if_neg q] at e; exact R.sr.keep b o e
  · unfold frz
    by_cases q : a ∈ cellsOf env own
    · exact absurd ha (R.cellC q).1
    · rw [if_neg q]; exact R.sr.fresh a ha

/-- the frame's own cells let go again -/
theorem Rel.thaw (R : Rel G g φ σ env own ρ s) (N : Nx [] s s' (frz g (cellsOf env own) s.heap) g' φ φ') (ok : SOk s') (S : SR G g' s'.heap φ' σ') :
    Rel G (thaw g' (cellsOf env own)) φ' σ' env own ρ s' ∧ Nx [] s s' g (thaw g' (cellsOf env own)) φ φ' ∧ Hid g' (Mine.thaw g' (cellsOf env own)) := by
  have H : Hid g' (Mine.thaw g' (cellsOf env own)) := fun b o e => by
    by_cases q : b ∈ cellsOf env own
    · obtain ⟨_, _, oc, v, hoc, hd⟩ := R.cellC q
      have : g' b = some oc := N.sub b oc (by unfold frz; rw [if_pos q]; exact hoc)
      rw [this] at e; cases e
      exact .inr ⟨v, hd⟩
    · exact .inl (by unfold Mine.thaw; rw [if_neg q]; exact e)
  have N' : Nx [] s s' g (Mine.thaw g' (cellsOf env own)) φ φ' := ⟨N.drawn, N.os, fun b o e => by
      unfold Mine.thaw
      by_cases q : b ∈ cellsOf env own
      · rw [(R.cellC q).2.1] at e; cases e
      · rw [if_neg q]; exact N.sub b o (R.frz_sub b o e), fun b o e => by
      unfold Mine.thaw at e
      by_cases q : b ∈ cellsOf env own
      · rw [if_pos q] at e; cases e
      · rw [if_neg q] at e
        rcases N.new b o e with z | z
        · unfold frz at z; rw [if_neg q] at z; exact .inl z
        · exact .inr z, N.pre, N.oth, N.ex⟩
  have S' : SR G (Mine.thaw g' (cellsOf env own)) s'.heap φ' σ' := ⟨fun b o e => N'.sub b o (R.sr.base b o e), fun b o e => by
      unfold Mine.thaw at e
      by_cases q : b ∈ cellsOf env own
      · rw [if_pos q] at e; cases e
      · rw [if_neg q] at e; exact S.keep b o e, S.len, fun k a m h1 h2 => (S.mo k a m h1 h2).hid H, fun a ha => by
      unfold Mine.thaw
      by_cases q : a ∈ cellsOf env own
      · rw [if_pos q]
      · rw [if_neg q]; exact S.fresh a ha, S.nodup⟩
  exact ⟨R.step N' ok S', N', H⟩

/-- a private address through a step -/
theorem Nx.privKeep {fp : List Addr} (N : Nx fp s s' g g' φ φ') {I : Addr} (hf : I ∉ fp) (h1 : I ∉ φ) (h2 : g I = none) {o : Obj} (ho : s.heap.get? I = some o) : I ∉ φ' ∧ g' I = none ∧ s'.heap.get? I = some o := by
  refine ⟨fun q => ?_, ?_, N.oth _ _ hf h1 ho⟩
  · obtain ⟨r, rfl, hr⟩ := N.pre
    rcases List.mem_append.mp q with q | q
    · exact h1 q
    · rw [hr _ q] at ho; cases ho
  · cases q : g' I with
    | none => rfl
    | some o' =>
      rcases N.new _ _ q with z | z
      · rw [h2] at z; cases z
      · rw [z] at ho; cases ho

noncomputable def relab (scope sc : Scope) : Scope := { scope with names := scope.names.map fun (n, k) => if (k == .free && sc.kind == .function && sc.names.lookup n == some .cell) then (n, .cell) else (n, k) }
theorem relab_eq {sc scope : Scope} (eo : EnvOk sc env) : relabel scope env = relab scope sc := by
  unfold relabel relab Env.kindOf
  rw [eo.scope]
noncomputable def rk (sc : Scope) (n : Str) (k : NameKind) : NameKind := if (k == .free && sc.kind == .function && sc.names.lookup n == some .cell) then .cell else k
theorem relab_names (scope sc : Scope) : (relab scope sc).names = scope.names.map fun p => (p.1, rk sc p.1 p.2) := by
  unfold relab rk
  dsimp only
  congr 1
  funext p
  split <;> rfl
theorem map_lookup (f : Str → NameKind → NameKind) : ∀ {l : List (Str × NameKind)} {x : Str}, (l.map fun p => (p.1, f p.1 p.2)).lookup x = (l.lookup x).map (f x)
  | [], _ => rfl
  | (n, k) :: r, x => by
    rw [List.map_cons, List.lookup_cons, List.lookup_cons]
    cases hb : x == n with
    | true => rw [beq_iff_eq.mp hb]; rfl
    | false => exact map_lookup f
theorem relab_lookup (scope sc : Scope) (x : Str) : (relab scope sc).names.lookup x = (scope.names.lookup x).map (rk sc x) := by
  rw [relab_names]; exact map_lookup _

noncomputable def NamesOk (sc : Scope) : Prop := ∀ p ∈ sc.names, sc.names.lookup p.1 = some p.2

noncomputable def innerRho (scope : Scope) (ρ : Rho) : Rho := fun x => if scope.names.lookup x = some .free then ρ x else none

theorem closureFor_go (env : Env) : ∀ (l : List (Str × NameKind)) (acc : List (Str × Addr)), (∀ p ∈ l, p.2 = .free → ∃ c, env.cells.lookup p.1 = some c) →
    ∃ cl, (forIn l acc fun (x : Str × NameKind) (cs : List (Str × Addr)) => do
        let (name, kind) := x
        if kind == .free then do let c ← cellOf env name; pure (ForInStep.yield ((name, c) :: cs)) else pure (ForInStep.yield cs) : Sem (List (Str × Addr))) = pure cl ∧
      ∀ x, cl.lookup x = if (x, NameKind.free) ∈ l then env.cells.lookup x else acc.lookup x
  | [], acc, _ => ⟨acc, by rw [List.forIn_nil], fun x => by simp⟩
  | (n, k) :: r, acc, h => by
    by_cases hk : k = .free
    · subst hk
      obtain ⟨c, hc⟩ := h _ List.mem_cons_self rfl
      obtain ⟨cl, h1, h2⟩ := closureFor_go env r ((n, c) :: acc) fun p hp => h p (List.mem_cons_of_mem _ hp)
      refine ⟨cl, ?_, fun x => ?_⟩
      · rw [List.forIn_cons]
        unfold cellOf
        dsimp only
        rw [hc]
        exact h1
      · rw [h2 x]
        by_cases hx : x = n
        · subst hx
          simp [hc]
        · have : (x == n) = false := by simpa using hx
          simp [List.lookup_cons, this, hx]
    · obtain ⟨cl, h1, h2⟩ := closureFor_go env r acc fun p hp => h p (List.mem_cons_of_mem _ hp)
      refine ⟨cl, ?_, fun x => ?_⟩
      · rw [List.forIn_cons]
        have : (k == NameKind.free) = false := by simpa using hk
        dsimp only
        rw [this]
        exact h1
      · rw [h2 x]
        have : ((x, NameKind.free) ∈ (n, k) :: r) ↔ (x, NameKind.free) ∈ r := by
          rw [List.mem_cons]
          exact ⟨fun q => q.resolve_left fun z => hk (by cases z; rfl), .inr⟩
        simp only [this]

theorem closure_spec {scope : Scope} {env : Env} (h : ∀ p ∈ scope.names, p.2 = .free → ∃ c, env.cells.lookup p.1 = some c) :
    ∃ cl, closureFor scope env = pure cl ∧ ∀ x, (x, NameKind.free) ∈ scope.names → cl.lookup x = env.cells.lookup x := by
  obtain ⟨cl, h1, h2⟩ := closureFor_go env scope.names [] h
  refine ⟨cl, ?_, fun x hx => by rw [h2 x, if_pos hx]⟩
  exact congrArg (fun t : Sem (List (Str × Addr)) => t >>= fun cs => pure cs) h1

/-- what the free names of a comprehension are in the frame around -/
theorem Rel.outer {sc scope : Scope} (eo : EnvOk sc env) (R : Rel G g φ σ env own ρ s) {x : Str} {v : V} (hx : sc.names.lookup x = some .cell ∨ sc.names.lookup x = some .free) (hv : ρ x = some v) :
    ∃ c w, env.cells.lookup x = some c ∧ s.heap.IsCell c (some w) ∧ VR g φ v w ∧ ∃ o, frz g (cellsOf env own) s.heap c = some o := by
  obtain ⟨c, w, hc, hw, hr, hz⟩ := R.fr.cell x v (by unfold Env.kindOf; rw [eo.scope]; exact hx) hv
  refine ⟨c, w, hc, hw, hr, ?_⟩
  rcases hz with hz | ⟨o, hz⟩
  · obtain ⟨oc, hoc, _⟩ := hw
    exact ⟨oc, by unfold frz; rw [if_pos (show c ∈ cellsOf env own from List.mem_filterMap.mpr ⟨x, hz, hc⟩)]; exact hoc⟩
  · exact ⟨o, R.frz_sub c o hz⟩
end

noncomputable def wCompL (Gd : Sto → Prop) (Wa : WA) (Wi : WT) (We : WE) : List V → List V → (List V → Sto → Prop) → Rho → Sto → Prop
  | [], acc, Q, _, σ => Gd σ ∧ Q acc σ
  | v :: vs, acc, Q, ρ, σ => Gd σ ∧ Wa v (fun ρ' σ' => Wi (fun b σ'' => if b = true then We (fun y σ''' => wCompL Gd Wa Wi We vs (acc ++ [y]) Q ρ' σ''') ρ' σ'' else wCompL Gd Wa Wi We vs acc Q ρ' σ'') ρ' σ') ρ σ
/-- a new list: frozen, or to be changed -/
noncomputable def newL (Q : V → Sto → Prop) : List V → Sto → Prop := fun ys σ => Q (.list ys) σ ∨ Q (.ref σ.length) (σ ++ [.list ys])
noncomputable def FreeBound (scope : Scope) (ρ : Rho) : Prop := ∀ p ∈ scope.names, p.2 = .free → ∃ v, ρ p.1 = some v
noncomputable def wComp (scope : Scope) (Wf : WE) (Wa : WA) (Wi : WT) (We : WE) : WE := fun Q ρ σ => FreeBound scope ρ ∧ Wf (fun v σ' => ∃ xs, aItems σ' v = some xs ∧ xs.length ≤ 2 ^ 20 ∧ wCompL (aGd v xs) Wa Wi We xs [] (newL Q) (innerRho scope ρ) σ') ρ σ


end
section
set_option autoImplicit false

section
variable {G : Glb} {g g' : FM} {φ φ' : List Addr} {σ σ' : Sto} {s s' : Shared}

noncomputable def ins (g : FM) (D : Addr) (o : Obj) : FM := fun a => if a = D then some o else g a
theorem thaw_none {C : List Addr} {a : Addr} (h : g a = none) : thaw g C a = none := by
  unfold Mine.thaw
  split
  · rfl
  · exact h
theorem ins_sub {D : Addr} {o : Obj} (h : g D = none) : ∀ b p, g b = some p → ins g D o b = some p := fun b p e => by
  unfold ins
  by_cases q : b = D
  · rw [q, h] at e; cases e
  · rw [if_neg q]; exact e
theorem ins_at {D : Addr} {o : Obj} : ins g D o D = some o := if_pos rfl
theorem SR.addF {h : Heap} (S : SR G g h φ σ) {D : Addr} {o : Obj} (h1 : D ∉ φ) (h2 : g D = none) (ho : h.get? D = some o) : SR G (ins g D o) h φ σ :=
  ⟨fun b p e => ins_sub h2 b p (S.base b p e), fun b p e => by
    unfold ins at e
    by_cases q : b = D
    · rw [if_pos q] at e; cases e; rw [q]; exact ho
    · rw [if_neg q] at e; exact S.keep b p e, S.len, fun k a m e1 e2 => MOR.keeps (ins_sub h2) (fun _ _ e => e) (fun _ e => e) (S.mo k a m e1 e2), fun a ha => by
    unfold ins
    rw [if_neg (fun q : a = D => h1 (q ▸ ha))]; exact S.fresh a ha, S.nodup⟩
theorem SR.addM {h : Heap} (S : SR G g h φ σ) {D : Addr} {m : MO} (h1 : D ∉ φ) (h2 : g D = none) (hm : MOR G g φ h D m) : SR G g h (φ ++ [D]) (σ ++ [m]) := by
  have pre : ∀ (k : Nat) (b : Addr), φ[k]? = some b → (φ ++ [D])[k]? = some b := fun k b e => by
    rw [List.getElem?_append_left (List.getElem?_eq_some_iff.mp e).1]; exact e
  refine ⟨S.base, S.keep, by simp [S.len], fun k b mm e1 e2 => ?_, fun b q => ?_, List.nodup_append.mpr ⟨S.nodup, by simp, fun x hx y hy e => h1 (by rw [List.mem_singleton.mp hy] at e; exact e ▸ hx)⟩⟩
  · by_cases hlt : k < φ.length
    · rw [List.getElem?_append_left hlt] at e1
      rw [List.getElem?_append_left (by rw [← S.len]; exact hlt)] at e2
      exact MOR.keeps (fun _ _ e => e) pre (fun _ e => e) (S.mo k b mm e1 e2)
    · have hlt' : φ.length ≤ k := Nat.le_of_not_lt hlt
      rw [List.getElem?_append_right hlt'] at e1
      rw [List.getElem?_append_right (by rw [← S.len]; exact hlt')] at e2
      have hz : k - φ.length = 0 := by
        rcases Nat.eq_zero_or_pos (k - φ.length) with z | z
        · exact z
        · rw [List.getElem?_eq_none (by simp; exact ar32 z)] at e1; cases e1
      rw [hz] at e1; rw [← S.len, hz] at e2
      simp at e1 e2
      subst e1; subst e2
      exact MOR.keeps (fun _ _ e => e) pre (fun _ e => e) hm
  · rcases List.mem_append.mp q with q | q
    · exact S.fresh b q
    · rw [List.mem_singleton.mp q]; exact h2
theorem Nx.addF {fp : List Addr} (N : Nx fp s s' g g' φ φ') {D : Addr} {o : Obj} (h1 : s.heap.get? D = none) (h2 : g' D = none) : Nx fp s s' g (ins g' D o) φ φ' :=
  ⟨N.drawn, N.os, fun b p e => ins_sub h2 b p (N.sub b p e), fun b p e => (by
      unfold ins at e
      by_cases q : b = D
      · exact .inr (q ▸ h1)
      · rw [if_neg q] at e; exact N.new b p e), N.pre, N.oth, N.ex⟩
theorem Nx.addM {fp : List Addr} (N : Nx fp s s' g g' φ φ') {D : Addr} (h1 : s.heap.get? D = none) : Nx fp s s' g g' φ (φ' ++ [D]) :=
  ⟨N.drawn, N.os, N.sub, N.new, (by
      obtain ⟨r, rfl, hr⟩ := N.pre
      exact ⟨r ++ [D], by simp, fun a ha => (by
        rcases List.mem_append.mp ha with q | q
        · exact hr a q
        · rw [List.mem_singleton.mp q]; exact h1)⟩), N.oth, N.ex⟩
theorem VRs.addF {D : Addr} {o : Obj} (h2 : g D = none) {v : List V} {w : List Value} (h : VRs g φ v w) : VRs (ins g D o) φ v w := VRs.mono (ins_sub h2) (fun _ _ e => e) h
theorem at_end {D : Addr} (h : φ.length = σ.length) : (φ ++ [D])[σ.length]? = some D := by rw [← h]; simp

theorem alive_fp {env : Env} {own : List Str} {ρ : Rho} (R : Rel G g φ σ env own ρ s) {a : Addr} (ha : s.heap.get? a = none) : a ∉ fpOf env own := fun q => by
  rcases List.mem_cons.mp q with q | q
  · obtain ⟨m, ⟨o, es, ep, ho, _⟩, _⟩ := R.fr.ns
    rw [← q, ha] at ho; cases ho
  · obtain ⟨x, hx, hc⟩ := List.mem_filterMap.mp q
    obtain ⟨c, v0, e, ⟨oc, hoc, _⟩, _⟩ := R.fr.ownc x hx
    rw [hc] at e; cases e
    rw [ha] at hoc; cases hoc
theorem SR.un {h : Heap} (S : SR G g h φ σ) {a : Addr} (ha : h.get? a = none) : a ∉ φ ∧ g a = none := by
  refine ⟨fun q => ?_, ?_⟩
  · obtain ⟨o, e⟩ := S.live q
    rw [ha] at e; cases e
  · cases e : g a with
    | none => rfl
    | some o => have := S.keep _ _ e; rw [ha] at this; cases this
end

/-- a comprehension's tests -/
inductive Ifs (G : Glb) (ℓ : Nat) (sc : Scope) : List Expr → WT → Prop where
  | none : Ifs G ℓ sc [] fun Q _ σ => Q true σ
  | one {c : Expr} {W : WT} : Tt G ℓ sc c W → Ifs G ℓ sc [c] W

/-- what holds between a comprehension's turns -/
structure CmpI (G : Glb) (At : Nat → Heap → Prop) (s : Shared) (g0 : FM) (φ : List Addr) (cenv : Env) (own' : List Str) (I D : Addr) (v : V) (w : Value) (g' : FM) (φ' : List Addr) (σ' : Sto) (ρ' : Rho) (i : Nat) (arr : Array Value) (n' : Nat) (ys : List V) (s' : Shared) : Prop where
  N : Nx [] s s' g0 g' φ φ'
  R : Rel G g' φ' σ' cenv own' ρ' s'
  i1 : I ∉ φ'
  i2 : g' I = none
  i3 : At i s'.heap
  d1 : D ∉ φ'
  d2 : g' D = none
  d3 : s'.heap.get? D = some (listObj arr n')
  hys : VRs g' φ' ys arr.toList
  hvv : VR g' φ' v w
theorem sz24 {a b i n : Nat} (h : a = b) (h1 : a ≤ i) (h2 : i < n) (h3 : n ≤ 2 ^ 20) : b ≤ 2 ^ 24 := by lia
theorem sub1_lt {i n : Nat} (h : i < n) : n - (i + 1) < n - i := Nat.sub_lt_sub_left h (Nat.lt_succ_self i)
/-- what holds ahead of a turn; and behind the name's store -/
inductive CmpV (G : Glb) (At : Nat → Heap → Prop) (s : Shared) (g0 : FM) (φ : List Addr) (cenv : Env) (own' : List Str) (I D : Addr) (v : V) (w : Value) (xs : List V) (F : List V → List V → Rho → Sto → Prop) (n : Nat) (s' : Shared) : Prop
  | mk (g' : FM) (φ' : List Addr) (σ' : Sto) (ρ' : Rho) (i : Nat) (arr : Array Value) (n' : Nat) (ys : List V) (c : CmpI G At s g0 φ cenv own' I D v w g' φ' σ' ρ' i arr n' ys s') (hn : n = xs.length - i) (hi : i ≤ xs.length) (hy : ys.length ≤ i) (hF : F (xs.drop i) ys ρ' σ') : CmpV G At s g0 φ cenv own' I D v w xs F n s'
inductive CmpT (G : Glb) (At : Nat → Heap → Prop) (s : Shared) (g0 : FM) (φ : List Addr) (cenv : Env) (own' : List Str) (I D : Addr) (v : V) (w : Value) (xs : List V) (F : List V → List V → Rho → Sto → Prop) (n : Nat) (s' : Shared) : Prop
  | mk (g' : FM) (φ' : List Addr) (σ' : Sto) (ρ' : Rho) (i : Nat) (arr : Array Value) (n' : Nat) (ys : List V) (hn : n = xs.length - i) (c : CmpI G At s g0 φ cenv own' I D v w g' φ' σ' ρ' (i + 1) arr n' ys s') (hi : i < xs.length) (hy : ys.length ≤ i) (hF : F (xs.drop (i + 1)) ys ρ' σ') : CmpT G At s g0 φ cenv own' I D v w xs F n s'
theorem comp_core {G : Glb} {ℓ : Nat} {sc scope : Scope} {A : Around} {env : Env} {own : List Str} {s : Shared} {g : FM} {φ : List Addr} {σ : Sto} {ρ : Rho} {t iter elt : Expr} {ifs : List Expr} {pos : Pos}
    {Wa : WA} {Wi : WT} {We : WE} {Q : V → Sto → Prop} {E : Value → Shared → Prop} {v : V} {w : Value} {xs : List V} {cl : List (Str × Addr)} {P : Value → Addr → Result → Shared → Prop}
    (cx : Cx ℓ A) (eo : EnvOk sc env) (R : Rel G g φ σ env own ρ s) (hk : scope.kind = .function) (hn : NamesOk scope)
    (hfk : ∀ p ∈ scope.names, p.2 = .free → sc.names.lookup p.1 = some .cell ∨ sc.names.lookup p.1 = some .free)
    (hcl : ∀ x, (x, NameKind.free) ∈ scope.names → cl.lookup x = env.cells.lookup x)
    (ha : Asg G ℓ (relab scope sc) (ownOf scope) t Wa) (hi : Ifs G ℓ (relab scope sc) ifs Wi) (he : Ev G ℓ (relab scope sc) elt We)
    (hv : VR g φ v w) (hx : aItems σ v = some xs) (hl : xs.length ≤ 2 ^ 20) (hW : wCompL (aGd v xs) Wa Wi We xs [] (newL Q) (innerRho scope ρ) σ)
    (k : ∀ D C s' g' φ' σ' v', Nx [] s s' g g' φ φ' → Rel G g' φ' σ' env own ρ s' → VR g' φ' v' (.ref D) → Q v' σ' → s.heap.get? C = none → C ∉ φ' → g' C = none → (∃ m, s'.heap.Ns C m) → P (.ref D) C (.ok .next) s') :
    wpAny (model G.prog G.w) A (pyIter w) (fun it s₂ => wpAny (model G.prog G.w) A (newList []) (fun acc s₃ => wpAny (model G.prog G.w) A (newFunctionEnv scope env.globals cl [] env.qual none .none (some env)) (fun cenv s₄ =>
      codeAny (model G.prog G.w) A (.compStart (.ListComp elt [⟨t, iter, ifs, 0⟩] scope pos) 0 it acc { cenv with scope := relabel scope env }) (P acc cenv.locals) s₄) E s₃) E s₂) E s := by
  refine iter_itr R.sr hv hx fun At o T h0 => ?_
  have hIn : s.heap.get? s.heap.objs.size = none := get?_size _
  generalize hI : s.heap.objs.size = I at T h0 hIn ⊢
  refine wpAny_newObj_type ?_
  dsimp only
  have hsz : (s.heap.push o).objs.size = I + 1 := by rw [Heap.size_push, hI]
  have hDn' : (s.heap.push o).get? (I + 1) = none := by rw [← hsz]; exact get?_size _
  rw [hsz]
  generalize hD : I + 1 = D at hDn' ⊢
  have hDn : s.heap.get? D = none := by
    cases q : s.heap.get? D with
    | none => rfl
    | some o' => have := Heap.lt_size q; rw [hI, ← hD] at this; exact absurd this (Nat.not_lt.mpr (Nat.le_succ I))
  have hDI : D ≠ I := by rw [← hD]; exact Nat.succ_ne_self I
  generalize hH : (s.heap.push o).push { cls := .type "list", data := .seq ([] : List Value).toArray } = H
  have keepH : ∀ b p, s.heap.get? b = some p → H.get? b = some p := fun b p e => by rw [← hH]; exact Heap.get?_push_of_some _ (Heap.get?_push_of_some _ e)
  have hHD : H.get? D = some (listObj #[] 0) := by rw [← hH, ← hD, ← hsz]; exact Heap.get?_push_size _ rfl
  have hHAt : At 0 H := T.frame _ _ _ h0 fun p e => by rw [← hH]; exact Heap.get?_push_of_some _ e
  have hCn : H.get? H.objs.size = none := get?_size _
  simp only [newFunctionEnv, Option.isSome_some, if_true]
  refine wpAny_bind (wpAny_alloc ?_)
  refine wpAny_bind (wpAny_layCells _ (fun name kind cells => by cases kind == NameKind.cell <;> simp) _ _ _ _ ?_)
  rw [List.forIn_nil]
  refine wpAny_bind (wpAny_pure (wpAny_pure ?_))
  dsimp only
  rw [show (H.push { cls := .type "dict", data := .dict #[] }).objs.size = H.objs.size + 1 from Heap.size_push ..]
  generalize hE : ({ scope := relabel scope env, locals := H.objs.size, globals := env.globals, cells := cellsFrom (H.objs.size + 1) scope.names cl, qual := env.qual, func := none, code := env.code, frame := env.frame, builtins := env.builtins } : Env) = cenv
  have hEl : cenv.locals = H.objs.size := by rw [← hE]
  have eo' : EnvOk (relab scope sc) cenv := ⟨by rw [← hE]; exact relab_eq eo, hk, by rw [← hE]; exact eo.globals, by rw [← hE]; exact eo.builtins⟩
  -- the frame
  have free : ∀ x, scope.names.lookup x = some .free → (x, NameKind.free) ∈ scope.names := fun x h => mem_of_lookup h
  obtain ⟨R₄, N₄, hfr⟩ := Rel.frame (s := { s with heap := H }) (cls := .type "dict") (sc := scope) (sc' := relab scope sc) (cl := cl) (ρ₀ := innerRho scope ρ) (env' := cenv) ⟨R.ok.toks, R.ok.bare⟩ (R.frz_sr.keeps keepH) (by
      intro x u hu
      unfold innerRho at hu
      by_cases hf : scope.names.lookup x = some .free
      · rw [if_pos hf] at hu
        refine ⟨?_, fun q => ?_, ?_⟩
        · rw [relab_lookup, hf]
          show some (rk sc x .free) ≠ _
          unfold rk
          split <;> simp
        · have := hn _ q
          rw [hf] at this; cases this
        · obtain ⟨c, w', hc, ⟨oc, hoc, hd⟩, hr, hz⟩ := R.outer (scope := scope) eo (hfk _ (free x hf) rfl) hu
          exact ⟨c, w', (hcl x (free x hf)).trans hc, ⟨oc, keepH _ _ hoc, hd⟩, VR.mono R.frz_sub (fun _ _ e => e) hr, hz⟩
      · rw [if_neg hf] at hu; cases hu) eo'.scope hEl (by rw [← hE])
  dsimp only at R₄ N₄ hfr
  have hfrs : ∀ a ∈ fpOf cenv (ownOf scope), s.heap.get? a = none := fun a ha => by
    cases q : s.heap.get? a with
    | none => rfl
    | some p => have := hfr a ha; rw [keepH _ _ q] at this; cases this
  have keep4 : ∀ b p, H.get? b = some p → (pushCells (H.push { cls := .type "dict", data := .dict #[] }) scope.names).get? b = some p := fun b p e => pushCells_keeps _ _ _ _ (Heap.get?_push_of_some _ e)
  generalize pushCells (H.push { cls := .type "dict", data := .dict #[] }) scope.names = H4 at R₄ N₄ keep4 ⊢
  have N0 : Nx [] s { s with heap := H4 } (frz g (cellsOf env own) s.heap) (frz g (cellsOf env own) s.heap) φ φ :=
    ⟨rfl, rfl, fun _ _ e => e, fun _ _ e => .inl e, ⟨[], by simp, by simp⟩, fun b p _ _ e => keep4 b p (keepH b p e), fun b e => by
      cases q : s.heap.get? b with
      | none => exact absurd q e
      | some p => show H4.get? b ≠ _; rw [keep4 b p (keepH b p q)]; simp⟩
  have hIφ := (R.sr.un hIn).1
  have hDφ := (R.sr.un hDn).1
  have hIg := (R.frz_sr.un hIn).2
  have hDg := (R.frz_sr.un hDn).2
  have hIfp : I ∉ fpOf cenv (ownOf scope) := fun q => by
    have := hfr I q
    obtain ⟨p, n, e, _⟩ := T.live _ _ hHAt
    rw [this] at e; cases e
  have hDfp : D ∉ fpOf cenv (ownOf scope) := fun q => by
    have := hfr D q
    rw [this] at hHD; cases hHD
  have hCD : H.objs.size ≠ D := fun q => by rw [q, hHD] at hCn; cases hCn
  have hCs : s.heap.get? H.objs.size = none := by
    cases q : s.heap.get? H.objs.size with
    | none => rfl
    | some p => rw [keepH _ _ q] at hCn; cases hCn
  -- the loop
  let Inv : Nat → Shared → Prop := CmpV G At s (frz g (cellsOf env own) s.heap) φ cenv (ownOf scope) I D v w xs fun r ys ρ' σ' => wCompL (aGd v xs) Wa Wi We r ys (newL Q) ρ' σ'
  have start : Inv xs.length { s with heap := H4 } := ⟨_, _, _, _, 0, #[], 0, [], ⟨N0, R₄, hIφ, hIg, T.frame _ _ _ hHAt fun p e => keep4 _ _ e, hDφ, hDg, keep4 _ _ hHD, rfl, VR.mono R.frz_sub (fun _ _ e => e) hv⟩, rfl, Nat.zero_le _, Nat.le_refl _, by simpa using hW⟩
  have ending : ∀ (s' : Shared) g' φ' σ' ρ' arr n' ys, Nx [] s s' (frz g (cellsOf env own) s.heap) g' φ φ' → Rel G g' φ' σ' cenv (ownOf scope) ρ' s' → D ∉ φ' → g' D = none → s'.heap.get? D = some (listObj arr n') →
      VRs g' φ' ys arr.toList → newL Q ys σ' → P (.ref D) H.objs.size (.ok .next) s' := by
    intro s' g' φ' σ' ρ' arr n' ys N' R' d1 d2 d3 hys hQ
    obtain ⟨Ro, No, Hd⟩ := R.thaw N' R'.ok R'.sr
    have d2' : thaw g' (cellsOf env own) D = none := thaw_none d2
    have c1 : H.objs.size ∉ φ' := hEl ▸ R'.fr.Lφ
    have c2 : thaw g' (cellsOf env own) H.objs.size = none := thaw_none (hEl ▸ R'.fr.Lg)
    have c3 : ∃ m, s'.heap.Ns H.objs.size m := by obtain ⟨m, hm, _⟩ := R'.fr.ns; exact ⟨m, hEl ▸ hm⟩
    rcases hQ with hQ | hQ
    · have N3 := No.addF (o := listObj arr n') hDn d2'
      refine k D _ s' _ _ _ (.list ys) N3 (R.step N3 R'.ok (Ro.sr.addF d1 d2' d3)) ⟨D, arr, n', rfl, ins_at, (hys.hid Hd).addF d2'⟩ hQ hCs c1 ?_ c3
      unfold ins; rw [if_neg hCD]; exact c2
    · have N3 := No.addM hDn
      have S3 := Ro.sr.addM (m := .list ys) d1 d2' ⟨arr, n', d3, hys.hid Hd⟩
      refine k D _ s' _ _ _ (.ref σ'.length) N3 (R.step N3 R'.ok S3) ⟨D, rfl, at_end Ro.sr.len⟩ hQ hCs (fun q => ?_) c2 c3
      rcases List.mem_append.mp q with q | q
      · exact c1 q
      · exact hCD (List.mem_singleton.mp q)
  have append : ∀ (s' : Shared) g' φ' σ' ρ' i arr n' ys y u (En : Value → Shared → Prop), CmpI G At s (frz g (cellsOf env own) s.heap) φ cenv (ownOf scope) I D v w g' φ' σ' ρ' (i + 1) arr n' ys s' → i < xs.length → ys.length ≤ i → VR g' φ' y u → wCompL (aGd v xs) Wa Wi We (xs.drop (i + 1)) (ys ++ [y]) (newL Q) ρ' σ' →
      wpAny (model G.prog G.w) A (call (.builtin "list.append") [.ref D, u]) (fun _ s₅ => ∃ m, m < xs.length - i ∧ Inv m s₅) En s' := by
    rintro s' g' φ' σ' ρ' i arr n' ys y u En ⟨N', R', i1, i2, i3, d1, d2, d3, hys, hvv⟩ hlt hle hy hQ
    have hsz' : arr.size ≤ sizeLine := by
      have := hys.length
      rw [Array.length_toList] at this
      exact sz24 this.symm hle hlt hl
    refine wpAny_list_append_plain (items := arr) ⟨n', d3⟩ (fun h' hp hs => ?_) hsz'
    obtain ⟨n'', hp⟩ := hp
    have hk' : ∀ b p, b ≠ D → s'.heap.get? b = some p → h'.get? b = some p := fun b p q e => hs.extBut b p q e
    refine ⟨xs.length - (i + 1), sub1_lt hlt, g', φ', σ', ρ', i + 1, arr.push u, n'', ys ++ [y], ⟨N'.priv (I := D) hDn rfl rfl hk', R'.priv d1 hDfp d2 hk' R'.ok.toks R'.ok.bare, i1, i2, T.frame _ _ _ i3 fun p e => hk' _ _ (Ne.symm hDI) e,
      d1, d2, hp, ?_, hvv⟩, rfl, hlt, by rw [List.length_append]; exact Nat.succ_le_succ hle, hQ⟩
    rw [Array.toList_push]; exact hys.append (VRs.single hy)
  have turn : ∀ n (s₁ : Shared) (En : Value → Shared → Prop), Inv n s₁ → wpAny (model G.prog G.w) A (pyNext (.ref I)) (fun r s₁ => match r with
      | none => P (.ref D) H.objs.size (.ok .next) s₁
      | some u => wpAny (model G.prog G.w) A (letOwnedTupleGo t (.ref I) u) (fun _ s₀ => wpAny (model G.prog G.w) A (assign t cenv u) (fun _ s₂ => CmpT G At s (frz g (cellsOf env own) s.heap) φ cenv (ownOf scope) I D v w xs (fun r ys ρ₂ σ₂ =>
        Wi (fun b σ'' => if b = true then We (fun y σ''' => wCompL (aGd v xs) Wa Wi We r (ys ++ [y]) (newL Q) ρ₂ σ''') ρ₂ σ'' else wCompL (aGd v xs) Wa Wi We r ys (newL Q) ρ₂ σ'') ρ₂ σ₂) n s₂) En s₀) En s₁) En s₁ := by
    rintro n s₁ En ⟨g₁, φ₁, σ₁, ρ₁, i, arr, n', ys, ⟨N₁, R₁, i1, i2, i3, d1, d2, d3, hys, hvv⟩, rfl, hle, hyl, hW₁⟩
    have cases' : xs.drop i = [] ∧ i = xs.length ∨ ∃ x, xs[i]? = some x ∧ xs.drop i = x :: xs.drop (i + 1) := by
      rcases Nat.lt_or_ge i xs.length with q | q
      · exact .inr ⟨xs[i], by simp [q], by rw [List.drop_eq_getElem_cons q]⟩
      · exact .inl ⟨List.drop_eq_nil_of_le q, Nat.le_antisymm hle q⟩
    rcases cases' with ⟨hd, hll⟩ | ⟨x, hxi, hd⟩
    · rw [hd] at hW₁
      obtain ⟨hGd, hQ₂⟩ := hW₁
      refine T.done A s₁ g₁ φ₁ σ₁ _ _ cx.handled R₁.sr hvv hGd (hll ▸ i3) fun h' tk hk htk => ?_
      exact ending _ g₁ φ₁ σ₁ ρ₁ arr n' ys (N₁.priv (I := I) hIn rfl rfl hk) (R₁.priv i1 hIfp i2 hk (Nat.le_trans R₁.ok.toks htk) R₁.ok.bare) d1 d2 (hk _ _ hDI d3) hys hQ₂
    · rw [hd] at hW₁
      obtain ⟨hGd, hQ₂⟩ := hW₁
      refine T.item A s₁ g₁ φ₁ σ₁ i x _ _ R₁.sr hvv hGd i3 hxi fun u h' tk hr hA₃ hk htk => ?_
      have N₃ : Nx [] s { s₁ with heap := h', toks := tk } (frz g (cellsOf env own) s.heap) g₁ φ φ₁ := N₁.priv (I := I) hIn rfl rfl hk
      have R₃ : Rel G g₁ φ₁ σ₁ cenv (ownOf scope) ρ₁ { s₁ with heap := h', toks := tk } := R₁.priv i1 hIfp i2 hk (Nat.le_trans R₁.ok.toks htk) R₁.ok.bare
      refine letGo_itr (T.live _ _ hA₃) ?_
      obtain ⟨oI, nI, hoI, _⟩ := T.live _ _ hA₃
      refine ha A cenv _ g₁ φ₁ σ₁ ρ₁ x u _ cx eo' R₃ hr hQ₂ _ _ fun s₄ g₄ φ₄ σ₄ ρ₄ N₄ R₄ hQ₄ => ?_
      obtain ⟨a1, a2, a3⟩ := N₄.privKeep hIfp i1 i2 hoI
      obtain ⟨b1, b2, b3⟩ := N₄.privKeep hDfp d1 d2 (hk _ _ hDI d3)
      exact ⟨g₄, φ₄, σ₄, ρ₄, i, arr, n', ys, rfl, ⟨N₃.leave N₄ hfrs, R₄, a1, a2, T.frame _ _ _ hA₃ (fun p e => by rw [hoI] at e; cases e; exact a3), b1, b2, b3, N₄.vrs hys, N₄.vr hvv⟩, (List.getElem?_eq_some_iff.mp hxi).1, hyl, hQ₄⟩
  have elem : ∀ (s₂ : Shared) g₂ φ₂ σ₂ ρ₂ i arr n' ys (En : Value → Shared → Prop), CmpI G At s (frz g (cellsOf env own) s.heap) φ cenv (ownOf scope) I D v w g₂ φ₂ σ₂ ρ₂ (i + 1) arr n' ys s₂ → i < xs.length → ys.length ≤ i → We (fun y σ''' => wCompL (aGd v xs) Wa Wi We (xs.drop (i + 1)) (ys ++ [y]) (newL Q) ρ₂ σ''') ρ₂ σ₂ →
      wpAny (model G.prog G.w) A (eval elt cenv) (fun y s₄ => wpAny (model G.prog G.w) A (call (.builtin "list.append") [.ref D, y]) (fun _ s₅ => ∃ m, m < xs.length - i ∧ Inv m s₅) En s₄) En s₂ := by
    rintro s₂ g₂ φ₂ σ₂ ρ₂ i arr n' ys En ⟨N₂, R₂, i1, i2, i3, d1, d2, d3, hys, hvv⟩ hlt hyl hQ
    refine he A cenv _ s₂ g₂ φ₂ σ₂ ρ₂ _ cx eo' R₂ hQ _ _ fun u s₄ g₄ φ₄ σ₄ y N₄ R₄ hy hQ₄ => ?_
    obtain ⟨oI, nI, hoI, _⟩ := T.live _ _ i3
    obtain ⟨a1, a2, a3⟩ := N₄.privKeep (by simp) i1 i2 hoI
    obtain ⟨b1, b2, b3⟩ := N₄.privKeep (by simp) d1 d2 d3
    exact append s₄ g₄ φ₄ σ₄ ρ₂ i arr n' ys y u En ⟨N₂.trans N₄, R₄, a1, a2, T.frame _ _ _ i3 fun p e => (by rw [hoI] at e; cases e; exact a3), b1, b2, b3, N₄.vrs hys, N₄.vr hvv⟩ hlt hyl hy hQ₄
  have main : ∀ (I' : Value), I' = .ref I → codeAny (model G.prog G.w) A (.compLoop (.ListComp elt [⟨t, iter, ifs, 0⟩] scope pos) 0 I' (.ref D) cenv) (P (.ref D) H.objs.size) { s with heap := H4 } := by
    rintro _ rfl
    cases hi with
    | none =>
      refine kcp_loop Inv (fun n s₁ hInv => ?_) xs.length start
      refine wpAny_mono (turn n s₁ _ hInv) (fun r s₂ h => ?_) fun _ _ h => h
      cases r with
      | none => exact h
      | some u =>
        refine wpAny_mono h (fun _ s₃ h => wpAny_mono h (fun _ s₄ h => ?_) fun _ _ h => h) fun _ _ h => h
        obtain ⟨g₂, φ₂, σ₂, ρ₂, i, arr, n', ys, rfl, hC, hlt, hyl, hQ⟩ := h
        exact elem s₄ g₂ φ₂ σ₂ ρ₂ i arr n' ys _ hC hlt hyl (by simpa using hQ)
    | one hc =>
      refine kct_loop Inv (fun n s₁ hInv => ?_) xs.length start
      refine wpAny_mono (turn n s₁ _ hInv) (fun r s₂ h => ?_) fun _ _ h => h
      cases r with
      | none => exact h
      | some u =>
        refine wpAny_mono h (fun _ s₃ h => wpAny_mono h (fun _ s₄ h => ?_) fun _ _ h => h) fun _ _ h => h
        obtain ⟨g₂, φ₂, σ₂, ρ₂, i, arr, n', ys, rfl, ⟨N₂, R₂, i1, i2, i3, d1, d2, d3, hys, hvv⟩, hlt, hyl, hQ⟩ := h
        refine hc A cenv _ s₄ g₂ φ₂ σ₂ ρ₂ _ cx eo' R₂ hQ _ _ fun b s₅ g₅ φ₅ σ₅ N₅ R₅ hQ₅ => ?_
        obtain ⟨oI, nI, hoI, _⟩ := T.live _ _ i3
        obtain ⟨a1, a2, a3⟩ := N₅.privKeep (by simp) i1 i2 hoI
        obtain ⟨b1, b2, b3⟩ := N₅.privKeep (by simp) d1 d2 d3
        have at5 : At (i + 1) s₅.heap := T.frame _ _ _ i3 fun p e => by rw [hoI] at e; cases e; exact a3
        have hC5 : CmpI G At s (frz g (cellsOf env own) s.heap) φ cenv (ownOf scope) I D v w g₅ φ₅ σ₅ ρ₂ (i + 1) arr n' ys s₅ := ⟨N₂.trans N₅, R₅, a1, a2, at5, b1, b2, b3, N₅.vrs hys, N₅.vr hvv⟩
        cases b with
        | true =>
          rw [if_pos rfl] at hQ₅ ⊢
          exact elem s₅ g₅ φ₅ σ₅ ρ₂ i arr n' ys _ hC5 hlt hyl hQ₅
        | false =>
          rw [if_neg (by simp)] at hQ₅ ⊢
          exact ⟨xs.length - (i + 1), sub1_lt hlt, g₅, φ₅, σ₅, ρ₂, i + 1, arr, n', ys, hC5, rfl, hlt, Nat.le_succ_of_le hyl, hQ₅⟩
  refine codeAny_compStart_list (main _ rfl) ?_
  exact T.self A _ 0 _ _ (T.frame _ _ _ hHAt fun p e => keep4 _ _ e) (main _ rfl)


end
section
set_option autoImplicit false

section
variable {G : Glb} {ℓ : Nat} {sc scope : Scope} {own : List Str}

theorem comp_cl {env : Env} {s : Shared} {g : FM} {φ : List Addr} {σ : Sto} {ρ : Rho} (eo : EnvOk sc env) (R : Rel G g φ σ env own ρ s)
    (hfk : ∀ p ∈ scope.names, p.2 = .free → sc.names.lookup p.1 = some .cell ∨ sc.names.lookup p.1 = some .free) (hb : FreeBound scope ρ) :
    ∃ cl, closureFor scope env = pure cl ∧ ∀ x, (x, NameKind.free) ∈ scope.names → cl.lookup x = env.cells.lookup x :=
  closure_spec fun p hp hf => by
    obtain ⟨v, hv⟩ := hb p hp hf
    obtain ⟨c, w, hc, _⟩ := R.fr.cell p.1 v (by unfold Env.kindOf; rw [eo.scope]; exact hfk p hp hf) hv
    exact ⟨c, hc⟩

theorem Ev.comp {t iter elt : Expr} {ifs : List Expr} {pos : Pos} {Wf : WE} {Wa : WA} {Wi : WT} {We : WE} (hf : Ev G ℓ sc iter Wf) (ha : Asg G ℓ (relab scope sc) (ownOf scope) t Wa)
    (hi : Ifs G ℓ (relab scope sc) ifs Wi) (he : Ev G ℓ (relab scope sc) elt We) (hk : scope.kind = .function := by rfl) (hn : NamesOk scope := by unfold NamesOk; decide)
    (hfk : ∀ p ∈ scope.names, p.2 = .free → sc.names.lookup p.1 = some .cell ∨ sc.names.lookup p.1 = some .free := by decide)
    (hs : ∀ env x, foldedSetIterable iter env x = pure x := by intro _ _; rfl) :
    Ev G ℓ sc (.ListComp elt [⟨t, iter, ifs, 0⟩] scope pos) (wComp scope Wf Wa Wi We) := by
  intro A env own s g φ σ ρ Q cx eo R hW K E k
  obtain ⟨hb, hW⟩ := hW
  obtain ⟨cl, hcl, hcs⟩ := comp_cl eo R hfk hb
  rw [eval_ListComp]
  refine wpAny_comprehension_free (use := Option.none) rfl (hs env) hcl hk (fun x hx hl => hl ▸ hn x hx) ?_
  refine hf A env own s g φ σ ρ _ cx eo R hW _ _ fun w s₁ g₁ φ₁ σ₁ v N₁ R₁ hv hQ => ?_
  obtain ⟨xs, hx, hl, hW₁⟩ := hQ
  refine comp_core (P := fun acc C => compPost (model G.prog G.w) A E Option.none K acc C) cx eo R₁ hk hn hfk hcs ha hi he hv hx hl hW₁ fun D C s' g' φ' σ' v' N' R' hv' hQ' c0 c1 c2 c3 => ?_
  obtain ⟨m, hm⟩ := c3
  refine ⟨m, hm, fun h' hs' => ?_⟩
  have hk' : ∀ b p, b ≠ C → s'.heap.get? b = some p → h'.get? b = some p := fun b p q e => hs'.extBut b p q e
  exact k _ _ _ _ _ v' (N₁.trans (N'.priv (I := C) c0 rfl rfl hk')) (R'.priv c1 (alive_fp R₁ c0) c2 hk' R'.ok.toks R'.ok.bare) hv' hQ'

theorem swap_eq {env : Env} (eo : EnvOk sc env) (elt : Expr) (gens : List Comprehension) (pos : Pos) (x : Str) (p : Pos) (l : Nat) :
    swapsWith (.ListComp elt gens scope pos) (some (Expr.Name x p)) l env = pure (sc.names.lookup x == some .local && p.line == (Expr.ListComp elt gens scope pos).pos.line && !(scope.names.any fun (n, k) => n == x && (k == .local || k == .cell))) := by
  have h1 : env.blockKind = .function := by unfold Env.blockKind; rw [eo.scope, eo.kind]; rfl
  show (pure (env.blockKind == .function && env.kindOf x == some .local && p.line == (Expr.ListComp elt gens scope pos).pos.line && !(scope.names.any fun (n, k) => n == x && (k == .local || k == .cell))) : Sem Bool) = _
  rw [h1]
  unfold Env.kindOf
  rw [eo.scope]
  rfl

theorem Sx.assignComp {t iter elt : Expr} {ifs : List Expr} {x : Str} {p pos spos : Pos} {Wf : WE} {Wa : WA} {Wi : WT} {We : WE} (hf : Ev G ℓ sc iter Wf) (ha : Asg G ℓ (relab scope sc) (ownOf scope) t Wa)
    (hi : Ifs G ℓ (relab scope sc) ifs Wi) (he : Ev G ℓ (relab scope sc) elt We) (hx : canStore sc own x) (hk : scope.kind = .function := by rfl) (hn : NamesOk scope := by unfold NamesOk; decide)
    (hfk : ∀ p ∈ scope.names, p.2 = .free → sc.names.lookup p.1 = some .cell ∨ sc.names.lookup p.1 = some .free := by decide)
    (hs : ∀ env x, foldedSetIterable iter env x = pure x := by intro _ _; rfl) :
    Sx G ℓ sc own (.Assign [.Name x p] (.ListComp elt [⟨t, iter, ifs, 0⟩] scope pos) spos) fun Q ρ σ => wComp scope Wf Wa Wi We (fun v σ' => Q .nx (upd ρ x v) σ') ρ σ := by
  intro A env s g φ σ ρ Q cx eo R hW K E k
  have hsw := swap_eq (scope := scope) eo elt [⟨t, iter, ifs, 0⟩] pos x p spos.line
  cases hb : (sc.names.lookup x == some .local && p.line == (Expr.ListComp elt [⟨t, iter, ifs, 0⟩] scope pos).pos.line && !(scope.names.any fun (n, k) => n == x && (k == .local || k == .cell))) with
  | false =>
    rw [hb] at hsw
    refine wpAny_Assign_Name (Ev.comp hf ha hi he hk hn hfk hs A env own s g φ σ ρ _ cx eo R hW _ _ fun w s₁ g₁ φ₁ σ₁ v N R₁ hv hQ => ?_) hsw
    exact store_name eo R₁ hx hv fun s₂ N₂ R₂ => k _ _ _ _ _ _ .nx (N.fp.trans N₂) R₂ rfl hQ
  | true =>
    rw [hb] at hsw
    obtain ⟨hb', hW⟩ := hW
    obtain ⟨cl, hcl, hcs⟩ := comp_cl eo R hfk hb'
    rw [exec_Assign_Name_used _ _ _ _ hsw]
    refine wpAny_bind (wpAny_standAt (wpAny_bind ?_))
    show wpAny _ A (do let _ ← comprehension (.ListComp elt [⟨t, iter, ifs, 0⟩] scope pos) scope env _ (newList []) false (eval iter env) (some (PySem.assign (Expr.Name x p) env))) _ _ s
    refine wpAny_bind (wpAny_mono (wpAny_comprehension_free (use := some (PySem.assign (Expr.Name x p) env)) (Q := fun _ s' => K .next s') rfl (hs env) hcl hk (fun x hx hl => hl ▸ hn x hx) ?_) (fun _ s' hq => wpAny_pure (wpAny_pure hq)) fun _ _ e => e)
    refine hf A env own s g φ σ ρ _ cx eo R hW _ _ fun w s₁ g₁ φ₁ σ₁ v N₁ R₁ hv hQ => ?_
    obtain ⟨xs, hxs, hl, hW₁⟩ := hQ
    refine comp_core (P := fun acc C => compPost (model G.prog G.w) A E (some (PySem.assign (Expr.Name x p) env)) (fun _ s' => K .next s') acc C) cx eo R₁ hk hn hfk hcs ha hi he hv hxs hl hW₁ fun D C s' g' φ' σ' v' N' R' hv' hQ' c0 c1 c2 c3 => ?_
    show wpAny _ A (PySem.assign (Expr.Name x p) env (.ref D)) _ _ _
    refine wpAny_assign_Name (store_name eo R' hx hv' fun s₂ N₂ R₂ => ?_)
    obtain ⟨m, o, es, ep, ho, r⟩ := c3
    obtain ⟨d1, d2, d3⟩ := N₂.privKeep (alive_fp R₁ c0) c1 c2 ho
    refine ⟨m, ⟨o, es, ep, d3, r⟩, fun h' hs' => ?_⟩
    have hk' : ∀ b p, b ≠ C → s₂.heap.get? b = some p → h'.get? b = some p := fun b p q e => hs'.extBut b p q e
    exact k _ _ _ _ _ _ .nx (N₁.fp.trans ((N'.fp.trans N₂).priv (I := C) c0 rfl rfl hk')) (R₂.priv d1 (alive_fp R₁ c0) d2 hk' R₂.ok.toks R₂.ok.bare) rfl hQ'

end

end
section
set_option autoImplicit false

noncomputable abbrev S (l : List Nat) : Str := ⟨l.toArray⟩
noncomputable abbrev L (x : Str) : List Nat := x.cps.toList
theorem L_S (l : List Nat) : L (S l) = l := by simp [L, S]
theorem S_L (x : Str) : S (L x) = x := by cases x; simp [L, S]
theorem S_app (a b : List Nat) : S a ++ S b = S (a ++ b) := by
  show Str.append _ _ = _
  simp [Str.append, S]
theorem str_app (x y : Str) : x ++ y = S (L x ++ L y) := by rw [← S_app, S_L, S_L]
theorem len_L (x : Str) : (L x).length = x.length := by cases x; simp [L, Str.length]

/-- what is wanted behind a step that yields a value -/
noncomputable def Cont (G : Glb) (s : Shared) (g : FM) (φ : List Addr) (Q : V → Sto → Prop) (K : Value → Shared → Prop) : Prop :=
  ∀ w s' g' φ' σ' v, Nx [] s s' g g' φ φ' → SOk s' → SR G g' s'.heap φ' σ' → VR g' φ' v w → Q v σ' → K w s'

section
variable {G : Glb} {g g₁ : FM} {φ φ₁ : List Addr} {σ : Sto} {s s₁ : Shared} {A : Around} {Q : V → Sto → Prop} {K : Value → Shared → Prop} {E : Value → Shared → Prop}

theorem Cont.done (k : Cont G s g φ Q K) (ok : SOk s) (S : SR G g s.heap φ σ) {v : V} {w : Value} (hv : VR g φ v w) (hQ : Q v σ) {tk : Nat} (ht : 1 ≤ tk) : K w { s with toks := tk } :=
  k w _ g φ σ v (Nx.refl rfl) ⟨ht, ok.bare⟩ S hv hQ
theorem Cont.now (k : Cont G s g φ Q K) (ok : SOk s) (S : SR G g s.heap φ σ) {v : V} {w : Value} (hv : VR g φ v w) (hQ : Q v σ) : K w s :=
  k w _ g φ σ v (Nx.refl rfl) ok S hv hQ

theorem Nx.push (o : Obj) (tk : Nat) : Nx [] s { s with heap := s.heap.push o, toks := tk } g g φ φ :=
  ⟨rfl, rfl, fun _ _ e => e, fun _ _ e => .inl e, ⟨[], by simp, by simp⟩, fun b p _ _ e => Heap.get?_push_of_some _ e, fun b e => by
    cases q : s.heap.get? b with
    | none => exact absurd q e
    | some p => show (s.heap.push o).get? b ≠ none; rw [Heap.get?_push_of_some _ q]; simp⟩
theorem SR.push (S : SR G g s.heap φ σ) (o : Obj) : SR G g (s.heap.push o) φ σ := S.keeps fun b p e => Heap.get?_push_of_some _ e
/-- a new list -/
theorem Cont.list (k : Cont G s g φ Q K) (ok : SOk s) (S : SR G g s.heap φ σ) {arr : Array Value} {n : Nat} {ys : List V} (hy : VRs g φ ys arr.toList) (hQ : newL Q ys σ) {tk : Nat} (ht : 1 ≤ tk) :
    K (.ref s.heap.objs.size) { s with heap := s.heap.push (listObj arr n), toks := tk } := by
  have hn := get?_size s.heap
  obtain ⟨h1, h2⟩ := S.un hn
  have ho : (s.heap.push (listObj arr n)).get? s.heap.objs.size = some (listObj arr n) := Heap.get?_push_size _ rfl
  rcases hQ with hQ | hQ
  · exact k _ _ _ _ σ (.list ys) ((Nx.push _ _).addF hn h2) ⟨ht, ok.bare⟩ ((S.push _).addF h1 h2 ho) ⟨_, arr, n, rfl, ins_at, hy.addF h2⟩ hQ
  · exact k _ _ _ _ _ (.ref σ.length) ((Nx.push _ _).addM hn) ⟨ht, ok.bare⟩ ((S.push _).addM (m := .list ys) h1 h2 ⟨arr, n, ho, hy⟩) ⟨_, rfl, at_end S.len⟩ hQ
/-- a new frozen object -/
theorem Cont.frozen (k : Cont G s g φ Q K) (ok : SOk s) (S : SR G g s.heap φ σ) {o : Obj} (ho : (s.heap.push o).get? s.heap.objs.size = some o) {v : V} (hv : VR (ins g s.heap.objs.size o) φ v (.ref s.heap.objs.size)) (hQ : Q v σ) {tk : Nat} (ht : 1 ≤ tk) :
    K (.ref s.heap.objs.size) { s with heap := s.heap.push o, toks := tk } := by
  have hn := get?_size s.heap
  obtain ⟨h1, h2⟩ := S.un hn
  exact k _ _ _ _ σ v ((Nx.push _ _).addF hn h2) ⟨ht, ok.bare⟩ ((S.push _).addF h1 h2 ho) hv hQ
theorem Cont.tup (k : Cont G s g φ Q K) (ok : SOk s) (S : SR G g s.heap φ σ) {arr : Array Value} {n : Nat} {ys : List V} (hy : VRs g φ ys arr.toList) (hQ : Q (.tup ys) σ) {tk : Nat} (ht : 1 ≤ tk) :
    K (.ref s.heap.objs.size) { s with heap := s.heap.push (tupObj arr n), toks := tk } :=
  k.frozen (o := tupObj arr n) (v := .tup ys) ok S (Heap.get?_push_size _ rfl) ⟨_, arr, n, rfl, ins_at, hy.addF (S.un (get?_size s.heap)).2⟩ hQ ht

/-- a list's items, be it frozen or not -/
noncomputable def aList (σ : Sto) : V → Option (List V)
  | .list xs => some xs
  | .ref k => match σ[k]? with | some (.list xs) => some xs | _ => none
  | _ => none
theorem aList_obj (S : SR G g s.heap φ σ) {v : V} {w : Value} {xs : List V} (hv : VR g φ v w) (h : aList σ v = some xs) : ∃ a arr n, w = .ref a ∧ s.heap.get? a = some (listObj arr n) ∧ VRs g φ xs arr.toList := by
  cases v with
  | list ys => cases h; obtain ⟨a, arr, n, rfl, hg, hvs⟩ := hv; exact ⟨a, arr, n, rfl, S.keep _ _ hg, hvs⟩
  | ref i =>
    dsimp only [aList] at h
    split at h
    · rename_i ys hm
      cases h
      obtain ⟨a, rfl, ha⟩ := hv
      obtain ⟨arr, n, ho, hvs⟩ := S.mo _ _ _ ha hm
      exact ⟨a, arr, n, rfl, ho, hvs⟩
    · cases h
  | none => cases h
  | bool b => cases h
  | int i => cases h
  | str x => cases h
  | tup x => cases h
  | rng x => cases h
  | raw x => cases h

theorem VRs.rep {xs : List V} {ws : List Value} (h : VRs g φ xs ws) : ∀ n : Nat, VRs g φ (List.replicate n xs).flatten (List.replicate n ws).flatten
  | 0 => rfl
  | n + 1 => by rw [List.replicate_succ, List.replicate_succ, List.flatten_cons, List.flatten_cons]; exact h.append (h.rep n)

theorem foldl_flat (l : List (Array Value)) : ∀ acc : Array Value, (l.foldl (· ++ ·) acc).toList = acc.toList ++ (l.map Array.toList).flatten := by
  induction l with
  | nil => simp
  | cons a l ih => intro acc; rw [List.foldl_cons, ih]; simp

theorem cps_flat (l : List (Array Nat)) : ∀ acc : Array Nat, (l.foldl (· ++ ·) acc).toList = acc.toList ++ (l.map Array.toList).flatten := by
  induction l with
  | nil => simp
  | cons a l ih => intro acc; rw [List.foldl_cons, ih]; simp

theorem txt_mul (x : Str) (n : Int) : Txt.mul x n = S (List.replicate n.toNat (L x)).flatten := by
  unfold Txt.mul
  by_cases h1 : n < 1
  · rw [if_pos h1]
    have : n.toNat = 0 := by lia
    rw [this]; rfl
  · rw [if_neg h1]
    by_cases h2 : (n == 1 || x.length == 0) = true
    · rw [if_pos h2]
      rcases Bool.or_eq_true_iff.mp h2 with h | h
      · have : n = 1 := by simpa using h
        subst this
        show x = S (List.replicate 1 (L x)).flatten
        simp [S_L]
      · have h0 : x.length = 0 := by simpa using h
        have : L x = [] := by rw [← List.length_eq_zero_iff, len_L]; exact h0
        rw [this]
        rw [← S_L x, this]
        simp
    · rw [if_neg h2]
      have := cps_flat (List.replicate n.toNat x.cps) #[]
      cases hh : (List.replicate n.toNat x.cps).foldl (· ++ ·) #[] with
      | mk l =>
        rw [hh] at this
        simp only [List.map_replicate] at this
        show (⟨⟨l⟩⟩ : Str) = ⟨⟨_⟩⟩
        congr 2

/-- the operators -/
inductive BinR (Q : V → Sto → Prop) (σ : Sto) : Operator → V → V → Prop where
  | addi {a b : Int} (h : Q (.int (a + b)) σ) : BinR Q σ .Add (.int a) (.int b)
  | subi {a b : Int} (h : Q (.int (a - b)) σ) : BinR Q σ .Sub (.int a) (.int b)
  | muli {a b : Int} (h0 : b.natAbs ≤ 2 ^ 20) (h : Q (.int (a * b)) σ) : BinR Q σ .Mult (.int a) (.int b)
  | divi {a b : Int} (h1 : 1 ≤ b) (h2 : b ≤ 2 ^ 20) (h : Q (.int (a / b)) σ) : BinR Q σ .FloorDiv (.int a) (.int b)
  | modi {a b : Int} (h1 : 1 ≤ b) (h : Q (.int (a % b)) σ) : BinR Q σ .Mod (.int a) (.int b)
  | powi {b : Int} (h1 : 0 ≤ b) (h2 : b ≤ 1000) (h : Q (.int (2 ^ b.toNat)) σ) : BinR Q σ .Pow (.int 2) (.int b)
  | adds {x y : Str} (h1 : (L x).length + (L y).length ≤ 2 ^ 24) (h : Q (.str (S (L x ++ L y))) σ) : BinR Q σ .Add (.str x) (.str y)
  | muls {x : Str} {n : Int} (h0 : 0 ≤ n) (h1 : (L x).length ≤ 2 ^ 10) (h2 : n ≤ 2 ^ 10) (h : Q (.str (S (List.replicate n.toNat (L x)).flatten)) σ) : BinR Q σ .Mult (.str x) (.int n)
  | mulL {v : V} {n : Int} (h : ∃ xs, aList σ v = some xs ∧ xs.length ≤ 2 ^ 10 ∧ 0 ≤ n ∧ n ≤ 2 ^ 10 ∧ newL Q (List.replicate n.toNat xs).flatten σ) : BinR Q σ .Mult v (.int n)
  | addL {v u : V} (h : ∃ xs ys, aList σ v = some xs ∧ aList σ u = some ys ∧ xs.length + ys.length ≤ 2 ^ 20 ∧ newL Q (xs ++ ys) σ) : BinR Q σ .Add v u
/-- an operator -/
noncomputable def aBin (op : Operator) (a b : V) (Q : V → Sto → Prop) (σ : Sto) : Prop := BinR Q σ op a b

theorem mul_ok {a b : Int} (h : b.natAbs ≤ 2 ^ 20) : IntMulOk a b := by
  exact IntMulOk.of_right (intBits_le_64 (by lia) (by lia))
theorem pylong_no {a b : Int} (h1 : 1 ≤ b) (h2 : b ≤ 2 ^ 20) : Builtin.divisionGoesByPylong a b = false := by
  unfold Builtin.divisionGoesByPylong
  have : b.natAbs.log2 ≤ 20 := by
    have hb : b.natAbs ≤ 2 ^ 20 := by lia
    rcases Nat.lt_or_ge 20 b.natAbs.log2 with q | q
    · have : 2 ^ 21 ≤ b.natAbs := (Nat.le_log2 (by lia)).mp q
      exact ar192 this hb
    · exact q
  have h3 : (b == 0) = false := by simpa using (by exact ar193 h1 : b ≠ 0)
  simp only [h3]
  have : ¬ (b.natAbs.log2 / 30 + 1 > 300) := by exact ar194 this
  simp [this]

theorem mulOk {x : Str} {n : Int} (h0 : 0 ≤ n) (h1 : (L x).length ≤ 2 ^ 10) (h2 : n ≤ 2 ^ 10) : MulOk x n := by
  rw [len_L] at h1
  refine ⟨?_, fun h3 _ h4 => ?_, fun h3 _ => ?_⟩
  · rw [decide_eq_false (by exact ar195 h0), decide_eq_false (by exact ar196 h2)]; rfl
  · have h5 : (1024 : Int) * n ≤ 2 ^ 63 - 1 := by exact ar197 h2
    have : (1024 : Int) ≤ (2 ^ 63 - 1) / n := (Int.le_ediv_iff_mul_le (by exact ar198 h3)).mpr h5
    exact ar199 h4 this h1
  · unfold Builtin.Str.tooLong sizeLine
    refine decide_eq_false ?_
    have h5 : x.length * n.toNat ≤ 2 ^ 10 * 2 ^ 10 := Nat.mul_le_mul h1 (by lia)
    exact ar200 h5

theorem mulList {l : Addr} {items : Array Value} {k : Nat} {x : Int} {u : Tok} {K : Value → Shared → Prop} (ho : s.heap.get? l = some (listObj items k)) (h1 : -(2 ^ 63 : Int) ≤ x) (h2 : x < 2 ^ 63) (h3 : items.size * x.toNat ≤ 2 ^ 24)
    (h : K (.ref s.heap.objs.size) { s with heap := s.heap.push { cls := .type "list", data := .seq (List.foldl (fun x1 x2 => x1 ++ x2) #[] (List.replicate (if items.isEmpty = true then 0 else x.toNat) items)) } }) :
    wpAny (model G.prog G.w) A (binaryOp .Mult (.ref l) (.int x u)) K E s := by
  have fits : Builtin.List.listFitsIndex x = true := by simp [Builtin.List.listFitsIndex]; exact ar201 h1 h2
  have short : Builtin.List.listTooLong (items.size * x.toNat) = false := by simp [Builtin.List.listTooLong, sizeLine]; lia
  have hT : s.TypeIs (.ref l) "list" := ⟨_, ho, rfl⟩
  have two := call_meets (prog := G.prog) (w := G.w) (A := A) (E := E) (s := s) (Q := K) F.slot_list_mul hT F.entry_list_mul (F.args_list_mul_2 _ _)
    (AutoListH.list___mul___list_int_3 l items k x u (by rw [fits]; decide) (by exact ar202 h3) (by rw [short]; decide)) ⟨ho, h⟩
  exact wpAny_binaryOp_repeat_ref (T := "list") (U := "int") (by decide) ⟨_, ho, rfl⟩ (fun s' => typeIs_int s' x u) noFill_list_mul F.fills_int_mul F.slot_int_rmul repeat_list F.slot_int_index.lookup
    (call_meets F.slot_int_rmul (typeIs_int s x u) F.entry_int_rmul (F.args_int_rmul_2 _ _) (int___rmul___int_list x u l items k) ⟨ho, rfl, ⟨_, ho, rfl⟩, two⟩)

theorem bin_sound (cx : A.handled = none) {op : Operator} {a b : V} {wa wb : Value} (ok : SOk s) (S' : SR G g s.heap φ σ) (ha : VR g φ a wa) (hb : VR g φ b wb) (h : aBin op a b Q σ) (k : Cont G s g φ Q K) :
    wpAny (model G.prog G.w) A (binaryOp op wa wb) K E s := by
  refine of_toks ok.toks ?_
  have mulL : ∀ {v : V} {n : Int}, VR g φ v wa → b = .int n → op = .Mult → (∃ xs, aList σ v = some xs ∧ xs.length ≤ 2 ^ 10 ∧ 0 ≤ n ∧ n ≤ 2 ^ 10 ∧ newL Q (List.replicate n.toNat xs).flatten σ) →
      wpAny (model G.prog G.w) A (binaryOp op wa wb) (fun a s' => 1 ≤ s'.toks → K a s') (fun e s' => E e s') s := by
    rintro v n hv rfl rfl ⟨xs, hx, h1, h2, h3, hQ⟩
    obtain ⟨a', arr, m, rfl, ho, hvs⟩ := aList_obj S' hv hx
    obtain ⟨u, rfl⟩ := hb
    have hl := hvs.length
    rw [Array.length_toList] at hl
    refine mulList ho (by exact ar131 h2) (by exact ar203 h3) (by rw [hl]; have h5 : xs.length * n.toNat ≤ 2 ^ 10 * 2 ^ 10 := Nat.mul_le_mul h1 (by lia); exact ar204 h5) ?_
    intro ht
    refine k.list (n := 0) ok S' ?_ hQ ht
    rw [foldl_flat]
    by_cases he : arr.isEmpty = true
    · have : arr.toList = [] := by simpa using he
      have hx0 : xs = [] := by rw [← List.length_eq_zero_iff, ← hl]; simpa using he
      rw [if_pos he, hx0]
      simp [VRs]
    · rw [if_neg he]
      simpa [List.map_replicate] using hvs.rep n.toNat
  have addL : ∀ {v u : V}, VR g φ v wa → VR g φ u wb → op = .Add → (∃ xs ys, aList σ v = some xs ∧ aList σ u = some ys ∧ xs.length + ys.length ≤ 2 ^ 20 ∧ newL Q (xs ++ ys) σ) →
      wpAny (model G.prog G.w) A (binaryOp op wa wb) (fun a s' => 1 ≤ s'.toks → K a s') (fun e s' => E e s') s := by
    rintro v u hv hu rfl ⟨xs, ys, hx, hy, hl, hQ⟩
    obtain ⟨a', arr, m, rfl, ho, hvs⟩ := aList_obj S' hv hx
    obtain ⟨b', brr, m', rfl, ho', hus⟩ := aList_obj S' hu hy
    have e1 := hvs.length
    have e2 := hus.length
    rw [Array.length_toList] at e1 e2
    refine P.add_list ho ho' ?_ (by show arr.size + brr.size ≤ 2 ^ 24; exact ar205 e1 e2 hl)
    intro ht
    refine k.list (n := 0) ok S' ?_ hQ ht
    rw [Array.toList_append]; exact hvs.append hus
  cases h with
  | addi h =>
    obtain ⟨t, rfl⟩ := ha; obtain ⟨u, rfl⟩ := hb
    exact P.add_int fun ht => k.done (v := .int _) ok S' ⟨_, rfl⟩ h ht
  | subi h =>
    obtain ⟨t, rfl⟩ := ha; obtain ⟨u, rfl⟩ := hb
    exact P.sub_int fun ht => k.done (v := .int _) ok S' ⟨_, rfl⟩ h ht
  | muli h0 h =>
    obtain ⟨t, rfl⟩ := ha; obtain ⟨u, rfl⟩ := hb
    exact P.mul_int (fun ht => k.done (v := .int _) ok S' ⟨_, rfl⟩ h ht) (mul_ok h0)
  | divi h1 h2 hQ =>
    obtain ⟨t, rfl⟩ := ha; obtain ⟨u, rfl⟩ := hb
    refine floordiv_int (by exact ar193 h1) (fun ht => k.done (v := .int _) ok S' ⟨_, rfl⟩ ?_ ht) (.inl (pylong_no h1 h2))
    rw [Int.fdiv_eq_ediv_of_nonneg _ (by exact ar206 h1)]; exact hQ
  | modi h1 hQ =>
    obtain ⟨t, rfl⟩ := ha; obtain ⟨u, rfl⟩ := hb
    refine mod_int' (by exact ar193 h1) fun ht => k.done (v := .int _) ok S' ⟨_, rfl⟩ ?_ ht
    rw [Int.fmod_eq_emod_of_nonneg _ (by exact ar206 h1)]; exact hQ
  | powi h1 h2 hQ =>
    obtain ⟨t, rfl⟩ := ha; obtain ⟨u, rfl⟩ := hb
    refine pow_int h1 ?_ fun ht => k.done (v := .int _) ok S' ⟨_, rfl⟩ hQ ht
    have : Builtin.Int.intBits 2 = 2 := by decide +kernel
    rw [this]; lia
  | adds h1 hQ =>
    obtain ⟨t, rfl⟩ := ha; obtain ⟨u, rfl⟩ := hb
    refine SB.add (fun t' tk ht => k.done (v := .str _) ok S' ⟨_, rfl⟩ ?_ ht) ?_
    · rw [str_app]; exact hQ
    · rw [len_L, len_L] at h1; exact h1
  | muls h0 h1 h2 hQ =>
    obtain ⟨t, rfl⟩ := ha; obtain ⟨u, rfl⟩ := hb
    refine SB.mul (mulOk h0 h1 h2) fun t' tk ht => k.done (v := .str _) ok S' ⟨_, rfl⟩ ?_ ht
    rw [txt_mul]; exact hQ
  | mulL h => exact mulL ha rfl rfl h
  | addL h => exact addL ha hb rfl h
end

theorem Ev.bin {G : Glb} {ℓ : Nat} {sc : Scope} {l r : Expr} {op : Operator} {pos : Pos} {W₁ W₂ : WE} (h₁ : Ev G ℓ sc l W₁) (h₂ : Ev G ℓ sc r W₂) :
    Ev G ℓ sc (.BinOp l op r pos) fun Q ρ σ => W₁ (fun a σ₁ => W₂ (fun b σ₂ => aBin op a b Q σ₂) ρ σ₁) ρ σ := by
  intro A env own s g φ σ ρ Q cx eo R hW K E k
  refine wpAny_BinOp (h₁ A env own s g φ σ ρ _ cx eo R hW _ _ fun wa s₁ g₁ φ₁ σ₁ a N₁ R₁ ha hQ₁ => ?_)
  refine h₂ A env own s₁ g₁ φ₁ σ₁ ρ _ cx eo R₁ hQ₁ _ _ fun wb s₂ g₂ φ₂ σ₂ b N₂ R₂ hb hQ₂ => ?_
  exact bin_sound cx.handled R₂.ok R₂.sr (N₂.vr ha) hb hQ₂ fun w s' g' φ' σ' v N' ok' S' hv hQ => k _ _ _ _ _ v ((N₁.trans N₂).trans N') (R₂.step N' ok' S') hv hQ


end
section
set_option autoImplicit false

noncomputable def strV (v : V) : Prop := ∃ x, v = .str x ∧ PyData.strOk x = true
noncomputable def itemV (v : V) : Prop := strV v ∨ ∃ a b, v = .tup [a, b] ∧ strV a ∧ strV b

theorem reads_str {g : FM} {φ : List Addr} {h : Heap} {v : V} {w : Value} (hv : strV v) (hr : VR g φ v w) : ∃ x t, v = .str x ∧ w = .str x t ∧ Reads h w (.str x) [] ∧ PyData.canLay0 (.str x) = true := by
  obtain ⟨x, rfl, ok⟩ := hv
  obtain ⟨t, rfl⟩ := hr
  exact ⟨x, t, rfl, rfl, .str x t, by rw [PyData.canLay0]; exact ok⟩

/-- two related values of one item read as the same data -/
theorem reads_item {g : FM} {φ : List Addr} {h : Heap} (keep : ∀ b o, g b = some o → h.get? b = some o) {v : V} {w w' : Value} (hv : itemV v) (hr : VR g φ v w) (hr' : VR g φ v w') :
    ∃ d as bs, Reads h w d as ∧ Reads h w' d bs ∧ d.canLay0 = true ∧ d.depth ≤ 3 := by
  rcases hv with hv | ⟨a, b, rfl, ha, hb⟩
  · obtain ⟨x, t, rfl, rfl, h1, h2⟩ := reads_str (h := h) hv hr
    obtain ⟨t', rfl⟩ := hr'
    exact ⟨_, _, _, h1, .str x t', h2, by simp [PyData.depth]⟩
  · obtain ⟨l, arr, n, rfl, hg, u, r, e1, hu, u', r', e2, hu', e3⟩ := hr
    obtain ⟨l', arr', n', rfl, hg', y, q, f1, hy, y', q', f2, hy', f3⟩ := hr'
    have e3' : r' = [] := e3
    have f3' : q' = [] := f3
    subst e3' f3' e2 f2
    obtain ⟨x, t, rfl, rfl, h1, h2⟩ := reads_str (h := h) ha hu
    obtain ⟨t', rfl⟩ := hy
    obtain ⟨x', t'', rfl, rfl, h1', h2'⟩ := reads_str (h := h) hb hu'
    obtain ⟨t3, rfl⟩ := hy'
    refine ⟨.tuple [.str x, .str x'], _, _, .tuple (keep _ _ hg) rfl rfl (by rw [e1]; exact .cons h1 (.cons h1' .nil)), .tuple (keep _ _ hg') rfl rfl (by rw [f1]; exact .cons (.str x t') (.cons (.str x' t3) .nil)), ?_, by simp [PyData.depth, PyData.depthAll]⟩
    simp only [PyData.canLay0, PyData.canLayAll0] at h2 h2' ⊢
    simp [h2, h2']

theorem reads_items {g : FM} {φ : List Addr} {h : Heap} (keep : ∀ b o, g b = some o → h.get? b = some o) : ∀ {vs : List V} {ws ws' : List Value}, (∀ v ∈ vs, itemV v) → VRs g φ vs ws → VRs g φ vs ws' →
    ∃ ds as bs, ReadsAll h ws ds as ∧ ReadsAll h ws' ds bs ∧ PyData.canLayAll0 ds = true ∧ PyData.depthAll ds ≤ 3
  | [], ws, ws', _, hr, hr' => by
    have e1 : ws = [] := hr
    have e2 : ws' = [] := hr'
    subst e1 e2
    exact ⟨[], _, _, .nil, .nil, by simp [PyData.canLayAll0], by simp [PyData.depthAll]⟩
  | v :: vs, ws, ws', hi, hr, hr' => by
    obtain ⟨w, r, rfl, h1, h2⟩ := hr
    obtain ⟨w', r', rfl, h1', h2'⟩ := hr'
    obtain ⟨d, as, bs, a1, a2, a3, a4⟩ := reads_item keep (hi v List.mem_cons_self) h1 h1'
    obtain ⟨ds, as', bs', b1, b2, b3, b4⟩ := reads_items keep (fun u hu => hi u (List.mem_cons_of_mem _ hu)) h2 h2'
    refine ⟨d :: ds, _, _, .cons a1 b1, .cons a2 b2, by simp [PyData.canLayAll0, a3, b3], ?_⟩
    simp only [PyData.depthAll]
    exact Nat.max_le.mpr ⟨by assumption, by assumption⟩

theorem beq_dec (a b : List Nat) : (a == b) = decide (a = b) := by
  by_cases h : a = b
  · subst h; simp
  · rw [decide_eq_false h]; exact beq_eq_false_iff_ne.mpr h
theorem beq_dec' (a b : List Nat) : (a != b) = decide (a ≠ b) := by
  unfold bne
  rw [beq_dec]
  by_cases h : a = b <;> simp [h]
/-- a comparison -/
inductive CmpR (Q : Bool → Sto → Prop) (σ : Sto) : CmpOp → V → V → Prop where
  | eqi {a b : Int} (h : Q (decide (a = b)) σ) : CmpR Q σ .Eq (.int a) (.int b)
  | nei {a b : Int} (h : Q (decide (a ≠ b)) σ) : CmpR Q σ .NotEq (.int a) (.int b)
  | lti {a b : Int} (h : Q (decide (a < b)) σ) : CmpR Q σ .Lt (.int a) (.int b)
  | lei {a b : Int} (h : Q (decide (a ≤ b)) σ) : CmpR Q σ .LtE (.int a) (.int b)
  | gti {a b : Int} (h : Q (decide (a > b)) σ) : CmpR Q σ .Gt (.int a) (.int b)
  | gei {a b : Int} (h : Q (decide (a ≥ b)) σ) : CmpR Q σ .GtE (.int a) (.int b)
  | eqs {a b : Str} (h : Q (decide (L a = L b)) σ) : CmpR Q σ .Eq (.str a) (.str b)
  | nes {a b : Str} (h : Q (decide (L a ≠ L b)) σ) : CmpR Q σ .NotEq (.str a) (.str b)
  | lts {a b : Str} (h : Q (decide (L a < L b)) σ) : CmpR Q σ .Lt (.str a) (.str b)
  | les {a b : Str} (h : Q (!decide (L b < L a)) σ) : CmpR Q σ .LtE (.str a) (.str b)
  | ins {a b : Str} (h : Q (Txt.contains b a) σ) : CmpR Q σ .In (.str a) (.str b)
  | eqb {a b : Bool} (h : Q (decide (a = b)) σ) : CmpR Q σ .Eq (.bool a) (.bool b)
  | neb {a b : Bool} (h : Q (decide (a ≠ b)) σ) : CmpR Q σ .NotEq (.bool a) (.bool b)
  | eqL {a b : V} (h : ∃ xs, aList σ a = some xs ∧ aList σ b = some xs ∧ (∀ x ∈ xs, itemV x) ∧ Q true σ) : CmpR Q σ .Eq a b
  | neL {a b : V} (h : ∃ xs, aList σ a = some xs ∧ aList σ b = some xs ∧ (∀ x ∈ xs, itemV x) ∧ Q false σ) : CmpR Q σ .NotEq a b
noncomputable def aCmp (op : CmpOp) (a b : V) (Q : Bool → Sto → Prop) (σ : Sto) : Prop := CmpR Q σ op a b

section
variable {G : Glb} {g : FM} {φ : List Addr} {σ : Sto} {s : Shared} {A : Around} {E : Value → Shared → Prop}

theorem cmp_sound {ℓ : Nat} (cx : Cx ℓ A) {op : CmpOp} {a b : V} {wa wb : Value} {Q : Bool → Sto → Prop} {K : Value → Shared → Prop} (S : SR G g s.heap φ σ) (ha : VR g φ a wa) (hb : VR g φ b wb) (h : aCmp op a b Q σ)
    (k : ∀ t, Q t σ → K (.bool t) s) : wpAny (model G.prog G.w) A (compareOp op wa wb) K E s := by
  have uni := cx.units
  have lists : (∃ xs, aList σ a = some xs ∧ aList σ b = some xs ∧ (∀ x ∈ xs, itemV x)) → ∃ d as bs, Reads s.heap wa d as ∧ Reads s.heap wb d bs ∧ d.canLay0 = true ∧ A.units + min d.depth d.depth < cLine := by
    rintro ⟨xs, h1, h2, h3⟩
    obtain ⟨a', arr, n, rfl, ho, hvs⟩ := aList_obj S ha h1
    obtain ⟨b', brr, m, rfl, ho', hus⟩ := aList_obj S hb h2
    obtain ⟨ds, as, bs, r1, r2, r3, r4⟩ := reads_items S.keep h3 hvs hus
    refine ⟨.list ds, _, _, .list ho rfl rfl r1, .list ho' rfl rfl r2, by rw [PyData.canLay0]; exact r3, ?_⟩
    rw [Nat.min_self]
    simp only [PyData.depth]
    show _ < 9900
    exact ar207 uni r4
  have eqL : op = .Eq → (∃ xs, aList σ a = some xs ∧ aList σ b = some xs ∧ (∀ x ∈ xs, itemV x) ∧ Q true σ) → wpAny (model G.prog G.w) A (compareOp op wa wb) K E s := by
    rintro rfl ⟨xs, h1, h2, h3, hQ⟩
    obtain ⟨d, as, bs, r1, r2, r3, r4⟩ := lists ⟨xs, h1, h2, h3⟩
    refine SeqAt.compareEq_reads r1 r2 r3 r3 r4 ?_
    rw [SeqAt.eqv_refl d r3]; exact k _ hQ
  have neL : op = .NotEq → (∃ xs, aList σ a = some xs ∧ aList σ b = some xs ∧ (∀ x ∈ xs, itemV x) ∧ Q false σ) → wpAny (model G.prog G.w) A (compareOp op wa wb) K E s := by
    rintro rfl ⟨xs, h1, h2, h3, hQ⟩
    obtain ⟨d, as, bs, r1, r2, r3, r4⟩ := lists ⟨xs, h1, h2, h3⟩
    refine SeqAt.compareNe_reads r1 r2 r3 r3 r4 ?_
    rw [SeqAt.eqv_refl d r3]; exact k _ hQ
  cases h with
  | eqi h => obtain ⟨t, rfl⟩ := ha; obtain ⟨u, rfl⟩ := hb; exact P.eq_int (k _ h)
  | @nei x y h => obtain ⟨t, rfl⟩ := ha; obtain ⟨u, rfl⟩ := hb; refine P.ne_int ?_; have := k _ h; rwa [show (x != y) = decide (x ≠ y) by simp [bne, BEq.beq]]
  | lti h => obtain ⟨t, rfl⟩ := ha; obtain ⟨u, rfl⟩ := hb; exact P.lt_int (k _ h)
  | lei h => obtain ⟨t, rfl⟩ := ha; obtain ⟨u, rfl⟩ := hb; exact P.le_int (k _ h)
  | gti h => obtain ⟨t, rfl⟩ := ha; obtain ⟨u, rfl⟩ := hb; exact P.gt_int (k _ h)
  | gei h => obtain ⟨t, rfl⟩ := ha; obtain ⟨u, rfl⟩ := hb; exact P.ge_int (k _ h)
  | eqs h => obtain ⟨t, rfl⟩ := ha; obtain ⟨u, rfl⟩ := hb; refine P.eq_str ?_; rw [beq_dec]; exact k _ h
  | nes h => obtain ⟨t, rfl⟩ := ha; obtain ⟨u, rfl⟩ := hb; refine P.ne_str ?_; rw [beq_dec']; exact k _ h
  | lts h => obtain ⟨t, rfl⟩ := ha; obtain ⟨u, rfl⟩ := hb; exact P.lt_str (k _ h)
  | les h => obtain ⟨t, rfl⟩ := ha; obtain ⟨u, rfl⟩ := hb; exact P.le_str (k _ h)
  | ins h => obtain ⟨t, rfl⟩ := ha; obtain ⟨u, rfl⟩ := hb; exact SB.contains (k _ h)
  | @eqb x y h => cases ha; cases hb; refine eq_bool ?_; have := k _ h; rwa [show (x == y) = decide (x = y) by cases x <;> cases y <;> rfl]
  | @neb x y h => cases ha; cases hb; refine ne_bool ?_; have := k _ h; rwa [show (x != y) = decide (x ≠ y) by cases x <;> cases y <;> rfl]
  | eqL h => exact eqL rfl h
  | neL h => exact neL rfl h
end

section
variable {G : Glb} {ℓ : Nat} {sc : Scope}

theorem Ev.cmp {l r : Expr} {op : CmpOp} {pos : Pos} {W₁ W₂ : WE} (h₁ : Ev G ℓ sc l W₁) (h₂ : Ev G ℓ sc r W₂) (hm : behindInMarks op r = false := by rfl) :
    Ev G ℓ sc (.Compare l [op] [r] pos) fun Q ρ σ => W₁ (fun a σ₁ => W₂ (fun b σ₂ => aCmp op a b (fun t σ' => Q (.bool t) σ') σ₂) ρ σ₁) ρ σ := by
  intro A env own s g φ σ ρ Q cx eo R hW K E k
  refine wpAny_Compare1 (h₁ A env own s g φ σ ρ _ cx eo R hW _ _ fun wa s₁ g₁ φ₁ σ₁ a N₁ R₁ ha hQ₁ => ?_) hm
  refine h₂ A env own s₁ g₁ φ₁ σ₁ ρ _ cx eo R₁ hQ₁ _ _ fun wb s₂ g₂ φ₂ σ₂ b N₂ R₂ hb hQ₂ => ?_
  exact cmp_sound cx R₂.sr (N₂.vr ha) hb hQ₂ fun t hQ => k _ _ _ _ _ (.bool t) (N₁.trans N₂) R₂ rfl hQ
theorem Tt.cmp {l r : Expr} {op : CmpOp} {pos : Pos} {W₁ W₂ : WE} (h₁ : Ev G ℓ sc l W₁) (h₂ : Ev G ℓ sc r W₂) (hm : behindInMarks op r = false := by rfl) :
    Tt G ℓ sc (.Compare l [op] [r] pos) fun Q ρ σ => W₁ (fun a σ₁ => W₂ (fun b σ₂ => aCmp op a b Q σ₂) ρ σ₁) ρ σ := by
  intro A env own s g φ σ ρ Q cx eo R hW K E k
  refine wpAny_isTrue_Compare1 (h₁ A env own s g φ σ ρ _ cx eo R hW _ _ fun wa s₁ g₁ φ₁ σ₁ a N₁ R₁ ha hQ₁ => ?_) hm
  refine h₂ A env own s₁ g₁ φ₁ σ₁ ρ _ cx eo R₁ hQ₁ _ _ fun wb s₂ g₂ φ₂ σ₂ b N₂ R₂ hb hQ₂ => ?_
  exact cmp_sound cx R₂.sr (N₂.vr ha) hb hQ₂ fun t hQ => wpAny_truthy_bool (k _ _ _ _ _ (N₁.trans N₂) R₂ hQ)
/-- a test by a value that is a bool -/
theorem Tt.val {e : Expr} {W : WE} (h : Ev G ℓ sc e W) (hp : ∀ env whole, isTrue e env whole = (do let v ← whole; standAt e.pos; holding [v] (truthy v)) := by intro _ _; rfl) :
    Tt G ℓ sc e fun Q ρ σ => W (fun v σ' => ∃ b, v = .bool b ∧ Q b σ') ρ σ := by
  intro A env own s g φ σ ρ Q cx eo R hW K E k
  refine isTrue_plain (h A env own s g φ σ ρ _ cx eo R hW _ _ fun w s₁ g₁ φ₁ σ₁ v N₁ R₁ hv hQ => ?_) (hp env _)
  obtain ⟨b, rfl, hQ⟩ := hQ
  cases hv
  exact wpAny_truthy_bool (k _ _ _ _ _ N₁ R₁ hQ)
end

end
section
set_option autoImplicit false

theorem filt_range (l : List Nat) (a : Nat) : ∀ m, a + m ≤ l.length → ((List.range m).map (a + ·)).filterMap (l[·]?) = (l.drop a).take m
  | 0, _ => by simp
  | m + 1, h => by
    rw [List.range_succ, List.map_append, List.filterMap_append, filt_range l a m (by exact ar208 h)]
    have h1 : a + m < l.length := by exact ar209 h
    rw [List.take_succ]
    simp [List.getElem?_drop, h1]

theorem sliceRange_one (a b : Nat) : sliceRange (a : Int) (b : Int) 1 = (List.range (b - a)).map (a + ·) := by
  unfold sliceRange
  simp only [show (1 : Int) > 0 by decide, if_true, Int.ediv_one]
  by_cases h : (a : Int) < b
  · rw [if_pos h]
    have : ((b : Int) - a + 1 - 1).toNat = b - a := by lia
    rw [this]
    refine List.map_congr_left fun k hk => ?_
    lia
  · rw [if_neg h]
    have : b - a = 0 := by exact ar210 h
    rw [this]; rfl

/-- a slice by places that are none or not below nought -/
noncomputable def cut (l : List Nat) (lo hi : Option Int) : List Nat := (hi.elim l fun b => l.take b.toNat).drop (lo.elim 0 Int.toNat)
theorem mm_nat (a n : Nat) : max (0 : Int) (min (a : Int) (n : Int)) = ((min a n : Nat) : Int) := by
  rcases Nat.le_total a n with h | h
  · rw [Nat.min_eq_left h, Int.min_eq_left (Int.ofNat_le.mpr h), Int.max_eq_right (Int.natCast_nonneg a)]
  · rw [Nat.min_eq_right h, Int.min_eq_right (Int.ofNat_le.mpr h), Int.max_eq_right (Int.natCast_nonneg n)]
theorem mm_int {a : Int} (n : Nat) (h : 0 ≤ a) : max 0 (min a (n : Int)) = ((min a.toNat n : Nat) : Int) := by
  obtain ⟨k, rfl⟩ := Int.eq_ofNat_of_zero_le h
  exact mm_nat k n
theorem slice_idx (lo hi : Option Int) (n : Nat) (h1 : ∀ a, lo = some a → 0 ≤ a) (h2 : ∀ b, hi = some b → 0 ≤ b) :
    Builtin.Str.strSliceIndices lo hi 1 n = (List.range (hi.elim n (fun b => min b.toNat n) - min (lo.elim 0 Int.toNat) n)).map (min (lo.elim 0 Int.toNat) n + ·) := by
  rw [← sliceRange_one]
  unfold Builtin.Str.strSliceIndices
  dsimp only
  have p1 : (1 : Int) > 0 := by decide
  congr 1
  · cases lo with
    | none => simp
    | some a =>
      have := h1 a rfl
      dsimp only [Option.elim]
      rw [if_neg (show ¬ a < 0 by exact ar211 this), if_pos p1]; exact mm_int n this
  · cases hi with
    | none => rfl
    | some b =>
      have := h2 b rfl
      dsimp only [Option.elim]
      rw [if_neg (show ¬ b < 0 by exact ar211 this), if_pos p1]; exact mm_int n this
theorem cut_eq (l : List Nat) (lo hi : Option Int) : cut l lo hi = (l.drop (min (lo.elim 0 Int.toNat) l.length)).take (hi.elim l.length (fun b => min b.toNat l.length) - min (lo.elim 0 Int.toNat) l.length) := by
  unfold cut
  have e1 : (hi.elim l fun b => l.take b.toNat) = l.take (hi.elim l.length fun b => min b.toNat l.length) := by
    cases hi with
    | none => exact (List.take_of_length_le (Nat.le_refl _)).symm
    | some b =>
      show l.take b.toNat = l.take (min b.toNat l.length)
      rcases Nat.le_total b.toNat l.length with q | q
      · rw [Nat.min_eq_left q]
      · rw [Nat.min_eq_right q, List.take_of_length_le q, List.take_of_length_le (Nat.le_refl _)]
  rw [e1, List.drop_take]
  generalize lo.elim 0 Int.toNat = a
  rcases Nat.le_total a l.length with q | q
  · rw [Nat.min_eq_left q]
  · rw [Nat.min_eq_right q, List.drop_eq_nil_of_le q, List.drop_eq_nil_of_le (Nat.le_refl _)]; simp
theorem slice_cut (x : Str) (lo hi : Option Int) (h1 : ∀ a, lo = some a → 0 ≤ a) (h2 : ∀ b, hi = some b → 0 ≤ b) : Txt.slice x lo hi = S (cut (L x) lo hi) := by
  have hidx := slice_idx lo hi x.length h1 h2
  have hcut := cut_eq (L x) lo hi
  rw [len_L] at hcut
  have hBl : hi.elim x.length (fun b => min b.toNat x.length) ≤ x.length := by cases hi with
    | none => exact Nat.le_refl _
    | some b => exact Nat.min_le_right _ _
  have hAl : min (lo.elim 0 Int.toNat) x.length ≤ x.length := Nat.min_le_right _ _
  have hlen := len_L x
  generalize min (lo.elim 0 Int.toNat) x.length = A at hidx hcut hAl
  generalize hi.elim x.length (fun b => min b.toNat x.length) = B at hidx hcut hBl
  have hfilt : (Builtin.Str.strSliceIndices lo hi 1 x.length).filterMap (x.cps[·]?) = cut (L x) lo hi := by
    rw [hidx, hcut]
    rcases Nat.le_total A B with q | q
    · rw [← filt_range (L x) A (B - A) (by exact ar212 q hBl hlen)]
      congr 1
      funext i
      simp [L]
    · have : B - A = 0 := by exact ar213 q
      rw [this]; simp
  unfold Txt.slice
  split
  · rename_i hc
    have hl : (Builtin.Str.strSliceIndices lo hi 1 x.length).length = x.length := by simpa using hc
    rw [hidx, List.length_map, List.length_range] at hl
    rw [hcut]
    have hz : x.length = 0 ∨ (A = 0 ∧ B = x.length) := by exact ar214 hl hBl
    rcases hz with hz | ⟨hz, hz'⟩
    · have : L x = [] := by rw [← List.length_eq_zero_iff]; exact ar215 hlen hz
      rw [this]
      conv => lhs; rw [← S_L x, this]
      simp
    · rw [hz, hz', Nat.sub_zero, List.drop_zero, List.take_of_length_le (by exact ar216 hlen), S_L]
  · rw [hfilt]

theorem slice_post {x : Str} {t : Tok} {l u : Option (Int × Tok)} {K : Value → Shared → Prop} {s : Shared} (h1 : ∀ a, l.map (·.1) = some a → 0 ≤ a) (h2 : ∀ b, u.map (·.1) = some b → 0 ≤ b) (hl : (L x).length ≤ 2 ^ 24)
    (h : ∀ t' k, K (.str (S (cut (L x) (l.map (·.1)) (u.map (·.1)))) t') { s with toks := k }) : Made.post (sliceMade x t l u none) K s := by
  rw [← slice_cut x _ _ h1 h2] at h
  have hsz : x.length ≤ sizeLine := by rw [← len_L]; exact hl
  unfold sliceMade
  unfold Txt.slice at h
  have hp : slicePicked x l u none = Builtin.Str.strSliceIndices (l.map (·.1)) (u.map (·.1)) 1 x.length := rfl
  rw [hp]
  show Made.post (if ((1 : Int) == 1 && (Builtin.Str.strSliceIndices (l.map (·.1)) (u.map (·.1)) 1 x.length).length == x.length) = true then _ else _) K s
  split
  · rename_i hc
    rw [if_pos hc] at h
    exact h t s.toks
  · rename_i hc
    rw [if_neg hc] at h
    refine ⟨?_, h _ _⟩
    refine Nat.le_trans ?_ hsz
    show ((Builtin.Str.strSliceIndices (l.map (·.1)) (u.map (·.1)) 1 x.length).filterMap (x.cps[·]?)).toArray.size ≤ x.length
    rw [List.size_toArray]
    exact Nat.le_trans (List.length_filterMap_le _ _) (sliceIndices_le _ _ _)

/-- the parts of a slice -/
inductive Evo (G : Glb) (ℓ : Nat) (sc : Scope) : Option Expr → ((Option Int → Sto → Prop) → Rho → Sto → Prop) → Prop where
  | none : Evo G ℓ sc none fun Q _ σ => Q none σ
  | some {e : Expr} {W : WE} : Ev G ℓ sc e W → Evo G ℓ sc (some e) fun Q ρ σ => W (fun v σ' => ∃ i : Int, v = .int i ∧ 0 ≤ i ∧ Q (some i) σ') ρ σ

section
variable {G : Glb} {ℓ : Nat} {sc : Scope}

theorem Evo.run {o : Option Expr} {W : (Option Int → Sto → Prop) → Rho → Sto → Prop} (h : Evo G ℓ sc o W) {A : Around} {env : Env} {own : List Str} {s : Shared} {g : FM} {φ : List Addr} {σ : Sto} {ρ : Rho} {Q : Option Int → Sto → Prop} (cx : Cx ℓ A) (eo : EnvOk sc env)
    (R : Rel G g φ σ env own ρ s) (hW : W Q ρ σ) {K : Value → Shared → Prop} {E : Value → Shared → Prop}
    (k : ∀ (p : Option (Int × Tok)) s' g' φ' σ', Nx [] s s' g g' φ φ' → Rel G g' φ' σ' env own ρ s' → (∀ a, p.map (·.1) = Option.some a → 0 ≤ a) → Q (p.map (·.1)) σ' → K (partValue p) s') : wpAny (model G.prog G.w) A (evalPart o env) K E s := by
  cases h with
  | none => rw [evalPart_none]; exact wpAny_pure (k Option.none _ _ _ _ (Nx.refl rfl) R (by simp) hW)
  | some h =>
    rw [evalPart_some]
    refine h A env own s g φ σ ρ _ cx eo R hW _ _ fun w s₁ g₁ φ₁ σ₁ v N₁ R₁ hv hQ => ?_
    obtain ⟨i, rfl, h0, hQ⟩ := hQ
    obtain ⟨t, rfl⟩ := hv
    exact k (Option.some (i, t)) _ _ _ _ N₁ R₁ (fun a e => by cases e; exact h0) hQ

theorem Ev.strSlice {e : Expr} {lo hi : Option Expr} {p pos : Pos} {W : WE} {W₁ W₂ : (Option Int → Sto → Prop) → Rho → Sto → Prop} (h : Ev G ℓ sc e W) (h₁ : Evo G ℓ sc lo W₁) (h₂ : Evo G ℓ sc hi W₂)
    (hl : ∀ o r : Value, letTemporaryGo e o r = pure () := by intro _ _; rfl) :
    Ev G ℓ sc (.Subscript e (.Slice lo hi Option.none p) pos) fun Q ρ σ => W (fun v σ₁ => W₁ (fun a σ₂ => W₂ (fun b σ₃ => ∃ x, v = .str x ∧ (L x).length ≤ 2 ^ 24 ∧ Q (.str (S (cut (L x) a b))) σ₃) ρ σ₂) ρ σ₁) ρ σ := by
  intro A env own s g φ σ ρ Q cx eo R hW K E k
  refine wpAny_Subscript_str_slice ?_ hl
  refine h A env own s g φ σ ρ _ cx eo R hW _ _ fun w s₁ g₁ φ₁ σ₁ v N₁ R₁ hv hQ₁ => ?_
  refine h₁.run cx eo R₁ hQ₁ fun pa s₂ g₂ φ₂ σ₂ N₂ R₂ ha hQ₂ => ?_
  refine h₂.run cx eo R₂ hQ₂ fun pb s₃ g₃ φ₃ σ₃ N₃ R₃ hb hQ₃ => ?_
  obtain ⟨x, rfl, hx, hQ⟩ := hQ₃
  obtain ⟨t, rfl⟩ := hv
  refine ⟨x, t, pa, pb, rfl, rfl, rfl, ?_⟩
  have N : Nx [] s { s₃ with heap := s₃.heap.push { cls := .type "slice", data := .fields #[partValue pa, partValue pb, .none] } } g g₃ φ φ₃ := ((N₁.trans N₂).trans N₃).trans (Nx.push _ _)
  have S' := R₃.sr.push { cls := .type "slice", data := .fields #[partValue pa, partValue pb, .none] }
  have post : ∀ t' tk, (1 ≤ tk → K (.str (S (cut (L x) (pa.map (·.1)) (pb.map (·.1)))) t') { s₃ with heap := s₃.heap.push { cls := .type "slice", data := .fields #[partValue pa, partValue pb, .none] }, toks := tk }) := fun t' tk ht =>
    k _ _ g₃ φ₃ σ₃ (.str _) ⟨N.drawn, N.os, N.sub, N.new, N.pre, N.oth, N.ex⟩ (R.step ⟨N.drawn, N.os, N.sub, N.new, N.pre, N.oth, N.ex⟩ ⟨ht, R₃.ok.bare⟩ S') ⟨_, rfl⟩ hQ
  have ht := R₃.ok.toks
  unfold sliceMade
  have := slice_post (x := x) (t := t) (l := pa) (u := pb) (K := fun v s' => 1 ≤ s'.toks → K v s') (s := { s₃ with heap := s₃.heap.push { cls := .type "slice", data := .fields #[partValue pa, partValue pb, .none] } }) ha hb hx post
  unfold sliceMade at this
  split
  · rename_i hc; rw [if_pos hc] at this; exact this ht
  · rename_i hc; rw [if_neg hc] at this; exact ⟨this.1, this.2 (Nat.le_succ_of_le ht)⟩

/-- an item -/
noncomputable def aItem (σ : Sto) : V → V → Option V
  | .str x, .int i => if 0 ≤ i ∧ i < 2 ^ 60 then (L x)[i.toNat]?.map fun c => .str (S [c]) else none
  | v, .int i => match aList σ v with
    | some xs => if 0 ≤ i then (if i < 2 ^ 60 then xs[i.toNat]? else none) else if -(xs.length : Int) ≤ i ∧ -(2 ^ 60) ≤ i then xs[(i + xs.length).toNat]? else none
    | none => none
  | _, _ => none

theorem item_sound {g : FM} {φ : List Addr} {σ : Sto} {s : Shared} {A : Around} {E : Value → Shared → Prop} {Q : V → Sto → Prop} {K : Value → Shared → Prop} {a b u : V} {wa wb : Value} {ve se : Expr} (ok : SOk s) (S' : SR G g s.heap φ σ) (ha : VR g φ a wa) (hb : VR g φ b wb)
    (h : aItem σ a b = some u) (hQ : Q u σ) (k : Cont G s g φ Q K) (hs : ∀ o i : Value, ∃ ops, subscripted se false o i = operate ops (getItem o i)) : wpAny (model G.prog G.w) A (subscriptTail ve se wa wb) K E s := by
  have lists : ∀ i : Int, b = .int i → (match aList σ a with | some xs => if 0 ≤ i then (if i < 2 ^ 60 then xs[i.toNat]? else none) else if -(xs.length : Int) ≤ i ∧ -(2 ^ 60) ≤ i then xs[(i + xs.length).toNat]? else none | none => none) = some u →
      wpAny (model G.prog G.w) A (subscriptTail ve se wa wb) K E s := by
    rintro i rfl hi
    obtain ⟨t, rfl⟩ := hb
    split at hi
    · rename_i xs hx
      obtain ⟨a', arr, n, rfl, ho, hvs⟩ := aList_obj S' ha hx
      obtain ⟨ops, hops⟩ := hs (.ref a') (.int i t)
      have hl := hvs.length
      rw [Array.length_toList] at hl
      by_cases h0 : 0 ≤ i
      · rw [if_pos h0] at hi
        by_cases h1 : i < 2 ^ 60
        · rw [if_pos h1] at hi
          obtain ⟨w, hw, hr⟩ := hvs.get hi
          exact tail_any (T := "list") ⟨_, ho, rfl⟩ slot_list_getitem.lookup (wpAny_getItem_list (isListObj ho) h0 (by exact ar217 h1) (by simpa using hw) (k.now ok S' hr hQ)) hops
        · rw [if_neg h1] at hi; cases hi
      · rw [if_neg h0] at hi
        by_cases h1 : -(xs.length : Int) ≤ i ∧ -(2 ^ 60) ≤ i
        · rw [if_pos h1] at hi
          obtain ⟨w, hw, hr⟩ := hvs.get hi
          exact tail_any (T := "list") ⟨_, ho, rfl⟩ slot_list_getitem.lookup (wpAny_getItem_list_neg (isListObj ho) (by exact ar218 h0) (by rw [hl]; exact h1.1) (by exact ar219 h1) (by rw [hl]; simpa using hw) (k.now ok S' hr hQ)) hops
        · rw [if_neg h1] at hi; cases hi
    · cases hi
  cases a <;> cases b <;> first | (exact lists _ rfl h) | (cases h; done) | skip
  case str.int x i =>
    obtain ⟨t, rfl⟩ := ha; obtain ⟨t', rfl⟩ := hb
    dsimp only [aItem] at h
    by_cases h0 : 0 ≤ i ∧ i < 2 ^ 60
    · rw [if_pos h0] at h
      cases hc : (L x)[i.toNat]? with
      | none => rw [hc] at h; cases h
      | some c =>
        rw [hc] at h; cases h
        obtain ⟨ops, hops⟩ := hs (.str x t) (.int i t')
        have hlt : i.toNat < x.length := by rw [← len_L]; exact (List.getElem?_eq_some_iff.mp hc).1
        refine tail_any (T := "str") (typeIs_str _ _ _) F.slot_str_getitem.lookup (P.getItem_str (c := c) ?_ ?_ ?_) hops
        · rw [decide_eq_false (by exact ar220 h0), decide_eq_false (by exact ar221 h0)]; rfl
        · have : seqIndex? i x.length = some i.toNat := by
            unfold seqIndex?
            simp only [if_neg (show ¬ i < 0 by exact ar222 h0)]
            rw [if_pos (by rw [Bool.and_eq_true]; exact ⟨decide_eq_true (by exact ar223 h0), decide_eq_true (by lia)⟩)]
          rw [this]
          simpa [L] using hc
        · exact k.done (v := .str _) ok S' ⟨_, rfl⟩ hQ (Nat.le_succ_of_le ok.toks)
    · rw [if_neg h0] at h; cases h

theorem Ev.item {e i : Expr} {pos : Pos} {W₁ W₂ : WE} (h₁ : Ev G ℓ sc e W₁) (h₂ : Ev G ℓ sc i W₂) (hs : ∀ o v : Value, ∃ ops, subscripted i false o v = operate ops (getItem o v) := by intro o v; exact ⟨[o, v], rfl⟩) :
    Ev G ℓ sc (.Subscript e i pos) fun Q ρ σ => W₁ (fun a σ₁ => W₂ (fun b σ₂ => ∃ u, aItem σ₂ a b = some u ∧ Q u σ₂) ρ σ₁) ρ σ := by
  intro A env own s g φ σ ρ Q cx eo R hW K E k
  refine Subscript_ (h₁ A env own s g φ σ ρ _ cx eo R hW _ _ fun wa s₁ g₁ φ₁ σ₁ a N₁ R₁ ha hQ₁ => ?_)
  refine h₂ A env own s₁ g₁ φ₁ σ₁ ρ _ cx eo R₁ hQ₁ _ _ fun wb s₂ g₂ φ₂ σ₂ b N₂ R₂ hb hQ₂ => ?_
  obtain ⟨u, hu, hQ⟩ := hQ₂
  exact item_sound R₂.ok R₂.sr (N₂.vr ha) hb hu hQ (fun w s' g' φ' σ' v N' ok' S' hv hQ => k _ _ _ _ _ v ((N₁.trans N₂).trans N') (R₂.step N' ok' S') hv hQ) hs
end

end
section
set_option autoImplicit false

section
variable {G : Glb} {g g₁ : FM} {φ φ₁ : List Addr} {σ : Sto} {s s₁ : Shared} {A : Around} {Q : V → Sto → Prop} {K : Value → Shared → Prop} {E : Value → Shared → Prop}

/-- the heap grows, the rest stays -/
theorem Nx.up {h' : Heap} {tk : Nat} (hk : ∀ b o, s.heap.get? b = some o → h'.get? b = some o) : Nx [] s { s with heap := h', toks := tk } g g φ φ :=
  ⟨rfl, rfl, fun _ _ e => e, fun _ _ e => .inl e, ⟨[], by simp, by simp⟩, fun b p _ _ e => hk b p e, fun b e => by
    cases q : s.heap.get? b with
    | none => exact absurd q e
    | some p => show h'.get? b ≠ none; rw [hk b p q]; simp⟩
theorem Cont.up (k : Cont G s g φ Q K) (ok : SOk s) (S : SR G g s.heap φ σ) {v : V} {w : Value} {h' : Heap} {tk : Nat} (hk : ∀ b o, s.heap.get? b = some o → h'.get? b = some o) (hv : VR g φ v w) (hQ : Q v σ) (ht : 1 ≤ tk) : K w { s with heap := h', toks := tk } :=
  k w _ g φ σ v (Nx.up hk) ⟨ht, ok.bare⟩ (S.keeps hk) hv hQ
theorem Cont.listAt (k : Cont G s g φ Q K) (ok : SOk s) (S : SR G g s.heap φ σ) {h' : Heap} {D : Addr} {arr : Array Value} {n : Nat} {ys : List V} (hk : ∀ b o, s.heap.get? b = some o → h'.get? b = some o) (hD : s.heap.get? D = none)
    (ho : h'.get? D = some (listObj arr n)) (hy : VRs g φ ys arr.toList) (hQ : newL Q ys σ) {tk : Nat} (ht : 1 ≤ tk) : K (.ref D) { s with heap := h', toks := tk } := by
  obtain ⟨h1, h2⟩ := S.un hD
  rcases hQ with hQ | hQ
  · exact k _ _ _ _ σ (.list ys) ((Nx.up hk).addF hD h2) ⟨ht, ok.bare⟩ ((S.keeps hk).addF h1 h2 ho) ⟨_, arr, n, rfl, ins_at, hy.addF h2⟩ hQ
  · exact k _ _ _ _ _ (.ref σ.length) ((Nx.up hk).addM hD) ⟨ht, ok.bare⟩ ((S.keeps hk).addM (m := .list ys) h1 h2 ⟨arr, n, ho, hy⟩) ⟨_, rfl, at_end S.len⟩ hQ
end

section
variable {G : Glb} {ℓ : Nat} {sc : Scope}

theorem Ev.list {es : List Expr} {pos : Pos} {Ws : WL} (h : Evs G ℓ sc es Ws) : Ev G ℓ sc (.List es pos) fun Q ρ σ => Ws (fun vs σ' => vs.length ≤ 2 ^ 20 ∧ newL Q vs σ') ρ σ := by
  intro A env own s g φ σ ρ Q cx eo R hW K E k
  refine wpAny_List (h A env own s g φ σ ρ _ cx eo R hW _ _ _ fun ws s₁ g₁ φ₁ σ₁ vs N₁ R₁ hv hQ => ⟨?_, ?_⟩)
  · rw [hv.length]; exact Nat.le_trans hQ.1 (by decide)
  · have c : Cont G s₁ g₁ φ₁ Q K := fun w s' g' φ' σ' v N' ok' S' hv hQ => k _ _ _ _ _ v (N₁.trans N') (R₁.step N' ok' S') hv hQ
    exact c.list (arr := ws.toArray) (n := 0) R₁.ok R₁.sr (by simpa using hv) hQ.2 R₁.ok.toks
theorem Ev.tuple {es : List Expr} {n : Nat} {pos : Pos} {Ws : WL} (h : Evs G ℓ sc es Ws) : Ev G ℓ sc (.Tuple es n pos) fun Q ρ σ => Ws (fun vs σ' => vs.length ≤ 2 ^ 20 ∧ Q (.tup vs) σ') ρ σ := by
  intro A env own s g φ σ ρ Q cx eo R hW K E k
  refine wpAny_Tuple (h A env own s g φ σ ρ _ cx eo R hW _ _ _ fun ws s₁ g₁ φ₁ σ₁ vs N₁ R₁ hv hQ => ⟨?_, ?_⟩)
  · rw [hv.length]; exact Nat.le_trans hQ.1 (by decide)
  · have c : Cont G s₁ g₁ φ₁ Q K := fun w s' g' φ' σ' v N' ok' S' hv hQ => k _ _ _ _ _ v (N₁.trans N') (R₁.step N' ok' S') hv hQ
    exact c.tup (arr := ws.toArray) (n := 0) R₁.ok R₁.sr (by simpa using hv) hQ.2 R₁.ok.toks

/-- a value that a call may name -/
noncomputable def CallOk (G : Glb) (f : Value) : Prop := ∀ {A : Around} {env : Env} {pos : Pos} {e : Expr} {rest : List Expr} {s : Shared} {Q : Value → Shared → Prop} {E : Value → Shared → Prop},
  starEach (e :: rest) env = (false, eval e env) :: starEach rest env → (backTo pos (starEach rest env)).any (·.1) = false →
  wpAny (model G.prog G.w) A (spliced (backTo pos (starEach (e :: rest) env))) (fun vs s₁ => G.In s₁.heap ∧ wpAny (model G.prog G.w) A (call f vs) Q E s₁) E s → wpAny (model G.prog G.w) A (callWith pos f [] (backTo pos (starEach (e :: rest) env)) []) Q E s
theorem CallOk.builtin {id : String} : CallOk G (.builtin id) := fun h1 h2 h => callWith_builtin1 (wpAny_mono h (fun _ _ x => x.2) fun _ _ x => x) h1 h2
theorem CallOk.type {T : String} : CallOk G (.type T) := fun h1 h2 h => callWith_type1 (wpAny_mono h (fun _ _ x => x.2) fun _ _ x => x) h1 h2
theorem CallOk.def {a : Addr} {o : Obj} {fd : FuncData} (ho : G.base a = some o) (hd : o.data = .func fd) : CallOk G (.ref a) := fun h1 h2 h => callWith_def hd (wpAny_mono h (fun _ _ x => ⟨x.1 _ _ ho, x.2⟩) fun _ _ x => x) h1

theorem Ev.call {f : Value} {id : Str} {np pos : Pos} {e : Expr} {rest : List Expr} {W : List V → (V → Sto → Prop) → Sto → Prop} {Ws : WL} (hn : Ev G ℓ sc (.Name id np) fun Q _ σ => Q (.raw f) σ) (hc : CallOk G f) (hf : FnOk G ℓ f W) (ha : Evs G ℓ sc (e :: rest) Ws)
    (h1 : ∀ env, starEach (e :: rest) env = (false, eval e env) :: starEach rest env := by intro _; rfl) (h2 : ∀ env, (backTo pos (starEach rest env)).any (·.1) = false := by intro _; rfl) :
    Ev G ℓ sc (.Call (.Name id np) (e :: rest) [] pos) fun Q ρ σ => Ws (fun vs σ' => W vs Q σ') ρ σ := by
  intro A env own s g φ σ ρ Q cx eo R hW K E k
  refine wpAny_Call_NameR (hn A env own s g φ σ ρ (fun v σ' => v = .raw f ∧ Ws (fun vs σ' => W vs Q σ') ρ σ') cx eo R ⟨rfl, hW⟩ _ _ fun w s₁ g₁ φ₁ σ₁ v N₁ R₁ hv hQ => ?_)
  obtain ⟨rfl, hQ⟩ := hQ
  have hv' : w = f := hv
  subst hv'
  refine hc (h1 env) (h2 env) (ha A env own s₁ g₁ φ₁ σ₁ ρ _ cx eo R₁ hQ _ _ _ fun ws s₂ g₂ φ₂ σ₂ vs N₂ R₂ hvs hQ₂ => ⟨R₂.sr.inb, ?_⟩)
  exact hf A s₂ g₂ φ₂ σ₂ vs ws _ cx R₂.ok R₂.sr hvs hQ₂ _ _ fun w s' g' φ' σ' v N' ok' S' hv hQ => k _ _ _ _ _ v ((N₁.trans N₂).trans N') (R₂.step N' ok' S') hv hQ

/-- built-in functions -/
noncomputable def aLen (σ : Sto) : V → Option Nat
  | .str x => some (L x).length
  | .list xs => some xs.length
  | .ref k => match σ[k]? with | some (.list xs) => some xs.length | _ => none
  | _ => none
theorem VRs.one {g : FM} {φ : List Addr} {v : V} {ws : List Value} (h : VRs g φ [v] ws) : ∃ w, ws = [w] ∧ VR g φ v w := by
  obtain ⟨w, r, rfl, h1, h2⟩ := h
  have : r = [] := h2
  subst this; exact ⟨w, rfl, h1⟩
theorem VRs.two {g : FM} {φ : List Addr} {v u : V} {ws : List Value} (h : VRs g φ [v, u] ws) : ∃ w x, ws = [w, x] ∧ VR g φ v w ∧ VR g φ u x := by
  obtain ⟨w, r, rfl, h1, h2⟩ := h
  obtain ⟨x, rfl, h3⟩ := VRs.one h2
  exact ⟨w, x, rfl, h1, h3⟩

theorem FnOk.len : FnOk G ℓ (.builtin "len") fun vs Q σ => ∃ v n, vs = [v] ∧ aLen σ v = some n ∧ n < 2 ^ 62 ∧ Q (.int n) σ := by
  intro A s g φ σ vs ws Q cx ok S hv hW K E k
  obtain ⟨v, n, rfl, hn, hlt, hQ⟩ := hW
  obtain ⟨w, rfl, hv1⟩ := hv.one
  have hv := hv1; clear hv1
  have lists : ∀ xs, aList σ v = some xs → xs.length = n → wpAny (model G.prog G.w) A (call (.builtin "len") [w]) K E s := fun xs hx hl => by
    obtain ⟨a, arr, m, rfl, ho, hvs⟩ := aList_obj S hv hx
    have hl' := hvs.length
    rw [Array.length_toList, hl] at hl'
    refine Calls.call_len_list (isListObj ho) (by rw [hl']; exact ar224 hlt) ?_
    rw [hl']
    exact Cont.done k ok S (v := .int _) ⟨_, rfl⟩ hQ (by have := ok.toks; exact ar225)
  cases v with
  | str x =>
    obtain ⟨t, rfl⟩ := hv
    cases hn
    rw [len_L] at hlt hQ
    exact P.len_str (by exact ar226 hlt) (Cont.done k ok S (v := .int _) ⟨_, rfl⟩ hQ (by have := ok.toks; exact ar225))
  | list xs => cases hn; exact lists xs rfl rfl
  | ref i =>
    dsimp only [aLen] at hn
    split at hn
    · rename_i xs hm
      cases hn
      exact lists xs (by dsimp only [aList]; rw [hm]) rfl
    · cases hn
  | none => cases hn
  | bool b => cases hn
  | int i => cases hn
  | tup x => cases hn
  | rng x => cases hn
  | raw x => cases hn

theorem FnOk.abs : FnOk G ℓ (.builtin "abs") fun vs Q σ => ∃ i : Int, vs = [.int i] ∧ Q (.int (if i < 0 then -i else i)) σ := by
  intro A s g φ σ vs ws Q cx ok S hv hW K E k
  obtain ⟨i, rfl, hQ⟩ := hW
  obtain ⟨w, rfl, t, rfl⟩ := hv.one
  refine of_toks ok.toks (call_abs_int fun u tk ht => ?_)
  exact Cont.done k ok S (v := .int _) ⟨_, rfl⟩ hQ ht
theorem FnOk.min2 : FnOk G ℓ (.builtin "min") fun vs Q σ => ∃ i j : Int, vs = [.int i, .int j] ∧ Q (.int (if j < i then j else i)) σ := by
  intro A s g φ σ vs ws Q cx ok S hv hW K E k
  obtain ⟨i, j, rfl, hQ⟩ := hW
  obtain ⟨w, x, rfl, ⟨t, rfl⟩, ⟨u, rfl⟩⟩ := hv.two
  refine of_toks ok.toks (min_two_ints cx.handled fun h' tk hk ht => ?_)
  by_cases q : j < i
  · rw [if_pos q] at hQ ⊢; exact Cont.up k ok S (v := .int _) hk ⟨_, rfl⟩ hQ ht
  · rw [if_neg q] at hQ ⊢; exact Cont.up k ok S (v := .int _) hk ⟨_, rfl⟩ hQ ht
theorem FnOk.range : FnOk G ℓ (.type "range") fun vs Q σ => ∃ n : Nat, vs = [.int n] ∧ Q (.rng n) σ := by
  intro A s g φ σ vs ws Q cx ok S hv hW K E k
  obtain ⟨n, rfl, hQ⟩ := hW
  obtain ⟨w, rfl, t, rfl⟩ := hv.one
  refine call_range_1 ?_
  exact Cont.frozen k ok S (v := .rng n) (Heap.get?_push_size _ rfl) ⟨_, _, _, _, rfl, ins_at⟩ hQ (by have := ok.toks; exact ar225)

theorem preSum_list (xs : List Int) : ∀ n, n ≤ xs.length → preSum (fun i => xs.getD i 0) n = (xs.take n).sum
  | 0, _ => rfl
  | n + 1, h => by
    have hlt : n < xs.length := h
    have := preSum_list xs n (by exact ar10 h)
    rw [List.take_add_one, List.sum_append]
    show preSum _ n + _ = _
    rw [this]
    simp [List.getD, hlt]
theorem FnOk.sum : FnOk G ℓ (.builtin "sum") fun vs Q σ => ∃ v ns, vs = [v] ∧ aList σ v = some (List.map V.int ns) ∧ Q (.int ns.sum) σ := by
  intro A s g φ σ vs ws Q cx ok S hv hW K E k
  obtain ⟨v, ns, rfl, hl, hQ⟩ := hW
  obtain ⟨w, rfl, hv1⟩ := hv.one
  have hv := hv1; clear hv1
  obtain ⟨a, arr, m, rfl, ho, hvs⟩ := aList_obj S hv hl
  refine of_toks ok.toks (call_sum_walkG (wpAny_pyIter_list (isListObj ho) ?_))
  have hlt : a < s.heap.objs.size := Heap.lt_size ho
  have hlen := hvs.length
  rw [Array.length_toList, List.length_map] at hlen
  refine ⟨_, _, _, _, _, _, fun i => ns.getD i 0, rfl, Walks.list (A := A.in1) cx.handled s.heap.objs.size a (Nat.ne_of_lt hlt) arr, ⟨⟨_, Heap.get?_push_size _ rfl, rfl, rfl⟩, ⟨_, Heap.get?_push_of_some _ ho, rfl, _, rfl⟩⟩, fun b hb => ?_, fun i u hu => ?_, fun h' tk t' hk ht => ?_⟩
  · have : b = s.heap.objs.size ∨ b = a := by simpa using hb
    show b < (s.heap.push _).objs.size
    rw [Heap.size_push]
    rcases this with q | q
    · exact q ▸ Nat.lt_succ_self _
    · exact q ▸ Nat.lt_succ_of_lt hlt
  · have hi : i < ns.length := by rw [← hlen]; exact (Array.getElem?_eq_some_iff.mp hu).1
    obtain ⟨w', hw', hr⟩ := hvs.get (i := i) (v := .int ns[i]) (by simp [hi])
    obtain ⟨t, rfl⟩ := hr
    have : arr.toList[i]? = some u := by simpa using hu
    rw [this] at hw'; cases hw'
    exact ⟨t, by simp [List.getD, hi]⟩
  · rw [preSum_list ns arr.size (by exact ar216 hlen), List.take_of_length_le (by exact ar19 hlen)]
    exact Cont.up k ok S (fun b o e => hk b o (by
      have : b ≠ s.heap.objs.size := Nat.ne_of_lt (Heap.lt_size e)
      simpa using this) (Heap.get?_push_of_some _ e)) (v := .int _) ⟨_, rfl⟩ hQ ht

theorem FnOk.strInt : FnOk G ℓ (.type "str") fun vs Q σ => ∃ i : Int, vs = [.int i] ∧ i.natAbs < 2 ^ 64 ∧ Q (.str (Str.ofString (toString i))) σ := by
  intro A s g φ σ vs ws Q cx ok S hv hW K E k
  obtain ⟨i, rfl, hi, hQ⟩ := hW
  obtain ⟨w, rfl, t, rfl⟩ := hv.one
  refine P.str_of_int ?_ (Cont.done k ok S (v := .str _) ⟨_, rfl⟩ hQ (by have := ok.toks; exact ar40))
  rcases Nat.lt_or_ge i.natAbs.log2 1920 with q | q
  · exact q
  · by_cases hz : i.natAbs = 0
    · rw [hz] at q; simp at q
    · have : 2 ^ 1920 ≤ i.natAbs := (Nat.le_log2 hz).mp q
      have h2 : (2 : Nat) ^ 64 ≤ 2 ^ 1920 := Nat.pow_le_pow_right (by decide) (by decide)
      exact ar227 this hi

theorem FnOk.listOf : FnOk G ℓ (.type "list") fun vs Q σ => ∃ v xs, vs = [v] ∧ (aList σ v = some xs ∨ ∃ n, v = .rng n ∧ n ≤ 2 ^ 20 ∧ xs = (List.range n).map fun i => V.int (i : Nat)) ∧ xs.length ≤ 2 ^ 20 ∧ newL Q xs σ := by
  intro A s g φ σ vs ws Q cx ok S hv hW K E k
  obtain ⟨v, xs, rfl, hl, hsz, hQ⟩ := hW
  obtain ⟨w, rfl, hv1⟩ := hv.one
  have hv := hv1; clear hv1
  rcases hl with hl | ⟨n, rfl, hn, rfl⟩
  · obtain ⟨a, arr, m, rfl, ho, hvs⟩ := aList_obj S hv hl
    have hlen := hvs.length
    rw [Array.length_toList] at hlen
    refine call_list_seq a (.inl rfl) ho rfl rfl (fun h' c' hk ho' => ?_) (by rw [hlen]; exact Nat.le_trans hsz (by decide))
    exact Cont.listAt k ok S hk (get?_size _) ho' hvs hQ ok.toks
  · obtain ⟨a, t0, t1, t2, rfl, hg⟩ := hv
    have hr := S.keep _ _ hg
    have hsize : Builtin.Range.rangeSize 0 n 1 = n := by
      unfold Builtin.Range.rangeSize
      by_cases z : (0 : Int) < n
      · rw [if_pos (by decide), if_pos z]; exact ar129
      · rw [if_pos (by decide), if_neg z]; exact ar130 z
    have fit : ∀ z : Int, 0 ≤ z → z ≤ 2 ^ 31 → Builtin.Range.rangeFitsLong z = true := fun z h1 h2 => by
      unfold Builtin.Range.rangeFitsLong
      rw [Bool.and_eq_true]
      exact ⟨decide_eq_true (by exact ar131 h1), decide_eq_true (by exact ar132 h2)⟩
    have hsm : Builtin.Range.small 0 n 1 = true := by
      have h4 : ((n : Int) == 0 || if (1 : Int) > 0 then Builtin.Range.rangeFitsLong ((n : Int) + (1 - 1)) else Builtin.Range.rangeFitsLong ((n : Int) + (1 + 1))) = true := by
        rw [if_pos (by decide), fit _ (by exact ar133) (by exact ar228 hn), Bool.or_true]
      unfold Builtin.Range.small
      rw [hsize, h4, fit 0 (by decide) (by decide), fit n (by exact ar135) (by exact ar229 hn), fit 1 (by decide) (by decide)]; rfl
    refine of_toks ok.toks (call_list_range cx.handled hr hsm hsize (by exact ar230 hn) fun h' tk acc' c' hk ho' hit ht => ?_)
    have hlen : acc'.size = n := hit.1
    refine Cont.listAt k ok S hk (get?_size _) ho' ?_ hQ ht
    have gen : ∀ (l : List Value) (j : Nat), (∀ i v, l[i]? = some v → ∃ t, v = Value.int ((j + i : Nat) : Int) t) → VRs g φ ((List.range' j l.length).map fun i => V.int (i : Nat)) l := by
      intro l
      induction l with
      | nil => intro j _; simp [VRs]
      | cons u l ih =>
        intro j h
        rw [List.length_cons, List.range'_succ, List.map_cons]
        refine ⟨u, l, rfl, ?_, ih (j + 1) fun i v hi => ?_⟩
        · obtain ⟨t, ht⟩ := h 0 u rfl
          exact ⟨t, by simpa using ht⟩
        · obtain ⟨t, ht⟩ := h (i + 1) v (by simpa using hi)
          exact ⟨t, by rw [ht, show j + 1 + i = j + (i + 1) by exact ar231]⟩
    have := gen acc'.toList 0 fun i v hi => by
      obtain ⟨t, ht⟩ := hit.2 i v (by simpa using hi)
      exact ⟨t, by rw [ht, show ((0 : Int) + (i : Int) * 1) = ((0 + i : Nat) : Int) by exact ar232]⟩
    rw [Array.length_toList, hlen] at this
    rwa [List.range_eq_range']
end

end
section
set_option autoImplicit false
open Builtin.Str

theorem join_nil : ∀ (ts : List Str), Str.join (S []) ts = S (ts.map L).flatten
  | [] => rfl
  | [p] => by
    show p = _
    simp [S_L]
  | p :: q :: r => by
    show p ++ S [] ++ Str.join (S []) (q :: r) = _
    rw [join_nil (q :: r), str_app, str_app, L_S, L_S, L_S]
    simp
theorem txt_join_nil (ts : List Str) : Txt.join (S []) ts = S (ts.map L).flatten := by
  unfold Txt.join
  rw [StrLaws.glued_eq_join, join_nil]

/-- each `c` becomes `z` -/
noncomputable def repl (c : Nat) (z : List Nat) (l : List Nat) : List Nat := l.flatMap fun a => if a = c then z else [a]
theorem repl_app (c : Nat) (z a b : List Nat) : repl c z (a ++ b) = repl c z a ++ repl c z b := by simp [repl]
theorem repl_free {c : Nat} {z : List Nat} : ∀ {l : List Nat}, c ∉ l → repl c z l = l
  | [], _ => rfl
  | a :: l, h => by
    have h1 : a ≠ c := fun e => h (e ▸ List.mem_cons_self)
    have h2 : c ∉ l := fun m => h (List.mem_cons_of_mem _ m)
    have := repl_free (z := z) h2
    unfold repl at this ⊢
    rw [List.flatMap_cons, if_neg h1, this]; rfl
theorem repl_join (c : Nat) (z : List Nat) : ∀ ts : List Str, (∀ p ∈ ts, c ∉ L p) → repl c z (L (Str.join (S [c]) ts)) = L (Str.join (S z) ts)
  | [], _ => rfl
  | [p], h => repl_free (h p List.mem_cons_self)
  | p :: q :: r, h => by
    have ih := repl_join c z (q :: r) fun a ha => h a (List.mem_cons_of_mem _ ha)
    show repl c z (L (p ++ S [c] ++ Str.join (S [c]) (q :: r))) = L (p ++ S z ++ Str.join (S z) (q :: r))
    rw [str_app, str_app, str_app (p ++ S z), str_app p (S z)]
    simp only [L_S]
    rw [repl_app, repl_app, ih, repl_free (h p List.mem_cons_self)]
    simp [repl]
theorem txt_replace (x : Str) (c : Nat) (z : List Nat) : Txt.replace x (S [c]) (S z) = S (repl c z (L x)) := by
  have h1 := StrLaws.replace_one x (S z) c
  have h2 := repl_join c z (Txt.split x (S [c])) (StrLaws.split_free x c)
  have h3 := StrLaws.join_split x (S [c])
  rw [h3] at h2
  rw [← S_L (Txt.replace x (S [c]) (S z))]
  rw [show Txt.replace x (S [c]) (S z) = Str.join (S z) (Txt.split x (S [c])) from h1, ← h2]
theorem txt_contains (x : Str) (c : Nat) : Txt.contains x (S [c]) = decide (c ∈ L x) := StrLaws.found_one x c

theorem cnt_count (c : Nat) (l : List Nat) : cnt c l = (l.count c : Nat) := by
  induction l with
  | nil => exact cnt_nil _
  | cons a l ih =>
    rw [cnt_cons, ih, List.count_cons]
    by_cases h : a = c
    · subst h; simp; exact ar233
    · simp [h]
theorem txt_count (x : Str) (c : Nat) : Txt.count x (S [c]) = ((L x).count c : Nat) := (count_cnt x c).trans (cnt_count c _)

/-- the cuts -/
noncomputable def occStep (s sub : Str) (hi limit : Nat) (st : Array Nat × Nat) (i : Nat) : Array Nat × Nat :=
  if ((st.1.size < limit ∧ st.2 ≤ i) ∧ i + sub.length ≤ hi) ∧ subAt s sub i = true then (st.1.push i, i + sub.length) else st
theorem occ_fold (s sub : Str) (hi limit : Nat) : ∀ (l : List Nat) (st : Array Nat × Nat), (forIn l st (StrLaws.occBody s sub hi limit)).run = l.foldl (occStep s sub hi limit) st
  | [], st => rfl
  | a :: l, st => by
    rw [List.forIn_cons, List.foldl_cons, ← occ_fold s sub hi limit l]
    unfold StrLaws.occBody occStep
    split <;> rfl

theorem subAt_two (l : List Nat) (i a b : Nat) : subAt (S l) (S [a, b]) i = decide (l[i]? = some a ∧ l[i + 1]? = some b) := by
  have h : (l.toArray.extract i (i + 2)) = #[a, b] ↔ (l[i]? = some a ∧ l[i + 1]? = some b) := by
    rw [← Array.toList_inj, List.extract_toArray]
    simp only [List.extract_eq_take_drop, Nat.add_sub_cancel_left]
    constructor
    · intro e
      have e0 := congrArg (fun q : List Nat => q[0]?) e
      have e1 := congrArg (fun q : List Nat => q[1]?) e
      simp at e0 e1
      exact ⟨e0, e1⟩
    · rintro ⟨e0, e1⟩
      apply List.ext_getElem?
      intro j
      rcases j with _ | _ | j
      · simpa using e0
      · simpa using e1
      · rw [List.getElem?_eq_none (by simp; lia)]; simp
  show (l.toArray.extract i (i + 2) == #[a, b]) = _
  by_cases q : l.toArray.extract i (i + 2) = #[a, b]
  · rw [decide_eq_true (h.mp q), q]; simp
  · rw [decide_eq_false fun z => q (h.mpr z)]; simpa using q

theorem occ_row (pre row rest : List Nat) (limit : Nat) (cuts : Array Nat) (hr : 13 ∉ row) (hl : cuts.size < limit) :
    (List.range' pre.length (row.length + 2)).foldl (occStep (S (pre ++ (row ++ [13, 10]) ++ rest)) (S [13, 10]) (pre ++ (row ++ [13, 10]) ++ rest).length limit) (cuts, pre.length) = (cuts.push (pre.length + row.length), pre.length + row.length + 2) := by
  generalize hx : pre ++ (row ++ [13, 10]) ++ rest = x
  have hlen : x.length = pre.length + (row.length + 2) + rest.length := by rw [← hx]; simp; exact ar234
  have skip : ∀ n, n ≤ row.length → (List.range' pre.length n).foldl (occStep (S x) (S [13, 10]) x.length limit) (cuts, pre.length) = (cuts, pre.length) := by
    intro n
    induction n with
    | zero => intro _; rfl
    | succ n ih =>
      intro h
      rw [List.range'_concat, List.foldl_append, ih (by exact ar10 h)]
      simp only [List.foldl_cons, List.foldl_nil, Nat.one_mul]
      unfold occStep
      rw [if_neg]
      rintro ⟨_, h2⟩
      rw [subAt_two] at h2
      have h3 := (of_decide_eq_true h2).1
      have h4 : row[n]? = some 13 := by
        rw [← hx, List.append_assoc, List.getElem?_append_right (by exact ar151)] at h3
        rw [show pre.length + n - pre.length = n by exact ar235, List.append_assoc, List.getElem?_append_left (by exact ar167 h)] at h3
        exact h3
      exact hr (List.mem_of_getElem? h4)
  have c0 : x[pre.length + row.length]? = some 13 := by
    rw [← hx, List.append_assoc, List.getElem?_append_right (by exact ar151), show pre.length + row.length - pre.length = row.length by exact ar235, List.append_assoc, List.getElem?_append_right (by exact ar13)]
    simp
  have c1 : x[pre.length + row.length + 1]? = some 10 := by
    rw [← hx, List.append_assoc, List.getElem?_append_right (by exact ar236), show pre.length + row.length + 1 - pre.length = row.length + 1 by exact ar237, List.append_assoc, List.getElem?_append_right (by exact ar166)]
    simp
  rw [show row.length + 2 = row.length + 1 + 1 by exact ar238, List.range'_concat, List.range'_concat, List.foldl_append, List.foldl_append, skip _ (Nat.le_refl _)]
  simp only [List.foldl_cons, List.foldl_nil, Nat.one_mul]
  have e1 : occStep (S x) (S [13, 10]) x.length limit (cuts, pre.length) (pre.length + row.length) = (cuts.push (pre.length + row.length), pre.length + row.length + 2) := by
    unfold occStep
    rw [if_pos ⟨⟨⟨hl, by show pre.length ≤ _; exact ar151⟩, by show pre.length + row.length + 2 ≤ _; exact ar239 hlen⟩, by rw [subAt_two]; exact decide_eq_true ⟨c0, c1⟩⟩]
    rfl
  rw [e1]
  unfold occStep
  rw [if_neg]
  rintro ⟨⟨⟨_, h⟩, _⟩, _⟩
  have h' : pre.length + row.length + 2 ≤ pre.length + (row.length + 1) := h
  lia

/-- rows, each with its end -/
noncomputable def crlf (rows : List (List Nat)) : List Nat := rows.flatMap fun r => r ++ [13, 10]
theorem crlf_cons (r : List Nat) (rs : List (List Nat)) : crlf (r :: rs) = (r ++ [13, 10]) ++ crlf rs := by simp [crlf]
noncomputable def cutsOf : Nat → List (List Nat) → List Nat
  | _, [] => []
  | n, r :: rs => (n + r.length) :: cutsOf (n + r.length + 2) rs

theorem occ_rows (limit : Nat) : ∀ (rows : List (List Nat)) (pre : List Nat) (cuts : Array Nat), (∀ r ∈ rows, 13 ∉ r) → cuts.size + rows.length < limit →
    (List.range' pre.length ((crlf rows).length + 1)).foldl (occStep (S (pre ++ crlf rows)) (S [13, 10]) (pre ++ crlf rows).length limit) (cuts, pre.length) = (cuts ++ (cutsOf pre.length rows).toArray, (pre ++ crlf rows).length)
  | [], pre, cuts, _, _ => by
    simp only [crlf, List.flatMap_nil, List.append_nil, List.length_nil, cutsOf]
    show [pre.length].foldl _ _ = _
    simp only [List.foldl_cons, List.foldl_nil]
    unfold occStep
    rw [if_neg]
    · simp
    · rintro ⟨⟨_, h⟩, _⟩
      have h' : pre.length + 2 ≤ pre.length := h
      exact ar240 h'
  | r :: rs, pre, cuts, hr, hl => by
    have h1 := occ_row pre r (crlf rs) limit cuts (hr r List.mem_cons_self) (by rw [List.length_cons] at hl; exact ar241 hl)
    have hp : (pre ++ (r ++ [13, 10])).length = pre.length + r.length + 2 := by simp; exact ar242
    have ih := occ_rows limit rs (pre ++ (r ++ [13, 10])) (cuts.push (pre.length + r.length)) (fun q hq => hr q (List.mem_cons_of_mem _ hq)) (by rw [List.length_cons] at hl; simp; exact ar243 hl)
    have e : pre ++ crlf (r :: rs) = pre ++ (r ++ [13, 10]) ++ crlf rs := by rw [crlf_cons]; simp
    rw [e]
    have hlen : (crlf (r :: rs)).length + 1 = (r.length + 2) + ((crlf rs).length + 1) := by rw [crlf_cons]; simp; exact ar244
    rw [hlen, ← List.range'_append, List.foldl_append, h1]
    rw [hp] at ih
    rw [Nat.one_mul, show pre.length + (r.length + 2) = pre.length + r.length + 2 by exact ar242, ih]
    simp only [cutsOf]
    congr 1
    rw [← Array.toList_inj]
    simp

theorem sub_mid (pre m post : List Nat) (i j : Nat) (hi : i = pre.length) (hj : j = pre.length + m.length) : strSub (S (pre ++ m ++ post)) i j = S m := by
  subst hi hj
  unfold strSub
  show (⟨(pre ++ m ++ post).toArray.extract pre.length (pre.length + m.length)⟩ : Str) = ⟨m.toArray⟩
  rw [List.extract_toArray]
  congr 2
  rw [List.extract_eq_take_drop, Nat.add_sub_cancel_left, List.append_assoc, List.drop_left, List.take_left]
theorem parts_rows : ∀ (rows : List (List Nat)) (pre : List Nat), StrLaws.partsFrom (S (pre ++ crlf rows)) 2 pre.length (cutsOf pre.length rows) = rows.map S ++ [S []]
  | [], pre => by
    show [strSub _ _ _] = _
    have : crlf [] = [] := rfl
    rw [this]
    have := sub_mid pre [] [] pre.length (S (pre ++ [])).length rfl (by simp [Str.length, S])
    simpa using this
  | r :: rs, pre => by
    have ih := parts_rows rs (pre ++ (r ++ [13, 10]))
    have hp : (pre ++ (r ++ [13, 10])).length = pre.length + r.length + 2 := by simp; exact ar242
    rw [hp] at ih
    have e : pre ++ crlf (r :: rs) = pre ++ (r ++ [13, 10]) ++ crlf rs := by rw [crlf_cons]; simp
    simp only [cutsOf]
    show strSub _ _ _ :: StrLaws.partsFrom _ 2 (pre.length + r.length + 2) _ = _
    rw [e, ih]
    rw [show pre ++ (r ++ [13, 10]) ++ crlf rs = pre ++ r ++ ([13, 10] ++ crlf rs) by simp, sub_mid pre r _ _ _ rfl rfl]
    rfl

theorem strKind_le (x : Str) : Builtin.Str.strKind (S [13, 10]) ≤ Builtin.Str.strKind x := by
  have : Builtin.Str.strKind (S [13, 10]) = 1 := by decide +kernel
  rw [this]
  unfold Builtin.Str.strKind
  split
  · exact Nat.le_refl _
  · split <;> decide

theorem txt_split (rows : List (List Nat)) (hr : ∀ r ∈ rows, 13 ∉ r) : Txt.split (S (crlf rows)) (S [13, 10]) = rows.map S ++ [S []] := by
  have hocc : occurrences (S (crlf rows)) (S [13, 10]) 0 (S (crlf rows)).length ((S (crlf rows)).length + 1) = cutsOf 0 rows := by
    have hlen : (S (crlf rows)).length = (crlf rows).length := by simp [Str.length, S]
    rw [StrLaws.occ_eq, occ_fold, hlen, Nat.sub_zero]
    have hrl : rows.length ≤ (crlf rows).length := by
      clear hr hlen
      induction rows with
      | nil => simp
      | cons r rs ih => rw [crlf_cons]; simp; exact ar245 ih
    have := occ_rows ((crlf rows).length + 1) rows [] #[] hr (by simp; exact ar246 hrl)
    simp only [List.nil_append, List.length_nil] at this
    rw [this]
    simp
  unfold Txt.split
  have h2 : decide (Builtin.Str.strKind (S (crlf rows)) < Builtin.Str.strKind (S [13, 10])) = false := decide_eq_false (Nat.not_lt.mpr (strKind_le _))
  rw [h2, Bool.or_false]
  cases rows with
  | nil => rfl
  | cons r rs =>
    have h1 : decide ((S (crlf (r :: rs))).length < (S [13, 10]).length) = false := decide_eq_false (by
      show ¬ (crlf (r :: rs)).toArray.size < 2
      rw [crlf_cons]; simp; exact ar247)
    rw [h1, if_neg (by simp), hocc, if_neg (by simp [cutsOf]), StrLaws.partsBetween_eq]
    exact parts_rows (r :: rs) []


end
section
set_option autoImplicit false

theorem vrs_strs {g : FM} {φ : List Addr} : ∀ {ts : List Str} {ws : List Value}, VRs g φ (ts.map V.str) ws → ∃ l : List (Str × Tok), ws = strValues l ∧ l.map (·.1) = ts
  | [], ws, h => by
    have : ws = [] := h
    subst this; exact ⟨[], rfl, rfl⟩
  | x :: ts, ws, h => by
    obtain ⟨w, r, rfl, ⟨t, rfl⟩, h2⟩ := h
    obtain ⟨l, rfl, hl⟩ := vrs_strs h2
    exact ⟨(x, t) :: l, rfl, by rw [List.map_cons, hl]⟩
theorem strs_vrs {g : FM} {φ : List Addr} : ∀ (l : List (Str × Tok)), VRs g φ ((l.map (·.1)).map V.str) (strValues l)
  | [] => rfl
  | (x, t) :: l => ⟨.str x t, strValues l, rfl, ⟨t, rfl⟩, strs_vrs l⟩

section
variable {G : Glb} {ℓ : Nat}

theorem FnOk.join : FnOk G ℓ (.builtin "str.join") fun vs Q σ => ∃ v ts, vs = [.str (S []), v] ∧ aList σ v = some (List.map V.str ts) ∧ ((ts.map L).flatten).length ≤ 2 ^ 20 ∧ Q (.str (S (ts.map L).flatten)) σ := by
  intro A s g φ σ vs ws Q cx ok S' hv hW K E k
  obtain ⟨v, ts, rfl, hl, hsz, hQ⟩ := hW
  obtain ⟨w, x, rfl, ⟨t, rfl⟩, hv1⟩ := hv.two
  obtain ⟨a, arr, n, rfl, ho, hvs⟩ := aList_obj S' hv1 hl
  obtain ⟨l, hal, ht⟩ := vrs_strs hvs
  have hlist : s.heap.IsList a (strValues l).toArray := by rw [← hal]; exact isListObj ho
  have hok : JoinOk (S []) ts = true := by
    unfold JoinOk
    rw [StrLaws.joinTotal]
    have h0 : (S []).length = 0 := rfl
    have h1 : (ts.map (·.length)).sum = ((ts.map L).flatten).length := by
      rw [List.length_flatten, List.map_map]
      exact congrArg List.sum (List.map_congr_left fun x _ => (len_L x).symm)
    rw [h0, h1, Nat.mul_zero, Nat.add_zero]
    unfold Builtin.Str.tooLong sizeLine
    rw [decide_eq_false (by exact ar248 hsz)]; rfl
  refine of_toks ok.toks (SC.join hlist ht hok fun t' tk htk => ?_)
  rw [txt_join_nil]
  exact Cont.done k ok S' (v := .str _) ⟨_, rfl⟩ hQ htk

theorem FnOk.split : FnOk G ℓ (.builtin "str.split") fun vs Q σ => ∃ rows : List (List Nat), vs = [.str (S (crlf rows)), .str (S [13, 10])] ∧ (∀ r ∈ rows, 13 ∉ r) ∧ (crlf rows).length ≤ 2 ^ 20 ∧ newL Q ((rows.map S ++ [S []]).map V.str) σ := by
  intro A s g φ σ vs ws Q cx ok S' hv hW K E k
  obtain ⟨rows, rfl, hr, hsz, hQ⟩ := hW
  obtain ⟨w, x, rfl, ⟨t, rfl⟩, ⟨u, rfl⟩⟩ := hv.two
  have hsp := txt_split rows hr
  generalize hX : S (crlf rows) = X at hsp
  have hlen : X.length ≤ 2 ^ 20 := by rw [← hX, ← len_L, L_S]; exact hsz
  have key : ∀ (l : List (Str × Tok)) (tk : Nat), l.map (·.1) = Txt.split X (S [13, 10]) → 1 ≤ tk → K (.ref s.heap.objs.size) { s with heap := s.heap.push (listObj (strValues l).toArray 0), toks := tk } := fun l tk hl htk => by
    refine Cont.list k ok S' ?_ hQ htk
    rw [hsp] at hl
    rw [← hl]
    exact strs_vrs l
  refine of_toks ok.toks ?_
  have hy : ((S [13, 10]).length == 0) = false := rfl
  cases h1 : (decide (X.length < (S [13, 10]).length) || decide (Builtin.Str.strKind X < Builtin.Str.strKind (S [13, 10])))
  · cases hf : (Builtin.Str.occurrences X (S [13, 10]) 0 X.length (X.length + 1)).isEmpty
    · have hn : (Builtin.Str.partsBetween X (Builtin.Str.occurrences X (S [13, 10]) 0 X.length (X.length + 1)) (S [13, 10]).length).length ≤ sizeLine := by
        have e1 := StrLaws.occ_length_le X (S [13, 10]) 0 X.length (X.length + 1)
        rw [length_partsBetween]
        show _ ≤ 2 ^ 24
        exact ar249 e1 hlen
      refine call_meets F.slot_str_split (typeIs_str _ _ _) F.entry_str_split (F.args_str_split_2 _ _) (meets_str_split_sep X (S [13, 10]) t u h1 hy hf (Nat.le_trans hlen (by decide)) hn) ?_
      show wants _ _ _ { s with toks := _, heap := s.heap.push { cls := .type "list", data := .seq (strsFrom s.toks (Builtin.Str.partsBetween X (Builtin.Str.occurrences X (S [13, 10]) 0 X.length (X.length + 1)) (S [13, 10]).length)).toArray } }
      rw [strsFrom_eq]
      exact key (numbered s.toks _) _ ((numbered_texts _ _).trans ((if_neg (ne_true_of_eq_false h1)).trans (if_neg (ne_true_of_eq_false hf))).symm)
    · exact call_meets F.slot_str_split (typeIs_str _ _ _) F.entry_str_split (F.args_str_split_2 _ _) (meets_str_split_not_found X (S [13, 10]) t u h1 hy hf)
        (key [(X, t)] s.toks ((if_neg (ne_true_of_eq_false h1)).trans (if_pos hf)).symm)
  · exact call_meets F.slot_str_split (typeIs_str _ _ _) F.entry_str_split (F.args_str_split_2 _ _) (meets_str_split_cannot_occur X (S [13, 10]) t u h1)
      (key [(X, t)] s.toks (if_pos h1).symm)

theorem FnOk.count : FnOk G ℓ (.builtin "str.count") fun vs Q σ => ∃ (x : Str) (c : Nat), vs = [.str x, .str (S [c])] ∧ Q (.int ((L x).count c : Nat)) σ := by
  intro A s g φ σ vs ws Q cx ok S' hv hW K E k
  obtain ⟨x, c, rfl, hQ⟩ := hW
  obtain ⟨w, y, rfl, ⟨t, rfl⟩, ⟨u, rfl⟩⟩ := hv.two
  refine SC.count ?_
  rw [txt_count]
  exact Cont.done k ok S' (v := .int _) ⟨_, rfl⟩ hQ (by have := ok.toks; exact ar40)
theorem FnOk.index : FnOk G ℓ (.builtin "str.index") fun vs Q σ => ∃ (x y : Str) (i : Nat) (rest : List Nat), vs = [.str x, .str y] ∧ Builtin.Str.occurrences x y 0 x.length 1 = i :: rest ∧ Q (.int (i : Nat)) σ := by
  intro A s g φ σ vs ws Q cx ok S' hv hW K E k
  obtain ⟨x, y, i, rest, rfl, ho, hQ⟩ := hW
  obtain ⟨w, z, rfl, ⟨t, rfl⟩, ⟨u, rfl⟩⟩ := hv.two
  exact SC.index ho (Cont.done k ok S' (v := .int _) ⟨_, rfl⟩ hQ (by have := ok.toks; exact ar40))

/-- a store's object changed in place -/
theorem SR.upd {g : FM} {h h' : Heap} {φ : List Addr} {σ : Sto} (S : SR G g h φ σ) {k : Nat} {a : Addr} {m : MO} (ha : φ[k]? = some a) (hk : ∀ b o, b ≠ a → h.get? b = some o → h'.get? b = some o) (hm : MOR G g φ h' a m) : SR G g h' φ (σ.set k m) := by
  have hka : a ∈ φ := List.mem_of_getElem? ha
  refine ⟨S.base, fun b o e => hk b o (fun q => by rw [q, S.fresh a hka] at e; cases e) (S.keep b o e), by simp [S.len], fun j b mm e1 e2 => ?_, S.fresh, S.nodup⟩
  by_cases hj : j = k
  · subst hj
    rw [ha] at e1; cases e1
    have hlt : j < σ.length := by rw [← S.len]; exact (List.getElem?_eq_some_iff.mp ha).1
    rw [List.getElem?_set_self hlt] at e2
    cases e2; exact hm
  · rw [List.getElem?_set_ne (Ne.symm hj)] at e2
    refine MOR.keeps (fun _ _ e => e) (fun _ _ e => e) (fun o e => hk b o (fun q => ?_) e) (S.mo j b mm e1 e2)
    subst q
    obtain ⟨h1, e3⟩ := List.getElem?_eq_some_iff.mp e1
    obtain ⟨h2, e4⟩ := List.getElem?_eq_some_iff.mp ha
    exact hj ((List.getElem_inj S.nodup).mp (e3.trans e4.symm))
theorem Nx.upd {g : FM} {φ : List Addr} {s : Shared} {h' : Heap} {tk : Nat} {a : Addr} (ha : a ∈ φ) (hk : ∀ b o, b ≠ a → s.heap.get? b = some o → h'.get? b = some o) (hl : h'.get? a ≠ none) : Nx [] s { s with heap := h', toks := tk } g g φ φ :=
  ⟨rfl, rfl, fun _ _ e => e, fun _ _ e => .inl e, ⟨[], by simp, by simp⟩, fun b p _ h2 e => hk b p (fun q => h2 (q ▸ ha)) e, fun b e => by
    by_cases q : b = a
    · rw [q]; exact hl
    · cases z : s.heap.get? b with
      | none => exact absurd z e
      | some p => show h'.get? b ≠ none; rw [hk b p q z]; simp⟩
theorem Cont.upd {g : FM} {φ : List Addr} {σ : Sto} {s : Shared} {Q : V → Sto → Prop} {K : Value → Shared → Prop} (k : Cont G s g φ Q K) (ok : SOk s) (S : SR G g s.heap φ σ) {i : Nat} {a : Addr} {m : MO} {h' : Heap} {tk : Nat} {v : V} {w : Value} (ha : φ[i]? = some a)
    (hk : ∀ b o, b ≠ a → s.heap.get? b = some o → h'.get? b = some o) (hl : h'.get? a ≠ none) (hm : MOR G g φ h' a m) (hv : VR g φ v w) (hQ : Q v (σ.set i m)) (ht : 1 ≤ tk) : K w { s with heap := h', toks := tk } :=
  k w _ g φ _ v (Nx.upd (List.mem_of_getElem? ha) hk hl) ⟨ht, ok.bare⟩ (S.upd ha hk hm) hv hQ

theorem FnOk.append : FnOk G ℓ (.builtin "list.append") fun vs Q σ => ∃ (i : Nat) (v : V) (xs : List V), vs = [.ref i, v] ∧ σ[i]? = some (.list xs) ∧ xs.length ≤ 2 ^ 20 ∧ Q .none (σ.set i (.list (xs ++ [v]))) := by
  intro A s g φ σ vs ws Q cx ok S' hv hW K E k
  obtain ⟨i, v, xs, rfl, hm, hsz, hQ⟩ := hW
  obtain ⟨w, u, rfl, ⟨a, rfl, ha⟩, hv2⟩ := hv.two
  obtain ⟨arr, n, ho, hvs⟩ := S'.mo _ _ _ ha hm
  have hlen := hvs.length
  rw [Array.length_toList] at hlen
  refine wpAny_list_append_plain (items := arr) ⟨n, ho⟩ (fun h' hp hs => ?_) (by rw [hlen]; exact Nat.le_trans hsz (by decide))
  obtain ⟨n', hp⟩ := hp
  exact Cont.upd k ok S' (m := .list (xs ++ [v])) (v := .none) ha (fun b o q e => hs.extBut b o q e) (by rw [hp]; simp) ⟨_, n', hp, by rw [Array.toList_push]; exact hvs.append (VRs.single hv2)⟩ rfl hQ ok.toks
end

section
variable {G : Glb} {ℓ : Nat} {sc : Scope}

/-- a method of a str -/
theorem Ev.methS {name : Str} {id : String} (hs : Slot "str" name id) (hty : typeOf (.builtin id) = pure (.type "method_descriptor")) {o e : Expr} {rest : List Expr} {apos pos : Pos} {Wo : WE} {Ws : WL} {Wf : List V → (V → Sto → Prop) → Sto → Prop}
    (ho : Ev G ℓ sc o Wo) (ha : Evs G ℓ sc (e :: rest) Ws) (hf : FnOk G ℓ (.builtin id) Wf)
    (h0 : ∀ env, attributeBase o name env (eval o env) = eval o env := by intro _; rfl)
    (h1 : ∀ env, starEach (e :: rest) env = (false, eval e env) :: starEach rest env := by intro _; rfl) (h2 : ∀ env, (backTo pos (starEach rest env)).any (·.1) = false := by intro _; rfl)
    (h3 : ∀ env, (((backTo pos (starEach (e :: rest) env)).all fun x => !x.1) && (backToKw pos (keywordEach [] env)).all fun x => x.1.isSome) = true := by intro _; rfl)
    (h4 : decide ((e :: rest).length + ([] : List Keyword).length + (if ([] : List Keyword).isEmpty = true then 0 else 1) < 30) = true := by rfl)
    (h5 : (apos.endLine == pos.line) = true := by rfl) :
    Ev G ℓ sc (.Call (.Attribute o name apos) (e :: rest) [] pos) fun Q ρ σ => Wo (fun ov σ₁ => (∃ x, ov = .str x) ∧ Ws (fun vs σ₂ => Wf (ov :: vs) Q σ₂) ρ σ₁) ρ σ := by
  intro A env own s g φ σ ρ Q cx eo R hW K E k
  refine wpAny_Call_method (h0 env) (by rw [h3 env, h4]; rfl) h5 F.plainAttrs_str hs hty ?_
  refine ho A env own s g φ σ ρ _ cx eo R hW _ _ fun w s₁ g₁ φ₁ σ₁ ov N₁ R₁ hv hQ => ?_
  obtain ⟨⟨x, rfl⟩, hQ⟩ := hQ
  have hv' := hv
  obtain ⟨t, rfl⟩ := hv'
  refine ⟨typeIs_str _ _ _, fun a e => (by cases e), callWith_method1 ?_ (h1 env) (h2 env)⟩
  refine ha A env own s₁ g₁ φ₁ σ₁ ρ _ cx eo R₁ hQ _ _ _ fun ws s₂ g₂ φ₂ σ₂ vs N₂ R₂ hvs hQ₂ => ?_
  exact hf A s₂ g₂ φ₂ σ₂ (.str x :: vs) (.str x t :: ws) _ cx R₂.ok R₂.sr ⟨_, _, rfl, N₂.vr hv, hvs⟩ hQ₂ _ _ fun w s' g' φ' σ' v N' ok' S' hv hQ => k _ _ _ _ _ v ((N₁.trans N₂).trans N') (R₂.step N' ok' S') hv hQ
/-- a method of a list -/
theorem Ev.methL {name : Str} {id : String} (hs : Slot "list" name id) (hty : typeOf (.builtin id) = pure (.type "method_descriptor")) {o e : Expr} {rest : List Expr} {apos pos : Pos} {Wo : WE} {Ws : WL} {Wf : List V → (V → Sto → Prop) → Sto → Prop}
    (ho : Ev G ℓ sc o Wo) (ha : Evs G ℓ sc (e :: rest) Ws) (hf : FnOk G ℓ (.builtin id) Wf)
    (h0 : ∀ env, attributeBase o name env (eval o env) = eval o env := by intro _; rfl)
    (h1 : ∀ env, starEach (e :: rest) env = (false, eval e env) :: starEach rest env := by intro _; rfl) (h2 : ∀ env, (backTo pos (starEach rest env)).any (·.1) = false := by intro _; rfl)
    (h3 : ∀ env, (((backTo pos (starEach (e :: rest) env)).all fun x => !x.1) && (backToKw pos (keywordEach [] env)).all fun x => x.1.isSome) = true := by intro _; rfl)
    (h4 : decide ((e :: rest).length + ([] : List Keyword).length + (if ([] : List Keyword).isEmpty = true then 0 else 1) < 30) = true := by rfl)
    (h5 : (apos.endLine == pos.line) = true := by rfl) :
    Ev G ℓ sc (.Call (.Attribute o name apos) (e :: rest) [] pos) fun Q ρ σ => Wo (fun ov σ₁ => (∃ xs, aList σ₁ ov = some xs) ∧ Ws (fun vs σ₂ => Wf (ov :: vs) Q σ₂) ρ σ₁) ρ σ := by
  intro A env own s g φ σ ρ Q cx eo R hW K E k
  refine wpAny_Call_method (h0 env) (by rw [h3 env, h4]; rfl) h5 F.plainAttrs_list hs hty ?_
  refine ho A env own s g φ σ ρ _ cx eo R hW _ _ fun w s₁ g₁ φ₁ σ₁ ov N₁ R₁ hv hQ => ?_
  obtain ⟨⟨xs, hx⟩, hQ⟩ := hQ
  obtain ⟨a, arr, n, rfl, hoo, _⟩ := aList_obj R₁.sr hv hx
  refine ⟨⟨_, hoo, rfl⟩, fun b e => (by cases e; exact ⟨_, hoo, rfl⟩), callWith_method1 ?_ (h1 env) (h2 env)⟩
  refine ha A env own s₁ g₁ φ₁ σ₁ ρ _ cx eo R₁ hQ _ _ _ fun ws s₂ g₂ φ₂ σ₂ vs N₂ R₂ hvs hQ₂ => ?_
  exact hf A s₂ g₂ φ₂ σ₂ (ov :: vs) (.ref a :: ws) _ cx R₂.ok R₂.sr ⟨_, _, rfl, N₂.vr hv, hvs⟩ hQ₂ _ _ fun w s' g' φ' σ' v N' ok' S' hv hQ => k _ _ _ _ _ v ((N₁.trans N₂).trans N') (R₂.step N' ok' S') hv hQ

/-- replace, with written signs -/
theorem Ev.replace {o : Expr} {a b : Str} {k₁ k₂ : Nat} {p₁ p₂ apos pos : Pos} {Wo : WE} {c : Nat} {z : List Nat} (ho : Ev G ℓ sc o Wo) (hty : typeOf (.builtin "str.replace") = pure (.type "method_descriptor"))
    (ha : a = S [c]) (hb : b = S z) (hz : z.length ≤ 1) (hne : z ≠ [c])
    (h0 : ∀ env, attributeBase o (Str.ofString "replace") env (eval o env) = eval o env := by intro _; rfl)
    (h5 : (apos.endLine == pos.line) = true := by rfl) :
    Ev G ℓ sc (.Call (.Attribute o (Str.ofString "replace") apos) [.Constant (.str a) k₁ p₁, .Constant (.str b) k₂ p₂] [] pos) fun Q ρ σ => Wo (fun ov σ₁ => ∃ x, ov = .str x ∧ (L x).length ≤ 2 ^ 20 ∧ Q (.str (S (repl c z (L x)))) σ₁) ρ σ := by
  intro A env own s g φ σ ρ Q cx eo R hW K E k
  subst ha hb
  refine wpAny_Call_method (h0 env) rfl h5 F.plainAttrs_str F.slot_str_replace hty ?_
  refine ho A env own s g φ σ ρ _ cx eo R hW _ _ fun w s₁ g₁ φ₁ σ₁ ov N₁ R₁ hv hQ => ?_
  obtain ⟨x, rfl, hsz, hQ⟩ := hQ
  have hv' := hv
  obtain ⟨t, rfl⟩ := hv'
  have ht := R₁.ok.toks
  refine ⟨typeIs_str _ _ _, fun a e => (by cases e), callWith_method1 ?_ rfl rfl⟩
  show wpAny _ A (spliced [(false, eval (.Constant (.str (S [c])) k₁ p₁) env), (false, eval (.Constant (.str (S z)) k₂ p₂) env)]) _ E s₁
  show wpAny _ A (do let v ← eval (.Constant (.str (S [c])) k₁ p₁) env; return [v] ++ (← holding [v] (spliced [(false, eval (.Constant (.str (S z)) k₂ p₂) env)]))) _ E s₁
  refine wpAny_bind (wpAny_Constant_str (wpAny_bind (wpAny_holding ?_)))
  show wpAny _ A (do let v ← eval (.Constant (.str (S z)) k₂ p₂) env; return [v] ++ (← holding [v] (spliced []))) _ E _
  refine wpAny_bind (wpAny_Constant_str (wpAny_bind (wpAny_holding (wpAny_pure (wpAny_pure (wpAny_pure ?_))))))
  dsimp only
  have hl := len_L x
  refine of_toks (by show 1 ≤ s₁.toks + 1 + 1; exact ar225) (SC.replace (Nat.ne_of_gt ht) (Nat.succ_ne_zero _) (Nat.ne_of_lt (Nat.lt_succ_self _)) ?_ ?_ fun t' tk htk => ?_)
  · rw [beq_eq_false_iff_ne]
    intro h
    have := congrArg L h
    rw [L_S, L_S] at this
    exact hne this.symm
  · have : (S z).length ≤ 1 := by rw [← len_L, L_S]; exact hz
    have h3 : (x.length + 1) * (S z).length ≤ (x.length + 1) * 1 := Nat.mul_le_mul_left _ this
    exact ar250 h3 hl hsz
  · rw [txt_replace]
    have N : Nx [] s { s₁ with toks := tk } g g₁ φ φ₁ := ⟨N₁.drawn, N₁.os, N₁.sub, N₁.new, N₁.pre, N₁.oth, N₁.ex⟩
    exact k _ _ _ _ _ (.str _) N (R.step N ⟨htk, R₁.ok.bare⟩ R₁.sr) ⟨_, rfl⟩ hQ
end

end
section
set_option autoImplicit false

noncomputable def setIx (n : Nat) (j : Int) : Option Nat := if 0 ≤ j then (if j < n then some j.toNat else none) else if -(n : Int) ≤ j then some (j + n).toNat else none
section
variable {G : Glb} {ℓ : Nat}

theorem upd_list {h : Heap} {a : Addr} {arr : Array Value} {n : Nat} (ho : h.get? a = some (listObj arr n)) (f : Array Value → Array Value) :
    (∃ n', (h.update a (Obj.mapSeq f)).get? a = some (listObj (f arr) n')) ∧ ∀ b o, b ≠ a → h.get? b = some o → (h.update a (Obj.mapSeq f)).get? b = some o := by
  refine ⟨⟨if (f arr).size == arr.size then n else n + 1, ?_⟩, fun b o q e => (Heap.SameBut.update ..).extBut b o q e⟩
  exact Heap.get?_update_self _ ho rfl

theorem FnOk.remove : FnOk G ℓ (.builtin "list.remove") fun vs Q σ => ∃ (i : Nat) (ns : List Int) (x : Int), vs = [.ref i, .int x] ∧ σ[i]? = some (.list (ns.map V.int)) ∧ x ∈ ns ∧ ns.length ≤ 2 ^ 20 ∧ Q .none (σ.set i (.list ((ns.erase x).map V.int))) := by
  intro A s g φ σ vs ws Q cx ok S' hv hW K E k
  obtain ⟨i, ns, x, rfl, hm, hx, hsz, hQ⟩ := hW
  obtain ⟨w, u, rfl, ⟨a, rfl, ha⟩, ⟨t, rfl⟩⟩ := hv.two
  obtain ⟨arr, n, ho, hvs⟩ := S'.mo _ _ _ ha hm
  have hlen := hvs.length
  rw [Array.length_toList, List.length_map] at hlen
  have hT : s.TypeIs (.ref a) "list" := ⟨_, ho, rfl⟩
  have at' : ∀ j (hj : j < arr.size), ∃ t', arr[j] = .int (ns[j]'(by exact ar251 hj hlen)) t' := fun j hj => by
    obtain ⟨w, hw, hr⟩ := hvs.get (i := j) (v := .int (ns[j]'(by exact ar251 hj hlen))) (by rw [List.getElem?_map, List.getElem?_eq_getElem (by exact ar251 hj hlen)]; rfl)
    obtain ⟨t', rfl⟩ := hr
    refine ⟨t', ?_⟩
    rw [Array.getElem?_toList, Array.getElem?_eq_getElem hj] at hw
    exact Option.some.inj hw
  let e : Value → Bool := fun v => match v with | .int m _ => m == x | _ => false
  have he : ∀ y, y ∈ arr → MeetsSeq.EqGives y (.int x t) (e y) := fun y hy => by
    obtain ⟨j, hj, rfl⟩ := Array.mem_iff_getElem.mp hy
    obtain ⟨t', h⟩ := at' j hj
    rw [h]; exact MeetsSeq.EqGives.int _ _ _ _
  have hj : ns.idxOf x < arr.size := by rw [hlen]; exact List.idxOf_lt_length_of_mem hx
  have hit : e arr[ns.idxOf x] = true := by
    obtain ⟨t', h⟩ := at' _ hj
    rw [h]
    show (_ == x) = true
    rw [List.getElem_idxOf]; simp
  have hno : ∀ m (hm : m < arr.size), m < ns.idxOf x → e arr[m] = false := fun m hm hlt => by
    obtain ⟨t', h⟩ := at' m hm
    rw [h]
    show (_ == x) = false
    have := List.not_of_lt_findIdx (xs := ns) (p := (· == x)) (i := m) hlt
    simpa using this
  refine call_meets F.slot_list_remove hT F.entry_list_remove (F.args_list_remove_2 _ _) (MeetsSeq.list_remove a arr n (.int x t) e he _ hj hit hno (by rw [hlen]; exact Nat.le_trans hsz (by decide))) ⟨ho, ?_⟩
  obtain ⟨⟨n', ho'⟩, hk⟩ := upd_list ho fun xs => xs.eraseIdxIfInBounds (ns.idxOf x)
  refine Cont.upd k ok S' (m := .list ((ns.erase x).map V.int)) (v := .none) ha hk (by rw [ho']; simp) ⟨_, n', ho', ?_⟩ rfl hQ ok.toks
  have h1 : (arr.eraseIdxIfInBounds (ns.idxOf x)).toList = arr.toList.eraseIdx (ns.idxOf x) := by
    unfold Array.eraseIdxIfInBounds
    rw [dif_pos hj]; simp
  rw [h1, List.erase_eq_eraseIdx_of_idxOf (i := ns.idxOf x) rfl]
  have er : ∀ (j : Nat) (ms : List Int) (ws : List Value), VRs g φ (ms.map V.int) ws → VRs g φ ((ms.eraseIdx j).map V.int) (ws.eraseIdx j) := by
    intro j
    induction j with
    | zero =>
      intro ms ws h
      cases ms with
      | nil => have : ws = [] := h; subst this; rfl
      | cons m ms => obtain ⟨w, r, rfl, _, h2⟩ := h; exact h2
    | succ j ih =>
      intro ms ws h
      cases ms with
      | nil => have : ws = [] := h; subst this; rfl
      | cons m ms => obtain ⟨w, r, rfl, h1, h2⟩ := h; exact ⟨w, _, rfl, h1, ih ms r h2⟩
  exact er _ _ _ hvs

end

section
variable {G : Glb} {ℓ : Nat} {sc : Scope} {own : List Str}
theorem Sx.setItem {value o i : Expr} {p' pos : Pos} {Wv Wo Wi : WE} (hv : Ev G ℓ sc value Wv) (ho : Ev G ℓ sc o Wo) (hi : Ev G ℓ sc i Wi) (hs : ∀ env, swapsWith value (some (.Subscript o i p')) pos.line env = pure false := by intro _; rfl) :
    Sx G ℓ sc own (.Assign [.Subscript o i p'] value pos) fun Q ρ σ => Wv (fun v σ₁ => Wo (fun ov σ₂ => Wi (fun iv σ₃ => ∃ k xs j n, ov = .ref k ∧ σ₃[k]? = some (.list xs) ∧ iv = .int j ∧ xs.length ≤ 2 ^ 40 ∧ setIx xs.length j = some n ∧ Q .nx ρ (σ₃.set k (.list (xs.set n v)))) ρ σ₂) ρ σ₁) ρ σ := by
  intro A env s g φ σ ρ Q cx eo R hW K E k
  refine wpAny_Assign_Subscript ?_ (hs env)
  refine hv A env own s g φ σ ρ _ cx eo R hW _ _ fun w s₁ g₁ φ₁ σ₁ v N₁ R₁ hv hQ₁ => ?_
  refine ho A env own s₁ g₁ φ₁ σ₁ ρ _ cx eo R₁ hQ₁ _ _ fun ow s₂ g₂ φ₂ σ₂ ov N₂ R₂ hov hQ₂ => ?_
  refine hi A env own s₂ g₂ φ₂ σ₂ ρ _ cx eo R₂ hQ₂ _ _ fun iw s₃ g₃ φ₃ σ₃ iv N₃ R₃ hiv hQ₃ => ?_
  obtain ⟨c, xs, j, n, rfl, hm, rfl, hsz, hn, hQ⟩ := hQ₃
  obtain ⟨a, rfl, ha⟩ := N₃.vr hov
  obtain ⟨t, rfl⟩ := hiv
  obtain ⟨arr, m, hoo, hvs⟩ := R₃.sr.mo _ _ _ ha hm
  have hlen := hvs.length
  rw [Array.length_toList] at hlen
  have fin : ∀ n', n' = n → K .next { s₃ with heap := s₃.heap.update a (Obj.mapSeq fun x => x.setIfInBounds n' w) } := by
    intro n' hn'
    rw [← hn'] at hQ
    obtain ⟨⟨m', ho'⟩, hk⟩ := upd_list hoo fun x => x.setIfInBounds n' w
    have N4 : Nx [] s₃ { s₃ with heap := s₃.heap.update a (Obj.mapSeq fun x => x.setIfInBounds n' w) } g₃ g₃ φ₃ φ₃ := Nx.upd (tk := s₃.toks) (List.mem_of_getElem? ha) hk (by rw [ho']; simp)
    have S4 := R₃.sr.upd (m := .list (xs.set n' v)) ha hk ⟨_, m', ho', by rw [Array.toList_setIfInBounds]; exact VRs.set (N₃.vr (N₂.vr hv)) n' hvs⟩
    have N := ((N₁.trans N₂).trans N₃).trans N4
    exact k _ _ _ _ _ _ .nx N.fp (R.step N ⟨R₃.ok.toks, R₃.ok.bare⟩ S4) rfl hQ
  unfold setIx at hn
  split at hn
  · rename_i h0
    split at hn
    · rename_i h1
      cases hn
      exact ki_setAt hoo h0 (by exact ar255 h1 hsz) (by rw [hlen]; exact h1) (fin _ rfl)
    · cases hn
  · rename_i h0
    split at hn
    · rename_i h1
      cases hn
      exact ki_setBack hoo (by exact ar218 h0) (by rw [hlen]; exact h1) (by exact ar256 h1 hsz) (fin _ (by rw [hlen]))
    · cases hn
end

end
section
set_option autoImplicit false

/-! the words, named -/
noncomputable def wVal (v : V) : WE := fun Q _ σ => Q v σ
noncomputable def wBin (op : Operator) (W₁ W₂ : WE) : WE := fun Q ρ σ => W₁ (fun a σ₁ => W₂ (fun b σ₂ => aBin op a b Q σ₂) ρ σ₁) ρ σ
noncomputable def wCmp (op : CmpOp) (W₁ W₂ : WE) : WE := fun Q ρ σ => W₁ (fun a σ₁ => W₂ (fun b σ₂ => aCmp op a b (fun t σ' => Q (.bool t) σ') σ₂) ρ σ₁) ρ σ
noncomputable def tCmp (op : CmpOp) (W₁ W₂ : WE) : WT := fun Q ρ σ => W₁ (fun a σ₁ => W₂ (fun b σ₂ => aCmp op a b Q σ₂) ρ σ₁) ρ σ
noncomputable def tNot (W : WT) : WT := fun Q ρ σ => W (fun y σ' => Q (!y) σ') ρ σ
noncomputable def tOr (Wx Wy : WT) : WT := fun Q ρ σ => Wx (fun b σ' => if b = true then Q true σ' else Wy Q ρ σ') ρ σ
noncomputable def tVal (W : WE) : WT := fun Q ρ σ => W (fun v σ' => ∃ b, v = .bool b ∧ Q b σ') ρ σ
noncomputable def tYes : WT := fun Q _ σ => Q true σ
noncomputable def wItem (W₁ W₂ : WE) : WE := fun Q ρ σ => W₁ (fun a σ₁ => W₂ (fun b σ₂ => ∃ u, aItem σ₂ a b = some u ∧ Q u σ₂) ρ σ₁) ρ σ
noncomputable abbrev WO := (Option Int → Sto → Prop) → Rho → Sto → Prop
noncomputable def oNone : WO := fun Q _ σ => Q none σ
noncomputable def oSome (W : WE) : WO := fun Q ρ σ => W (fun v σ' => ∃ i : Int, v = .int i ∧ 0 ≤ i ∧ Q (some i) σ') ρ σ
noncomputable def wSlice (W : WE) (W₁ W₂ : WO) : WE := fun Q ρ σ => W (fun v σ₁ => W₁ (fun a σ₂ => W₂ (fun b σ₃ => ∃ x, v = .str x ∧ (L x).length ≤ 2 ^ 24 ∧ Q (.str (S (cut (L x) a b))) σ₃) ρ σ₂) ρ σ₁) ρ σ
noncomputable def lNil : WL := fun Q _ σ => Q [] σ
noncomputable def lCons (W : WE) (Ws : WL) : WL := fun Q ρ σ => W (fun v σ' => Ws (fun vs σ'' => Q (v :: vs) σ'') ρ σ') ρ σ
noncomputable def wList (Ws : WL) : WE := fun Q ρ σ => Ws (fun vs σ' => vs.length ≤ 2 ^ 20 ∧ newL Q vs σ') ρ σ
noncomputable def wTup (Ws : WL) : WE := fun Q ρ σ => Ws (fun vs σ' => vs.length ≤ 2 ^ 20 ∧ Q (.tup vs) σ') ρ σ
noncomputable abbrev WF := List V → (V → Sto → Prop) → Sto → Prop
noncomputable def wCall (Wf : WF) (Ws : WL) : WE := fun Q ρ σ => Ws (fun vs σ' => Wf vs Q σ') ρ σ
noncomputable def wMethS (Wo : WE) (Ws : WL) (Wf : WF) : WE := fun Q ρ σ => Wo (fun ov σ₁ => (∃ x, ov = .str x) ∧ Ws (fun vs σ₂ => Wf (ov :: vs) Q σ₂) ρ σ₁) ρ σ
noncomputable def wMethL (Wo : WE) (Ws : WL) (Wf : WF) : WE := fun Q ρ σ => Wo (fun ov σ₁ => (∃ xs, aList σ₁ ov = some xs) ∧ Ws (fun vs σ₂ => Wf (ov :: vs) Q σ₂) ρ σ₁) ρ σ
noncomputable def wRepl (c : Nat) (z : List Nat) (Wo : WE) : WE := fun Q ρ σ => Wo (fun ov σ₁ => ∃ x, ov = .str x ∧ (L x).length ≤ 2 ^ 20 ∧ Q (.str (S (repl c z (L x)))) σ₁) ρ σ
noncomputable def aName (x : Str) : WA := fun v Q ρ σ => Q (upd ρ x v) σ
noncomputable def sNil : WS := fun Q ρ σ => Q .nx ρ σ
noncomputable def wAsg (x : Str) (W : WE) : WS := fun Q ρ σ => W (fun v σ' => Q .nx (upd ρ x v) σ') ρ σ
noncomputable def wAsgT (Wa : WA) (W : WE) : WS := fun Q ρ σ => W (fun v σ' => Wa v (fun ρ' σ'' => Q .nx ρ' σ'') ρ σ') ρ σ
noncomputable def wExpr (W : WE) : WS := fun Q ρ σ => W (fun _ σ' => Q .nx ρ σ') ρ σ
noncomputable def wIte (Wt : WT) (Wb Wc : WS) : WS := fun Q ρ σ => Wt (fun y σ' => if y = true then Wb Q ρ σ' else Wc Q ρ σ') ρ σ
noncomputable def wRet (W : WE) : WS := fun Q ρ σ => W (fun v σ' => Q (.rt v) ρ σ') ρ σ
noncomputable def wBrk : WS := fun Q ρ σ => Q .br ρ σ
noncomputable def wSet (Wv Wo Wi : WE) : WS := fun Q ρ σ => Wv (fun v σ₁ => Wo (fun ov σ₂ => Wi (fun iv σ₃ => ∃ k xs j n, ov = .ref k ∧ σ₃[k]? = some (.list xs) ∧ iv = .int j ∧ xs.length ≤ 2 ^ 40 ∧ setIx xs.length j = some n ∧ Q .nx ρ (σ₃.set k (.list (xs.set n v)))) ρ σ₂) ρ σ₁) ρ σ

section
variable {G : Glb} {ℓ : Nat} {sc : Scope} {own : List Str}

theorem r_int {i : Int} {k : Nat} {pos : Pos} : Ev G ℓ sc (.Constant (.int i) k pos) (wVal (.int i)) := Ev.int
theorem r_str {x : Str} {k : Nat} {pos : Pos} : Ev G ℓ sc (.Constant (.str x) k pos) (wVal (.str x)) := Ev.str
theorem r_bool {b : Bool} {k : Nat} {pos : Pos} : Ev G ℓ sc (.Constant (.bool b) k pos) (wVal (.bool b)) := Ev.bool
theorem r_local {x : Str} {pos : Pos} (hk : sc.names.lookup x = some .local) (hd : (x == ("__debug__" : Str)) = false) : Ev G ℓ sc (.Name x pos) (wName x) := Ev.local hk hd
theorem r_cell {x : Str} {pos : Pos} (hk : sc.names.lookup x = some .cell) (hd : (x == ("__debug__" : Str)) = false) : Ev G ℓ sc (.Name x pos) (wName x) := Ev.cell hk hd
theorem r_glob (O : G.Ok) {x : Str} {pos : Pos} {w : Value} {v : V} (hk : sc.names.lookup x = some .globalImplicit) (hm : G.mg x = some w) (hr : ∀ g φ, VR g φ v w) (hd : (x == ("__debug__" : Str)) = false) :
    Ev G ℓ sc (.Name x pos) (wVal v) := Ev.glob O hk hm hr hd
theorem r_builtin (O : G.Ok) {x : Str} {pos : Pos} {w : Value} (hk : sc.names.lookup x = some .globalImplicit) (hm : G.mg x = Option.none) (hb : G.mb x = some w) (hd : (x == ("__debug__" : Str)) = false) :
    Ev G ℓ sc (.Name x pos) (wVal (.raw w)) := Ev.builtin O hk hm hb hd
theorem r_bin {l r : Expr} {op : Operator} {pos : Pos} {W₁ W₂ : WE} (h₁ : Ev G ℓ sc l W₁) (h₂ : Ev G ℓ sc r W₂) : Ev G ℓ sc (.BinOp l op r pos) (wBin op W₁ W₂) := Ev.bin h₁ h₂
theorem r_cmp {l r : Expr} {op : CmpOp} {pos : Pos} {W₁ W₂ : WE} (h₁ : Ev G ℓ sc l W₁) (h₂ : Ev G ℓ sc r W₂) (hm : behindInMarks op r = false := by rfl) : Ev G ℓ sc (.Compare l [op] [r] pos) (wCmp op W₁ W₂) := Ev.cmp h₁ h₂ hm
theorem t_cmp {l r : Expr} {op : CmpOp} {pos : Pos} {W₁ W₂ : WE} (h₁ : Ev G ℓ sc l W₁) (h₂ : Ev G ℓ sc r W₂) (hm : behindInMarks op r = false := by rfl) : Tt G ℓ sc (.Compare l [op] [r] pos) (tCmp op W₁ W₂) := Tt.cmp h₁ h₂ hm
theorem t_not {x : Expr} {pos : Pos} {W : WT} (h : Tt G ℓ sc x W) : Tt G ℓ sc (.UnaryOp .Not x pos) (tNot W) := Tt.not h
theorem t_or {x y : Expr} {pos : Pos} {Wx Wy : WT} (hx : Tt G ℓ sc x Wx) (hy : Tt G ℓ sc y Wy) : Tt G ℓ sc (.BoolOp .Or [x, y] pos) (tOr Wx Wy) := Tt.or hx hy
theorem t_val {e : Expr} {W : WE} (h : Ev G ℓ sc e W) (hp : ∀ env whole, isTrue e env whole = (do let v ← whole; standAt e.pos; holding [v] (truthy v)) := by intro _ _; rfl) : Tt G ℓ sc e (tVal W) := Tt.val h hp
theorem r_item {e i : Expr} {pos : Pos} {W₁ W₂ : WE} (h₁ : Ev G ℓ sc e W₁) (h₂ : Ev G ℓ sc i W₂) (hs : ∀ o v : Value, ∃ ops, subscripted i false o v = operate ops (getItem o v) := by intro o v; exact ⟨[o, v], rfl⟩) :
    Ev G ℓ sc (.Subscript e i pos) (wItem W₁ W₂) := Ev.item h₁ h₂ hs
theorem o_none : Evo G ℓ sc none oNone := Evo.none
theorem o_some {e : Expr} {W : WE} (h : Ev G ℓ sc e W) : Evo G ℓ sc (some e) (oSome W) := Evo.some h
theorem r_slice {e : Expr} {lo hi : Option Expr} {p pos : Pos} {W : WE} {W₁ W₂ : WO} (h : Ev G ℓ sc e W) (h₁ : Evo G ℓ sc lo W₁) (h₂ : Evo G ℓ sc hi W₂)
    (hl : ∀ o r : Value, letTemporaryGo e o r = pure () := by intro _ _; rfl) : Ev G ℓ sc (.Subscript e (.Slice lo hi none p) pos) (wSlice W W₁ W₂) := Ev.strSlice h h₁ h₂ hl
theorem l_nil : Evs G ℓ sc [] lNil := Evs.nil
theorem l_cons {e : Expr} {es : List Expr} {W : WE} {Ws : WL} (h : Ev G ℓ sc e W) (hs : Evs G ℓ sc es Ws) (hst : ∀ env, starEach (e :: es) env = (false, eval e env) :: starEach es env := by intro _; rfl) :
    Evs G ℓ sc (e :: es) (lCons W Ws) := Evs.cons h hs hst
theorem r_list {es : List Expr} {pos : Pos} {Ws : WL} (h : Evs G ℓ sc es Ws) : Ev G ℓ sc (.List es pos) (wList Ws) := Ev.list h
theorem r_tuple {es : List Expr} {n : Nat} {pos : Pos} {Ws : WL} (h : Evs G ℓ sc es Ws) : Ev G ℓ sc (.Tuple es n pos) (wTup Ws) := Ev.tuple h
theorem r_call {f : Value} {id : Str} {np pos : Pos} {e : Expr} {rest : List Expr} {W : WF} {Ws : WL} (hn : Ev G ℓ sc (.Name id np) (wVal (.raw f))) (hc : CallOk G f) (hf : FnOk G ℓ f W) (ha : Evs G ℓ sc (e :: rest) Ws)
    (h1 : ∀ env, starEach (e :: rest) env = (false, eval e env) :: starEach rest env := by intro _; rfl) (h2 : ∀ env, (backTo pos (starEach rest env)).any (·.1) = false := by intro _; rfl) :
    Ev G ℓ sc (.Call (.Name id np) (e :: rest) [] pos) (wCall W Ws) := Ev.call hn hc hf ha h1 h2
theorem r_comp {scope : Scope} {t iter elt : Expr} {ifs : List Expr} {pos : Pos} {Wf : WE} {Wa : WA} {Wi : WT} {We : WE} (hf : Ev G ℓ sc iter Wf) (ha : Asg G ℓ (relab scope sc) (ownOf scope) t Wa)
    (hi : Ifs G ℓ (relab scope sc) ifs Wi) (he : Ev G ℓ (relab scope sc) elt We) (hk : scope.kind = .function) (hn : NamesOk scope)
    (hfk : ∀ p ∈ scope.names, p.2 = .free → sc.names.lookup p.1 = some .cell ∨ sc.names.lookup p.1 = some .free)
    (hs : ∀ env x, foldedSetIterable iter env x = pure x := by intro _ _; rfl) : Ev G ℓ sc (.ListComp elt [⟨t, iter, ifs, 0⟩] scope pos) (wComp scope Wf Wa Wi We) := Ev.comp hf ha hi he hk hn hfk hs
theorem i_none : Ifs G ℓ sc [] tYes := Ifs.none
theorem a_name {x : Str} {p : Pos} (hx : canStore sc own x) : Asg G ℓ sc own (.Name x p) (aName x) := Asg.name hx
theorem a_pair {x y : Expr} {k : Nat} {p : Pos} {Wx Wy : WA} (hx : Asg G ℓ sc own x Wx) (hy : Asg G ℓ sc own y Wy) (hs : ∀ env, assignEach [x, y] env = [(false, assign x env), (false, assign y env)] := by intro _; rfl) :
    Asg G ℓ sc own (.Tuple [x, y] k p) (wPair Wx Wy) := Asg.pair hx hy hs
theorem s_nil : Sxs G ℓ sc own [] sNil := Sxs.nil
theorem s_cons {st : Stmt} {rest : List Stmt} {W₁ W₂ : WS} (h₁ : Sx G ℓ sc own st W₁) (h₂ : Sxs G ℓ sc own rest W₂) : Sxs G ℓ sc own (st :: rest) (wSeq W₁ W₂) := Sxs.cons h₁ h₂
theorem s_assign {e : Expr} {W : WE} {x : Str} {p pos : Pos} (h : Ev G ℓ sc e W) (hx : canStore sc own x) (hs : ∀ env, swapsWith e (some (.Name x p)) pos.line env = pure false := by intro _; rfl) :
    Sx G ℓ sc own (.Assign [.Name x p] e pos) (wAsg x W) := Sx.assign h hx hs
theorem s_assignComp {scope : Scope} {t iter elt : Expr} {ifs : List Expr} {x : Str} {p pos spos : Pos} {Wf : WE} {Wa : WA} {Wi : WT} {We : WE} (hf : Ev G ℓ sc iter Wf) (ha : Asg G ℓ (relab scope sc) (ownOf scope) t Wa)
    (hi : Ifs G ℓ (relab scope sc) ifs Wi) (he : Ev G ℓ (relab scope sc) elt We) (hx : canStore sc own x) (hk : scope.kind = .function) (hn : NamesOk scope)
    (hfk : ∀ p ∈ scope.names, p.2 = .free → sc.names.lookup p.1 = some .cell ∨ sc.names.lookup p.1 = some .free)
    (hs : ∀ env x, foldedSetIterable iter env x = pure x := by intro _ _; rfl) :
    Sx G ℓ sc own (.Assign [.Name x p] (.ListComp elt [⟨t, iter, ifs, 0⟩] scope pos) spos) (wAsg x (wComp scope Wf Wa Wi We)) := Sx.assignComp hf ha hi he hx hk hn hfk hs
theorem s_expr {e : Expr} {W : WE} {pos : Pos} (h : Ev G ℓ sc e W) (hk : sc.kind = .function) (hs : ∀ env, swapsWith e none pos.line env = pure false := by intro _; rfl) : Sx G ℓ sc own (.Expr e pos) (wExpr W) :=
  Sx.expr h (fun env he => by unfold interactive; rw [he, hk]; rfl) hs
theorem s_ite {t : Expr} {b c : List Stmt} {pos : Pos} {Wt : WT} {Wb Wc : WS} (ht : Tt G ℓ sc t Wt) (hb : Sxs G ℓ sc own b Wb) (hc : Sxs G ℓ sc own c Wc) : Sx G ℓ sc own (.If t b c pos) (wIte Wt Wb Wc) := Sx.ite ht hb hc
theorem s_ret {e : Expr} {W : WE} {pos : Pos} (h : Ev G ℓ sc e W) : Sx G ℓ sc own (.Return (some e) pos) (wRet W) := Sx.ret h
theorem s_brk {pos : Pos} : Sx G ℓ sc own (.Break pos) wBrk := Sx.brk
theorem s_while {t : Expr} {b : List Stmt} {pos : Pos} {Wt : WT} {Wb : WS} (ht : Tt G ℓ sc t Wt) (hb : Sxs G ℓ sc own b Wb) : Sx G ℓ sc own (.While t b [] pos) (wWhile Wt Wb) := Sx.while ht hb
theorem s_for {t iter : Expr} {b : List Stmt} {pos : Pos} {We : WE} {Wa : WA} {Wb : WS} (he : Ev G ℓ sc iter We) (ha : Asg G ℓ sc own t Wa) (hb : Sxs G ℓ sc own b Wb) (hf : ∀ env x, foldedSetIterable iter env x = pure x := by intro _ _; rfl) :
    Sx G ℓ sc own (.For t iter b [] pos) (wForE We Wa Wb) := Sx.for he ha hb hf
theorem s_set {value o i : Expr} {p' pos : Pos} {Wv Wo Wi : WE} (hv : Ev G ℓ sc value Wv) (ho : Ev G ℓ sc o Wo) (hi : Ev G ℓ sc i Wi) (hs : ∀ env, swapsWith value (some (.Subscript o i p')) pos.line env = pure false := by intro _; rfl) :
    Sx G ℓ sc own (.Assign [.Subscript o i p'] value pos) (wSet Wv Wo Wi) := Sx.setItem hv ho hi hs
end

/-! steps -/
section
variable {Q : V → Sto → Prop} {T : Bool → Sto → Prop} {QL : List V → Sto → Prop} {QS : Fl → Rho → Sto → Prop} {ρ : Rho} {σ : Sto}
theorem upd_same (ρ : Rho) (x : Str) (v : V) : upd ρ x v x = some v := if_pos rfl
theorem upd_other {ρ : Rho} {x y : Str} {v : V} {u : Option V} (h : y ≠ x) (e : ρ y = u) : upd ρ x v y = u := (if_neg h).trans e
theorem p_val {v : V} (h : Q v σ) : wVal v Q ρ σ := h
theorem p_name {x : Str} {v : V} (e : ρ x = some v) (h : Q v σ) : wName x Q ρ σ := ⟨v, e, h⟩
theorem p_bin {op : Operator} {W₁ W₂ : WE} (h : W₁ (fun a σ₁ => W₂ (fun b σ₂ => aBin op a b Q σ₂) ρ σ₁) ρ σ) : wBin op W₁ W₂ Q ρ σ := h
theorem p_cmp {op : CmpOp} {W₁ W₂ : WE} (h : W₁ (fun a σ₁ => W₂ (fun b σ₂ => aCmp op a b (fun t σ' => Q (.bool t) σ') σ₂) ρ σ₁) ρ σ) : wCmp op W₁ W₂ Q ρ σ := h
theorem p_tcmp {op : CmpOp} {W₁ W₂ : WE} (h : W₁ (fun a σ₁ => W₂ (fun b σ₂ => aCmp op a b T σ₂) ρ σ₁) ρ σ) : tCmp op W₁ W₂ T ρ σ := h
theorem p_tnot {W : WT} (h : W (fun y σ' => T (!y) σ') ρ σ) : tNot W T ρ σ := h
theorem p_tor {Wx Wy : WT} (h : Wx (fun b σ' => if b = true then T true σ' else Wy T ρ σ') ρ σ) : tOr Wx Wy T ρ σ := h
theorem p_tval {W : WE} (h : W (fun v σ' => ∃ b, v = .bool b ∧ T b σ') ρ σ) : tVal W T ρ σ := h
theorem p_tyes (h : T true σ) : tYes T ρ σ := h
theorem p_item {W₁ W₂ : WE} (h : W₁ (fun a σ₁ => W₂ (fun b σ₂ => ∃ u, aItem σ₂ a b = some u ∧ Q u σ₂) ρ σ₁) ρ σ) : wItem W₁ W₂ Q ρ σ := h
theorem p_onone {QO : Option Int → Sto → Prop} (h : QO none σ) : oNone QO ρ σ := h
theorem p_osome {QO : Option Int → Sto → Prop} {W : WE} (h : W (fun v σ' => ∃ i : Int, v = .int i ∧ 0 ≤ i ∧ QO (some i) σ') ρ σ) : oSome W QO ρ σ := h
theorem p_slice {W : WE} {W₁ W₂ : WO} (h : W (fun v σ₁ => W₁ (fun a σ₂ => W₂ (fun b σ₃ => ∃ x, v = .str x ∧ (L x).length ≤ 2 ^ 24 ∧ Q (.str (S (cut (L x) a b))) σ₃) ρ σ₂) ρ σ₁) ρ σ) : wSlice W W₁ W₂ Q ρ σ := h
theorem p_lnil (h : QL [] σ) : lNil QL ρ σ := h
theorem p_lcons {W : WE} {Ws : WL} (h : W (fun v σ' => Ws (fun vs σ'' => QL (v :: vs) σ'') ρ σ') ρ σ) : lCons W Ws QL ρ σ := h
theorem p_list {Ws : WL} (h : Ws (fun vs σ' => vs.length ≤ 2 ^ 20 ∧ newL Q vs σ') ρ σ) : wList Ws Q ρ σ := h
theorem p_tup {Ws : WL} (h : Ws (fun vs σ' => vs.length ≤ 2 ^ 20 ∧ Q (.tup vs) σ') ρ σ) : wTup Ws Q ρ σ := h
theorem p_call {Wf : WF} {Ws : WL} (h : Ws (fun vs σ' => Wf vs Q σ') ρ σ) : wCall Wf Ws Q ρ σ := h
theorem p_methS {Wo : WE} {Ws : WL} {Wf : WF} (h : Wo (fun ov σ₁ => (∃ x, ov = .str x) ∧ Ws (fun vs σ₂ => Wf (ov :: vs) Q σ₂) ρ σ₁) ρ σ) : wMethS Wo Ws Wf Q ρ σ := h
theorem p_methL {Wo : WE} {Ws : WL} {Wf : WF} (h : Wo (fun ov σ₁ => (∃ xs, aList σ₁ ov = some xs) ∧ Ws (fun vs σ₂ => Wf (ov :: vs) Q σ₂) ρ σ₁) ρ σ) : wMethL Wo Ws Wf Q ρ σ := h
theorem p_repl {c : Nat} {z : List Nat} {Wo : WE} (h : Wo (fun ov σ₁ => ∃ x, ov = .str x ∧ (L x).length ≤ 2 ^ 20 ∧ Q (.str (S (repl c z (L x)))) σ₁) ρ σ) : wRepl c z Wo Q ρ σ := h
theorem p_aname {x : Str} {v : V} {QA : Rho → Sto → Prop} (h : QA (upd ρ x v) σ) : aName x v QA ρ σ := h
theorem p_apair {Wa Wb : WA} {a b : V} {QA : Rho → Sto → Prop} (h : Wa a (fun ρ' σ' => Wb b QA ρ' σ') ρ σ) : wPair Wa Wb (.tup [a, b]) QA ρ σ := ⟨a, b, rfl, h⟩
theorem p_snil (h : QS .nx ρ σ) : sNil QS ρ σ := h
/-- what stands behind a statement -/
noncomputable def seqK (W : WS) (Q : Fl → Rho → Sto → Prop) : Fl → Rho → Sto → Prop := fun fl ρ σ => match fl with | .nx => W Q ρ σ | .br => Q .br ρ σ | .ct => Q .ct ρ σ | .rt v => Q (.rt v) ρ σ
theorem p_seq {W₁ W₂ : WS} (h : W₁ (seqK W₂ QS) ρ σ) : wSeq W₁ W₂ QS ρ σ := by
  show W₁ _ ρ σ
  exact h
theorem p_knx {W : WS} (h : W QS ρ σ) : seqK W QS .nx ρ σ := h
theorem p_kbr {W : WS} (h : QS .br ρ σ) : seqK W QS .br ρ σ := h
theorem p_krt {W : WS} {v : V} (h : QS (.rt v) ρ σ) : seqK W QS (.rt v) ρ σ := h
theorem p_asg {x : Str} {W : WE} (h : W (fun v σ' => QS .nx (upd ρ x v) σ') ρ σ) : wAsg x W QS ρ σ := h
theorem p_asgT {Wa : WA} {W : WE} (h : W (fun v σ' => Wa v (fun ρ' σ'' => QS .nx ρ' σ'') ρ σ') ρ σ) : wAsgT Wa W QS ρ σ := h
theorem p_expr {W : WE} (h : W (fun _ σ' => QS .nx ρ σ') ρ σ) : wExpr W QS ρ σ := h
theorem p_ite {Wt : WT} {Wb Wc : WS} (h : Wt (fun y σ' => if y = true then Wb QS ρ σ' else Wc QS ρ σ') ρ σ) : wIte Wt Wb Wc QS ρ σ := h
theorem p_ret {W : WE} (h : W (fun v σ' => QS (.rt v) ρ σ') ρ σ) : wRet W QS ρ σ := h
theorem p_brk (h : QS .br ρ σ) : wBrk QS ρ σ := h
theorem p_retK {v : V} (h : Q v σ) : retK Q (.rt v) ρ σ := h
theorem p_retN (h : Q .none σ) : retK Q .nx ρ σ := h
theorem p_forE {We : WE} {Wa : WA} {Wb : WS} (h : We (fun v σ' => ∃ xs, aItems σ' v = some xs ∧ wFor (aGd v xs) Wa Wb xs QS ρ σ') ρ σ) : wForE We Wa Wb QS ρ σ := h
theorem p_frozen {ys : List V} (h : Q (.list ys) σ) : newL Q ys σ := .inl h
theorem p_mut {ys : List V} (h : Q (.ref σ.length) (σ ++ [.list ys])) : newL Q ys σ := .inr h
theorem p_comp {scope : Scope} {Wf : WE} {Wa : WA} {Wi : WT} {We : WE} (hb : FreeBound scope ρ) (h : Wf (fun v σ' => ∃ xs, aItems σ' v = some xs ∧ xs.length ≤ 2 ^ 20 ∧ wCompL (aGd v xs) Wa Wi We xs [] (newL Q) (innerRho scope ρ) σ') ρ σ) :
    wComp scope Wf Wa Wi We Q ρ σ := ⟨hb, h⟩
theorem FnOk.mono {G : Glb} {ℓ : Nat} {f : Value} {W W' : WF} (h : FnOk G ℓ f W) (hW : ∀ vs Q σ, W' vs Q σ → W vs Q σ) : FnOk G ℓ f W' :=
  fun A s g φ σ vs ws Q cx ok S hv hw => h A s g φ σ vs ws Q cx ok S hv (hW vs Q σ hw)
end

end
section
set_option autoImplicit false
/-- the state with one token more -/
noncomputable abbrev up1 (s : Shared) : Shared := { s with toks := s.toks + 1 }
theorem up1_ok {s : Shared} (hb : AllBare s.gens) : SOk (up1 s) := ⟨Nat.le_add_left _ _, hb⟩

section
variable {G : Glb} {g g' : FM} {φ φ' : List Addr} {σ σ' : Sto} {env : Env} {own : List Str} {ρ : Rho} {s s' : Shared} {A : Around} {E : Value → Shared → Prop}
theorem Nx.of_up {fp : List Addr} (N : Nx fp (up1 s) s' g g' φ φ') : Nx fp s s' g g' φ φ' := ⟨N.drawn, N.os, N.sub, N.new, N.pre, N.oth, N.ex⟩
theorem Nx.to_up {fp : List Addr} (N : Nx fp s s' g g' φ φ') : Nx fp (up1 s) s' g g' φ φ' := ⟨N.drawn, N.os, N.sub, N.new, N.pre, N.oth, N.ex⟩

/-- a value that may be called from a state of which the tokens' count isn't known -/
noncomputable def FnOk0 (G : Glb) (ℓ : Nat) (f : Value) (W : List V → (V → Sto → Prop) → Sto → Prop) : Prop :=
  ∀ (A : Around) (s : Shared) (g : FM) (φ : List Addr) (σ : Sto) (vs : List V) (ws : List Value) (Q : V → Sto → Prop), Cx ℓ A → AllBare s.gens → SR G g s.heap φ σ → VRs g φ vs ws → W vs Q σ →
    ∀ (K : Value → Shared → Prop) (E : Value → Shared → Prop),
      (∀ w s' g' φ' σ' v, Nx [] s s' g g' φ φ' → SOk s' → SR G g' s'.heap φ' σ' → VR g' φ' v w → Q v σ' → K w s') → wpAny (model G.prog G.w) A (call f ws) K E s
theorem FnOk0.mono {ℓ : Nat} {f : Value} {W W' : WF} (h : FnOk0 G ℓ f W) (hW : ∀ vs Q σ, W' vs Q σ → W vs Q σ) : FnOk0 G ℓ f W' :=
  fun A s g φ σ vs ws Q cx ok S hv hw => h A s g φ σ vs ws Q cx ok S hv (hW vs Q σ hw)

/-- the frame of a def of one argument, a local name, set up -/
theorem enter1 (O : G.Ok) {ℓ : Nat} {a : Addr} {fd : FuncData} {body : List Stmt} {x : Str} (D : IsDef G a fd body [])
    (hx : fd.scope.names.lookup x = some .local) (hb : ∀ w : Value, bindArgs fd ⟨[w], []⟩ = pure [(x, w)])
    (cx : Cx (ℓ + 1) A) (bare : AllBare s.gens) (S : SR G g s.heap φ σ) {v : V} {w : Value} (hv : VR g φ v w) {K : Value → Shared → Prop}
    (h : ∀ (env : Env) (s₁ : Shared), EnvOk fd.scope env → env.frame = some env.locals → Cx ℓ (A.deeper env) → (∀ b ∈ fpOf env (ownOf fd.scope), s.heap.get? b = none) → Nx [] s s₁ g g φ φ → Rel G g φ σ env (ownOf fd.scope) (upd (fun _ => none) x v) s₁ →
      ∀ E' : Value → Shared → Prop, wpAny (model G.prog G.w) (A.deeper env) (execs body env) (fun f s' => (f = .next → K .none s') ∧ (∀ w, f = .ret w → K w s') ∧ (f = .next ∨ ∃ w, f = .ret w)) E' s₁) :
    wpAny (model G.prog G.w) A (call (.ref a) [w]) K E s := by
  obtain ⟨o, hbase, hdata⟩ := D.obj
  have inb : G.In s.heap := fun b o e => S.keep b o (S.base b o e)
  have dep := cx.depth
  have uni := cx.units
  refine wpAny_call (codeAny_call_function (by show A.depth < 1000; exact ar168 dep) (inb _ _ hbase) hdata D.co D.gen D.body (D.code _ inb) (BindsTo.of_eq (hb w) _ _ _ _ ?_))
  rw [D.closure]
  simp only [newFunctionEnv, Option.isSome_none, Bool.false_eq_true, if_false]
  refine wpAny_bind (wpAny_alloc ?_)
  refine wpAny_bind (wpAny_layCells _ (fun name kind cells => by cases kind == NameKind.cell <;> simp) _ _ _ _ ?_)
  rw [show ({ s with heap := s.heap.push { cls := .type "frame", data := .dict #[] } } : Shared).heap.objs.size = s.heap.objs.size + 1 from Heap.size_push ..]
  generalize hE : ({ scope := fd.scope, locals := s.heap.objs.size, globals := fd.globals, cells := cellsFrom (s.heap.objs.size + 1) fd.scope.names [], qual := fd.qualname ++ ".<locals>.", func := some a, code := fd.code, frame := some s.heap.objs.size, builtins := fd.builtins } : Env) = env
  have eo : EnvOk fd.scope env := ⟨by rw [← hE], D.kind, by rw [← hE]; exact D.globals, by rw [← hE]; exact D.builtins⟩
  obtain ⟨R₁, N₁, hfr⟩ := Rel.frame (s := up1 s) (cls := .type "frame") (sc := fd.scope) (sc' := fd.scope) (cl := []) (ρ₀ := fun _ => none) (env' := env) (up1_ok bare) S (fun x v h => by cases h) eo.scope (by rw [← hE]) (by rw [← hE])
  rw [List.forIn_cons]
  refine wpAny_bind (wpAny_bind (wpAny_bind (store_local0 eo bare R₁.sr R₁.fr hx hv fun s₂ N₂ R₂ => wpAny_pure ?_)))
  dsimp only
  rw [List.forIn_nil]
  refine wpAny_pure (wpAny_pure ⟨O.nolimit _ R₂.sr.inb, codeAny_func ?_⟩)
  have cx' : Cx ℓ (A.deeper env) := ⟨cx.handled, by show A.depth + 1 + 10 * ℓ ≤ 900; exact ar169 dep, by show A.units + 3 + 100 * ℓ ≤ 9000; exact ar170 uni⟩
  have N : Nx [] s s₂ g g φ φ := by
    have := (N₁.leave (fp := fpOf env (ownOf fd.scope)) (s₂ := s₂) ⟨N₂.drawn, N₂.os, N₂.sub, N₂.new, N₂.pre, N₂.oth, N₂.ex⟩ hfr).of_up
    exact this
  refine wpAny_mono (h env s₂ eo (by rw [← hE]) cx' hfr N R₂ _) (fun f s' q => ?_) fun _ _ q => q
  rcases q.2.2 with rfl | ⟨w, rfl⟩
  · exact q.1 rfl
  · exact q.2.1 _ rfl

/-- the frame of a def of one argument, a cell of its own, set up -/
theorem enter1c (O : G.Ok) {ℓ : Nat} {a : Addr} {fd : FuncData} {body : List Stmt} {x : Str} (D : IsDef G a fd body [])
    (hx : fd.scope.names.lookup x = some .cell) (hb : ∀ w : Value, bindArgs fd ⟨[w], []⟩ = pure [(x, w)])
    (cx : Cx (ℓ + 1) A) (bare : AllBare s.gens) (S : SR G g s.heap φ σ) {v : V} {w : Value} (hv : VR g φ v w) {K : Value → Shared → Prop}
    (h : ∀ (env : Env) (s₁ : Shared), EnvOk fd.scope env → env.frame = some env.locals → Cx ℓ (A.deeper env) → (∀ b ∈ fpOf env (ownOf fd.scope), s.heap.get? b = none) → Nx [] s s₁ g g φ φ → AllBare s₁.gens → SR G g s₁.heap φ σ → FR g φ s₁.heap env (ownOf fd.scope) (upd (fun _ => none) x v) →
      ∀ E' : Value → Shared → Prop, wpAny (model G.prog G.w) (A.deeper env) (execs body env) (fun f s' => (f = .next → K .none s') ∧ (∀ w, f = .ret w → K w s') ∧ (f = .next ∨ ∃ w, f = .ret w)) E' s₁) :
    wpAny (model G.prog G.w) A (call (.ref a) [w]) K E s := by
  obtain ⟨o, hbase, hdata⟩ := D.obj
  have inb : G.In s.heap := fun b o e => S.keep b o (S.base b o e)
  have dep := cx.depth
  have uni := cx.units
  refine wpAny_call (codeAny_call_function (by show A.depth < 1000; exact ar168 dep) (inb _ _ hbase) hdata D.co D.gen D.body (D.code _ inb) (BindsTo.of_eq (hb w) _ _ _ _ ?_))
  rw [D.closure]
  simp only [newFunctionEnv, Option.isSome_none, Bool.false_eq_true, if_false]
  refine wpAny_bind (wpAny_alloc ?_)
  refine wpAny_bind (wpAny_layCells _ (fun name kind cells => by cases kind == NameKind.cell <;> simp) _ _ _ _ ?_)
  rw [show ({ s with heap := s.heap.push { cls := .type "frame", data := .dict #[] } } : Shared).heap.objs.size = s.heap.objs.size + 1 from Heap.size_push ..]
  generalize hE : ({ scope := fd.scope, locals := s.heap.objs.size, globals := fd.globals, cells := cellsFrom (s.heap.objs.size + 1) fd.scope.names [], qual := fd.qualname ++ ".<locals>.", func := some a, code := fd.code, frame := some s.heap.objs.size, builtins := fd.builtins } : Env) = env
  have eo : EnvOk fd.scope env := ⟨by rw [← hE], D.kind, by rw [← hE]; exact D.globals, by rw [← hE]; exact D.builtins⟩
  obtain ⟨R₁, N₁, hfr⟩ := Rel.frame (s := up1 s) (cls := .type "frame") (sc := fd.scope) (sc' := fd.scope) (cl := []) (ρ₀ := fun _ => none) (env' := env) (up1_ok bare) S (fun x v h => by cases h) eo.scope (by rw [← hE]) (by rw [← hE])
  rw [List.forIn_cons]
  refine wpAny_bind (wpAny_bind (wpAny_bind (store_cell0 eo bare R₁.sr R₁.fr hx (mem_ownOf.mpr (lookup_mem hx)) hv fun s₂ N₂ _ B₂ S₂ F₂ => wpAny_pure ?_)))
  dsimp only
  rw [List.forIn_nil]
  refine wpAny_pure (wpAny_pure ⟨O.nolimit _ S₂.inb, codeAny_func ?_⟩)
  have cx' : Cx ℓ (A.deeper env) := ⟨cx.handled, by show A.depth + 1 + 10 * ℓ ≤ 900; exact ar169 dep, by show A.units + 3 + 100 * ℓ ≤ 9000; exact ar170 uni⟩
  have N : Nx [] s s₂ g g φ φ := by
    have := (N₁.leave (fp := fpOf env (ownOf fd.scope)) (s₂ := s₂) ⟨N₂.drawn, N₂.os, N₂.sub, N₂.new, N₂.pre, N₂.oth, N₂.ex⟩ hfr).of_up
    exact this
  refine wpAny_mono (h env s₂ eo (by rw [← hE]) cx' hfr N B₂ S₂ F₂ _) (fun f s' q => ?_) fun _ _ q => q
  rcases q.2.2 with rfl | ⟨w, rfl⟩
  · exact q.1 rfl
  · exact q.2.1 _ rfl

theorem FnOk0.def1 (O : G.Ok) {ℓ : Nat} {a : Addr} {fd : FuncData} {body : List Stmt} {x : Str} {W : WS} (D : IsDef G a fd body [])
    (hx : fd.scope.names.lookup x = some .local) (hb : ∀ w : Value, bindArgs fd ⟨[w], []⟩ = pure [(x, w)])
    (hW : Sxs G ℓ fd.scope (ownOf fd.scope) body W) : FnOk0 G (ℓ + 1) (.ref a) (wFn [x] W) := by
  intro A s g φ σ vs ws Q cx bare S hv hw K E k
  obtain ⟨ρ, hρ, hw⟩ := hw
  obtain ⟨v, rfl⟩ : ∃ v, vs = [v] := by
    match vs, hρ with
    | [v], _ => exact ⟨v, rfl⟩
    | [], h => cases h
    | _ :: _ :: _, h => cases h
  cases hρ
  obtain ⟨w, rfl, hv1⟩ : ∃ w, ws = [w] ∧ VR g φ v w := by obtain ⟨w4, r, rfl, h1, h⟩ := hv; rw [h]; exact ⟨w4, rfl, h1⟩
  refine enter1 O D hx hb cx bare S hv1 fun env s₂ eo hfl cx' hfr N₂ R₂ E' => ?_
  refine hW (A.deeper env) env s₂ g φ σ _ _ cx' eo R₂ hw _ _ fun f s₃ g₃ φ₃ σ₃ ρ₃ fl N₃ R₃ hf hQ => ?_
  have N : Nx [] s s₃ g g₃ φ φ₃ := N₂.leave N₃ hfr
  cases fl with
  | nx => cases hf; exact ⟨fun _ => k _ _ _ _ _ .none N R₃.ok R₃.sr rfl hQ, (fun w h => nomatch h), .inl rfl⟩
  | br => exact hQ.elim
  | ct => exact hQ.elim
  | rt v =>
    obtain ⟨w, rfl, hv⟩ := hf
    exact ⟨(fun h => nomatch h), (fun w h => by cases h; exact k _ _ _ _ _ v N R₃.ok R₃.sr hv hQ), .inr ⟨w, rfl⟩⟩
end

end
section
set_option autoImplicit false
section
variable {G : Glb} {ℓ : Nat} {sc : Scope} {own : List Str}
theorem r_methS {name : Str} {id : String} (hs : Slot "str" name id) (hty : typeOf (.builtin id) = pure (.type "method_descriptor")) {o e : Expr} {rest : List Expr} {apos pos : Pos} {Wo : WE} {Ws : WL} {Wf : WF}
    (hf : FnOk G ℓ (.builtin id) Wf) (ho : Ev G ℓ sc o Wo) (ha : Evs G ℓ sc (e :: rest) Ws)
    (h0 : ∀ env, attributeBase o name env (eval o env) = eval o env := by intro _; rfl)
    (h1 : ∀ env, starEach (e :: rest) env = (false, eval e env) :: starEach rest env := by intro _; rfl) (h2 : ∀ env, (backTo pos (starEach rest env)).any (·.1) = false := by intro _; rfl)
    (h3 : ∀ env, (((backTo pos (starEach (e :: rest) env)).all fun x => !x.1) && (backToKw pos (keywordEach [] env)).all fun x => x.1.isSome) = true := by intro _; rfl)
    (h4 : decide ((e :: rest).length + ([] : List Keyword).length + (if ([] : List Keyword).isEmpty = true then 0 else 1) < 30) = true := by rfl)
    (h5 : (apos.endLine == pos.line) = true := by rfl) : Ev G ℓ sc (.Call (.Attribute o name apos) (e :: rest) [] pos) (wMethS Wo Ws Wf) := Ev.methS hs hty ho ha hf h0 h1 h2 h3 h4 h5
theorem r_methL {name : Str} {id : String} (hs : Slot "list" name id) (hty : typeOf (.builtin id) = pure (.type "method_descriptor")) {o e : Expr} {rest : List Expr} {apos pos : Pos} {Wo : WE} {Ws : WL} {Wf : WF}
    (hf : FnOk G ℓ (.builtin id) Wf) (ho : Ev G ℓ sc o Wo) (ha : Evs G ℓ sc (e :: rest) Ws)
    (h0 : ∀ env, attributeBase o name env (eval o env) = eval o env := by intro _; rfl)
    (h1 : ∀ env, starEach (e :: rest) env = (false, eval e env) :: starEach rest env := by intro _; rfl) (h2 : ∀ env, (backTo pos (starEach rest env)).any (·.1) = false := by intro _; rfl)
    (h3 : ∀ env, (((backTo pos (starEach (e :: rest) env)).all fun x => !x.1) && (backToKw pos (keywordEach [] env)).all fun x => x.1.isSome) = true := by intro _; rfl)
    (h4 : decide ((e :: rest).length + ([] : List Keyword).length + (if ([] : List Keyword).isEmpty = true then 0 else 1) < 30) = true := by rfl)
    (h5 : (apos.endLine == pos.line) = true := by rfl) : Ev G ℓ sc (.Call (.Attribute o name apos) (e :: rest) [] pos) (wMethL Wo Ws Wf) := Ev.methL hs hty ho ha hf h0 h1 h2 h3 h4 h5
theorem ty_replace : typeOf (.builtin "str.replace") = pure (.type "method_descriptor") := F.type_str_replace
theorem r_repl {o : Expr} {a b : Str} {k₁ k₂ : Nat} {p₁ p₂ apos pos : Pos} {Wo : WE} {c : Nat} {z : List Nat} (ha : a = S [c]) (hb : b = S z) (hz : z.length ≤ 1) (hne : z ≠ [c]) (ho : Ev G ℓ sc o Wo)
    (h0 : ∀ env, attributeBase o (Str.ofString "replace") env (eval o env) = eval o env)
    (h5 : (apos.endLine == pos.line) = true) :
    Ev G ℓ sc (.Call (.Attribute o (Str.ofString "replace") apos) [.Constant (.str a) k₁ p₁, .Constant (.str b) k₂ p₂] [] pos) (wRepl c z Wo) := Ev.replace ho ty_replace ha hb hz hne h0 h5

theorem s_assignT {t value : Expr} {pos : Pos} {W : WE} {Wa : WA} (h : Ev G ℓ sc value W) (ha : Asg G ℓ sc own t Wa) (h1 : ∀ env, swapsWithSole [t] value pos.line env = pure false := by intro _; rfl)
    (h2 : ∀ env, swappedStores [t] value env = pure none := by intro _; rfl) (h3 : ∀ env, assignEach [t] env = [(false, assign t env)] := by intro _; rfl) : Sx G ℓ sc own (.Assign [t] value pos) (wAsgT Wa W) := by
  intro A env s g φ σ ρ Q cx eo R hW K E k
  refine wpAny_Assign_stores (h A env own s g φ σ ρ _ cx eo R hW _ _ fun w s₁ g₁ φ₁ σ₁ v N R₁ hv hQ => ?_) (h1 env) (h2 env)
  rw [h3]
  show wpAny _ A (PySem.assign t env w) _ E s₁
  exact ha A env s₁ g₁ φ₁ σ₁ ρ v w _ cx eo R₁ hv hQ _ _ fun s₂ g₂ φ₂ σ₂ ρ₂ N₂ R₂ hQ₂ => k _ _ _ _ _ _ .nx (N.fp.trans N₂) R₂ rfl hQ₂
end

end
section
set_option autoImplicit false

section
variable {G : Glb} {ℓ : Nat} {sc : Scope} {own : List Str}
noncomputable def sDead : WS := fun _ _ _ => False
theorem s_dead {st : Stmt} : Sx G ℓ sc own st sDead := by
  intro A env s g φ σ ρ Q cx eo R hW
  exact hW.elim
theorem c_any (O : G.Ok) {f : Value} {id : Str} {np pos : Pos} {e : Expr} {rest : List Expr} {W : WF} {Ws : WL} (hm : G.mg id = none) (hb : G.mb id = some f) (hd : (id == ("__debug__" : Str)) = false) (hc : CallOk G f) (hf : FnOk G ℓ f W)
    (hk : sc.names.lookup id = some .globalImplicit) (ha : Evs G ℓ sc (e :: rest) Ws)
    (h1 : ∀ env, starEach (e :: rest) env = (false, eval e env) :: starEach rest env) (h2 : ∀ env, (backTo pos (starEach rest env)).any (·.1) = false) :
    Ev G ℓ sc (.Call (.Name id np) (e :: rest) [] pos) (wCall W Ws) := r_call (r_builtin O hk hm hb hd) hc hf ha h1 h2
theorem c_own (O : G.Ok) {f : Value} {id : Str} {np pos : Pos} {e : Expr} {rest : List Expr} {W : WF} {Ws : WL} (hm : G.mg id = some f) (hd : (id == ("__debug__" : Str)) = false) (hc : CallOk G f) (hf : FnOk G ℓ f W)
    (hk : sc.names.lookup id = some .globalImplicit) (ha : Evs G ℓ sc (e :: rest) Ws)
    (h1 : ∀ env, starEach (e :: rest) env = (false, eval e env) :: starEach rest env) (h2 : ∀ env, (backTo pos (starEach rest env)).any (·.1) = false) :
    Ev G ℓ sc (.Call (.Name id np) (e :: rest) [] pos) (wCall W Ws) := r_call (r_glob O hk hm (fun _ _ => rfl) hd) hc hf ha h1 h2
end

noncomputable def wLen : WF := fun vs Q σ => ∃ v n, vs = [v] ∧ aLen σ v = some n ∧ n < 2 ^ 62 ∧ Q (.int n) σ
noncomputable def wAbs : WF := fun vs Q σ => ∃ i : Int, vs = [.int i] ∧ Q (.int (if i < 0 then -i else i)) σ
noncomputable def wMin : WF := fun vs Q σ => ∃ i j : Int, vs = [.int i, .int j] ∧ Q (.int (if j < i then j else i)) σ
noncomputable def wRange : WF := fun vs Q σ => ∃ n : Nat, vs = [.int n] ∧ Q (.rng n) σ
noncomputable def wSum : WF := fun vs Q σ => ∃ v ns, vs = [v] ∧ aList σ v = some (List.map V.int ns) ∧ Q (.int ns.sum) σ
noncomputable def wStrI : WF := fun vs Q σ => ∃ i : Int, vs = [.int i] ∧ i.natAbs < 2 ^ 64 ∧ Q (.str (Str.ofString (toString i))) σ
noncomputable def wListOf : WF := fun vs Q σ => ∃ v xs, vs = [v] ∧ (aList σ v = some xs ∨ ∃ n, v = .rng n ∧ n ≤ 2 ^ 20 ∧ xs = (List.range n).map fun i => V.int (i : Nat)) ∧ xs.length ≤ 2 ^ 20 ∧ newL Q xs σ
noncomputable def wJoin : WF := fun vs Q σ => ∃ v ts, vs = [.str (S []), v] ∧ aList σ v = some (List.map V.str ts) ∧ ((ts.map L).flatten).length ≤ 2 ^ 20 ∧ Q (.str (S (ts.map L).flatten)) σ
noncomputable def wSplit : WF := fun vs Q σ => ∃ rows : List (List Nat), vs = [.str (S (crlf rows)), .str (S [13, 10])] ∧ (∀ r ∈ rows, 13 ∉ r) ∧ (crlf rows).length ≤ 2 ^ 20 ∧ newL Q ((rows.map S ++ [S []]).map V.str) σ
noncomputable def wCount : WF := fun vs Q σ => ∃ (x : Str) (c : Nat), vs = [.str x, .str (S [c])] ∧ Q (.int ((L x).count c : Nat)) σ
noncomputable def wIndex : WF := fun vs Q σ => ∃ (x y : Str) (i : Nat) (rest : List Nat), vs = [.str x, .str y] ∧ Builtin.Str.occurrences x y 0 x.length 1 = i :: rest ∧ Q (.int (i : Nat)) σ
noncomputable def wAppend : WF := fun vs Q σ => ∃ (i : Nat) (v : V) (xs : List V), vs = [.ref i, v] ∧ σ[i]? = some (.list xs) ∧ xs.length ≤ 2 ^ 20 ∧ Q .none (σ.set i (.list (xs ++ [v])))
noncomputable def wRemove : WF := fun vs Q σ => ∃ (i : Nat) (ns : List Int) (x : Int), vs = [.ref i, .int x] ∧ σ[i]? = some (.list (ns.map V.int)) ∧ x ∈ ns ∧ ns.length ≤ 2 ^ 20 ∧ Q .none (σ.set i (.list ((ns.erase x).map V.int)))
section
variable {Q : V → Sto → Prop} {T : Bool → Sto → Prop} {ρ : Rho} {σ : Sto}
theorem p_addi {a b : Int} (h : Q (.int (a + b)) σ) : aBin .Add (.int a) (.int b) Q σ := BinR.addi h
theorem p_subi {a b : Int} (h : Q (.int (a - b)) σ) : aBin .Sub (.int a) (.int b) Q σ := BinR.subi h
theorem p_muli {a b : Int} (h0 : b.natAbs ≤ 2 ^ 20) (h : Q (.int (a * b)) σ) : aBin .Mult (.int a) (.int b) Q σ := BinR.muli h0 h
theorem p_divi {a b : Int} (h1 : 1 ≤ b) (h2 : b ≤ 2 ^ 20) (h : Q (.int (a / b)) σ) : aBin .FloorDiv (.int a) (.int b) Q σ := BinR.divi h1 h2 h
theorem p_modi {a b : Int} (h1 : 1 ≤ b) (h : Q (.int (a % b)) σ) : aBin .Mod (.int a) (.int b) Q σ := BinR.modi h1 h
theorem p_powi {b : Int} (h1 : 0 ≤ b) (h2 : b ≤ 1000) (h : Q (.int (2 ^ b.toNat)) σ) : aBin .Pow (.int 2) (.int b) Q σ := BinR.powi h1 h2 h
theorem p_adds {x y : Str} (h1 : (L x).length + (L y).length ≤ 2 ^ 24) (h : Q (.str (S (L x ++ L y))) σ) : aBin .Add (.str x) (.str y) Q σ := BinR.adds h1 h
theorem p_muls {x : Str} {n : Int} (h1 : 0 ≤ n) (h2 : (L x).length ≤ 2 ^ 10) (h3 : n ≤ 2 ^ 10) (h : Q (.str (S (List.replicate n.toNat (L x)).flatten)) σ) : aBin .Mult (.str x) (.int n) Q σ := BinR.muls h1 h2 h3 h
theorem p_eqi {a b : Int} (h : T (decide (a = b)) σ) : aCmp .Eq (.int a) (.int b) T σ := CmpR.eqi h
theorem p_lti {a b : Int} (h : T (decide (a < b)) σ) : aCmp .Lt (.int a) (.int b) T σ := CmpR.lti h
theorem p_gei {a b : Int} (h : T (decide (a ≥ b)) σ) : aCmp .GtE (.int a) (.int b) T σ := CmpR.gei h
theorem p_eqs {a b : Str} (h : T (decide (L a = L b)) σ) : aCmp .Eq (.str a) (.str b) T σ := CmpR.eqs h
theorem p_nes {a b : Str} (h : T (decide (L a ≠ L b)) σ) : aCmp .NotEq (.str a) (.str b) T σ := CmpR.nes h
theorem p_ins {a b : Str} (h : T (Txt.contains b a) σ) : aCmp .In (.str a) (.str b) T σ := CmpR.ins h
theorem p_neb {a b : Bool} (h : T (decide (a ≠ b)) σ) : aCmp .NotEq (.bool a) (.bool b) T σ := CmpR.neb h
theorem p_ift {c : Bool} {X Y : Prop} (hc : c = true) (h : X) : if c = true then X else Y := by rw [if_pos hc]; exact h
theorem p_iff {c : Bool} {X Y : Prop} (hc : c = false) (h : Y) : if c = true then X else Y := by rw [if_neg (by rw [hc]; simp)]; exact h
theorem p_len {x : Str} (h0 : (L x).length < 2 ^ 62) (h : Q (.int (L x).length) σ) : wLen [.str x] Q σ := ⟨_, _, rfl, rfl, h0, h⟩
end

/-- the reading of a reply's name -/
noncomputable def parseB : List Nat → List Nat
  | [] => []
  | 34 :: 34 :: r => 34 :: parseB r
  | 34 :: _ => []
  | c :: r => c :: parseB r
noncomputable def wParse : WF := fun vs Q σ => ∃ x, vs = [.str x] ∧ (L x).take 3 = [50, 53, 55] ∧ (L x).length ≤ 2 ^ 20 ∧ Q (.str (S (if ((L x).drop 3).take 2 = [32, 34] then parseB ((L x).drop 5) else []))) σ
theorem parseB_q (r : List Nat) : parseB (34 :: 34 :: r) = 34 :: parseB r := by rw [parseB]
theorem parseB_e (r : List Nat) (h : r.head? ≠ some 34) : parseB (34 :: r) = [] := by
  cases r with
  | nil => rfl
  | cons c r => rw [parseB]; intro r' e; injection e with e1 e2; exact h (by rw [e1]; rfl)
theorem parseB_c (c : Nat) (r : List Nat) (h : c ≠ 34) : parseB (c :: r) = c :: parseB r := by
  rw [parseB]
  · intro r' e; exact absurd e h
  · intro e; exact absurd e h

section
variable {G : Glb} {ℓ : Nat} {sc : Scope} {o e : Expr} {rest : List Expr} {apos pos : Pos} {Wo : WE} {Ws : WL}
theorem m_join (ho : Ev G ℓ sc o Wo) (ha : Evs G ℓ sc (e :: rest) Ws)
    (h0 : ∀ env, attributeBase o (Str.ofString "join") env (eval o env) = eval o env) (h1 : ∀ env, starEach (e :: rest) env = (false, eval e env) :: starEach rest env) (h2 : ∀ env, (backTo pos (starEach rest env)).any (·.1) = false)
    (h3 : ∀ env, (((backTo pos (starEach (e :: rest) env)).all fun x => !x.1) && (backToKw pos (keywordEach [] env)).all fun x => x.1.isSome) = true)
    (h4 : decide ((e :: rest).length + ([] : List Keyword).length + (if ([] : List Keyword).isEmpty = true then 0 else 1) < 30) = true) (h5 : (apos.endLine == pos.line) = true) :
    Ev G ℓ sc (.Call (.Attribute o (Str.ofString "join") apos) (e :: rest) [] pos) (wMethS Wo Ws wJoin) := r_methS F.slot_str_join (by first | exact F.type_str_join | exact type_str_join) FnOk.join ho ha h0 h1 h2 h3 h4 h5
theorem m_split (ho : Ev G ℓ sc o Wo) (ha : Evs G ℓ sc (e :: rest) Ws)
    (h0 : ∀ env, attributeBase o (Str.ofString "split") env (eval o env) = eval o env) (h1 : ∀ env, starEach (e :: rest) env = (false, eval e env) :: starEach rest env) (h2 : ∀ env, (backTo pos (starEach rest env)).any (·.1) = false)
    (h3 : ∀ env, (((backTo pos (starEach (e :: rest) env)).all fun x => !x.1) && (backToKw pos (keywordEach [] env)).all fun x => x.1.isSome) = true)
    (h4 : decide ((e :: rest).length + ([] : List Keyword).length + (if ([] : List Keyword).isEmpty = true then 0 else 1) < 30) = true) (h5 : (apos.endLine == pos.line) = true) :
    Ev G ℓ sc (.Call (.Attribute o (Str.ofString "split") apos) (e :: rest) [] pos) (wMethS Wo Ws wSplit) := r_methS F.slot_str_split (by first | exact F.type_str_split | exact type_str_split) FnOk.split ho ha h0 h1 h2 h3 h4 h5
theorem m_count (ho : Ev G ℓ sc o Wo) (ha : Evs G ℓ sc (e :: rest) Ws)
    (h0 : ∀ env, attributeBase o (Str.ofString "count") env (eval o env) = eval o env) (h1 : ∀ env, starEach (e :: rest) env = (false, eval e env) :: starEach rest env) (h2 : ∀ env, (backTo pos (starEach rest env)).any (·.1) = false)
    (h3 : ∀ env, (((backTo pos (starEach (e :: rest) env)).all fun x => !x.1) && (backToKw pos (keywordEach [] env)).all fun x => x.1.isSome) = true)
    (h4 : decide ((e :: rest).length + ([] : List Keyword).length + (if ([] : List Keyword).isEmpty = true then 0 else 1) < 30) = true) (h5 : (apos.endLine == pos.line) = true) :
    Ev G ℓ sc (.Call (.Attribute o (Str.ofString "count") apos) (e :: rest) [] pos) (wMethS Wo Ws wCount) := r_methS F.slot_str_count (by first | exact F.type_str_count | exact type_str_count) FnOk.count ho ha h0 h1 h2 h3 h4 h5
theorem m_index (ho : Ev G ℓ sc o Wo) (ha : Evs G ℓ sc (e :: rest) Ws)
    (h0 : ∀ env, attributeBase o (Str.ofString "index") env (eval o env) = eval o env) (h1 : ∀ env, starEach (e :: rest) env = (false, eval e env) :: starEach rest env) (h2 : ∀ env, (backTo pos (starEach rest env)).any (·.1) = false)
    (h3 : ∀ env, (((backTo pos (starEach (e :: rest) env)).all fun x => !x.1) && (backToKw pos (keywordEach [] env)).all fun x => x.1.isSome) = true)
    (h4 : decide ((e :: rest).length + ([] : List Keyword).length + (if ([] : List Keyword).isEmpty = true then 0 else 1) < 30) = true) (h5 : (apos.endLine == pos.line) = true) :
    Ev G ℓ sc (.Call (.Attribute o (Str.ofString "index") apos) (e :: rest) [] pos) (wMethS Wo Ws wIndex) := r_methS F.slot_str_index (by first | exact F.type_str_index | exact type_str_index) FnOk.index ho ha h0 h1 h2 h3 h4 h5
theorem m_append (ho : Ev G ℓ sc o Wo) (ha : Evs G ℓ sc (e :: rest) Ws)
    (h0 : ∀ env, attributeBase o (Str.ofString "append") env (eval o env) = eval o env) (h1 : ∀ env, starEach (e :: rest) env = (false, eval e env) :: starEach rest env) (h2 : ∀ env, (backTo pos (starEach rest env)).any (·.1) = false)
    (h3 : ∀ env, (((backTo pos (starEach (e :: rest) env)).all fun x => !x.1) && (backToKw pos (keywordEach [] env)).all fun x => x.1.isSome) = true)
    (h4 : decide ((e :: rest).length + ([] : List Keyword).length + (if ([] : List Keyword).isEmpty = true then 0 else 1) < 30) = true) (h5 : (apos.endLine == pos.line) = true) :
    Ev G ℓ sc (.Call (.Attribute o (Str.ofString "append") apos) (e :: rest) [] pos) (wMethL Wo Ws wAppend) := r_methL slot_list_append (by first | exact F.type_list_append | exact type_list_append) FnOk.append ho ha h0 h1 h2 h3 h4 h5
theorem m_remove (ho : Ev G ℓ sc o Wo) (ha : Evs G ℓ sc (e :: rest) Ws)
    (h0 : ∀ env, attributeBase o (Str.ofString "remove") env (eval o env) = eval o env) (h1 : ∀ env, starEach (e :: rest) env = (false, eval e env) :: starEach rest env) (h2 : ∀ env, (backTo pos (starEach rest env)).any (·.1) = false)
    (h3 : ∀ env, (((backTo pos (starEach (e :: rest) env)).all fun x => !x.1) && (backToKw pos (keywordEach [] env)).all fun x => x.1.isSome) = true)
    (h4 : decide ((e :: rest).length + ([] : List Keyword).length + (if ([] : List Keyword).isEmpty = true then 0 else 1) < 30) = true) (h5 : (apos.endLine == pos.line) = true) :
    Ev G ℓ sc (.Call (.Attribute o (Str.ofString "remove") apos) (e :: rest) [] pos) (wMethL Wo Ws wRemove) := r_methL F.slot_list_remove (by first | exact F.type_list_remove | exact type_list_remove) FnOk.remove ho ha h0 h1 h2 h3 h4 h5
end

section
variable {Q : V → Sto → Prop} {T : Bool → Sto → Prop} {ρ : Rho} {σ : Sto}
theorem p_oint {i : Int} {X : Int → Prop} (h0 : 0 ≤ i) (h : X i) : ∃ j : Int, V.int i = V.int j ∧ 0 ≤ j ∧ X j := ⟨i, rfl, h0, h⟩
theorem p_sstr {x : Str} {X : Str → Prop} (h0 : (L x).length ≤ 2 ^ 24) (h : X x) : ∃ y : Str, V.str x = V.str y ∧ (L y).length ≤ 2 ^ 24 ∧ X y := ⟨x, rfl, h0, h⟩
theorem p_rstr {x : Str} {X : Str → Prop} (h0 : (L x).length ≤ 2 ^ 20) (h : X x) : ∃ y : Str, V.str x = V.str y ∧ (L y).length ≤ 2 ^ 20 ∧ X y := ⟨x, rfl, h0, h⟩
theorem p_isstr {x : Str} {X : Prop} (h : X) : (∃ y, V.str x = V.str y) ∧ X := ⟨⟨x, rfl⟩, h⟩
theorem p_bool {b : Bool} {X : Bool → Prop} (h : X b) : ∃ c, V.bool b = V.bool c ∧ X c := ⟨b, rfl, h⟩
end

section
variable {QS : Fl → Rho → Sto → Prop} {ρ : Rho} {σ : Sto}
noncomputable def whK (I : Nat → Rho → Sto → Prop) (m : Nat) (Q : Fl → Rho → Sto → Prop) : Fl → Rho → Sto → Prop := fun fl ρ σ => match fl with | .nx | .ct => ∃ k, k < m ∧ I k ρ σ | .br => Q .nx ρ σ | .rt v => Q (.rt v) ρ σ
theorem p_while {Wt : WT} {Wb : WS} (I : Nat → Rho → Sto → Prop) (n : Nat) (h0 : I n ρ σ) (h : ∀ m ρ σ, I m ρ σ → Wt (fun y σ' => if y = true then Wb (whK I m QS) ρ σ' else QS .nx ρ σ') ρ σ) : wWhile Wt Wb QS ρ σ := ⟨I, n, h0, h⟩
theorem p_whnx {I : Nat → Rho → Sto → Prop} {m : Nat} (k : Nat) (hk : k < m) (h : I k ρ σ) : whK I m QS .nx ρ σ := ⟨k, hk, h⟩
theorem p_whbr {I : Nat → Rho → Sto → Prop} {m : Nat} (h : QS .nx ρ σ) : whK I m QS .br ρ σ := h
end

end
section
set_option autoImplicit false
section
variable {Gd : Sto → Prop} {Wa : WA} {Wi : WT} {We : WE} {Wb : WS} {σ : Sto}

/-- a comprehension that leaves the store as it is -/
theorem comp_over {α : Type} (f : α → V) (I : Rho → Prop) (F : α → List V) {QL : List V → Sto → Prop} : ∀ (vs : List α) (acc : List V) (ρ : Rho), I ρ → Gd σ →
    (∀ v ∈ vs, ∀ (ρ : Rho) (acc : List V) (K : List V → Rho → Sto → Prop), I ρ → (∀ ρ', I ρ' → K (acc ++ F v) ρ' σ) →
      Wa (f v) (fun ρ' σ' => Wi (fun b σ'' => if b = true then We (fun y σ''' => K (acc ++ [y]) ρ' σ''') ρ' σ'' else K acc ρ' σ'') ρ' σ') ρ σ) →
    QL (acc ++ (vs.map F).flatten) σ → wCompL Gd Wa Wi We (vs.map f) acc QL ρ σ
  | [], acc, ρ, hI, hG, _, h => ⟨hG, by simpa using h⟩
  | v :: vs, acc, ρ, hI, hG, step, h => ⟨hG, step v List.mem_cons_self ρ acc (fun a r s => wCompL Gd Wa Wi We (vs.map f) a QL r s) hI fun ρ' hI' =>
      comp_over f I F vs (acc ++ F v) ρ' hI' hG (fun u hu => step u (List.mem_cons_of_mem _ hu)) (by simpa using h)⟩

/-- a loop, by what holds ahead of each turn -/
theorem for_run {QS : Fl → Rho → Sto → Prop} (xs : List V) (J : Nat → Rho → Sto → Prop) (hG : ∀ i ρ σ, i ≤ xs.length → J i ρ σ → Gd σ)
    (step : ∀ (i : Nat) (v : V) ρ σ, xs[i]? = some v → J i ρ σ → ∀ K : Fl → Rho → Sto → Prop, (∀ ρ' σ', J (i + 1) ρ' σ' → K .nx ρ' σ') → (∀ v ρ' σ', QS (.rt v) ρ' σ' → K (.rt v) ρ' σ') → Wa v (fun ρ' σ' => Wb K ρ' σ') ρ σ)
    (fin : ∀ ρ σ, J xs.length ρ σ → QS .nx ρ σ) : ∀ (n i : Nat) (ρ : Rho) (σ : Sto), i + n = xs.length → J i ρ σ → wFor Gd Wa Wb (xs.drop i) QS ρ σ
  | 0, i, ρ, σ, h, hJ => by
    rw [List.drop_of_length_le (by exact ar272 h)]
    exact ⟨hG i ρ σ (by exact ar273 h) hJ, fin ρ σ (by rw [show xs.length = i by exact ar274 h]; exact hJ)⟩
  | n + 1, i, ρ, σ, h, hJ => by
    have hlt : i < xs.length := by exact ar275 h
    rw [List.drop_eq_getElem_cons hlt]
    exact ⟨hG i ρ σ (by exact ar44 hlt) hJ, step i xs[i] ρ σ (List.getElem?_eq_getElem hlt) hJ _ (fun ρ' σ' h' => for_run xs J hG step fin n (i + 1) ρ' σ' (by exact ar277 h) h') fun v ρ' σ' h' => h'⟩
theorem for_all {QS : Fl → Rho → Sto → Prop} {xs : List V} {ρ : Rho} (J : Nat → Rho → Sto → Prop) (hJ : J 0 ρ σ) (hG : ∀ i ρ σ, i ≤ xs.length → J i ρ σ → Gd σ)
    (fin : ∀ ρ σ, J xs.length ρ σ → QS .nx ρ σ)
    (step : ∀ (i : Nat) (v : V) ρ σ, xs[i]? = some v → J i ρ σ → ∀ K : Fl → Rho → Sto → Prop, (∀ ρ' σ', J (i + 1) ρ' σ' → K .nx ρ' σ') → (∀ v ρ' σ', QS (.rt v) ρ' σ' → K (.rt v) ρ' σ') → Wa v (fun ρ' σ' => Wb K ρ' σ') ρ σ) :
    wFor Gd Wa Wb xs QS ρ σ := for_run xs J hG step fin xs.length 0 ρ σ (by exact ar279) hJ
end
section
variable {G : Glb} {ℓ : Nat} {sc : Scope}
theorem r_neg {i : Int} {k : Nat} {p pos : Pos} : Ev G ℓ sc (.UnaryOp .USub (.Constant (.int i) k p) pos) (wVal (.int (-i))) := by
  intro A env own s g φ σ ρ Q cx eo R hW K E kk
  refine wpAny_UnaryOp (wpAny_Constant_int (P.neg_int ?_))
  exact kk _ _ _ _ _ (.int (-i)) (Nx.refl rfl) (R.same rfl (by have := R.ok.toks; show 1 ≤ s.toks + 1 + 1; exact ar225) R.ok.bare) ⟨_, rfl⟩ hW
end
theorem p_set {Wv Wo Wi : WE} {QS : Fl → Rho → Sto → Prop} {ρ : Rho} {σ : Sto} (h : Wv (fun v σ₁ => Wo (fun ov σ₂ => Wi (fun iv σ₃ => ∃ k xs j n, ov = .ref k ∧ σ₃[k]? = some (.list xs) ∧ iv = .int j ∧ xs.length ≤ 2 ^ 40 ∧ setIx xs.length j = some n ∧ QS .nx ρ (σ₃.set k (.list (xs.set n v)))) ρ σ₂) ρ σ₁) ρ σ) : wSet Wv Wo Wi QS ρ σ := h
theorem last_item {σ : Sto} {v : V} {xs : List V} {x : V} (h : aList σ v = some (xs ++ [x])) (hl : xs.length < 2 ^ 50) : aItem σ v (.int (-1)) = some x := by
  have e1 : ¬ (0 : Int) ≤ -1 := by decide
  have e2 : (-((xs ++ [x]).length : Int) ≤ -1) ∧ -(2 ^ 60 : Int) ≤ -1 := ⟨by simp; exact ar283, by decide⟩
  have e3 : (-1 + ((xs ++ [x]).length : Int)).toNat = xs.length := by simp; lia
  cases v with
  | list ys => dsimp only [aItem]; rw [h]; dsimp only; rw [if_neg e1, if_pos e2, e3]; simp
  | ref k => dsimp only [aItem]; rw [h]; dsimp only; rw [if_neg e1, if_pos e2, e3]; simp
  | _ => cases h
theorem last_ix {n : Nat} : setIx (n + 1) (-1) = some n := by
  unfold setIx
  rw [if_neg (by decide), if_pos (by exact ar284)]
  congr 1
  lia
theorem p_tt {X Y : Prop} (h : X) : if true = true then X else Y := by rw [if_pos rfl]; exact h
theorem p_ff {X Y : Prop} (h : Y) : if false = true then X else Y := by rw [if_neg (by simp)]; exact h
theorem inner_free {scope : Scope} {ρ : Rho} {x : Str} {u : Option V} (h : scope.names.lookup x = some .free) (e : ρ x = u) : innerRho scope ρ x = u := by unfold innerRho; rw [if_pos h]; exact e
theorem fb_nil {ρ : Rho} : ∀ p ∈ ([] : List (Str × NameKind)), p.2 = .free → ∃ v, ρ p.1 = some v := fun _ h => by cases h
theorem fb_skip {ρ : Rho} {x : Str} {k : NameKind} {r : List (Str × NameKind)} (hk : k ≠ .free) (h : ∀ p ∈ r, p.2 = .free → ∃ v, ρ p.1 = some v) : ∀ p ∈ (x, k) :: r, p.2 = .free → ∃ v, ρ p.1 = some v := fun p hp hf => by
  rcases List.mem_cons.mp hp with q | q
  · rw [q] at hf; exact absurd hf hk
  · exact h p q hf
theorem fb_take {ρ : Rho} {x : Str} {r : List (Str × NameKind)} (e : ∃ v, ρ x = some v) (h : ∀ p ∈ r, p.2 = .free → ∃ v, ρ p.1 = some v) : ∀ p ∈ (x, NameKind.free) :: r, p.2 = .free → ∃ v, ρ p.1 = some v := fun p hp hf => by
  rcases List.mem_cons.mp hp with q | q
  · rw [q]; exact e
  · exact h p q hf

end
section
set_option autoImplicit false
theorem cs_l {sc : Scope} {own : List Str} {x : Str} (h : sc.names.lookup x = some .local) : canStore sc own x := .inl h
theorem cs_r {sc : Scope} {own : List Str} {x : Str} (h : sc.names.lookup x = some .cell) (h' : x ∈ own) : canStore sc own x := .inr ⟨h, h'⟩
theorem len2 {α : Type} {l : List α} (h : l.length = 2) : ∃ a b, l = [a, b] := by
  cases l with
  | nil => cases h
  | cons a r => obtain ⟨b, rfl⟩ := List.length_eq_one_iff.mp (Nat.succ.inj h); exact ⟨a, b, rfl⟩
theorem len3 {α : Type} {l : List α} (h : l.length = 3) : ∃ a b c, l = [a, b, c] := by
  cases l with
  | nil => cases h
  | cons a r => obtain ⟨b, c, rfl⟩ := len2 (Nat.succ.inj h); exact ⟨a, b, c, rfl⟩
theorem len4 {α : Type} {l : List α} (h : l.length = 4) : ∃ a b c d, l = [a, b, c, d] := by
  cases l with
  | nil => cases h
  | cons a r => obtain ⟨b, c, d, rfl⟩ := len3 (Nat.succ.inj h); exact ⟨a, b, c, d, rfl⟩
theorem lt6c {k : Nat} (h : k < 6) : k = 0 ∨ k = 1 ∨ k = 2 ∨ k = 3 ∨ k = 4 ∨ k = 5 := by exact ar259 h
/-- a step's short word -/
def mkCode (c : String) : Lean.MacroM (Lean.TSyntax `tactic) :=
  if c == "R" then `(tactic| exact rfl) else if c == "R1" then `(tactic| exact fun _ => rfl) else if c == "R2" then `(tactic| exact fun _ _ => rfl)
  else if c == "D" then `(tactic| decide +kernel) else if c == "D0" then `(tactic| decide) else if c == "A" then `(tactic| with_reducible assumption)
  else if c == "T" then `(tactic| exact fun o v => ⟨[o, v], rfl⟩) else `(tactic| walk_at $(Lean.Syntax.mkStrLit c))
def mkId (s : String) : Lean.TSyntax `term := Lean.mkIdent (`Mine ++ s.toName)
/-- one way: a lemma's name and the short words of what it leaves -/
def mkAlt (s : String) : Lean.MacroM (Lean.TSyntax `tactic) := do
  let ws := s.splitOn " "
  let h := ws.headD ""
  let r := (h.drop 1).toString
  let first ← if h.startsWith "!" then `(tactic| with_reducible exact $(mkId r)) else if h.startsWith "?" then `(tactic| with_reducible refine $(mkId r) ?_)
    else if h.startsWith "@" then `(tactic| with_reducible apply $(mkId r) (by assumption)) else if h.startsWith "~" then `(tactic| apply $(mkId r)) else if h.startsWith "#" then mkCode r
    else `(tactic| with_reducible apply $(mkId h))
  let mut acc := first
  for c in ws.tail do
    let t ← mkCode c
    acc ← `(tactic| ($acc:tactic; (focus $t:tactic)))
  return acc
/-- ways, tried one behind the other -/
def mkWays (s : String) : Lean.MacroM (Lean.TSyntax `tactic) := do
  let ws := (s.splitOn "|").filter (· != "")
  let mut acc ← mkAlt (ws.getLastD "")
  for w in ws.dropLast.reverse do
    let t ← mkAlt w
    acc ← `(tactic| first | $t:tactic | $acc:tactic)
  return acc

end
section
set_option autoImplicit false
set_option maxRecDepth 100000
noncomputable def P0 : Params := { strHash := fun _ => 0, shareClass := fun _ => 0, mergeTok := id, idOf := fun _ => 0, idOfShared := fun _ _ => 0, followText := fun _ => false, idOfImm := fun _ => 0 }
noncomputable def fdOf (K : Frag) (a : Addr) : FuncData := match K.lookup a with | some o => (match o.data with | .func f => f | _ => default) | none => default
noncomputable def bodyOf (f : FuncData) : List Stmt := match f.body with | .stmts b => b | _ => []
noncomputable def biT : List (Str × Value) := [("len", .builtin "len"), ("range", .type "range"), ("min", .builtin "min"), ("max", .builtin "max"), ("abs", .builtin "abs"), ("sum", .builtin "sum"), ("str", .type "str"), ("list", .type "list"), ("sorted", .builtin "sorted"), ("super", .type "super")]
noncomputable def fd (a : Addr) : FuncData := fdOf (hd1.heap_39 P0) a
noncomputable def bd (a : Addr) : List Stmt := bodyOf (fd a)
/-- what the top is -/
structure TopG (G : Glb) (P : Params) : Prop where
  O : G.Ok
  K : ∀ a o, (hd1.heap_39 P).lookup a = some o → G.base a = some o
  mg : ∀ x, G.mg x = (match (hd1.heap_39 P).lookup 3 with | some o => (match o.data with | .dict es _ => nsFind es x | _ => none) | none => none)
  mb : ∀ x v, biT.lookup x = some v → G.mb x = some v
section
variable {G : Glb} {P : Params} {ℓ : Nat} {sc : Scope} {np pos apos : Pos} {e o : Expr} {rest : List Expr} {Ws : WL} {Wo : WE}
theorem c_len (T : TopG G P) (hk : sc.names.lookup (Str.ofString "len") = some .globalImplicit) (ha : Evs G ℓ sc (e :: rest) Ws)
    (h1 : ∀ env, starEach (e :: rest) env = (false, eval e env) :: starEach rest env) (h2 : ∀ env, (backTo pos (starEach rest env)).any (·.1) = false) :
    Ev G ℓ sc (.Call (.Name (Str.ofString "len") np) (e :: rest) [] pos) (wCall wLen Ws) := c_any T.O (by rw [T.mg]; rfl) (T.mb _ _ (by decide +kernel)) (by decide +kernel) CallOk.builtin FnOk.len hk ha h1 h2
theorem c_range (T : TopG G P) (hk : sc.names.lookup (Str.ofString "range") = some .globalImplicit) (ha : Evs G ℓ sc (e :: rest) Ws)
    (h1 : ∀ env, starEach (e :: rest) env = (false, eval e env) :: starEach rest env) (h2 : ∀ env, (backTo pos (starEach rest env)).any (·.1) = false) :
    Ev G ℓ sc (.Call (.Name (Str.ofString "range") np) (e :: rest) [] pos) (wCall wRange Ws) := c_any T.O (by rw [T.mg]; rfl) (T.mb _ _ (by decide +kernel)) (by decide +kernel) CallOk.type FnOk.range hk ha h1 h2
theorem c_min (T : TopG G P) (hk : sc.names.lookup (Str.ofString "min") = some .globalImplicit) (ha : Evs G ℓ sc (e :: rest) Ws)
    (h1 : ∀ env, starEach (e :: rest) env = (false, eval e env) :: starEach rest env) (h2 : ∀ env, (backTo pos (starEach rest env)).any (·.1) = false) :
    Ev G ℓ sc (.Call (.Name (Str.ofString "min") np) (e :: rest) [] pos) (wCall wMin Ws) := c_any T.O (by rw [T.mg]; rfl) (T.mb _ _ (by decide +kernel)) (by decide +kernel) CallOk.builtin FnOk.min2 hk ha h1 h2
theorem c_abs (T : TopG G P) (hk : sc.names.lookup (Str.ofString "abs") = some .globalImplicit) (ha : Evs G ℓ sc (e :: rest) Ws)
    (h1 : ∀ env, starEach (e :: rest) env = (false, eval e env) :: starEach rest env) (h2 : ∀ env, (backTo pos (starEach rest env)).any (·.1) = false) :
    Ev G ℓ sc (.Call (.Name (Str.ofString "abs") np) (e :: rest) [] pos) (wCall wAbs Ws) := c_any T.O (by rw [T.mg]; rfl) (T.mb _ _ (by decide +kernel)) (by decide +kernel) CallOk.builtin FnOk.abs hk ha h1 h2
theorem c_sum (T : TopG G P) (hk : sc.names.lookup (Str.ofString "sum") = some .globalImplicit) (ha : Evs G ℓ sc (e :: rest) Ws)
    (h1 : ∀ env, starEach (e :: rest) env = (false, eval e env) :: starEach rest env) (h2 : ∀ env, (backTo pos (starEach rest env)).any (·.1) = false) :
    Ev G ℓ sc (.Call (.Name (Str.ofString "sum") np) (e :: rest) [] pos) (wCall wSum Ws) := c_any T.O (by rw [T.mg]; rfl) (T.mb _ _ (by decide +kernel)) (by decide +kernel) CallOk.builtin FnOk.sum hk ha h1 h2
theorem c_str (T : TopG G P) (hk : sc.names.lookup (Str.ofString "str") = some .globalImplicit) (ha : Evs G ℓ sc (e :: rest) Ws)
    (h1 : ∀ env, starEach (e :: rest) env = (false, eval e env) :: starEach rest env) (h2 : ∀ env, (backTo pos (starEach rest env)).any (·.1) = false) :
    Ev G ℓ sc (.Call (.Name (Str.ofString "str") np) (e :: rest) [] pos) (wCall wStrI Ws) := c_any T.O (by rw [T.mg]; rfl) (T.mb _ _ (by decide +kernel)) (by decide +kernel) CallOk.type FnOk.strInt hk ha h1 h2
theorem c_list (T : TopG G P) (hk : sc.names.lookup (Str.ofString "list") = some .globalImplicit) (ha : Evs G ℓ sc (e :: rest) Ws)
    (h1 : ∀ env, starEach (e :: rest) env = (false, eval e env) :: starEach rest env) (h2 : ∀ env, (backTo pos (starEach rest env)).any (·.1) = false) :
    Ev G ℓ sc (.Call (.Name (Str.ofString "list") np) (e :: rest) [] pos) (wCall wListOf Ws) := c_any T.O (by rw [T.mg]; rfl) (T.mb _ _ (by decide +kernel)) (by decide +kernel) CallOk.type FnOk.listOf hk ha h1 h2
end

end
section
set_option autoImplicit false
open Sre (M)

noncomputable def c1 : Array Nat := #[14, 4, 0, 1, 1, 6, 1, 16, 46, 1]
noncomputable def c2 : Array Nat := #[14, 9, 4, 1, 2, 16, 10, 16, 13, 0, 7, 7, 16, 13, 16, 10, 15, 18, 5, 16, 10, 15, 13, 11, 16, 13, 5, 5, 0, 16, 10, 1, 15, 2, 0, 1]

/-- the machine ends within n steps in a state of which P holds -/
noncomputable def Ends (m : M) (P : M → Prop) (n : Nat) : Prop := ∃ k, k ≤ n ∧ (m.runFor k).outcome.isSome = true ∧ P (m.runFor k)
theorem Ends.now {m : M} {P : M → Prop} (h : m.outcome.isSome = true) (hP : P m) : Ends m P 0 := ⟨0, Nat.le_refl _, h, hP⟩
theorem Ends.step {m m' : M} {P : M → Prop} {n : Nat} (ho : m.outcome = none) (hs : m.step = m') (h : Ends m' P n) : Ends m P (n + 1) := by
  obtain ⟨k, hk, h1, h2⟩ := h
  have e : m.runFor (k + 1) = m'.runFor k := by
    show (if m.outcome.isSome then m else M.runFor k m.step) = _
    rw [ho, hs]; rfl
  exact ⟨k + 1, by exact ar260 hk, by rw [e]; exact h1, by rw [e]; exact h2⟩
theorem Ends.le {m : M} {P : M → Prop} {n n' : Nat} (h : Ends m P n) (hn : n ≤ n') : Ends m P n' := by
  obtain ⟨k, hk, r⟩ := h
  exact ⟨k, by exact ar52 hk hn, r⟩

noncomputable def mk (code text : Array Nat) (ls start pc pos handed : Nat) (om : Bool) (frames : List Sre.Frame) (wt : Nat) (ans : Option Bool) (seen : Sre.Seen) (out : Option Sre.Outcome) : M :=
  { code := code, text := text, lim := text.size, start := start, lastStart := ls, pc := pc, pos := pos, handed := handed, outermost := om, marks := #[], frames := frames, weight := wt, answer := ans, seen := seen, outcome := out }
noncomputable def f1 (s : Nat) (om : Bool) : Sre.Frame := { wait := .nextStart, pc := 5, pos := s, outermost := om }

section
variable {text : Array Nat} {ls s handed pos start : Nat} {om om' : Bool} {seen : Sre.Seen}
theorem s1_atx : ∃ seen', (mk c1 text ls start 5 pos handed om [f1 s om'] 1 none seen none).step = if (pos == 0 || text.getD (pos - 1) 0 == 10) = true then mk c1 text ls start 7 pos handed om [f1 s om'] 1 none seen' none else mk c1 text ls start 5 pos handed om [f1 s om'] 1 (some false) seen' none := ⟨_, rfl⟩
theorem s1_at (h : (pos == 0 || text.getD (pos - 1) 0 == 10) = true) : ∃ seen', (mk c1 text ls start 5 pos handed om [f1 s om'] 1 none seen none).step = mk c1 text ls start 7 pos handed om [f1 s om'] 1 none seen' none := by
  obtain ⟨z, e⟩ := s1_atx (text := text) (ls := ls) (s := s) (handed := handed) (pos := pos) (start := start) (om := om) (om' := om') (seen := seen)
  exact ⟨z, e.trans (if_pos h)⟩
theorem s1_no (h : (pos == 0 || text.getD (pos - 1) 0 == 10) = false) : ∃ seen', (mk c1 text ls start 5 pos handed om [f1 s om'] 1 none seen none).step = mk c1 text ls start 5 pos handed om [f1 s om'] 1 (some false) seen' none := by
  obtain ⟨z, e⟩ := s1_atx (text := text) (ls := ls) (s := s) (handed := handed) (pos := pos) (start := start) (om := om) (om' := om') (seen := seen)
  exact ⟨z, e.trans (if_neg (by rw [h]; decide))⟩
/-- a letter's word at a place of the code -/
noncomputable def LitAt (code : Array Nat) (pc c : Nat) : Prop := ∀ (text : Array Nat) (ls start pos handed : Nat) (om : Bool) (fs : List Sre.Frame) (wt : Nat) (seen : Sre.Seen), (mk code text ls start pc pos handed om fs wt none seen none).step =
  if text.size ≤ pos then mk code text ls start pc pos handed om fs wt (some false) (seen.add (code.getD pc 0)) none else cond (text.getD pos 0 == c) (mk code text ls start (pc + 2) (pos + 1) handed om fs wt none (seen.add (code.getD pc 0)) none) (mk code text ls start pc pos handed om fs wt (some false) (seen.add (code.getD pc 0)) none)
theorem LitAt.yes {code : Array Nat} {pc c : Nat} (L : LitAt code pc c) {fs : List Sre.Frame} {wt : Nat} (h0 : pos < text.size) (h : text.getD pos 0 = c) : ∃ seen', (mk code text ls start pc pos handed om fs wt none seen none).step = mk code text ls start (pc + 2) (pos + 1) handed om fs wt none seen' none := by
  have e := L text ls start pos handed om fs wt seen
  refine ⟨seen.add (code.getD pc 0), e.trans ((if_neg (Nat.not_le_of_lt h0)).trans ?_)⟩
  rw [h, beq_self_eq_true]; rfl
theorem LitAt.no {code : Array Nat} {pc c : Nat} (L : LitAt code pc c) {fs : List Sre.Frame} {wt : Nat} (h : text.getD pos 0 ≠ c ∨ text.size ≤ pos) : ∃ seen', (mk code text ls start pc pos handed om fs wt none seen none).step = mk code text ls start pc pos handed om fs wt (some false) seen' none := by
  have e := L text ls start pos handed om fs wt seen
  rcases Nat.lt_or_ge pos text.size with h0 | h0
  · refine ⟨seen.add (code.getD pc 0), e.trans ((if_neg (Nat.not_le_of_lt h0)).trans ?_)⟩
    rw [beq_false_of_ne (h.resolve_right (Nat.not_le_of_lt h0))]; rfl
  · exact ⟨seen.add (code.getD pc 0), e.trans (if_pos h0)⟩
theorem lit7 : LitAt c1 7 46 := fun text _ _ pos _ _ _ _ _ => by
  show (if text.size ≤ pos then _ else _) = _
  refine congrArg (fun z => if text.size ≤ pos then _ else z) ?_
  show (match Sre.accepts c1 7 (text.getD pos 0) _ with | .error why => _ | .ok (false, seen) => _ | .ok (true, seen) => _) = _
  show (match (Except.ok (text.getD pos 0 == 46, _) : Except String (Bool × Sre.Seen)) with | .error why => _ | .ok (false, seen) => _ | .ok (true, seen) => _) = _
  cases text.getD pos 0 == 46 <;> rfl
theorem s1_lit (h0 : pos < text.size) (h : text.getD pos 0 = 46) : ∃ seen', (mk c1 text ls start 7 pos handed om [f1 s om'] 1 none seen none).step = mk c1 text ls start 9 (pos + 1) handed om [f1 s om'] 1 none seen' none := lit7.yes h0 h
theorem s1_lit_end (h0 : text.size ≤ pos) : ∃ seen', (mk c1 text ls start 7 pos handed om [f1 s om'] 1 none seen none).step = mk c1 text ls start 7 pos handed om [f1 s om'] 1 (some false) seen' none := lit7.no (.inr h0)
theorem s1_lit_no (h0 : pos < text.size) (h : text.getD pos 0 ≠ 46) : ∃ seen', (mk c1 text ls start 7 pos handed om [f1 s om'] 1 none seen none).step = mk c1 text ls start 7 pos handed om [f1 s om'] 1 (some false) seen' none := lit7.no (.inl h)
theorem s1_succ : ∃ seen', (mk c1 text ls start 9 pos handed om [f1 s om'] 1 none seen none).step = mk c1 text ls start 9 pos pos om [f1 s om'] 1 (some true) seen' none := by
  cases om
  · exact ⟨_, rfl⟩
  · exact ⟨_, rfl⟩
theorem s1_yes {pc : Nat} : (mk c1 text ls start pc pos handed om [f1 s om'] 1 (some true) seen none).step = mk c1 text ls start 5 s handed om' [] 0 (some true) seen none := rfl
theorem s_won {code : Array Nat} {pc : Nat} : (mk code text ls start pc pos handed om [] 0 (some true) seen none).step = mk code text ls start pc pos handed om [] 0 (some true) seen (some .matched) := rfl
theorem s_lost {code : Array Nat} {pc : Nat} : (mk code text ls start pc pos handed om [] 0 (some false) seen none).step = mk code text ls start pc pos handed om [] 0 (some false) seen (some .failed) := rfl
theorem s1_next {pc : Nat} (h : s < ls) : (mk c1 text ls start pc pos handed om [f1 s om'] 1 (some false) seen none).step = mk c1 text ls (s + 1) 5 (s + 1) (s + 1) false [f1 (s + 1) false] 1 none seen none := by
  show (if s < ls then _ else _) = _
  rw [if_pos h]
  rfl
theorem s1_last {pc : Nat} (h : ¬ s < ls) : (mk c1 text ls start pc pos handed om [f1 s om'] 1 (some false) seen none).step = mk c1 text ls start 5 s handed om' [] 0 (some false) seen none := by
  show (if s < ls then _ else _) = _
  rw [if_neg h]
  rfl

noncomputable def hit1 (text : Array Nat) (p : Nat) : Prop := p < text.size ∧ (p == 0 || text.getD (p - 1) 0 == 10) = true ∧ text.getD p 0 = 46
noncomputable def Res (hit : Nat → Prop) (e : Nat → Nat) (s : Nat) (m : M) : Prop :=
  (∃ p, s ≤ p ∧ hit p ∧ (∀ q, s ≤ q → q < p → ¬ hit q) ∧ m.outcome = some .matched ∧ m.start = p ∧ m.handed = e p) ∨ ((∀ q, s ≤ q → ¬ hit q) ∧ m.outcome = some .failed)

theorem run1 (text : Array Nat) : ∀ (n s : Nat) (om : Bool) (seen : Sre.Seen), text.size - s = n → s ≤ text.size → Ends (mk c1 text text.size s 5 s s om [f1 s om] 1 none seen none) (Res (hit1 text) (· + 1) s) (3 * n + 10) := by
  intro n
  induction n with
  | zero =>
    intro s om seen hn hs
    have hsz : s = text.size := by exact ar261 hs hn
    have no : ∀ q, s ≤ q → ¬ hit1 text q := fun q hq h => by have := h.1; exact ar262 this hsz hq
    have fin : ∀ (start pc pos handed : Nat) (om : Bool) (seen : Sre.Seen), Ends (mk c1 text text.size start pc pos handed om [f1 s om] 1 (some false) seen none) (Res (hit1 text) (· + 1) s) 2 := fun start pc pos handed om seen =>
      Ends.step rfl (s1_last (by exact ar263 hsz)) (Ends.step rfl s_lost (Ends.now rfl (.inr ⟨no, rfl⟩)))
    cases h : (s == 0 || text.getD (s - 1) 0 == 10) with
    | true =>
      obtain ⟨seen1, e1⟩ := s1_at (text := text) (ls := text.size) (start := s) (handed := s) (om := om) (s := s) (om' := om) (seen := seen) h
      obtain ⟨seen2, e2⟩ := s1_lit_end (text := text) (ls := text.size) (start := s) (handed := s) (om := om) (s := s) (om' := om) (seen := seen1) (pos := s) (by exact ar19 hsz)
      exact (Ends.step rfl e1 (Ends.step rfl e2 (fin _ _ _ _ _ _))).le (by exact ar264)
    | false =>
      obtain ⟨seen1, e1⟩ := s1_no (text := text) (ls := text.size) (start := s) (handed := s) (om := om) (s := s) (om' := om) (seen := seen) h
      exact (Ends.step rfl e1 (fin _ _ _ _ _ _)).le (by exact ar265)
  | succ n ih =>
    intro s om seen hn hs
    have hlt : s < text.size := by exact ar266 hn
    have next : ∀ (start pc pos handed : Nat) (seen : Sre.Seen), ¬ hit1 text s → Ends (mk c1 text text.size start pc pos handed om [f1 s om] 1 (some false) seen none) (Res (hit1 text) (· + 1) s) (3 * n + 11) := fun start pc pos handed seen hno => by
      refine Ends.step rfl (s1_next hlt) ?_
      obtain ⟨k, hk, h1, h2⟩ := ih (s + 1) false seen (by exact ar267 hn) (by exact ar20 hlt)
      refine ⟨k, hk, h1, ?_⟩
      rcases h2 with ⟨p, a1, a2, a3, a4⟩ | ⟨b1, b2⟩
      · refine .inl ⟨p, by lia, a2, fun q q1 q2 => ?_, a4⟩
        rcases Nat.eq_or_lt_of_le q1 with z | z
        · exact z ▸ hno
        · exact a3 q z q2
      · refine .inr ⟨fun q q1 => ?_, b2⟩
        rcases Nat.eq_or_lt_of_le q1 with z | z
        · exact z ▸ hno
        · exact b1 q z
    cases h : (s == 0 || text.getD (s - 1) 0 == 10) with
    | true =>
      obtain ⟨seen1, e1⟩ := s1_at (text := text) (ls := text.size) (start := s) (handed := s) (om := om) (s := s) (om' := om) (seen := seen) h
      by_cases hc : text.getD s 0 = 46
      · obtain ⟨seen2, e2⟩ := s1_lit (text := text) (ls := text.size) (start := s) (handed := s) (om := om) (s := s) (om' := om) (seen := seen1) hlt hc
        obtain ⟨seen3, e3⟩ := s1_succ (text := text) (ls := text.size) (start := s) (handed := s) (om := om) (s := s) (om' := om) (seen := seen2) (pos := s + 1)
        exact (Ends.step rfl e1 (Ends.step rfl e2 (Ends.step rfl e3 (Ends.step rfl s1_yes (Ends.step rfl s_won (Ends.now rfl (.inl ⟨s, Nat.le_refl _, ⟨hlt, h, hc⟩, fun q q1 q2 => by exact (ar269 q2 q1).elim, rfl, rfl, rfl⟩))))))).le (by exact ar268)
      · obtain ⟨seen2, e2⟩ := s1_lit_no (text := text) (ls := text.size) (start := s) (handed := s) (om := om) (s := s) (om' := om) (seen := seen1) hlt hc
        exact (Ends.step rfl e1 (Ends.step rfl e2 (next _ _ _ _ _ fun z => hc z.2.2))).le (by exact ar270)
    | false =>
      obtain ⟨seen1, e1⟩ := s1_no (text := text) (ls := text.size) (start := s) (handed := s) (om := om) (s := s) (om' := om) (seen := seen) h
      exact (Ends.step rfl e1 (next _ _ _ _ _ fun z => by have := z.2.1; rw [h] at this; cases this)).le (by exact ar271)

theorem search1 (text : Array Nat) (s : Nat) (hs : s ≤ text.size) : Ends (Sre.forSearch c1 text 0 s text.size false) (Res (hit1 text) (· + 1) s) (3 * text.size + 20) := by
  by_cases h : s < text.size
  · have e : ∃ seen, Sre.forSearch c1 text 0 s text.size false = mk c1 text text.size s 5 s s true [f1 s true] 1 none seen none := by
      apply Exists.intro
      unfold Sre.forSearch
      show (if (decide (s > text.size) || decide (text.size - s < 1)) = true then _ else _) = _
      rw [if_neg (by simp; exact ar276 h)]
      rfl
    obtain ⟨seen, e⟩ := e
    rw [e]
    exact (run1 text _ s true seen rfl hs).le (by exact ar278)
  · have e : ∃ seen, Sre.forSearch c1 text 0 s text.size false = mk c1 text 0 s 5 s s true [] 0 (some false) seen none := by
      apply Exists.intro
      unfold Sre.forSearch
      show (if (decide (s > text.size) || decide (text.size - s < 1)) = true then _ else _) = _
      rw [if_pos (by simp; exact ar280 h)]
      rfl
    obtain ⟨seen, e⟩ := e
    rw [e]
    exact (Ends.step rfl s_lost (Ends.now rfl (.inr ⟨fun q hq h => by have := h.1; exact ar282 this hq (by assumption), rfl⟩))).le (by exact ar281)
end

end
section
set_option autoImplicit false
open Sre (M)

noncomputable def kp0 : Sre.Kept := { lastmark := -1, lastindex := -1, whole := false, marks := #[] }
noncomputable def f2 (s : Nat) (om : Bool) : Sre.Frame := { wait := .nextStart, pc := 10, pos := s, outermost := om }
noncomputable def nb (pc s : Nat) (om : Bool) : Sre.Frame := { wait := .nextBranch, pc := pc, pos := s, outermost := om, kept := kp0 }
noncomputable def lkn (pos : Nat) (om : Bool) : Sre.Frame := { wait := .lookNot, pc := 26, pos := pos, outermost := om, kept := kp0 }

section
variable {text : Array Nat} {ls s handed pos start : Nat} {om om' om'' : Bool} {seen : Sre.Seen} {fs : List Sre.Frame} {wt : Nat}

theorem lit12 : LitAt c2 12 13 := fun text _ _ pos _ _ _ _ _ => by
  show (if text.size ≤ pos then _ else _) = _
  refine congrArg (fun z => if text.size ≤ pos then _ else z) ?_
  show (match Sre.accepts c2 12 (text.getD pos 0) _ with | .error why => _ | .ok (false, seen) => _ | .ok (true, seen) => _) = _
  show (match (Except.ok (text.getD pos 0 == 13, _) : Except String (Bool × Sre.Seen)) with | .error why => _ | .ok (false, seen) => _ | .ok (true, seen) => _) = _
  cases text.getD pos 0 == 13 <;> rfl
theorem lit14 : LitAt c2 14 10 := fun text _ _ pos _ _ _ _ _ => by
  show (if text.size ≤ pos then _ else _) = _
  refine congrArg (fun z => if text.size ≤ pos then _ else z) ?_
  show (match Sre.accepts c2 14 (text.getD pos 0) _ with | .error why => _ | .ok (false, seen) => _ | .ok (true, seen) => _) = _
  show (match (Except.ok (text.getD pos 0 == 10, _) : Except String (Bool × Sre.Seen)) with | .error why => _ | .ok (false, seen) => _ | .ok (true, seen) => _) = _
  cases text.getD pos 0 == 10 <;> rfl
theorem lit19 : LitAt c2 19 10 := fun text _ _ pos _ _ _ _ _ => by
  show (if text.size ≤ pos then _ else _) = _
  refine congrArg (fun z => if text.size ≤ pos then _ else z) ?_
  show (match Sre.accepts c2 19 (text.getD pos 0) _ with | .error why => _ | .ok (false, seen) => _ | .ok (true, seen) => _) = _
  show (match (Except.ok (text.getD pos 0 == 10, _) : Except String (Bool × Sre.Seen)) with | .error why => _ | .ok (false, seen) => _ | .ok (true, seen) => _) = _
  cases text.getD pos 0 == 10 <;> rfl
theorem lit24 : LitAt c2 24 13 := fun text _ _ pos _ _ _ _ _ => by
  show (if text.size ≤ pos then _ else _) = _
  refine congrArg (fun z => if text.size ≤ pos then _ else z) ?_
  show (match Sre.accepts c2 24 (text.getD pos 0) _ with | .error why => _ | .ok (false, seen) => _ | .ok (true, seen) => _) = _
  show (match (Except.ok (text.getD pos 0 == 13, _) : Except String (Bool × Sre.Seen)) with | .error why => _ | .ok (false, seen) => _ | .ok (true, seen) => _) = _
  cases text.getD pos 0 == 13 <;> rfl
theorem lit29 : LitAt c2 29 10 := fun text _ _ pos _ _ _ _ _ => by
  show (if text.size ≤ pos then _ else _) = _
  refine congrArg (fun z => if text.size ≤ pos then _ else z) ?_
  show (match Sre.accepts c2 29 (text.getD pos 0) _ with | .error why => _ | .ok (false, seen) => _ | .ok (true, seen) => _) = _
  show (match (Except.ok (text.getD pos 0 == 10, _) : Except String (Bool × Sre.Seen)) with | .error why => _ | .ok (false, seen) => _ | .ok (true, seen) => _) = _
  cases text.getD pos 0 == 10 <;> rfl
theorem br0 : ∃ seen', (mk c2 text ls start 10 pos handed om [f2 s om'] 1 none seen none).step = mk c2 text ls start 12 pos pos om [nb 11 pos om, f2 s om'] 2 none seen' none := ⟨_, rfl⟩
theorem jmp16 : ∃ seen', (mk c2 text ls start 16 pos handed om fs wt none seen none).step = mk c2 text ls start 35 pos handed om fs wt none seen' none := ⟨_, rfl⟩
theorem jmp21 : ∃ seen', (mk c2 text ls start 21 pos handed om fs wt none seen none).step = mk c2 text ls start 35 pos handed om fs wt none seen' none := ⟨_, rfl⟩
theorem jmp32 : ∃ seen', (mk c2 text ls start 32 pos handed om fs wt none seen none).step = mk c2 text ls start 35 pos handed om fs wt none seen' none := ⟨_, rfl⟩
theorem succ2 : ∃ seen', (mk c2 text ls start 35 pos handed om fs wt none seen none).step = mk c2 text ls start 35 pos pos om fs wt (some true) seen' none := by
  cases om
  · exact ⟨_, rfl⟩
  · exact ⟨_, rfl⟩
theorem nb_yes {pc bp : Nat} {p : Nat} : (mk c2 text ls start pc pos handed om (nb bp p om' :: fs) 2 (some true) seen none).step = mk c2 text ls start bp p handed om' fs 1 (some true) seen none := rfl
theorem ns_yes {pc : Nat} : (mk c2 text ls start pc pos handed om [f2 s om'] 1 (some true) seen none).step = mk c2 text ls start 10 s handed om' [] 0 (some true) seen none := rfl
theorem nb11_no {pc : Nat} {p : Nat} : (mk c2 text ls start pc pos handed om (nb 11 p om' :: [f2 s om'']) 2 (some false) seen none).step = mk c2 text ls start 19 p p om' (nb 18 p om' :: [f2 s om'']) 2 none seen none := rfl
theorem nb18_no {pc : Nat} {p : Nat} : (mk c2 text ls start pc pos handed om (nb 18 p om' :: [f2 s om'']) 2 (some false) seen none).step = mk c2 text ls start 24 p p om' (nb 23 p om' :: [f2 s om'']) 2 none seen none := rfl
theorem look26 {p : Nat} : ∃ seen', (mk c2 text ls start 26 pos handed om (nb 23 p om' :: [f2 s om'']) 2 none seen none).step = mk c2 text ls start 29 pos pos false (lkn pos om :: nb 23 p om' :: [f2 s om'']) 3 none seen' none := by
  exact ⟨_, rfl⟩
theorem look_no {pc : Nat} {q : Nat} : (mk c2 text ls start pc pos handed om (lkn q om' :: fs) 3 (some false) seen none).step = mk c2 text ls start 32 q handed om' fs 2 none seen none := rfl

noncomputable def hit2 (text : Array Nat) (p : Nat) : Prop := p < text.size ∧ (text.getD p 0 = 10 ∨ text.getD p 0 = 13)
noncomputable def end2 (text : Array Nat) (p : Nat) : Nat := if text.getD p 0 = 13 ∧ p + 1 < text.size ∧ text.getD (p + 1) 0 = 10 then p + 2 else p + 1

/-- from a start that is a hit -/
theorem at2 (h : hit2 text s) : Ends (mk c2 text ls s 10 s s om [f2 s om] 1 none seen none) (fun m => m.outcome = some .matched ∧ m.start = s ∧ m.handed = end2 text s) 20 := by
  obtain ⟨hlt, hc⟩ := h
  obtain ⟨seen1, e1⟩ := br0 (text := text) (ls := ls) (start := s) (pos := s) (handed := s) (om := om) (s := s) (om' := om) (seen := seen)
  have win : ∀ (p pc bp handed : Nat) (seen : Sre.Seen), handed = end2 text s → Ends (mk c2 text ls s 35 p handed om (nb bp s om :: [f2 s om]) 2 (some true) seen none) (fun m => m.outcome = some .matched ∧ m.start = s ∧ m.handed = end2 text s) 3 := fun p pc bp handed seen he =>
    Ends.step rfl nb_yes (Ends.step rfl ns_yes (Ends.step rfl s_won (Ends.now rfl ⟨rfl, rfl, he⟩)))
  refine (Ends.step rfl e1 (n := 19) ?_).le (by exact ar285)
  rcases hc with hc | hc
  · obtain ⟨seen2, e2⟩ := LitAt.no lit12 (text := text) (ls := ls) (start := s) (pos := s) (handed := s) (om := om) (fs := [nb 11 s om, f2 s om]) (wt := 2) (seen := seen1) (.inl (by exact ar286 hc))
    obtain ⟨seen3, e3⟩ := LitAt.yes lit19 (text := text) (ls := ls) (start := s) (pos := s) (handed := s) (om := om) (fs := [nb 18 s om, f2 s om]) (wt := 2) (seen := seen2) hlt hc
    obtain ⟨seen4, e4⟩ := jmp21 (text := text) (ls := ls) (start := s) (pos := s + 1) (handed := s) (om := om) (fs := [nb 18 s om, f2 s om]) (wt := 2) (seen := seen3)
    obtain ⟨seen5, e5⟩ := succ2 (text := text) (ls := ls) (start := s) (pos := s + 1) (handed := s) (om := om) (fs := [nb 18 s om, f2 s om]) (wt := 2) (seen := seen4)
    have he : s + 1 = end2 text s := by unfold end2; rw [if_neg (by exact ar287 hc)]
    exact (Ends.step rfl e2 (Ends.step rfl nb11_no (Ends.step rfl e3 (Ends.step rfl e4 (Ends.step rfl e5 (win _ 0 _ _ _ he)))))).le (by exact ar288)
  · obtain ⟨seen2, e2⟩ := LitAt.yes lit12 (text := text) (ls := ls) (start := s) (pos := s) (handed := s) (om := om) (fs := [nb 11 s om, f2 s om]) (wt := 2) (seen := seen1) hlt hc
    by_cases hn : s + 1 < text.size ∧ text.getD (s + 1) 0 = 10
    · obtain ⟨seen3, e3⟩ := LitAt.yes lit14 (text := text) (ls := ls) (start := s) (pos := s + 1) (handed := s) (om := om) (fs := [nb 11 s om, f2 s om]) (wt := 2) (seen := seen2) hn.1 hn.2
      obtain ⟨seen4, e4⟩ := jmp16 (text := text) (ls := ls) (start := s) (pos := s + 2) (handed := s) (om := om) (fs := [nb 11 s om, f2 s om]) (wt := 2) (seen := seen3)
      obtain ⟨seen5, e5⟩ := succ2 (text := text) (ls := ls) (start := s) (pos := s + 2) (handed := s) (om := om) (fs := [nb 11 s om, f2 s om]) (wt := 2) (seen := seen4)
      have he : s + 2 = end2 text s := by unfold end2; rw [if_pos ⟨hc, hn⟩]
      exact (Ends.step rfl e2 (Ends.step rfl e3 (Ends.step rfl e4 (Ends.step rfl e5 (win _ 0 _ _ _ he))))).le (by exact ar289)
    · have hn' : text.getD (s + 1) 0 ≠ 10 ∨ text.size ≤ s + 1 := by
        rcases Nat.lt_or_ge (s + 1) text.size with q | q
        · exact .inl fun z => hn ⟨q, z⟩
        · exact .inr q
      obtain ⟨seen3, e3⟩ := LitAt.no lit14 (text := text) (ls := ls) (start := s) (pos := s + 1) (handed := s) (om := om) (fs := [nb 11 s om, f2 s om]) (wt := 2) (seen := seen2) hn'
      obtain ⟨seen4, e4⟩ := LitAt.no lit19 (text := text) (ls := ls) (start := s) (pos := s) (handed := s) (om := om) (fs := [nb 18 s om, f2 s om]) (wt := 2) (seen := seen3) (.inl (by exact ar290 hc))
      obtain ⟨seen5, e5⟩ := LitAt.yes lit24 (text := text) (ls := ls) (start := s) (pos := s) (handed := s) (om := om) (fs := [nb 23 s om, f2 s om]) (wt := 2) (seen := seen4) hlt hc
      obtain ⟨seen6, e6⟩ := look26 (text := text) (ls := ls) (start := s) (pos := s + 1) (handed := s) (om := om) (p := s) (om' := om) (s := s) (om'' := om) (seen := seen5)
      obtain ⟨seen7, e7⟩ := LitAt.no lit29 (text := text) (ls := ls) (start := s) (pos := s + 1) (handed := s + 1) (om := false) (fs := lkn (s + 1) om :: nb 23 s om :: [f2 s om]) (wt := 3) (seen := seen6) hn'
      obtain ⟨seen8, e8⟩ := jmp32 (text := text) (ls := ls) (start := s) (pos := s + 1) (handed := s + 1) (om := om) (fs := [nb 23 s om, f2 s om]) (wt := 2) (seen := seen7)
      obtain ⟨seen9, e9⟩ := succ2 (text := text) (ls := ls) (start := s) (pos := s + 1) (handed := s + 1) (om := om) (fs := [nb 23 s om, f2 s om]) (wt := 2) (seen := seen8)
      have he : s + 1 = end2 text s := by unfold end2; rw [if_neg fun z => hn z.2]
      exact (Ends.step rfl e2 (Ends.step rfl e3 (Ends.step rfl nb11_no (Ends.step rfl e4 (Ends.step rfl nb18_no (Ends.step rfl e5 (Ends.step rfl e6 (Ends.step rfl e7 (Ends.step rfl look_no (Ends.step rfl e8 (Ends.step rfl e9 (win _ 0 _ _ _ he)))))))))))).le (by exact ar291)

theorem inSet2 (c : Nat) (sn : Sre.Seen) : ∃ sn', Sre.inSet c2 c c2.size 5 true sn = .ok (decide (c = 10 ∨ c = 13), sn') := by
  by_cases h1 : c = 10
  · subst h1; exact ⟨_, rfl⟩
  · by_cases h2 : c = 13
    · subst h2; exact ⟨_, rfl⟩
    · have e : decide (c = 10 ∨ c = 13) = false := decide_eq_false (by exact ar292 h1 h2)
      rw [e]
      apply Exists.intro
      show (if (c == 10) = true then _ else Sre.inSet c2 c 35 7 true _) = _
      rw [if_neg (by simpa using h1)]
      show (if (c == 13) = true then _ else Sre.inSet c2 c 34 9 true _) = _
      rw [if_neg (by simpa using h2)]
      rfl

theorem adm2 (m : M) (hm : m.code = c2) (ht : m.text = text) (hl : m.lim = text.size) : ∀ (fuel s : Nat) (sn : Sre.Seen), s + fuel = text.size + 1 → ∃ sn', (∃ p, Sre.M.admitted m fuel s sn = .ok (some p, sn') ∧ s ≤ p ∧ hit2 text p ∧ ∀ q, s ≤ q → q < p → ¬ hit2 text q) ∨
    (Sre.M.admitted m fuel s sn = .ok (none, sn') ∧ ∀ q, s ≤ q → ¬ hit2 text q)
  | 0, s, sn, h => ⟨sn, .inr ⟨rfl, fun q hq z => by have := z.1; exact ar293 h hq this⟩⟩
  | fuel + 1, s, sn, h => by
    unfold Sre.M.admitted
    rw [hl]
    by_cases hs : s ≥ text.size
    · rw [if_pos hs]
      exact ⟨sn, .inr ⟨rfl, fun q hq z => by have := z.1; exact ar294 this hq hs⟩⟩
    · rw [if_neg hs, hm, ht]
      obtain ⟨sn1, e⟩ := inSet2 (text.getD s 0) sn
      rw [e]
      by_cases hc : text.getD s 0 = 10 ∨ text.getD s 0 = 13
      · rw [decide_eq_true hc]
        exact ⟨sn1, .inl ⟨s, rfl, Nat.le_refl _, ⟨by exact ar295 hs, hc⟩, fun q q1 q2 => by exact (ar269 q2 q1).elim⟩⟩
      · rw [decide_eq_false hc]
        dsimp only
        obtain ⟨sn2, ih⟩ := adm2 m hm ht hl fuel (s + 1) sn1 (by exact ar296 h)
        refine ⟨sn2, ?_⟩
        have hno : ¬ hit2 text s := fun z => hc z.2
        rcases ih with ⟨p, a1, a2, a3, a4⟩ | ⟨b1, b2⟩
        · refine .inl ⟨p, a1, by exact ar10 a2, a3, fun q q1 q2 => ?_⟩
          rcases Nat.eq_or_lt_of_le q1 with z | z
          · exact z ▸ hno
          · exact a4 q z q2
        · refine .inr ⟨b1, fun q q1 => ?_⟩
          rcases Nat.eq_or_lt_of_le q1 with z | z
          · exact z ▸ hno
          · exact b2 q z

theorem search2 (text : Array Nat) (s : Nat) (hs : s ≤ text.size) : Ends (Sre.forSearch c2 text 0 s text.size false) (Res (hit2 text) (end2 text) s) 30 := by
  by_cases h : s < text.size
  · have e : ∃ seen, Sre.forSearch c2 text 0 s text.size false = (mk c2 text text.size s 10 s s true [] 0 none seen none).attemptFrom s true := by
      apply Exists.intro
      unfold Sre.forSearch
      show (if (decide (s > text.size) || decide (text.size - s < 1)) = true then _ else _) = _
      rw [if_neg (by simp; exact ar276 h)]
      rfl
    obtain ⟨seen, e⟩ := e
    rw [e]
    have e2 : (mk c2 text text.size s 10 s s true [] 0 none seen none).attemptFrom s true = (match Sre.M.admitted (mk c2 text text.size s 10 s s true [] 0 none seen none) (text.size + 1 - s) s seen with
      | .ok (some s', seen') => { mk c2 text text.size s 10 s s true [] 0 none seen none with mustAdvance := false, seen := seen' }.attemptAt s' true
      | .ok (none, seen') => { mk c2 text text.size s 10 s s true [] 0 none seen none with seen := seen' }.say false
      | .error why => (mk c2 text text.size s 10 s s true [] 0 none seen none).stick why) := rfl
    rw [e2]
    obtain ⟨sn', ha⟩ := adm2 (text := text) (mk c2 text text.size s 10 s s true [] 0 none seen none) rfl rfl rfl (text.size + 1 - s) s seen (by exact ar297 h)
    rcases ha with ⟨p, a1, a2, a3, a4⟩ | ⟨b1, b2⟩
    · rw [a1]
      obtain ⟨k, hk, h1, h2, h3, h4⟩ := at2 (text := text) (ls := text.size) (s := p) (om := true) (seen := sn') a3
      exact ⟨k, by exact ar298 hk, h1, .inl ⟨p, a2, a3, a4, h2, h3, h4⟩⟩
    · rw [b1]
      exact (Ends.step (m := mk c2 text text.size s 10 s s true [] 0 (some false) sn' none) rfl s_lost (Ends.now rfl (.inr ⟨b2, rfl⟩))).le (by exact ar299)
  · have e : ∃ seen, Sre.forSearch c2 text 0 s text.size false = mk c2 text 0 s 10 s s true [] 0 (some false) seen none := by
      apply Exists.intro
      unfold Sre.forSearch
      show (if (decide (s > text.size) || decide (text.size - s < 1)) = true then _ else _) = _
      rw [if_pos (by simp; exact ar280 h)]
      rfl
    obtain ⟨seen, e⟩ := e
    rw [e]
    exact (Ends.step rfl s_lost (Ends.now rfl (.inr ⟨fun q hq h => by have := h.1; exact ar282 this hq (by assumption), rfl⟩))).le (by exact ar299)
end

end
section
set_option autoImplicit false
set_option maxRecDepth 100000
open Sre (M)
open PySem.Builtin.Re

theorem runFor_stop {m : M} (h : m.outcome.isSome = true) : ∀ n, m.runFor n = m
  | 0 => rfl
  | n + 1 => by show (if m.outcome.isSome then m else _) = m; rw [if_pos h]
theorem runFor_add : ∀ (a b : Nat) (m : M), m.runFor (a + b) = (m.runFor a).runFor b
  | 0, b, m => by rw [Nat.zero_add]; rfl
  | a + 1, b, m => by
    by_cases h : m.outcome.isSome = true
    · rw [runFor_stop h, runFor_stop h, runFor_stop h]
    · rw [show a + 1 + b = (a + b) + 1 by exact ar300]
      show (if m.outcome.isSome then m else M.runFor (a + b) m.step) = M.runFor b (if m.outcome.isSome then m else M.runFor a m.step)
      rw [if_neg h, if_neg h, runFor_add a b]

section
variable {Mo : Model} {A : Around} {E : Value → Shared → Prop} {s : Shared}
theorem drive_ok {Q : M → Shared → Prop} : ∀ (turns k : Nat) (m : M), k ≤ 4 * turns → 1 ≤ turns → (m.runFor k).outcome.isSome = true → Q (m.runFor k) s → wpAny Mo A (reDrive turns m) Q E s
  | 0, _, _, _, h, _, _ => by exact (ar301 h).elim
  | turns + 1, k, m, hk, _, ho, hQ => by
    show wpAny Mo A (if (m.runFor 4).outcome.isSome then pure (m.runFor 4) else do rule "sre.turn"; reDrive turns (m.runFor 4)) Q E s
    by_cases h : (m.runFor 4).outcome.isSome = true
    · rw [if_pos h]
      have e : m.runFor 4 = m.runFor k := by
        rcases Nat.le_total k 4 with q | q
        · have e4 : 4 = k + (4 - k) := by exact ar302 q
          rw [e4, runFor_add, runFor_stop ho]
        · obtain ⟨d, rfl⟩ : ∃ d, k = 4 + d := ⟨k - 4, by exact ar303 q⟩
          rw [runFor_add, runFor_stop h]
      rw [e]; exact wpAny_pure hQ
    · rw [if_neg h]
      have hk4 : 4 < k := by
        rcases Nat.lt_or_ge 4 k with q | q
        · exact q
        · exfalso
          apply h
          have e4 : 4 = k + (4 - k) := by exact ar304 q
          rw [e4, runFor_add, runFor_stop ho]; exact ho
      have ek : k = 4 + (k - 4) := by exact ar305 hk4
      rw [ek, runFor_add] at ho hQ
      exact wpAny_bind (wpAny_rule (drive_ok turns (k - 4) _ (by exact ar306 hk) (by exact ar307 hk4 hk) ho hQ))

theorem end_ok {Q : Option M → Shared → Prop} {m : M} {P : M → Prop} {n : Nat} (h : Ends m P n) (hn : n ≤ 2 ^ 60) (hm : ∀ m', P m' → m'.outcome = some .matched → Q (some m') s) (hf : ∀ m', P m' → m'.outcome = some .failed → Q none s)
    (hP : ∀ m', P m' → m'.outcome = some .matched ∨ m'.outcome = some .failed) : wpAny Mo A (reRunToEnd m) Q E s := by
  obtain ⟨k, hk, h1, h2⟩ := h
  unfold reRunToEnd
  refine wpAny_bind (drive_ok _ k m (by exact ar308 hk hn) (by decide) h1 ?_)
  have rules : ∀ (l : List Nat) (K : PUnit → Shared → Prop), K ⟨⟩ s → wpAny Mo A (forIn l PUnit.unit fun i r => if (m.runFor k).seen.has i = true then do rule (Sre.names.getD i ""); pure (ForInStep.yield PUnit.unit) else pure (ForInStep.yield PUnit.unit)) K E s := by
    intro l
    induction l with
    | nil => intro K h; rw [List.forIn_nil]; exact wpAny_pure h
    | cons i l ih =>
      intro K h
      rw [List.forIn_cons]
      by_cases q : (m.runFor k).seen.has i = true
      · rw [if_pos q]; exact wpAny_bind (wpAny_bind (wpAny_rule (wpAny_pure (ih K h))))
      · rw [if_neg q]; exact wpAny_bind (wpAny_pure (ih K h))
  refine wpAny_bind (rules _ _ ?_)
  rcases hP _ h2 with q | q
  · rw [q]; exact wpAny_pure (hm _ h2 q)
  · rw [q]; exact wpAny_pure (hf _ h2 q)
end

end
section
set_option autoImplicit false
set_option maxRecDepth 100000

namespace F
open PySem.F
theorem plainAttrs_rep : PlainAttrs "re.Pattern" :=
  ⟨⟨"object.__getattribute__", by rw [typeLookup_type, builtinLookup_eq_fast]; kernel_rfl, by decide +kernel⟩, by rw [typeLookup_type, builtinLookup_eq_fast]; kernel_rfl⟩
theorem slot_rep_sub : Slot "re.Pattern" "sub" "re.Pattern.sub" :=
  .of (owner := "re.Pattern") (n := "sub") (by rw [typeLookup_type, builtinLookup_eq_fast]; kernel_rfl) (by decide +kernel) (by decide +kernel) (by decide +kernel)
    (by first | exact .inl (by decide +kernel) | exact .inr (by decide +kernel)) (by rw [isSubtype_type]; kernel_rfl)
theorem type_rep_sub : typeOf (.builtin "re.Pattern.sub") = pure (.type "method_descriptor") := by show builtinType _ = _; rw [builtinType_eq_fast]; kernel_rfl
theorem entry_rep_sub : entryFor table "re.Pattern.sub" = some Builtin.«re.Pattern.sub» := entryFor_of_tree (by kernel_rfl)
theorem args_rep_sub (a b c : Value) : argsOk "re.Pattern.sub" ⟨[a, b, c], []⟩ := by unfold argsOk; kernel_rfl
theorem plain_rep_loop : plainId "re.Pattern.sub.loop" = true := by decide +kernel
theorem entry_rep_loop : entryFor table "re.Pattern.sub.loop" = some Builtin.«re.Pattern.sub.loop» := entryFor_of_tree (by kernel_rfl)
theorem nocall_str : typeLookup (.type "str") "__call__" = pure none := by rw [typeLookup_type, builtinLookup_eq_fast]; kernel_rfl
end F

open Sre (M)
open PySem.Builtin.Re

/-- what a search engine gives -/
noncomputable def Srch (code : Array Nat) (hit : Array Nat → Nat → Prop) (e : Array Nat → Nat → Nat) : Prop :=
  ∀ (text : Array Nat) (s : Nat), text.size ≤ 2 ^ 20 → s ≤ text.size → Ends (Sre.forSearch code text 0 s text.size false) (Res (hit text) (e text) s) (2 ^ 24)
structure HitOk (hit : Array Nat → Nat → Prop) (e : Array Nat → Nat → Nat) : Prop where
  lt : ∀ t p, hit t p → p < t.size
  up : ∀ t p, hit t p → p < e t p
  le : ∀ t p, hit t p → e t p ≤ t.size

inductive Out (hit : Nat → Prop) (e : Nat → Nat) (rep : List Nat) (text : Array Nat) : Nat → List Nat → Prop
  | fin {s : Nat} : (∀ q, s ≤ q → ¬ hit q) → Out hit e rep text s (text.extract s text.size).toList
  | hit {s p : Nat} {r : List Nat} : s ≤ p → hit p → (∀ q, s ≤ q → q < p → ¬ hit q) → Out hit e rep text (e p) r → Out hit e rep text s ((text.extract s p).toList ++ rep ++ r)

section
variable {prog : Program} {w : World} {A : Around} {E : Value → Shared → Prop} {sh : Shared}
variable {p ct : Addr} {src fl : Value} {items : Array Value} {sl1 sl2 : Array (Option Value)} {n1 : Nat}

noncomputable def patObj (src fl : Value) (ct : Addr) : Obj := { cls := .type "re.Pattern", data := .fields #[src, fl, .int 0 0, .none, .none, .ref ct, .int 0 0] }
noncomputable def codeOf (items : Array Value) : Array Nat := (items.map reRawOf).map (·.toNat)

theorem target_ok {x : Str} {t : Tok} {Q : ReTarget → Shared → Prop} (hp : sh.heap.get? p = some (patObj src fl ct)) (hc : sh.heap.get? ct = some (tupObj items n1))
    (hQ : Q { pattern := .ref p, string := .str x t, code := codeOf items, text := x.cps, kind := 0, groups := 0, pos := 0, lim := x.cps.size } sh) :
    wpAny (model prog w) A (reWholeTarget (.ref p) (.str x t)) Q E sh := by
  unfold reWholeTarget
  refine wpAny_bind (wpAny_fieldsOf hp rfl ?_)
  refine wpAny_bind (wpAny_pure ?_)
  dsimp only
  refine wpAny_bind (wpAny_pure ?_)
  refine wpAny_bind (m := reRawItems (.ref ct)) ?_
  unfold reRawItems
  exact wpAny_bind (wpAny_seqItems hc rfl (wpAny_pure (wpAny_pure hQ)))

theorem pushPiece {D : Addr} {l : List (Str × Tok)} {c : Nat} {x : Str} {t : Tok} {Q : Unit → Shared → Prop} (hD : sh.heap.get? D = some (listObj (strValues l).toArray c)) (hl : l.length ≤ 2 ^ 23)
    (hQ : ∀ h', h'.get? D = some (listObj (strValues (l ++ [(x, t)])).toArray (c + 1)) → Heap.SameBut D sh.heap h' → Q () { sh with heap := h' }) :
    wpAny (model prog w) A (updateSeq D (·.push (.str x t))) Q E sh := by
  have hs : (strValues l).toArray.size ≤ sizeLine := by
    rw [List.size_toArray]; unfold strValues; rw [List.length_map]; unfold sizeLine; exact ar321 hl
  refine wpAny_updateSeq hD rfl (hQ _ ?_ (Heap.SameBut.update ..)) hs (by rw [Array.size_push]; exact ar260 hs)
  rw [Heap.get?_update_self _ hD (by rw [Obj.mapSeq_push_plain]; rfl), Obj.mapSeq_push_plain]
  unfold strValues
  rw [List.map_append]; simp

noncomputable def flat (l : List (Str × Tok)) : List Nat := (l.map fun x => L x.1).flatten
theorem flat_snoc (l : List (Str × Tok)) (x : Str) (t : Tok) : flat (l ++ [(x, t)]) = flat l ++ L x := by unfold flat; simp
theorem flat_join (l : List (Str × Tok)) : ((l.map (·.1)).map L).flatten = flat l := by unfold flat; rw [List.map_map]; rfl

theorem join_ok {D : Addr} {l : List (Str × Tok)} {c : Nat} {t : Tok} {Q : Value → Shared → Prop} (hD : sh.heap.get? D = some (listObj (strValues l).toArray c)) (hl : (flat l).length ≤ 2 ^ 23)
    (hQ : ∀ t' tk, Q (.str (S (flat l)) t') { sh with toks := tk }) : wpAny (model prog w) A (call (.builtin "str.join") [.str (S []) t, .ref D]) Q E sh := by
  have hok : JoinOk (S []) (l.map (·.1)) = true := by
    unfold JoinOk
    rw [StrLaws.joinTotal]
    have h0 : (S []).length = 0 := rfl
    have h1 : ((l.map (·.1)).map (·.length)).sum = (flat l).length := by
      unfold flat
      rw [List.length_flatten, List.map_map, List.map_map]
      exact congrArg List.sum (List.map_congr_left fun x _ => (len_L x.1).symm)
    rw [h0, h1, Nat.mul_zero, Nat.add_zero]
    unfold Builtin.Str.tooLong sizeLine
    rw [decide_eq_false (by exact ar322 hl)]; rfl
  refine SC.join (isListObj hD) rfl hok fun t' tk => ?_
  rw [txt_join_nil, flat_join]
  exact hQ t' tk
end

theorem reSlice0 (text : Array Nat) (b e : Nat) : reSlice text 0 b e = mkStr (S (text.extract b e).toList) := by
  show mkStr ⟨_⟩ = _
  congr 1

theorem sub_loop {prog : Program} {w : World} {A : Around} {code : Array Nat} {hit : Array Nat → Nat → Prop} {e : Array Nat → Nat → Nat} (hS : Srch code hit e) (H : HitOk hit e) {p ct D : Addr} {src fl : Value} {items : Array Value} {n1 : Nat} (hcode : codeOf items = code)
    {x rp : Str} {t t2 : Tok} (hsz : x.cps.size ≤ 2 ^ 20) (hrp : (L rp).length ≤ 2) (hDp : p ≠ D) (hDc : ct ≠ D) {R : Result → Shared → Prop} : ∀ {s : Nat} {out : List Nat}, Out (hit x.cps) (e x.cps) (L rp) x.cps s out → s ≤ x.cps.size →
    ∀ (n : Int) (l : List (Str × Tok)) (c : Nat) (sh : Shared), sh.heap.get? p = some (patObj src fl ct) → sh.heap.get? ct = some (tupObj items n1) → sh.heap.get? D = some (listObj (strValues l).toArray c) →
      l.length ≤ 2 * s → (flat l).length + out.length ≤ 2 ^ 23 →
      (∀ h' tk t', (∀ b o, b ≠ D → sh.heap.get? b = some o → h'.get? b = some o) → R (.ok (.ret (.str (S (flat l ++ out)) t'))) { sh with heap := h', toks := tk }) →
      codeAny (model prog w) A (.builtin "re.Pattern.sub.loop" ⟨[.ref p, .str x t, .str rp t2, rawInt 0, rawInt 0, rawInt n, rawInt s, rawInt s, .bool false, .ref D, .bool false], []⟩) R sh := by
  intro s out hO
  induction hO with
  | @fin s hno =>
    intro hs n l c sh hp hc hD hl hfl hR
    subst hcode
    refine codeAny_builtin F.entry_rep_loop ?_
    rw [Around.under_plainId F.plain_rep_loop _]
    show wpAny _ A.in1 (reWholeTarget (.ref p) (.str x t) >>= _) _ _ sh
    refine wpAny_bind (target_ok hp hc ?_)
    dsimp only
    refine wpAny_bind (wpAny_pure ?_)
    rw [if_neg (by simp)]
    refine wpAny_bind (end_ok (hS x.cps s hsz hs) (by decide) (fun m' hP ho => ?_) (fun m' hP ho => ?_) fun m' hP => ?_)
    · exfalso
      rcases hP with ⟨q, hq, hh, _⟩ | ⟨_, hf⟩
      · exact hno q hq hh
      · rw [ho] at hf; cases hf
    · dsimp only
      rw [Int.toNat_natCast]
      have join : ∀ (h₁ : Heap) (l' : List (Str × Tok)) (c' : Nat), h₁.get? D = some (listObj (strValues l').toArray c') → (flat l').length ≤ 2 ^ 23 → flat l' = flat l ++ (x.cps.extract s x.cps.size).toList → (∀ b o, b ≠ D → sh.heap.get? b = some o → h₁.get? b = some o) →
          ∀ tk, wpAny (model prog w) A.in1 (do
            let joiner ← reSlice x.cps 0 0 0
            let __do_lift ← seqItems? (.ref D)
            let text ← if (__do_lift.getD #[]).isEmpty = true then pure joiner else call (.builtin "str.join") [joiner, .ref D]
            ret text) (fun fin s' => match fin with
              | .done f => R (Except.ok f) s'
              | .again c' => c'.quiet = true ∧ codeAny (model prog w) A c' R s') (fun e s' => R (Except.error e) s') { sh with heap := h₁, toks := tk } := by
        intro h₁ l' c' hD' hlen hfl' hk tk
        rw [reSlice0, show (x.cps.extract 0 0).toList = [] by simp]
        refine wpAny_bind (wpAny_mkStr ?_ (by decide))
        refine wpAny_bind (wpAny_seqItems hD' rfl ?_)
        dsimp only [Option.getD]
        by_cases hE : (strValues l').toArray.isEmpty = true
        · rw [if_pos hE]
          refine wpAny_bind (wpAny_pure (wpAny_pure ?_))
          have : l' = [] := by
            cases l' with
            | nil => rfl
            | cons a r => cases hE
          rw [← hfl', this] at hR
          exact hR _ _ _ hk
        · rw [if_neg hE]
          refine wpAny_bind (join_ok hD' hlen fun t' tk => wpAny_pure ?_)
          rw [hfl']
          exact hR _ _ _ hk
      by_cases hlt : s < x.cps.size
      · rw [if_pos hlt]
        rw [reSlice0]
        have hex : (x.cps.extract s x.cps.size).toList.length ≤ x.cps.size := by simp
        refine wpAny_bind (wpAny_mkStr ?_ (by rw [← len_L, L_S]; unfold sizeLine; exact ar323 hfl))
        have hfl2 : flat (l ++ [(S (x.cps.extract s x.cps.size).toList, sh.toks)]) = flat l ++ (x.cps.extract s x.cps.size).toList := by rw [flat_snoc, L_S]
        refine wpAny_bind (pushPiece hD (by exact ar324 hl hlt hsz) fun h' hD' hb => ?_)
        exact join _ _ _ hD' (by rw [hfl2, List.length_append]; lia) hfl2 (fun b o q z => (hb.2 b q).trans z) _
      · rw [if_neg hlt]
        refine join _ _ _ hD (by exact ar325 hfl) ?_ (fun _ _ _ e => e) _
        have : x.cps.extract s x.cps.size = #[] := by simp; exact ar3 hlt
        rw [this]; simp
    · rcases hP with ⟨q, hq, hh, _, z, _⟩ | ⟨_, z⟩
      · exact .inl z
      · exact .inr z
  | @hit s q r h1 h2 h3 hr ih =>
    intro hs n l c sh hp hc hD hl hfl hR
    subst hcode
    refine codeAny_builtin F.entry_rep_loop ?_
    rw [Around.under_plainId F.plain_rep_loop _]
    show wpAny _ A.in1 (reWholeTarget (.ref p) (.str x t) >>= _) _ _ sh
    refine wpAny_bind (target_ok hp hc ?_)
    dsimp only
    refine wpAny_bind (wpAny_pure ?_)
    rw [if_neg (by simp)]
    refine wpAny_bind (end_ok (hS x.cps s hsz hs) (by decide) (fun m' hP ho => ?_) (fun m' hP ho => ?_) fun m' hP => ?_)
    · have hm : m'.start = q ∧ m'.handed = e x.cps q := by
        rcases hP with ⟨q', a1, a2, a3, _, a4, a5⟩ | ⟨a1, a2⟩
        · have : q' = q := by
            rcases Nat.lt_trichotomy q q' with z | z | z
            · exact absurd h2 (a3 q h1 z)
            · exact z.symm
            · exact absurd a2 (h3 q' a1 z)
          subst this
          exact ⟨a4, a5⟩
        · exact absurd h2 (a1 q h1)
      obtain ⟨hm1, hm2⟩ := hm
      have hup := H.up _ _ h2
      have hle := H.le _ _ h2
      have hlt := H.lt _ _ h2
      dsimp only
      rw [Int.toNat_natCast, hm1, hm2, show (e x.cps q == q) = false by rw [beq_eq_false_iff_ne]; exact ar326 hup]
      have next : ∀ (h₁ : Heap) (l' : List (Str × Tok)) (c' : Nat), h₁.get? D = some (listObj (strValues l').toArray c') → l'.length ≤ l.length + 1 → flat l' = flat l ++ (x.cps.extract s q).toList → (∀ b o, b ≠ D → sh.heap.get? b = some o → h₁.get? b = some o) →
          ∀ tk, wpAny (model prog w) A.in1 (do
            let item ← (pure (.str rp t2) : Sem Value)
            if (item != Value.none) = true then do
              updateSeq D fun x => x.push item
              again (.builtin "re.Pattern.sub.loop" ⟨[.ref p, .str x t, .str rp t2, rawInt 0, rawInt 0, rawInt (n + 1), rawInt (e x.cps q), rawInt (e x.cps q), .bool false, .ref D, .bool false], []⟩)
            else again (.builtin "re.Pattern.sub.loop" ⟨[.ref p, .str x t, .str rp t2, rawInt 0, rawInt 0, rawInt (n + 1), rawInt (e x.cps q), rawInt (e x.cps q), .bool false, .ref D, .bool false], []⟩)) (fun fin s' => match fin with
              | .done f => R (Except.ok f) s'
              | .again c' => c'.quiet = true ∧ codeAny (model prog w) A c' R s') (fun e s' => R (Except.error e) s') { sh with heap := h₁, toks := tk } := by
        intro h₁ l' c' hD' hlen hfl' hk tk
        refine wpAny_bind (wpAny_pure ?_)
        rw [if_pos (show (Value.str rp t2 != Value.none) = true from rfl)]
        refine wpAny_bind (pushPiece hD' (by exact ar327 hlen hl h1 hlt hsz) fun h' hD2 hb => ?_)
        have hk2 : ∀ b o, b ≠ D → sh.heap.get? b = some o → h'.get? b = some o := fun b o z y => (hb.2 b z).trans (hk b o z y)
        have hfl2 : flat (l' ++ [(rp, t2)]) = flat l ++ ((x.cps.extract s q).toList ++ L rp) := by rw [flat_snoc, hfl', List.append_assoc]
        refine wpAny_pure ⟨plainId_quiet F.plain_rep_loop _, ih hle (n + 1) _ _ { sh with heap := h', toks := tk } (hk2 _ _ hDp hp) (hk2 _ _ hDc hc) hD2 (by rw [List.length_append]; simp; exact ar328 hlen hl h1 hup) ?_ fun h3 tk3 t3 hk3 => ?_⟩
        · rw [hfl2]
          simp only [List.length_append] at hfl ⊢
          exact ar329 hfl
        · have := hR h3 tk3 t3 fun b o z y => hk3 b o z (hk2 b o z y)
          rw [hfl2]
          rw [← List.append_assoc, List.append_assoc, ← List.append_assoc] at this
          simpa [List.append_assoc] using this
      by_cases hsq : s < q
      · rw [if_pos hsq, reSlice0]
        have hex : (x.cps.extract s q).toList.length ≤ x.cps.size := by simp; lia
        refine wpAny_bind (wpAny_mkStr ?_ (by rw [← len_L, L_S]; unfold sizeLine; exact ar330 hex hsz))
        have hfl2 : flat (l ++ [(S (x.cps.extract s q).toList, sh.toks)]) = flat l ++ (x.cps.extract s q).toList := by rw [flat_snoc, L_S]
        refine wpAny_bind (pushPiece hD (by exact ar331 hl hsq hup hle hsz) fun h' hD' hb => ?_)
        rw [if_pos (show ((0 : Int) == 0) = true from rfl)]
        exact next _ _ _ hD' (by rw [List.length_append]; simp) hfl2 (fun b o q z => (hb.2 b q).trans z) _
      · rw [if_neg hsq, if_pos (show ((0 : Int) == 0) = true from rfl)]
        have : q = s := by exact ar105 h1 hsq
        refine next _ _ _ hD (by exact ar166) ?_ (fun _ _ _ e => e) _
        rw [this]; simp
    · exfalso
      rcases hP with ⟨q', a1, a2, a3, a0, a4, a5⟩ | ⟨a1, a2⟩
      · rw [ho] at a0; cases a0
      · exact a1 q h1 h2
    · rcases hP with ⟨q, hq, hh, _, z, _⟩ | ⟨_, z⟩
      · exact .inl z
      · exact .inr z

end
section
set_option autoImplicit false
set_option maxRecDepth 100000
open Sre (M)
open PySem.Builtin.Re

theorem named_ok (a b : Value) : reNamed "re.Pattern.sub" "sub" ["repl", "string", "count"] 2 [a, b] [] = pure [some a, some b, none] := by rfl

theorem sub_call {prog : Program} {w : World} {A : Around} {hit : Array Nat → Nat → Prop} {e : Array Nat → Nat → Nat} {p ct : Addr} {src fl : Value} {items : Array Value} {n1 : Nat} {sh : Shared} {E : Value → Shared → Prop} {Q : Value → Shared → Prop}
    (hS : Srch (codeOf items) hit e) (H : HitOk hit e) {x rp : Str} {t t2 : Tok} (hsz : x.cps.size ≤ 2 ^ 20) (hrp : (L rp).length ≤ 2) (h92 : rp.cps.contains 92 = false) {out : List Nat} (hO : Out (hit x.cps) (e x.cps) (L rp) x.cps 0 out) (hout : out.length ≤ 2 ^ 23)
    (hp : sh.heap.get? p = some (patObj src fl ct)) (hc : sh.heap.get? ct = some (tupObj items n1))
    (hQ : ∀ h' tk t', (∀ b o, sh.heap.get? b = some o → h'.get? b = some o) → Q (.str (S out) t') { sh with heap := h', toks := tk }) :
    wpAny (model prog w) A (call (.builtin "re.Pattern.sub") [.ref p, .str rp t2, .str x t]) Q E sh := by
  refine wpAny_call (codeAny_call_builtin F.slot_rep_sub.plain F.entry_rep_sub (F.slot_rep_sub.check _ _ _ _ _ _ _ _ ⟨_, hp, rfl⟩ (F.args_rep_sub _ _ _) ?_))
  show wpAny _ _ (reSubstitute "re.Pattern.sub" "sub" false ⟨[.ref p, .str rp t2, .str x t], []⟩) _ _ sh
  unfold reSubstitute
  dsimp only
  rw [named_ok]
  refine wpAny_bind (wpAny_pure ?_)
  dsimp only
  refine wpAny_bind (wpAny_pure ?_)
  refine wpAny_bind (wpAny_specialOf_val rfl F.nocall_str ?_)
  dsimp only [Option.isSome]
  rw [if_neg (by decide)]
  refine wpAny_bind (wpAny_pure ?_)
  dsimp only
  refine wpAny_bind (wpAny_pure ?_)
  rw [if_neg (by decide), if_pos (show (!rp.cps.contains 92) = true by rw [h92]; rfl)]
  refine wpAny_bind (wpAny_pure ?_)
  dsimp only
  refine wpAny_bind (wpAny_holding (target_ok hp hc ?_))
  rw [if_neg (by decide)]
  refine wpAny_bind (wpAny_newList ?_ (by decide))
  have hfr : ∀ o, sh.heap.get? sh.heap.objs.size ≠ some o := fun o z => absurd (Heap.lt_size z) (Nat.lt_irrefl _)
  have hk : ∀ b o, sh.heap.get? b = some o → (sh.heap.push (listObj [].toArray 0)).get? b = some o := fun b o z => Heap.get?_push_of_some _ z
  refine wpAny_pure ⟨plainId_quiet F.plain_rep_loop _, sub_loop (D := sh.heap.objs.size) hS H rfl hsz hrp (fun z => hfr _ (z ▸ hp)) (fun z => hfr _ (z ▸ hc)) hO (Nat.zero_le _) 0 [] 0 { sh with heap := sh.heap.push (listObj [].toArray 0) } (hk _ _ hp) (hk _ _ hc) (Heap.get?_push_size _ rfl) (Nat.zero_le _) ?_ fun h' tk t' hk' => ?_⟩
  · show 0 + out.length ≤ _
    exact ar332 hout
  · have := hQ h' tk t' fun b o z => hk' b o (fun q => hfr o (q ▸ z)) (hk b o z)
    exact this

end
section
set_option autoImplicit false
set_option maxRecDepth 100000

section
variable {hit : Nat → Prop} {e : Nat → Nat} {rep : List Nat} {text : Array Nat}
theorem ext_cons {s p : Nat} (h : s < p) (hs : s < text.size) : (text.extract s p).toList = text[s] :: (text.extract (s + 1) p).toList := by
  rw [Array.toList_extract, Array.toList_extract]
  unfold List.extract
  rw [List.drop_eq_getElem_cons (by simpa using hs)]
  rw [show p - s = (p - (s + 1)) + 1 by exact ar333 h, List.take_succ_cons]
  rfl
theorem Out.next {s : Nat} {r : List Nat} (hs : s < text.size) (h : ¬ hit s) (hlt : ∀ p, hit p → p < text.size) (o : Out hit e rep text (s + 1) r) : Out hit e rep text s (text[s] :: r) := by
  cases o with
  | fin hno =>
    rw [← ext_cons hs hs]
    refine .fin fun q hq => ?_
    rcases Nat.eq_or_lt_of_le hq with z | z
    · exact z ▸ h
    · exact hno q z
  | @hit _ p r h1 h2 h3 h4 =>
    have : text[s] :: ((text.extract (s + 1) p).toList ++ rep ++ r) = (text.extract s p).toList ++ rep ++ r := by
      rw [ext_cons (by exact ar167 h1) hs]; rfl
    rw [this]
    exact .hit (by exact ar10 h1) h2 (fun q q1 q2 => by
      rcases Nat.eq_or_lt_of_le q1 with z | z
      · exact z ▸ h
      · exact h3 q z q2) h4
theorem Out.at {s : Nat} {r : List Nat} (h : hit s) (o : Out hit e rep text (e s) r) : Out hit e rep text s (rep ++ r) := by
  have := Out.hit (e := e) (rep := rep) (text := text) (Nat.le_refl s) h (fun q h1 h2 => absurd h2 (by exact ar5 h1)) o
  rw [show (text.extract s s).toList = [] by simp] at this
  exact this
theorem Out.end {s : Nat} (hs : text.size ≤ s) (hlt : ∀ p, hit p → p < text.size) : Out hit e rep text s [] := by
  have := Out.fin (hit := hit) (e := e) (rep := rep) (text := text) (s := s) fun q hq h => absurd (hlt q h) (by exact ar334 hs hq)
  rw [show (text.extract s text.size).toList = [] by simp; exact ar335 hs] at this
  exact this
end

noncomputable def crlfy : List Nat → List Nat
  | [] => []
  | 13 :: 10 :: r => 13 :: 10 :: crlfy r
  | c :: r => if c = 13 ∨ c = 10 then 13 :: 10 :: crlfy r else c :: crlfy r
noncomputable def dotify : Bool → List Nat → List Nat
  | _, [] => []
  | b, c :: r => if b = true ∧ c = 46 then 46 :: 46 :: dotify false r else c :: dotify (c == 10) r

theorem dotify_out (text : Array Nat) : ∀ (l : List Nat) (s : Nat), text.toList.drop s = l → Out (hit1 text) (· + 1) [46, 46] text s (dotify (s == 0 || text.getD (s - 1) 0 == 10) l)
  | [], s, h => Out.end (by have := List.drop_eq_nil_iff.mp h; simpa using this) fun p h => h.1
  | c :: r, s, h => by
    have hs : s < text.size := by
      rcases Nat.lt_or_ge s text.size with z | z
      · exact z
      · rw [List.drop_eq_nil_of_le (by simpa using z)] at h; cases h
    have hd := List.drop_eq_getElem_cons (l := text.toList) (i := s) (by simpa using hs)
    rw [h] at hd
    have hc : c = text[s] := by have := (List.cons.inj hd).1; simpa using this
    have hr : text.toList.drop (s + 1) = r := ((List.cons.inj hd).2).symm
    have hg : text.getD s 0 = c := by rw [hc]; simp [Array.getD, hs]
    have ih := dotify_out text r (s + 1) hr
    have hb : (s + 1 == 0 || text.getD (s + 1 - 1) 0 == 10) = (c == 10) := by rw [Nat.add_sub_cancel, hg]; rfl
    rw [hb] at ih
    unfold dotify
    by_cases q : (s == 0 || text.getD (s - 1) 0 == 10) = true ∧ c = 46
    · rw [if_pos q]
      refine Out.at (e := (· + 1)) (rep := [46, 46]) (r := dotify false r) ⟨hs, q.1, hg.trans q.2⟩ ?_
      rw [q.2] at ih
      exact ih
    · rw [if_neg q]
      have := Out.next (hit := hit1 text) hs (fun z => q ⟨z.2.1, by rw [← hg]; exact z.2.2⟩) (fun p h => h.1) ih
      rw [← hc] at this
      exact this

theorem crlfy_out (text : Array Nat) : ∀ (n : Nat) (l : List Nat) (s : Nat), l.length ≤ n → text.toList.drop s = l → Out (hit2 text) (end2 text) [13, 10] text s (crlfy l)
  | _, [], s, _, h => Out.end (by have := List.drop_eq_nil_iff.mp h; simpa using this) fun p h => h.1
  | 0, c :: r, s, hn, h => by simp at hn
  | n + 1, c :: r, s, hn, h => by
    have hs : s < text.size := by
      rcases Nat.lt_or_ge s text.size with z | z
      · exact z
      · rw [List.drop_eq_nil_of_le (by simpa using z)] at h; cases h
    have hd := List.drop_eq_getElem_cons (l := text.toList) (i := s) (by simpa using hs)
    rw [h] at hd
    have hc : c = text[s] := by have := (List.cons.inj hd).1; simpa using this
    have hr : text.toList.drop (s + 1) = r := ((List.cons.inj hd).2).symm
    have hg : text.getD s 0 = c := by rw [hc]; simp [Array.getD, hs]
    have hg1 : ∀ c' r', r = c' :: r' → s + 1 < text.size ∧ text.getD (s + 1) 0 = c' ∧ text.toList.drop (s + 2) = r' := fun c' r' e => by
      have hs1 : s + 1 < text.size := by
        rcases Nat.lt_or_ge (s + 1) text.size with z | z
        · exact z
        · rw [List.drop_eq_nil_of_le (by simpa using z)] at hr; rw [← hr] at e; cases e
      have hd1 := List.drop_eq_getElem_cons (l := text.toList) (i := s + 1) (by simpa using hs1)
      rw [hr, e] at hd1
      have : c' = text[s + 1] := by have := (List.cons.inj hd1).1; simpa using this
      exact ⟨hs1, by rw [this]; simp [Array.getD, hs1], ((List.cons.inj hd1).2).symm⟩
    by_cases h13 : c = 13 ∧ ∃ r', r = 10 :: r'
    · obtain ⟨e13, r', e10⟩ := h13
      obtain ⟨z1, z2, z3⟩ := hg1 10 r' e10
      subst e10; subst e13
      rw [crlfy]
      have ee : end2 text s = s + 2 := by unfold end2; rw [if_pos ⟨hg, z1, z2⟩]
      refine Out.at (e := end2 text) (rep := [13, 10]) (r := crlfy r') ⟨hs, .inr hg⟩ ?_
      rw [ee]
      exact crlfy_out text n r' (s + 2) (by simp at hn; exact ar10 hn) z3
    · have hcr : crlfy (c :: r) = if c = 13 ∨ c = 10 then 13 :: 10 :: crlfy r else c :: crlfy r := by
        rw [crlfy]
        intro r' e1 e2
        exact h13 ⟨e1, r', e2⟩
      have ih := crlfy_out text n r (s + 1) (by simp at hn; lia) hr
      rw [hcr]
      by_cases q : c = 13 ∨ c = 10
      · rw [if_pos q]
        have ee : end2 text s = s + 1 := by
          unfold end2
          rw [if_neg]
          rintro ⟨y1, y2, y3⟩
          refine h13 ⟨by rw [← hg]; exact y1, ?_⟩
          have hd1 := List.drop_eq_getElem_cons (l := text.toList) (i := s + 1) (by simpa using y2)
          rw [hr] at hd1
          have e0 : text.toList[s + 1] = 10 := by
            rw [← y3]; simp [Array.getD, y2]
          exact ⟨_, by rw [e0] at hd1; exact hd1⟩
        refine Out.at (e := end2 text) (rep := [13, 10]) (r := crlfy r) ⟨hs, by rw [hg]; exact q.symm⟩ ?_
        rw [ee]; exact ih
      · rw [if_neg q]
        have := Out.next (hit := hit2 text) hs (fun z => q (by rw [← hg]; exact z.2.symm)) (fun p h => h.1) ih
        rw [← hc] at this
        exact this

theorem hitOk1 : HitOk hit1 (fun _ p => p + 1) := ⟨fun _ _ h => h.1, fun _ _ _ => Nat.lt_succ_self _, fun _ _ h => h.1⟩
theorem hitOk2 : HitOk hit2 end2 := ⟨fun _ _ h => h.1, fun t p h => by unfold end2; split <;> (first | exact ar336 | exact ar337), fun t p h => by
  unfold end2
  split
  · rename_i q; exact q.2.1
  · exact h.1⟩
theorem srch1 : Srch c1 hit1 (fun _ p => p + 1) := fun text s h hs => (search1 text s hs).le (by exact ar338 h)
theorem srch2 : Srch c2 hit2 end2 := fun text s h hs => (search2 text s hs).le (by exact ar339)

theorem crlfy_len : ∀ (n : Nat) (l : List Nat), l.length ≤ n → (crlfy l).length ≤ 2 * l.length
  | _, [], _ => by simp [crlfy]
  | 0, c :: r, h => by simp at h
  | n + 1, c :: r, h => by
    have ih := crlfy_len n r (by simp at h; lia)
    unfold crlfy
    split
    · rename_i r' e
      cases e
    · rename_i r' e
      cases e
      have := crlfy_len n r' (by simp at h; exact ar10 h)
      simp; exact ar340 this
    · rename_i c' r' hh e
      cases e
      split <;> simp <;> (first | exact ar341 ih | exact ar342 ih)
theorem dotify_len : ∀ (b : Bool) (l : List Nat), (dotify b l).length ≤ 2 * l.length
  | _, [] => by simp [dotify]
  | b, c :: r => by
    unfold dotify
    have h1 := dotify_len false r
    have h2 := dotify_len (c == 10) r
    split <;> simp <;> (first | exact ar341 h1 | exact ar342 h2)

end
section
set_option autoImplicit false
set_option maxRecDepth 100000

/-- a pattern of the text's own -/
structure Pat (G : Glb) (p : Addr) (rep : List Nat) (f : List Nat → List Nat) : Prop where
  obj : ∃ o, G.base p = some o ∧ o.cls = .type "re.Pattern" ∧ o.dict = none
  run : ∀ {A : Around} {sh : Shared} {E Q : Value → Shared → Prop} {x : Str} {t t2 : Tok}, G.In sh.heap → x.cps.size ≤ 2 ^ 20 →
    (∀ h' tk t', (∀ b o, sh.heap.get? b = some o → h'.get? b = some o) → Q (.str (S (f (L x))) t') { sh with heap := h', toks := tk }) →
    wpAny (model G.prog G.w) A (call (.builtin "re.Pattern.sub") [.ref p, .str (S rep) t2, .str x t]) Q E sh

theorem Pat.dots {G : Glb} {p ct : Addr} {src fl : Value} {items : Array Value} {n : Nat} (h1 : G.base p = some (patObj src fl ct)) (h2 : G.base ct = some (tupObj items n)) (hc : codeOf items = c1) : Pat G p [46, 46] (dotify true) where
  obj := ⟨_, h1, rfl, rfl⟩
  run := fun {A sh E Q x t t2} hin hsz hQ => by
    have hl := dotify_len true (L x)
    have hx : (L x).length = x.cps.size := by simp [L]
    refine sub_call (hc ▸ srch1) hitOk1 hsz (by rw [L_S]; decide) (by decide +kernel) (out := dotify true (L x)) ?_ (by exact ar346 hl hx hsz) (hin _ _ h1) (hin _ _ h2) hQ
    have := dotify_out x.cps (L x) 0 rfl
    rw [L_S]; exact this
theorem Pat.ends {G : Glb} {p ct : Addr} {src fl : Value} {items : Array Value} {n : Nat} (h1 : G.base p = some (patObj src fl ct)) (h2 : G.base ct = some (tupObj items n)) (hc : codeOf items = c2) : Pat G p [13, 10] crlfy where
  obj := ⟨_, h1, rfl, rfl⟩
  run := fun {A sh E Q x t t2} hin hsz hQ => by
    have hl := crlfy_len _ (L x) (Nat.le_refl _)
    have hx : (L x).length = x.cps.size := by simp [L]
    refine sub_call (hc ▸ srch2) hitOk2 hsz (by rw [L_S]; decide) (by decide +kernel) (out := crlfy (L x)) ?_ (by exact ar346 hl hx hsz) (hin _ _ h1) (hin _ _ h2) hQ
    have := crlfy_out x.cps _ (L x) 0 (Nat.le_refl _) rfl
    rw [L_S]; exact this

noncomputable def wSub (rep : List Nat) (f : List Nat → List Nat) (Ws : WL) : WE := fun Q ρ σ => Ws (fun vs σ' => ∃ x, vs = [.str (S rep), .str x] ∧ (L x).length ≤ 2 ^ 20 ∧ Q (.str (S (f (L x)))) σ') ρ σ
section
variable {G : Glb} {ℓ : Nat} {sc : Scope}
theorem r_sub (O : G.Ok) {x : Str} {np apos pos : Pos} {e : Expr} {rest : List Expr} {p : Addr} {rep : List Nat} {f : List Nat → List Nat} {Ws : WL} (P : Pat G p rep f) (hm : G.mg x = some (.ref p))
    (hk : sc.names.lookup x = some .globalImplicit) (hd : (x == ("__debug__" : Str)) = false) (ha : Evs G ℓ sc (e :: rest) Ws)
    (h0 : ∀ env, attributeBase (.Name x np) (Str.ofString "sub") env (eval (.Name x np) env) = eval (.Name x np) env)
    (h1 : ∀ env, starEach (e :: rest) env = (false, eval e env) :: starEach rest env) (h2 : ∀ env, (backTo pos (starEach rest env)).any (·.1) = false)
    (h3 : ∀ env, (((backTo pos (starEach (e :: rest) env)).all fun x => !x.1) && (backToKw pos (keywordEach [] env)).all fun x => x.1.isSome) = true)
    (h4 : decide ((e :: rest).length + ([] : List Keyword).length + (if ([] : List Keyword).isEmpty = true then 0 else 1) < 30) = true)
    (h5 : (apos.endLine == pos.line) = true) :
    Ev G ℓ sc (.Call (.Attribute (.Name x np) (Str.ofString "sub") apos) (e :: rest) [] pos) (wSub rep f Ws) := by
  intro A env own s g φ σ ρ Q cx eo R hW K E k
  obtain ⟨o, ho, hcls, hdn⟩ := P.obj
  refine wpAny_Call_method (h0 env) (by rw [h3 env, h4]; rfl) h5 F.plainAttrs_rep F.slot_rep_sub F.type_rep_sub ?_
  refine Ev.glob (ℓ := ℓ) O hk hm (v := .raw (.ref p)) (fun _ _ => rfl) hd A env own s g φ σ ρ (fun v σ' => v = .raw (.ref p) ∧ Ws (fun vs σ' => ∃ x, vs = [.str (S rep), .str x] ∧ (L x).length ≤ 2 ^ 20 ∧ Q (.str (S (f (L x)))) σ') ρ σ') cx eo R ⟨rfl, hW⟩ _ _ fun w s₁ g₁ φ₁ σ₁ ov N₁ R₁ hv hQ => ?_
  obtain ⟨rfl, hQ⟩ := hQ
  have hv' : w = .ref p := hv
  subst hv'
  have hp := R₁.sr.inb _ _ ho
  refine ⟨⟨_, hp, hcls⟩, fun b e => (by cases e; exact ⟨_, hp, hdn⟩), callWith_method1 ?_ (h1 env) (h2 env)⟩
  refine ha A env own s₁ g₁ φ₁ σ₁ ρ _ cx eo R₁ hQ _ _ _ fun ws s₂ g₂ φ₂ σ₂ vs N₂ R₂ hvs hQ₂ => ?_
  obtain ⟨y, rfl, hsz, hQ₂⟩ := hQ₂
  obtain ⟨w1, w2, rfl, ⟨t1, rfl⟩, ⟨t2, rfl⟩⟩ := hvs.two
  refine of_toks R₂.ok.toks (P.run R₂.sr.inb (by simpa [L] using hsz) fun h' tk t' hk htk => ?_)
  have c : Cont G s₂ g₂ φ₂ Q K := fun w s' g' φ' σ' v N' ok' S' hv hQ => k _ _ _ _ _ v ((N₁.trans N₂).trans N') (R₂.step N' ok' S') hv hQ
  exact c.up R₂.ok R₂.sr hk (v := .str _) ⟨_, rfl⟩ hQ₂ htk
end

end
set_option autoImplicit false
set_option maxRecDepth 100000
local macro_rules | `(tactic| walk_at "cs") => mkWays "cs_l D|cs_r D D"
local macro_rules | `(tactic| walk_at "fn") => `(tactic| fail "no function of the text's own")
local macro_rules | `(tactic| walk_at "rp") => `(tactic| ((with_reducible apply r_repl (c := 46) (z := [34])); (focus decide +kernel); (focus decide +kernel); (focus decide); (focus decide); (focus walk_at "ev"); (focus exact fun _ => rfl); (focus exact rfl)))
local macro_rules | `(tactic| walk_at "ev") => mkWays ("!r_int|!r_str|!r_bool|!r_none|!r_neg|r_local D D|r_cell D D|r_free D D D|r_bin ev ev|r_cmp ev ev R|r_slice ev eo eo R2|r_item ev ev T|r_list el|r_tuple el" ++
  "|@c_len D el R1 R1|@c_range D el R1 R1|@c_min D el R1 R1|@c_abs D el R1 R1|@c_sum D el R1 R1|@c_str D el R1 R1|@c_list D el R1 R1" ++
  "|m_join ev el R1 R1 R1 R1 R R|m_split ev el R1 R1 R1 R1 R R|m_count ev el R1 R1 R1 R1 R R|m_index ev el R1 R1 R1 R1 R R|m_append ev el R1 R1 R1 R1 R R|m_remove ev el R1 R1 R1 R1 R R|m_extend ev el R1 R1 R1 R1 R R" ++
  "|#rp|r_comp ev ea ei ev R no no R2|#fn")
local macro_rules | `(tactic| walk_at "no") => `(tactic| first | decide +kernel | (unfold NamesOk; decide +kernel))
local macro_rules | `(tactic| walk_at "ei") => mkWays "!i_none|Ifs.one et"
local macro_rules | `(tactic| walk_at "ea") => mkWays "a_name cs|a_pair ea ea R1"
local macro_rules | `(tactic| walk_at "el") => mkWays "!l_nil|l_cons ev el R1"
local macro_rules | `(tactic| walk_at "eo") => mkWays "!o_none|o_some ev"
local macro_rules | `(tactic| walk_at "et") => mkWays "t_cmp ev ev R|t_cmp2 ev ev ev R|t_not et|t_or et et|t_val ev R2"
local macro_rules | `(tactic| walk_at "es") => mkWays "!s_nil|s_cons e1 es"
local macro_rules | `(tactic| walk_at "dd") => `(tactic| ((with_reducible show Sx _ _ _ _ (Stmt.Raise _ _ _) _); exact s_dead))
local macro_rules | `(tactic| walk_at "e1") => mkWays "s_assignComp ev ea ei ev cs R no no R2|s_assign ev cs R1|s_set ev ev ev R1|s_expr ev R R1|s_ite et es es|s_ret ev|!s_brk|s_while et es|s_for ev ea es R2|s_assignT ev ea R1 R1 R1|#dd"
-- the steps
local macro_rules | `(tactic| walk_at "rho") => mkWays "upd_same|#A|upd_other D rho|inner_free D rho"
local macro_rules | `(tactic| walk_at "ex") => `(tactic| (apply Exists.intro; walk_at "rho"))
local macro_rules | `(tactic| walk_at "fb") => mkWays "~fb_nil|~fb_skip D0 fb|~fb_take ex fb"
local macro_rules | `(tactic| walk_at "co") => `(tactic| ((with_reducible refine p_comp ?_ ?_); (focus (unfold FreeBound; dsimp only; walk_at "fb"))))
local macro_rules | `(tactic| walk_at "sg") => `(tactic| first | assumption | decide | lia | (simp only [L_S, List.length_append, List.length_nil, List.length_cons]; lia))
local macro_rules | `(tactic| walk_at "sn") => `(tactic| fail "no step of the text's own")
local macro_rules | `(tactic| walk_at "st") => mkWays ("p_name rho|p_oint sg|p_sstr sg|p_rstr sg|p_len sg|p_adds sg|?p_tt|?p_ff|?p_set|?p_seq|?p_knx|?p_krt|?p_kbr|?p_snil|?p_whbr|?p_whrt|?p_isstr|?p_bool|?p_asg|?p_asgT|?p_expr|?p_ite|?p_ret|?p_brk|?p_retK|?p_retN" ++
  "|?p_forK|?p_forE|?p_val|?p_bin|?p_cmp|?p_tcmp|?p_tcmp2|?p_tnot|?p_tor|?p_tval|?p_tyes|?p_item|?p_onone|?p_osome|?p_slice|?p_lnil|?p_lcons|?p_list|?p_tup|?p_call|?p_methS|?p_methL|?p_repl|?p_aname|?p_apair" ++
  "|?p_addi|?p_subi|?p_eqi|?p_nei|?p_lti|?p_lei|?p_gti|?p_gei|?p_eqs|?p_nes|?p_lts|?p_les|?p_ins|?p_eqb|?p_neb|#co|#sn")

section
set_option autoImplicit false
set_option maxRecDepth 100000

theorem isDef {G : Glb} {P : Params} (T : TopG G P) (a : Addr) (o : Obj) (h : (hd1.heap_39 P).lookup a = some o) (hd : o.data = .func (fd a)) (hb : (fd a).body = .stmts (bd a)) (hc : (fd a).closure = []) (hg : (fd a).globals = mainGlobals) (hbi : (fd a).builtins = builtinsNs)
    (hcode : ∃ c oc vs tq, (fd a).code = .ref c ∧ (hd1.heap_39 P).lookup c = some oc ∧ oc.data = .fields vs ∧ vs[1]? = some (.str (fd a).qualname tq)) (hco : (fd a).scope.isCoroutine = false) (hgen : (fd a).scope.isGenerator = false) (hk : (fd a).scope.kind = .function) :
    IsDef G a (fd a) (bd a) [] where
  obj := ⟨o, T.K _ _ h, hd⟩
  body := hb
  closure := hc
  globals := hg
  builtins := hbi
  code := fun hh hin => by
    obtain ⟨c, oc, vs, tq, h1, h2, h3, h4⟩ := hcode
    exact ⟨c, oc, vs, tq, h1, hin _ _ (T.K _ _ h2), h3, h4⟩
  co := hco
  gen := hgen
  kind := hk

theorem def70 {G : Glb} {P : Params} (T : TopG G P) : IsDef G 70 (fd 70) (bd 70) [] := isDef T 70 _ rfl rfl rfl rfl rfl rfl ⟨_, _, _, _, rfl, rfl, rfl, rfl⟩ rfl rfl rfl

set_option maxHeartbeats 1000000 in
theorem fn70 {G : Glb} {P : Params} (T : TopG G P) {ℓ : Nat} : FnOk G (ℓ + 1) (.ref 70) wParse := by
  apply FnOk.mono
  apply FnOk.def T.O (def70 T) (ps := ["resp"])
  focus (intro x hx; rw [List.mem_singleton.mp hx]; walk_at "cs")
  focus (intro ws h; obtain ⟨w, rfl⟩ := List.length_eq_one_iff.mp h; rfl)
  focus (apply s_cons; (focus walk_at "e1"); (focus walk_at "es"))
  rintro vs Q σ ⟨x, rfl, h3, hsz, hQ⟩
  refine ⟨_, rfl, ?_⟩
  have e257 : L (Str.ofString "257") = [50, 53, 55] := by decide +kernel
  have esp : L (Str.ofString " \"") = [32, 34] := by decide +kernel
  have eq1 : L (Str.ofString "\"") = [34] := by decide +kernel
  repeat' walk_at "st"
  refine p_iff (decide_eq_false (by rw [L_S, e257]; simpa [cut] using h3)) ?_
  repeat' walk_at "st"
  have hc : L (S (cut (L x) (some 3) (some 5))) = ((L x).drop 3).take 2 := by rw [L_S]; unfold cut; simp [List.drop_take]
  rw [hc, esp]
  by_cases h5 : ((L x).drop 3).take 2 = [32, 34]
  · rw [if_pos h5] at hQ
    refine p_iff (decide_eq_false (by simpa using h5)) ?_
    repeat' walk_at "st"
    have hl5 : 5 ≤ (L x).length := by
      have := congrArg List.length h5
      rw [List.length_take, List.length_drop] at this
      have h2 : [32, 34].length = 2 := rfl
      lia
    refine p_while (fun m ρ σ' => σ' = σ ∧ ∃ (j : Nat) (acc : List Nat), ρ (Str.ofString "resp") = some (.str x) ∧ ρ (Str.ofString "n") = some (.int (L x).length) ∧ ρ (Str.ofString "i") = some (.int j) ∧ ρ (Str.ofString "dirname") = some (.str (S acc)) ∧
      j ≤ (L x).length ∧ acc.length ≤ j ∧ acc ++ parseB ((L x).drop j) = parseB ((L x).drop 5) ∧ m = (L x).length - j) ((L x).length - 5) ⟨rfl, 5, [], ?_, ?_, ?_, ?_, hl5, by simp, rfl, rfl⟩ ?_
    · walk_at "rho"
    · walk_at "rho"
    · show _ = some (V.int 5)
      walk_at "rho"
    · rw [show S [] = Str.ofString "" by decide +kernel]; walk_at "rho"
    rintro m ρ σ' ⟨rfl, j, acc, e1, e2, e3, e4, hj, ha, hp, rfl⟩
    repeat' walk_at "st"
    by_cases hlt : j < (L x).length
    · refine p_ift (decide_eq_true (by lia)) ?_
      repeat' walk_at "st"
      have hc := List.getElem?_eq_getElem hlt
      have hitem : aItem σ' (.str x) (.int (j : Nat)) = some (.str (S [(L x)[j]])) := by
        dsimp only [aItem]
        rw [if_pos ⟨by lia, by lia⟩, Int.toNat_natCast, hc]; rfl
      refine ⟨_, hitem, ?_⟩
      repeat' walk_at "st"
      rw [L_S, eq1]
      have hdrop : (L x).drop j = (L x)[j] :: (L x).drop (j + 1) := List.drop_eq_getElem_cons hlt
      by_cases hq : (L x)[j] = 34
      · refine p_ift (decide_eq_true (by rw [hq])) ?_
        repeat' walk_at "st"
        by_cases hend : (L x).length ≤ j + 1
        · refine p_ift (decide_eq_true (by lia)) (p_ift rfl ?_)
          repeat' walk_at "st"
          have : parseB ((L x).drop j) = [] := by rw [hdrop, hq]; exact parseB_e _ (by rw [List.drop_eq_nil_of_le hend]; simp)
          rw [this, List.append_nil] at hp
          rw [← hp] at hQ; exact hQ
        · refine p_iff (decide_eq_false (by lia)) ?_
          repeat' walk_at "st"
          have hlt1 : j + 1 < (L x).length := by lia
          have hc1 := List.getElem?_eq_getElem hlt1
          have hitem1 : aItem σ' (.str x) (.int ((j : Int) + 1)) = some (.str (S [(L x)[j + 1]])) := by
            dsimp only [aItem]
            rw [if_pos ⟨by lia, by lia⟩, show ((j : Int) + 1).toNat = j + 1 by lia, hc1]; rfl
          refine ⟨_, hitem1, ?_⟩
          repeat' walk_at "st"
          rw [L_S, eq1]
          have hdrop1 : (L x).drop (j + 1) = (L x)[j + 1] :: (L x).drop (j + 1 + 1) := List.drop_eq_getElem_cons hlt1
          by_cases hq1 : (L x)[j + 1] = 34
          · refine p_iff (decide_eq_false (by rw [hq1]; simp)) ?_
            repeat' walk_at "st"
            have hl1 : (L (S [(L x)[j]])).length = 1 := by rw [L_S]; rfl
            refine p_whnx ((L x).length - (j + 2)) (by lia) ⟨rfl, j + 2, acc ++ [34], ?_, ?_, ?_, ?_, by lia, by simp; lia, ?_, rfl⟩
            · walk_at "rho"
            · walk_at "rho"
            · rw [show ((j + 2 : Nat) : Int) = (j : Int) + 1 + 1 by lia]; walk_at "rho"
            · rw [show S (acc ++ [34]) = S (L (S acc) ++ L (S [(L x)[j]])) by rw [L_S, L_S, hq]]; walk_at "rho"
            · rw [← hp, hdrop, hdrop1, hq, hq1, parseB_q]; simp
          · refine p_ift (decide_eq_true (by simpa using hq1)) ?_
            repeat' walk_at "st"
            have : parseB ((L x).drop j) = [] := by rw [hdrop, hq]; exact parseB_e _ (by rw [hdrop1]; simpa using hq1)
            rw [this, List.append_nil] at hp
            rw [← hp] at hQ; exact hQ
      · refine p_iff (decide_eq_false (by simpa using hq)) ?_
        repeat' walk_at "st"
        refine p_whnx ((L x).length - (j + 1)) (by lia) ⟨rfl, j + 1, acc ++ [(L x)[j]], ?_, ?_, ?_, ?_, hlt, by simp; lia, ?_, rfl⟩
        · walk_at "rho"
        · walk_at "rho"
        · rw [show ((j + 1 : Nat) : Int) = (j : Int) + 1 by lia]; walk_at "rho"
        · rw [show S (acc ++ [(L x)[j]]) = S (L (S acc) ++ L (S [(L x)[j]])) from congrArg S (by rw [L_S acc, L_S [_]])]; walk_at "rho"
        · rw [← hp, hdrop, parseB_c _ _ hq]; simp
    · refine p_iff (decide_eq_false (by lia)) ?_
      repeat' walk_at "st"
      have : (L x).drop j = [] := List.drop_eq_nil_of_le (by lia)
      rw [this] at hp
      have hp' : acc = parseB ((L x).drop 5) := by rw [← hp]; show acc = acc ++ []; simp
      rw [← hp'] at hQ; exact hQ
  · rw [if_neg h5] at hQ
    refine p_ift (decide_eq_true h5) ?_
    repeat' walk_at "st"
    exact hQ

end
section
set_option autoImplicit false
set_option maxRecDepth 100000

section
variable {G : Glb} {P : Params} {ℓ : Nat} {sc : Scope} {np pos apos : Pos} {e o : Expr} {rest : List Expr} {Ws : WL} {Wo : WE}
theorem pat159 (T : TopG G P) : Pat G 159 [46, 46] (dotify true) := Pat.dots (T.K 159 _ rfl) (T.K 158 _ rfl) (by decide +kernel)
theorem pat164 (T : TopG G P) : Pat G 164 [13, 10] crlfy := Pat.ends (T.K 164 _ rfl) (T.K 163 _ rfl) (by decide +kernel)
theorem c_sub1 (T : TopG G P) (hk : sc.names.lookup (Str.ofString "_twin_re_1") = some .globalImplicit) (ha : Evs G ℓ sc (e :: rest) Ws)
    (h0 : ∀ env, attributeBase (.Name (Str.ofString "_twin_re_1") np) (Str.ofString "sub") env (eval (.Name (Str.ofString "_twin_re_1") np) env) = eval (.Name (Str.ofString "_twin_re_1") np) env)
    (h1 : ∀ env, starEach (e :: rest) env = (false, eval e env) :: starEach rest env) (h2 : ∀ env, (backTo pos (starEach rest env)).any (·.1) = false)
    (h3 : ∀ env, (((backTo pos (starEach (e :: rest) env)).all fun x => !x.1) && (backToKw pos (keywordEach [] env)).all fun x => x.1.isSome) = true)
    (h4 : decide ((e :: rest).length + ([] : List Keyword).length + (if ([] : List Keyword).isEmpty = true then 0 else 1) < 30) = true)
    (h5 : (apos.endLine == pos.line) = true) :
    Ev G ℓ sc (.Call (.Attribute (.Name (Str.ofString "_twin_re_1") np) (Str.ofString "sub") apos) (e :: rest) [] pos) (wSub [46, 46] (dotify true) Ws) :=
  r_sub T.O (pat159 T) (by rw [T.mg]; rfl) hk (by decide +kernel) ha h0 h1 h2 h3 h4 h5
theorem c_sub2 (T : TopG G P) (hk : sc.names.lookup (Str.ofString "_twin_re_2") = some .globalImplicit) (ha : Evs G ℓ sc (e :: rest) Ws)
    (h0 : ∀ env, attributeBase (.Name (Str.ofString "_twin_re_2") np) (Str.ofString "sub") env (eval (.Name (Str.ofString "_twin_re_2") np) env) = eval (.Name (Str.ofString "_twin_re_2") np) env)
    (h1 : ∀ env, starEach (e :: rest) env = (false, eval e env) :: starEach rest env) (h2 : ∀ env, (backTo pos (starEach rest env)).any (·.1) = false)
    (h3 : ∀ env, (((backTo pos (starEach (e :: rest) env)).all fun x => !x.1) && (backToKw pos (keywordEach [] env)).all fun x => x.1.isSome) = true)
    (h4 : decide ((e :: rest).length + ([] : List Keyword).length + (if ([] : List Keyword).isEmpty = true then 0 else 1) < 30) = true)
    (h5 : (apos.endLine == pos.line) = true) :
    Ev G ℓ sc (.Call (.Attribute (.Name (Str.ofString "_twin_re_2") np) (Str.ofString "sub") apos) (e :: rest) [] pos) (wSub [13, 10] crlfy Ws) :=
  r_sub T.O (pat164 T) (by rw [T.mg]; rfl) hk (by decide +kernel) ha h0 h1 h2 h3 h4 h5
theorem c_crlf (T : TopG G P) (hk : sc.names.lookup (Str.ofString "CRLF") = some .globalImplicit) : Ev G ℓ sc (.Name (Str.ofString "CRLF") np) (wVal (.str (S [13, 10]))) := by
  have e : S [13, 10] = Str.ofString "\r\n" := by decide +kernel
  rw [e]
  exact r_glob T.O hk (by rw [T.mg]; rfl) (fun _ _ => ⟨_, rfl⟩) (by decide +kernel)
end
local macro_rules | `(tactic| walk_at "fn") => mkWays "@c_crlf D|@c_sub1 D el R1 R1 R1 R1 R R|@c_sub2 D el R1 R1 R1 R1 R R"

theorem p_sub {rep : List Nat} {f : List Nat → List Nat} {Ws : WL} {Q : V → Sto → Prop} {ρ : Rho} {σ : Sto} (h : Ws (fun vs σ' => ∃ x, vs = [.str (S rep), .str x] ∧ (L x).length ≤ 2 ^ 20 ∧ Q (.str (S (f (L x)))) σ') ρ σ) : wSub rep f Ws Q ρ σ := h
theorem p_subk {rp x : Str} {rep : List Nat} {X : Str → Prop} (h1 : rp = S rep) (h2 : (L x).length ≤ 2 ^ 20) (h : X x) : ∃ y, [V.str rp, V.str x] = [.str (S rep), .str y] ∧ (L y).length ≤ 2 ^ 20 ∧ X y := ⟨x, by rw [h1], h2, h⟩
local macro_rules | `(tactic| walk_at "sn") => mkWays "?p_sub|p_subk D sg"

noncomputable def wQuote : WF := fun vs Q σ => ∃ x, vs = [.str x] ∧ (L x).length ≤ 2 ^ 19 ∧ Q (.str (S (dotify true (crlfy (L x))))) σ
theorem def171 {G : Glb} {P : Params} (T : TopG G P) : IsDef G 171 (fd 171) (bd 171) [] := isDef T 171 _ rfl rfl rfl rfl rfl rfl ⟨_, _, _, _, rfl, rfl, rfl, rfl⟩ rfl rfl rfl

set_option maxHeartbeats 1000000 in
theorem fn171 {G : Glb} {P : Params} (T : TopG G P) {ℓ : Nat} : FnOk G (ℓ + 1) (.ref 171) wQuote := by
  apply FnOk.mono
  apply FnOk.def T.O (def171 T) (ps := ["data"])
  focus (intro x hx; rw [List.mem_singleton.mp hx]; walk_at "cs")
  focus (intro ws h; obtain ⟨w, rfl⟩ := List.length_eq_one_iff.mp h; rfl)
  focus (apply s_cons; (focus walk_at "e1"); (focus walk_at "es"))
  rintro vs Q σ ⟨x, rfl, hsz, hQ⟩
  refine ⟨_, rfl, ?_⟩
  have hl := crlfy_len _ (L x) (Nat.le_refl _)
  repeat' walk_at "st"
  exact hQ

end
section
set_option autoImplicit false
set_option maxRecDepth 100000


noncomputable def numAt (sc : List Int) (k : Nat) : Int := ([11, 10, 11, 3, 2, 1] : List Int).getD k 0 + sc.getD k 0
noncomputable def Mj (sc : List Int) (i j : Nat) : Int := numAt sc (min i j) / 2 ^ ((i : Int) - (j : Int)).natAbs % 2
noncomputable def vRow (f : Nat → Int) : V := .list ((List.range 6).map fun j => V.int (f j))
noncomputable def vMat (f : Nat → Nat → Int) : V := .list ((List.range 6).map fun i => vRow (f i))
noncomputable def bitRow (sc : List Int) (k : Nat) : V := vRow fun far => numAt sc k / 2 ^ far % 2
noncomputable def wJoined : WF := fun vs Q σ => ∃ (v : V) (sc : List Int), vs = [v] ∧ aList σ v = some (sc.map V.int) ∧ sc.length < 2 ^ 60 ∧ ∀ τ, Q (vMat (Mj sc)) (σ ++ τ)
theorem aList_app {σ : Sto} {v : V} {xs : List V} (τ : Sto) (h : aList σ v = some xs) : aList (σ ++ τ) v = some xs := by
  cases v with
  | list ys => exact h
  | ref k =>
    dsimp only [aList] at h ⊢
    cases e : σ[k]? with
    | none => rw [e] at h; cases h
    | some m => rw [List.getElem?_append_left (List.getElem?_eq_some_iff.mp e).1, e]; rw [e] at h; exact h
  | _ => cases h

theorem flat_single {α β : Type} (f : α → β) (l : List α) : (l.map fun a => [f a]).flatten = l.map f := by
  induction l with
  | nil => rfl
  | cons a l ih => rw [List.map_cons, List.flatten_cons, ih]; rfl
noncomputable def six : List V := (List.range 6).map fun i => V.int (i : Nat)
theorem six_get {i : Nat} {v : V} (h : six[i]? = some v) : i < 6 ∧ v = .int (i : Nat) := by
  unfold six at h
  rw [List.getElem?_map, Option.map_eq_some_iff] at h
  obtain ⟨j, h1, rfl⟩ := h
  obtain ⟨h2, h3⟩ := List.getElem?_eq_some_iff.mp h1
  rw [List.getElem_range] at h3
  rw [List.length_range] at h2
  exact ⟨h2, by rw [h3]⟩
section
variable {Q : V → Sto → Prop} {σ : Sto}
theorem p_range6 (h : Q (.rng 6) σ) : wRange [.int 6] Q σ := ⟨6, rfl, h⟩
theorem p_items6 {X : List V → Prop} (h : X six) : ∃ xs, aItems σ (.rng 6) = some xs ∧ X xs := ⟨six, rfl, h⟩
theorem p_items6l {X : List V → Prop} (h : X six) : ∃ xs, aItems σ (.rng 6) = some xs ∧ xs.length ≤ 2 ^ 20 ∧ X xs := ⟨six, rfl, by decide, h⟩
theorem item_at {σ : Sto} {xs : List V} {v : V} (h : aList σ v = some xs) {i : Nat} (hi : i < 2 ^ 60) : aItem σ v (.int (i : Nat)) = xs[i]? := by
  have e : (0 : Int) ≤ (i : Nat) ∧ ((i : Nat) : Int) < 2 ^ 60 := ⟨by lia, by lia⟩
  cases v with
  | list ys => dsimp only [aItem]; rw [h]; dsimp only; rw [if_pos e.1, if_pos e.2, Int.toNat_natCast]
  | ref k => dsimp only [aItem]; rw [h]; dsimp only; rw [if_pos e.1, if_pos e.2, Int.toNat_natCast]
  | _ => cases h
theorem pow6 : ∀ f : Nat, f < 6 → (1 : Int) ≤ 2 ^ f ∧ (2 : Int) ^ f ≤ 2 ^ 20 := by decide
theorem set_end {σ : Sto} {m m' : MO} : (σ ++ [m]).set σ.length m' = σ ++ [m'] := by rw [List.set_append_right _ _ (Nat.le_refl _), Nat.sub_self]; rfl
theorem aList_end {σ : Sto} {xs : List V} : aList (σ ++ [.list xs]) (.ref σ.length) = some xs := by dsimp only [aList]; rw [List.getElem?_append_right (Nat.le_refl _), Nat.sub_self]; rfl
theorem row_at {σ : Sto} {f : Nat → Int} {k : Nat} (h : k < 6) : aItem σ (vRow f) (.int (k : Nat)) = some (.int (f k)) := by
  rw [item_at (xs := (List.range 6).map fun j => V.int (f j)) rfl (by lia), List.getElem?_map, List.getElem?_range h]; rfl
theorem mat_at {σ : Sto} {f : Nat → Nat → Int} {k : Nat} (h : k < 6) : aItem σ (vMat f) (.int (k : Nat)) = some (vRow (f k)) := by
  rw [item_at (xs := (List.range 6).map fun j => vRow (f j)) rfl (by lia), List.getElem?_map, List.getElem?_range h]; rfl
theorem base_at {σ : Sto} {k : Nat} (h : k < 6) : aItem σ (.list [V.int 11, V.int 10, V.int 11, V.int 3, V.int 2, V.int 1]) (.int (k : Nat)) = some (.int (([11, 10, 11, 3, 2, 1] : List Int).getD k 0)) := by
  rw [item_at (xs := [V.int 11, V.int 10, V.int 11, V.int 3, V.int 2, V.int 1]) rfl (by lia)]
  rcases lt6c h with rfl | rfl | rfl | rfl | rfl | rfl
  all_goals rfl
theorem aLen_list {σ : Sto} {v : V} {xs : List V} (h : aList σ v = some xs) : aLen σ v = some xs.length := by
  cases v with
  | list ys => cases h; rfl
  | ref k =>
    dsimp only [aList, aLen] at h ⊢
    split at h <;> simp_all
  | _ => cases h
end
local macro_rules | `(tactic| walk_at "sn") => mkWays "?p_range6|?p_items6l|?p_items6|p_divi D0 D0|p_modi D0"

theorem def176 {G : Glb} {P : Params} (T : TopG G P) : IsDef G 176 (fd 176) (bd 176) [] := isDef T 176 _ rfl rfl rfl rfl rfl rfl ⟨_, _, _, _, rfl, rfl, rfl, rfl⟩ rfl rfl rfl

set_option maxHeartbeats 1000000 in
theorem fn176z {G : Glb} {P : Params} (T : TopG G P) {ℓ : Nat} : FnOk0 G (ℓ + 1) (.ref 176) wJoined := by
  apply FnOk0.mono
  apply FnOk0.def1 T.O (def176 T) (x := "script")
  focus (decide +kernel)
  focus (intro w; rfl)
  focus (apply s_cons; (focus walk_at "e1"); (focus walk_at "es"))
  rintro vs Q σ ⟨v, sc, rfl, hv, hlen, hQ⟩
  refine ⟨_, rfl, ?_⟩
  repeat' walk_at "st"
  refine ⟨by decide, p_mut ?_⟩
  repeat' walk_at "st"
  refine for_all (fun i ρ σ' => σ' = σ ++ [.list ((List.range i).map (bitRow sc))] ∧ ρ (Str.ofString "script") = some v ∧ ρ (Str.ofString "bits") = some (.ref σ.length)) ⟨rfl, ?_, ?_⟩ (fun _ _ _ _ _ => trivial) ?_ ?_
  · walk_at "rho"
  · walk_at "rho"
  · rintro ρ σ' ⟨rfl, e1, e2⟩
    repeat' walk_at "st"
    refine comp_over _ (fun ρ => ρ (Str.ofString "bits") = some (V.ref (List.length σ))) (fun i => [vRow (Mj sc i)]) _ _ _ ?_ ?_ ?_ ?_
    · walk_at "rho"
    · trivial
    · intro i hi ρ acc K hI hK
      repeat' walk_at "st"
      refine comp_over _ (fun ρ => ρ (Str.ofString "bits") = some (V.ref (List.length σ)) ∧ ρ (Str.ofString "one") = some (V.int (i : Nat))) (fun j => [.int (Mj sc i j)]) _ _ _ ⟨?_, ?_⟩ ?_ ?_ ?_
      · walk_at "rho"
      · walk_at "rho"
      · trivial
      · rintro j hj ρ acc K ⟨e3, e4⟩ hK
        repeat' walk_at "st"
        refine ⟨_, _, rfl, ?_⟩
        have hi6 := List.mem_range.mp hi
        have hj6 := List.mem_range.mp hj
        rw [show (if (j : Int) < (i : Int) then (j : Int) else (i : Int)) = ((min i j : Nat) : Int) by split <;> lia]
        refine ⟨bitRow sc (min i j), ?_, ?_⟩
        · rw [item_at aList_end (by lia), List.getElem?_map]
          show Option.map _ (List.range 6)[min i j]? = _
          rw [List.getElem?_range (show min i j < 6 by lia)]; rfl
        repeat' walk_at "st"
        refine ⟨_, rfl, ?_⟩
        rw [show (if (i : Int) - (j : Int) < 0 then -((i : Int) - (j : Int)) else (i : Int) - (j : Int)) = ((((i : Int) - (j : Int)).natAbs : Nat) : Int) by split <;> lia]
        refine ⟨_, row_at (by lia), hK _ ⟨?_, ?_⟩⟩
        · walk_at "rho"
        · walk_at "rho"
      · rw [flat_single]
        refine p_frozen ?_
        exact hK _ (by walk_at "rho")
    · rw [flat_single]
      refine p_frozen ?_
      repeat' walk_at "st"
      exact hQ _
  · rintro i u ρ σ' hx ⟨rfl, e1, e2⟩ K hK hR
    obtain ⟨hi, rfl⟩ := six_get hx
    have hv' := aList_app [.list ((List.range i).map (bitRow sc))] hv
    repeat' walk_at "st"
    refine ⟨by decide, p_frozen ?_⟩
    repeat' walk_at "st"
    refine ⟨_, base_at hi, ?_⟩
    repeat' walk_at "st"
    refine ⟨v, sc.length, rfl, ?_, by lia, ?_⟩
    · rw [aLen_list hv', List.length_map]
    repeat' walk_at "st"
    by_cases hlt : i < sc.length
    refine p_ift (decide_eq_true (by lia)) ?_
    repeat' walk_at "st"
    refine ⟨V.int (sc.getD i 0), by rw [item_at hv' (by lia), List.getElem?_map, List.getElem?_eq_getElem hlt]; simp [List.getD, hlt], ?_⟩
    repeat' walk_at "st"
    have hn : numAt sc i = ([11, 10, 11, 3, 2, 1] : List Int).getD i 0 + sc.getD i 0 := rfl
    rotate_left
    refine p_iff (decide_eq_false (by lia)) ?_
    repeat' walk_at "st"
    have hn : numAt sc i = ([11, 10, 11, 3, 2, 1] : List Int).getD i 0 := by
        unfold numAt
        rw [show sc.getD i 0 = 0 by rw [List.getD, List.getElem?_eq_none (by lia)]; rfl, Int.add_zero]
    all_goals
      refine ⟨⟨_, aList_end⟩, ?_⟩
      repeat' walk_at "st"
      refine comp_over _ (fun ρ => ρ (Str.ofString "number") = some (V.int (numAt sc i))) (fun far => [V.int (numAt sc i / 2 ^ far % 2)]) _ _ _ ?_ trivial ?_ ?_
      · rw [hn]; walk_at "rho"
      · intro far hf ρ acc K' hI hK'
        have hf6 := List.mem_range.mp hf
        repeat' walk_at "st"
        obtain ⟨q1, q2⟩ := pow6 far hf6
        refine p_powi (by lia) (by lia) ?_
        rw [Int.toNat_natCast]
        refine p_divi q1 q2 ?_
        repeat' walk_at "st"
        exact hK' _ (by walk_at "rho")
      · rw [flat_single]
        refine p_frozen ?_
        repeat' walk_at "st"
        refine ⟨_, _, _, rfl, by rw [List.getElem?_append_right (Nat.le_refl _), Nat.sub_self]; rfl, by simp; lia, ?_⟩
        repeat' walk_at "st"
        refine hK _ _ ⟨?_, ?_, ?_⟩
        · rw [set_end, show (List.range (i + 1)).map (bitRow sc) = (List.range i).map (bitRow sc) ++ [bitRow sc i] by rw [List.range_succ, List.map_append]; rfl]; rfl
        · walk_at "rho"
        · walk_at "rho"
end
section
set_option autoImplicit false
set_option maxRecDepth 100000

namespace F
open PySem.F
theorem slot_mdget : Slot "method_descriptor" "__get__" "method_descriptor.__get__" :=
  .of (owner := "method_descriptor") (n := "__get__") (by rw [typeLookup_type, builtinLookup_eq_fast]; kernel_rfl) (by decide +kernel) (by decide +kernel) (by decide +kernel)
    (by first | exact .inl (by decide +kernel) | exact .inr (by decide +kernel)) (by rw [isSubtype_type]; kernel_rfl)
theorem entry_mdget : entryFor table "method_descriptor.__get__" = some Builtin.«method_descriptor.__get__» := entryFor_of_tree (by kernel_rfl)
theorem args_mdget (a b c : Value) : argsOk "method_descriptor.__get__" ⟨[a, b, c], []⟩ := by unfold argsOk; kernel_rfl
theorem slot_wdget : Slot "wrapper_descriptor" "__get__" "wrapper_descriptor.__get__" :=
  .of (owner := "wrapper_descriptor") (n := "__get__") (by rw [typeLookup_type, builtinLookup_eq_fast]; kernel_rfl) (by decide +kernel) (by decide +kernel) (by decide +kernel)
    (by first | exact .inl (by decide +kernel) | exact .inr (by decide +kernel)) (by rw [isSubtype_type]; kernel_rfl)
theorem entry_wdget : entryFor table "wrapper_descriptor.__get__" = some Builtin.«wrapper_descriptor.__get__» := entryFor_of_tree (by kernel_rfl)
theorem args_wdget (a b c : Value) : argsOk "wrapper_descriptor.__get__" ⟨[a, b, c], []⟩ := by unfold argsOk; kernel_rfl
theorem type_lpop : typeOf (.builtin "list.pop") = pure (.type "method_descriptor") := by show builtinType _ = _; rw [builtinType_eq_fast]; kernel_rfl
theorem type_llen : typeOf (.builtin "list.__len__") = pure (.type "wrapper_descriptor") := by show builtinType _ = _; rw [builtinType_eq_fast]; kernel_rfl
theorem type_linit : typeOf (.builtin "list.__init__") = pure (.type "wrapper_descriptor") := by show builtinType _ = _; rw [builtinType_eq_fast]; kernel_rfl
theorem type_lapp : typeOf (.builtin "list.append") = pure (.type "method_descriptor") := by show builtinType _ = _; rw [builtinType_eq_fast]; kernel_rfl
end F

section
variable {prog : Program} {w : World} {A : Around} {E : Value → Shared → Prop} {s : Shared} {K : Frag} {name : Str} {x C : Addr} {ox : Obj} {od : Option Obj} {pl : Sem Bool} {Q : Value × List Value → Shared → Prop}
/-- a built-in method that an instance's class has from its base -/
theorem method_bi {f : String} (X : K.In s.heap) (I : InstAt s.heap x ox C od) (hga : findIn K (.ref C) "__getattribute__" = some (some (.builtin "list.__getattribute__"))) (hk : findIn K (.ref C) "__getattr__" = some none)
    (hf : findIn K (.ref C) name = some (some (.builtin f))) (ht : typeOf (.builtin f) = pure (.type "method_descriptor")) (hs : shadowIn od name = some false) (h : Q (.builtin f, [.ref x]) s) :
    wpAny (model prog w) A (getMethod (.ref x) name pl) Q E s := by
  have hcan : Manifest.canonical "list.__getattribute__" = "object.__getattribute__" := by decide +kernel
  unfold getMethod specialOf
  refine wpAny_bind (wpAny_bind (I.type.here ((looks_findIn X hga).here ?_)))
  dsimp only
  rw [hcan, if_neg (by decide)]
  refine wpAny_bind (wpAny_bind (I.type.here ((looks_findIn X hk).here ?_)))
  refine wpAny_bind (wpAny_bind (I.type.here ((looks_findIn X hf).here (wpAny_bind (wpAny_of_eq ht ?_)))))
  rw [if_neg (by decide +kernel)]
  refine wpAny_bind (wpAny_loadPart I.at_ ?_)
  have hd := I.dict
  cases e : ox.dict with
  | none => exact wpAny_bind (wpAny_rule (wpAny_pure h))
  | some dx =>
    cases od with
    | none => rw [e] at hd; exact hd.elim
    | some o =>
      rw [e] at hd
      obtain ⟨r, a, b⟩ := Option.map_eq_some_iff.mp hs
      refine wpAny_bind (wpAny_bind (wpAny_loadPart hd ?_))
      rw [nsLook_of a]
      refine wpAny_pure ?_
      rw [b]
      exact wpAny_bind (wpAny_rule (wpAny_pure h))
/-- a method of the class's own -/
theorem method_own {f : Addr} (X : K.In s.heap) (I : InstAt s.heap x ox C od) (hga : findIn K (.ref C) "__getattribute__" = some (some (.builtin "list.__getattribute__"))) (hk : findIn K (.ref C) "__getattr__" = some none)
    (hf : findIn K (.ref C) name = some (some (.ref f))) (ht : typeIn K (.ref f) = some (.type "function")) (hs : shadowIn od name = some false) (h : Q (.ref f, [.ref x]) s) :
    wpAny (model prog w) A (getMethod (.ref x) name pl) Q E s := by
  have hcan : Manifest.canonical "list.__getattribute__" = "object.__getattribute__" := by decide +kernel
  unfold getMethod specialOf
  refine wpAny_bind (wpAny_bind (I.type.here ((looks_findIn X hga).here ?_)))
  dsimp only
  rw [hcan, if_neg (by decide)]
  refine wpAny_bind (wpAny_bind (I.type.here ((looks_findIn X hk).here ?_)))
  refine wpAny_bind (wpAny_bind (I.type.here ((looks_findIn X hf).here (wpAny_bind ((looks_typeIn X ht).here ?_)))))
  rw [if_neg (by decide +kernel)]
  refine wpAny_bind (wpAny_loadPart I.at_ ?_)
  have hd := I.dict
  cases e : ox.dict with
  | none => exact wpAny_bind (wpAny_rule (wpAny_pure h))
  | some dx =>
    cases od with
    | none => rw [e] at hd; exact hd.elim
    | some o =>
      rw [e] at hd
      obtain ⟨r, a, b⟩ := Option.map_eq_some_iff.mp hs
      refine wpAny_bind (wpAny_bind (wpAny_loadPart hd ?_))
      rw [nsLook_of a]
      refine wpAny_pure ?_
      rw [b]
      exact wpAny_bind (wpAny_rule (wpAny_pure h))
end

noncomputable abbrev boundObj (T : String) (id : String) (x : Addr) : Obj := { cls := .type T, dict := none, data := .fields #[.builtin id, .ref x], slots := #[] }
section
variable {M : Model} {A : Around} {E : Value → Shared → Prop} {s : Shared} {x C : Addr} {P : PySem.Fin → Shared → Prop}
theorem getM {id n : String} (ho : (kfb_private% "ownerAndName") id = ("list", n)) (ht : Manifest.toldItsClass.contains id = false) (hi : Looks M s.heap (isInstance (.ref x) (.type "list")) true)
    (h : P (.done (.ret (.ref s.heap.objs.size))) { s with heap := s.heap.push (boundObj "builtin_function_or_method" id x) }) :
    wpAny M A (Builtin.«method_descriptor.__get__» ⟨[.builtin id, .ref x, .ref C], []⟩) P E s := by
  unfold Builtin.«method_descriptor.__get__»
  refine wpAny_bind (wpAny_of_eq (a := (.builtin id, some (.ref x), some (.ref C))) rfl ?_)
  dsimp only
  rw [if_neg (by rw [ht]; decide)]
  refine wpAny_bind (m := (kfb_private% "checkInstance") (.builtin id) (.ref x)) ?_
  refine wpAny_bind (wpAny_of_eq (a := (Str.ofString n, .type "list")) ?_ ?_)
  · show (pure (Str.ofString ((kfb_private% "ownerAndName") id).2, Value.type ((kfb_private% "ownerAndName") id).1) : Sem (Str × Value)) = _
    rw [ho]
  dsimp only
  refine wpAny_bind (hi.here ?_)
  rw [if_neg (by decide)]
  refine wpAny_pure ?_
  exact wpAny_bind (wpAny_newObj_type (wpAny_pure h))
theorem getW {id n : String} (ho : (kfb_private% "ownerAndName") id = ("list", n)) (hi : Looks M s.heap (isInstance (.ref x) (.type "list")) true)
    (h : P (.done (.ret (.ref s.heap.objs.size))) { s with heap := s.heap.push (boundObj "method-wrapper" id x) }) :
    wpAny M A (Builtin.«wrapper_descriptor.__get__» ⟨[.builtin id, .ref x, .ref C], []⟩) P E s := by
  unfold Builtin.«wrapper_descriptor.__get__»
  refine wpAny_bind (wpAny_of_eq (a := (.builtin id, some (.ref x), some (.ref C))) rfl ?_)
  dsimp only
  refine wpAny_bind (m := (kfb_private% "checkInstance") (.builtin id) (.ref x)) ?_
  refine wpAny_bind (wpAny_of_eq (a := (Str.ofString n, .type "list")) ?_ ?_)
  · show (pure (Str.ofString ((kfb_private% "ownerAndName") id).2, Value.type ((kfb_private% "ownerAndName") id).1) : Sem (Str × Value)) = _
    rw [ho]
  dsimp only
  refine wpAny_bind (hi.here ?_)
  rw [if_neg (by decide)]
  refine wpAny_pure ?_
  exact wpAny_bind (wpAny_newObj_type (wpAny_pure h))
end
theorem own_pop : (kfb_private% "ownerAndName") "list.pop" = ("list", "pop") := by first | decide +kernel | kernel_rfl
theorem own_len : (kfb_private% "ownerAndName") "list.__len__" = ("list", "__len__") := by first | decide +kernel | kernel_rfl
theorem own_init : (kfb_private% "ownerAndName") "list.__init__" = ("list", "__init__") := by first | decide +kernel | kernel_rfl

/-- a bound built-in that super() gives -/
structure SupB (id : String) (T : String) (gid : String) (gb : Builtin) : Prop where
  typ : typeOf (.builtin id) = pure (.type (if T = "method-wrapper" then "wrapper_descriptor" else "method_descriptor"))
  slot : Slot (if T = "method-wrapper" then "wrapper_descriptor" else "method_descriptor") "__get__" gid
  entry : entryFor table gid = some gb
  args : ∀ a b c : Value, argsOk gid ⟨[a, b, c], []⟩
  run : ∀ {M : Model} {A : Around} {E : Value → Shared → Prop} {s : Shared} {x C : Addr} {P : PySem.Fin → Shared → Prop}, Looks M s.heap (isInstance (.ref x) (.type "list")) true →
    P (.done (.ret (.ref s.heap.objs.size))) { s with heap := s.heap.push (boundObj T id x) } → wpAny M A (gb ⟨[.builtin id, .ref x, .ref C], []⟩) P E s
theorem supPop : SupB "list.pop" "builtin_function_or_method" "method_descriptor.__get__" Builtin.«method_descriptor.__get__» := ⟨F.type_lpop, F.slot_mdget, F.entry_mdget, F.args_mdget, fun hi h => getM own_pop (by decide +kernel) hi h⟩
theorem supLen : SupB "list.__len__" "method-wrapper" "wrapper_descriptor.__get__" Builtin.«wrapper_descriptor.__get__» := ⟨F.type_llen, F.slot_wdget, F.entry_wdget, F.args_wdget, fun hi h => getW own_len hi h⟩
theorem supInit : SupB "list.__init__" "method-wrapper" "wrapper_descriptor.__get__" Builtin.«wrapper_descriptor.__get__» := ⟨F.type_linit, F.slot_wdget, F.entry_wdget, F.args_wdget, fun hi h => getW own_init hi h⟩

end
section
set_option autoImplicit false
set_option maxRecDepth 100000
noncomputable abbrev supObj (D x C : Addr) : Obj := { cls := .type "super", dict := none, data := .fields #[.ref D, .ref x, .ref C], slots := #[] }
section
variable {prog : Program} {w : World} {M : Model} {A : Around} {E : Value → Shared → Prop} {h : Heap} {g : Array GenState} {d : Drawn} {t : Nat} {os : OsState}
theorem sup_ga {so D x C : Addr} {l₀ l : List Value} {K : Frag} {name : Str} {tk : Tok} {Q : PySem.Fin → Shared → Prop} {id T gid : String} {gb : Builtin} (SB : SupB id T gid gb)
    (hso : h.get? so = some (supObj D x C)) (hno : Looks (model prog w) h (opaqueClassAbove (.ref C)) none)
    (hC : Looks (model prog w) h (mroOf (.ref C)) l₀) (hl : (l₀.dropWhile (· != .ref D)).drop 1 = l) (X : K.In h)
    (hf : alongIn K name l = some (some (.builtin id))) (hi : Looks (model prog w) h (isInstance (.ref x) (.type "list")) true) (hxC : x ≠ C) (hn : (name == ("__class__" : Str)) = false)
    (hq : Q (.done (.ret (.ref h.objs.size))) ⟨h.push (boundObj T id x), g, d, t, os⟩) :
    wpAny (model prog w) A (Builtin.«super.__getattribute__» ⟨[.ref so, .str name tk], []⟩) Q E ⟨h, g, d, t, os⟩ := by
  have hlk := SB.slot.lookup
  have hne : (Value.ref x == Value.ref C) = false := by simp [hxC]
  have htf : typeOf (.builtin id) = pure (.type (if T = "method-wrapper" then "wrapper_descriptor" else "method_descriptor")) := SB.typ
  have hT : ∀ st : Shared, st.TypeIs (.builtin id) (if T = "method-wrapper" then "wrapper_descriptor" else "method_descriptor") := fun _ => htf
  have hdt : (supObj D x C).data = .fields #[.ref D, .ref x, .ref C] := rfl
  have f0 : (#[.ref D, .ref x, .ref C] : Array Value)[0]? = some (.ref D) := rfl
  have f1 : (#[.ref D, .ref x, .ref C] : Array Value)[1]? = some (.ref x) := rfl
  have f2 : (#[.ref D, .ref x, .ref C] : Array Value)[2]? = some (.ref C) := rfl
  unfold Builtin.«super.__getattribute__»
  repeat (first
    | (with_reducible refine wpAny_field hso hdt f0 ?_) | (with_reducible refine wpAny_field hso hdt f1 ?_) | (with_reducible refine wpAny_field hso hdt f2 ?_)
    | (with_reducible refine ks_wpAny_notOpaque hno ?_)
    | (with_reducible refine Looks.at hC ?_; rw [hl])
    | (refine ks_forIn_along X (fun _ _ => rfl) rfl ?_ hf)
    | (with_reducible refine wpAny_of_eq htf ?_)
    | (with_reducible refine wpAny_of_eq hlk ?_)
    | (with_reducible refine wpAny_call_entry SB.slot (hT _) SB.entry ?_ (SB.args _ _ _))
    | (with_reducible refine SB.run hi ?_)
    | (with_reducible refine ⟨_, rfl, ?_⟩)
    | (simp only [hn, hne, Bool.or_false, Bool.false_eq_true, if_false])
    | wp_step
    | dsimp only)
  all_goals exact hq

theorem sup_method {so D x C : Addr} {l₀ l : List Value} {K : Frag} {name : Str} {pl : Sem Bool} {Q : Value × List Value → Shared → Prop} {id T gid : String} {gb : Builtin} (SB : SupB id T gid gb)
    (hso : h.get? so = some (supObj D x C)) (hno : Looks (model prog w) h (opaqueClassAbove (.ref C)) none)
    (hC : Looks (model prog w) h (mroOf (.ref C)) l₀) (hl : (l₀.dropWhile (· != .ref D)).drop 1 = l) (X : K.In h)
    (hf : alongIn K name l = some (some (.builtin id))) (hi : Looks (model prog w) h (isInstance (.ref x) (.type "list")) true) (hxC : x ≠ C) (hn : (name == ("__class__" : Str)) = false)
    (hq : Q (.ref h.objs.size, []) ⟨h.push (boundObj T id x), g, d, t + 1, os⟩) :
    wpAny (model prog w) A (getMethod (.ref so) name pl) Q E ⟨h, g, d, t, os⟩ := by
  have hlk := F.ks_slot_super_ga.lookup
  have hcan := F.ks_canon_super_ga
  have hT : ∀ t', (⟨h, g, d, t', os⟩ : Shared).TypeIs (.ref so) "super" := fun _ => ⟨_, hso, rfl⟩
  unfold getMethod
  refine wpAny_bind (wpAny_specialOf (hT _) hlk ?_)
  show wpAny _ _ (if (Manifest.canonical "super.__getattribute__" != "object.__getattribute__") = true then _ else _) _ _ _
  rw [if_pos hcan]
  unfold getAttr getAttrBy
  refine wpAny_bind (wpAny_bind (wpAny_mkText (wpAny_holding (wpAny_bind (wpAny_typeOf (hT _) (wpAny_bind (wpAny_of_eq hlk ?_)))))))
  show wpAny _ _ (getAttrByItsOwn (.ref so) (.str name t) (.type "super") (.builtin "super.__getattribute__") true false) _ _ _
  unfold getAttrByItsOwn hookBefore callGetattribute boundAndCalled
  refine wpAny_bind (wpAny_of_eq (show (if onTheHeap (.type "super") then typeLookup (.type "super") "__getattr__" else pure none) = pure none from rfl) ?_)
  refine wpAny_bind (wpAny_attempt (wpAny_holding ?_))
  show wpAny _ _ (bindSpecial (.builtin "super.__getattribute__") (.ref so) >>= _) _ _ _
  refine wpAny_bind (wpAny_of_eq (F.ks_slot_super_ga.bind _) ?_)
  refine wpAny_mono (Q := fun v s' => v = .ref h.objs.size ∧ s' = ⟨h.push (boundObj T id x), g, d, t + 1, os⟩) (E := fun _ _ => False)
    (wpAny_call_entry F.ks_slot_super_ga (hT _) F.ks_entry_super_ga (sup_ga SB hso hno hC hl X hf hi hxC hn ⟨_, rfl, rfl, rfl⟩) (F.ks_gaArgs_super _ _)) (fun v s' hv => ?_) fun _ _ z => z.elim
  obtain ⟨rfl, rfl⟩ := hv
  exact wpAny_pure (wpAny_pure hq)
theorem callWith_bound0 {T id : String} {pos : Pos} {b x : Addr} {env : Env} {s : Shared} {Q : Value → Shared → Prop} (hT : T = "builtin_function_or_method" ∨ T = "method-wrapper") (hb : s.heap.get? b = some (boundObj T id x))
    (hc : wpAny M A (call (.ref b) []) Q E s) : wpAny M A (callWith pos (.ref b) [] (backTo pos (starEach [] env)) []) Q E s := by
  have he : backTo pos (starEach [] env) = [] := rfl
  rw [he]
  unfold callWith
  refine wpAny_bind (wpAny_holding ?_)
  refine wpAny_of_eq (a := (⟨[], []⟩ : Args)) rfl ?_
  refine wpAny_bind (wpAny_standAt ?_)
  refine wpAny_bind (m := keeperOf (.ref b)) ?_
  unfold keeperOf
  refine wpAny_bind (wpAny_load hb ?_)
  rcases hT with rfl | rfl
  · exact wpAny_pure (wpAny_bind (wpAny_mono hc (fun r s₂ hr => wpAny_bind (wpAny_holding (wpAny_point (wpAny_pure hr)))) fun _ _ x => x))
  · exact wpAny_pure (wpAny_bind (wpAny_mono hc (fun r s₂ hr => wpAny_bind (wpAny_holding (wpAny_point (wpAny_pure hr)))) fun _ _ x => x))
theorem call_bound0 {T id : String} {b x : Addr} {s : Shared} {Q : Value → Shared → Prop} {B : Builtin} (hT : T = "builtin_function_or_method" ∨ T = "method-wrapper") (hb : s.heap.get? b = some (boundObj T id x)) (hB : entryFor table id = some B) (hp : plainId id = true)
    (hck : ∀ (A : Around) (E : Value → Shared → Prop) (Q : Unit → Shared → Prop), Q () s → wpAny (model prog w) A (checkBoundCall id ⟨[.ref x], []⟩) Q E s)
    (hc : wpAny (model prog w) A.in1 (B ⟨[.ref x], []⟩) (fun fin s' => ∃ v, fin = .done (.ret v) ∧ Q v s') E s) : wpAny (model prog w) A (call (.ref b) []) Q E s := by
  refine wpAny_call (codeAny_of_tree ?_)
  show wpAny _ A.in1 (callAny (.ref b) ⟨[], []⟩) _ _ s
  simp only [callAny]
  refine wpAny_bind (wpAny_load hb ?_)
  rcases hT with rfl | rfl
  all_goals
    show wpAny _ _ (checkBoundCall id ⟨[.ref x], []⟩ >>= fun _ => again (.builtin id ⟨[.ref x], []⟩) >>= fun r => pure r) _ _ s
    refine wpAny_bind (hck _ _ _ ?_)
    refine wpAny_bind (wpAny_pure (wpAny_pure ⟨plainId_quiet hp _, codeAny_builtin hB ?_⟩))
    rw [Around.under_plainId hp _]
    refine wpAny_mono hc (fun fin s' h' => ?_) fun _ _ z => z
    obtain ⟨v, rfl, hv⟩ := h'
    exact hv
end

end
section
set_option autoImplicit false
set_option maxRecDepth 100000

/-- the class's facts -/
structure AccG (G : Glb) (K : Frag) (cc : Addr) (cd : ClassData) : Prop where
  O : G.Ok
  inn : ∀ a o, K.lookup a = some o → G.base a = some o
  cls : clsIn K G.C = some cd
  mro : cd.mro = [.ref G.C, .type "list", .type "object"]
  cell : ∃ o, K.lookup cc = some o ∧ o.data = .cell (some (.ref G.C))
  mgs : G.mg "super" = none
  mbs : G.mb "super" = some (.type "super")
  ga : findIn K (.ref G.C) "__getattribute__" = some (some (.builtin "list.__getattribute__"))
  gat : findIn K (.ref G.C) "__getattr__" = some none
  opq : nsIn K cStatics "thirdparty.any" = some none
  sub : mroIn K G.C (.ref G.C) = some true
  subl : mroIn K G.C (.type "list") = some true
  subm : mroIn K G.C (.type "module") = some false
  metac : typeIn K (.ref G.C) = some (.type "type")
  popc : ∀ x : Addr, Bind.checkArgs "list.pop" ⟨.positional, s!"{cd.qualname.toString}.{Bind.lastOf "list.pop"}", "pop", .self, [⟨"index", .posOnly, false⟩]⟩ ⟨[.ref x], []⟩ = pure ()
  top : (G.prog.main.scope.names.lookup ("super" : Str)).isSome = false
/-- a method that says super() -/
structure SupFn (G : Glb) (K : Frag) (cc : Addr) (a : Addr) (fd : FuncData) (body : List Stmt) : Prop where
  obj : ∃ o, K.lookup a = some o ∧ o.data = .func fd
  body : fd.body = .stmts body
  closure : fd.closure = [(Str.ofString "__class__", cc)]
  globals : fd.globals = mainGlobals
  builtins : fd.builtins = builtinsNs
  first : ∃ ar, (fd.params.posonlyargs ++ fd.params.args).head? = some ar ∧ ar.arg = "self"
  code : ∃ c oc vs file tf tq, fd.code = .ref c ∧ K.lookup c = some oc ∧ oc.data = .fields vs ∧ vs[2]? = some (.str file tf) ∧ ((G.prog.main.file : Str) == file) = true ∧ vs[1]? = some (.str fd.qualname tq)
  co : fd.scope.isCoroutine = false
  gen : fd.scope.isGenerator = false
  kind : fd.scope.kind = .function
  nocell : ∀ x ∈ fd.scope.names, x.2 ≠ .cell
  ks : fd.scope.names.lookup ("super" : Str) = some .globalImplicit
  kc : fd.scope.names.lookup ("__class__" : Str) = some .free
  kself : fd.scope.names.lookup ("self" : Str) = some .local

section
variable {G : Glb} {K : Frag} {cc : Addr} {cd : ClassData}
theorem AccG.X (T : AccG G K cc cd) {h : Heap} (hin : G.In h) : K.In h := fun a o e => hin a o (T.inn a o e)

/-- an accumulator stands at x -/
noncomputable def AccAt (G : Glb) (h : Heap) (x dx : Addr) (arr : Array Value) (n : Nat) (od : Obj) : Prop := h.get? x = some (accObj G.C dx arr n) ∧ h.get? dx = some od ∧ lookIn "append" od = some none

theorem super_at {A : Around} {E : Value → Shared → Prop} {s : Shared} (T : AccG G K cc cd) {a x dx : Addr} {fd : FuncData} {bd body : List Stmt} {env : Env} {arr : Array Value} {n : Nat} {od : Obj} {m : Str → Option Value} {p0 p1 : Pos} {attr : Str} {whole : Sem Value} {Q : Value → Shared → Prop}
    (F : SupFn G K cc a fd bd) (hin : G.In s.heap) (I : AccAt G s.heap x dx arr n od) (hs : env.scope = fd.scope) (hf : env.func = some a) (hc : env.code = fd.code) (hcl : env.cells = fd.closure) (hg : env.globals = mainGlobals) (hb : env.builtins = builtinsNs)
    (hns : s.heap.Ns env.locals m) (hv : m "self" = some (.ref x)) (hat : (attr == ("__class__" : Str)) = false)
    (h : ∀ h', h'.get? s.heap.objs.size = some (supObj G.C x G.C) → (∀ b o, s.heap.get? b = some o → h'.get? b = some o) → Q (.ref s.heap.objs.size) { s with heap := h' }) :
    _root_.PySem.wpAt (model G.prog G.w) A (.func body env) (attributeBase (.Call (.Name "super" p0) [] [] p1) attr env whole) Q E s := by
  have X := T.X hin
  obtain ⟨hh, g, d, t, os⟩ := s
  obtain ⟨of, hof, hofd⟩ := F.obj
  obtain ⟨ar, har, harg⟩ := F.first
  obtain ⟨c, oc, vs, file, tf, tq, e1, e2, e3, e4, e5, e6⟩ := F.code
  obtain ⟨ocl, hocl, hocd⟩ := T.cell
  obtain ⟨oD, hD1, hD2⟩ : ∃ oD, hh.get? G.C = some oD ∧ oD.data = .cls cd := by
    have := T.cls
    unfold clsIn at this
    split at this
    · rename_i c d cd' sl ho
      cases this
      exact ⟨_, X _ _ ho, rfl⟩
    · cases this
  have hkf : env.scope.kind = .function := by rw [hs]; exact F.kind
  have hks : env.kindOf "super" = some .globalImplicit := by unfold Env.kindOf; rw [hs]; exact F.ks
  have hkc : env.kindOf "__class__" = some .free := by unfold Env.kindOf; rw [hs]; exact F.kc
  have hkv : env.kindOf "self" = some .local := by unfold Env.kindOf; rw [hs]; exact F.kself
  refine ks_wpAt_super_base (env := env) hks hkc hat hf (X _ _ hof) hofd har (hc.trans e1) (X _ _ e2) e3 e4 e5 T.top ?_
  refine ks_loadName_global hkf hks (Calls.loadGlobal_builtin (env := env) (by rw [hg]; exact T.O.nsg _ hin) T.mgs (by rw [hb]; exact T.O.nsb _ hin) T.mbs ⟨rfl, ?_⟩)
  refine wpAny_loadName_free hkf hkc (c := cc) (by rw [hcl, F.closure]; rfl) ⟨_, X _ _ hocl, hocd⟩ ?_
  rw [harg]
  refine wpAny_loadName_local hkf hkv hns hv ?_
  refine ks_wpAny_isType_cls hD1 hD2 ⟨rfl, ?_⟩
  exact ks_wpAny_call_super hD1 hD2 I.1 rfl (fun c e => by cases e) (looks_mroIn X T.sub) h
end

end
section
set_option autoImplicit false
set_option maxRecDepth 100000

/-- an accumulator of the store, in the heap -/
theorem acc_obj {G : Glb} {g : FM} {φ : List Addr} {σ : Sto} {h : Heap} (S : SR G g h φ σ) {i : Nat} {xs : List V} {w : Value} (hv : VR g φ (.ref i) w) (hm : σ[i]? = some (.acc xs)) :
    ∃ a dx arr n od, w = .ref a ∧ φ[i]? = some a ∧ h.get? a = some (accObj G.C dx arr n) ∧ h.get? dx = some od ∧ VRs g φ xs arr.toList ∧ (∀ name : Str, name ≠ Str.ofString "_initial_size" → lookIn name od = some none) ∧
      MOR G g φ h a (.acc xs) := by
  obtain ⟨a, rfl, ha⟩ := hv
  have hM := S.mo _ _ _ ha hm
  have hM' := hM
  obtain ⟨d, arr, n, od, ho, hvs, hgd, h1, h2⟩ := hM
  exact ⟨a, d, arr, n, od, rfl, ha, ho, S.keep _ _ hgd, hvs, h1, hM'⟩

section
variable {prog : Program} {w : World} {A : Around} {E : Value → Shared → Prop} {s : Shared}
theorem len_body {x C d : Addr} {arr : Array Value} {n : Nat} {Q : Value → Shared → Prop} (hx : s.heap.get? x = some (accObj C d arr n)) (hQ : Q (.int arr.size s.toks) { s with toks := s.toks + 1 }) :
    wpAny (model prog w) A (Builtin.«list.__len__» ⟨[.ref x], []⟩) (fun fin s' => ∃ v, fin = .done (.ret v) ∧ Q v s') E s := by
  show wpAny _ _ (do retInt (← seqSize x)) _ _ s
  unfold seqSize
  refine wpAny_bind (wpAny_bind (wpAny_loadPart hx ?_))
  exact wpAny_pure (wpAny_bind (wpAny_mkInt (wpAny_pure ⟨_, rfl, hQ⟩)))
theorem check_len {x : Value} {Q : Unit → Shared → Prop} (hQ : Q () s) : wpAny (model prog w) A (checkBoundCall "list.__len__" ⟨[x], []⟩) Q E s := by
  refine wpAny_of_eq (a := ()) ?_ hQ
  kernel_rfl
theorem check_init {x : Value} {Q : Unit → Shared → Prop} (hQ : Q () s) : wpAny (model prog w) A (checkBoundCall "list.__init__" ⟨[x], []⟩) Q E s := by
  refine wpAny_of_eq (a := ()) ?_ hQ
  kernel_rfl
theorem plain_len : plainId "list.__len__" = true := by decide +kernel
theorem plain_linit : plainId "list.__init__" = true := by decide +kernel
theorem plain_lpop : plainId "list.pop" = true := by decide +kernel
end

noncomputable def wPc : WF := fun vs Q σ => ∃ (k : Nat) (xs : List V), vs = [.ref k] ∧ σ[k]? = some (.acc xs) ∧ Q (.int xs.length) σ

section
variable {G : Glb} {K : Frag} {cc : Addr} {cd : ClassData} {ℓ : Nat}
theorem AccG.mroL (T : AccG G K cc cd) {M : Model} {h : Heap} (X : K.In h) : Looks M h (mroOf (.ref G.C)) [.ref G.C, .type "list", .type "object"] := by
  rw [← T.mro]
  exact fun A Q E s k q => wpAny_bind ((looks_clsIn X T.cls) A _ E s k (wpAny_pure q))
theorem AccG.ne (T : AccG G K cc cd) {h : Heap} (X : K.In h) {x dx : Addr} {arr : Array Value} {n : Nat} (hx : h.get? x = some (accObj G.C dx arr n)) : x ≠ G.C := by
  rintro rfl
  have := T.cls
  unfold clsIn at this
  split at this
  · rename_i c d cd' sl ho
    have e := X _ _ ho
    rw [hx] at e
    cases e
  · cases this

noncomputable def MethEq (o : Expr) (name : Str) (apos pos : Pos) (args : List Expr) (pl : Env → Sem Bool) : Prop := ∀ env : Env, eval (.Call (.Attribute o name apos) args [] pos) env = (do
      let ov ← attributeBase o name env (eval o env)
      standAt apos.atName
      let (f, first) ← holding [ov] (getMethod ov name (pl env))
      callWith pos f first (backTo pos (starEach args env)) [])
theorem fn_pc (T : AccG G K cc cd) {a : Addr} {fd : FuncData} {p0 p1 p2 p3 p4 : Pos} (F : SupFn G K cc a fd [.Return (some (.Call (.Attribute (.Call (.Name "super" p0) [] [] p1) "__len__" p2) [] [] p3)) p4])
    {pl : Env → Sem Bool} (he : MethEq (.Call (.Name "super" p0) [] [] p1) "__len__" p2 p3 [] pl) (hb : ∀ s w, BindsTo s fd ⟨[w], []⟩ [(Str.ofString "self", w)]) : FnOk G (ℓ + 1) (.ref a) wPc := by
  intro A s g φ σ vs ws Q cx ok S hv hW Kc E k
  obtain ⟨i, xs, rfl, hm, hQ⟩ := hW
  obtain ⟨w', hw1, hv1⟩ := hv.one
  subst hw1
  obtain ⟨x, dx, arr, n, od, rfl, hφ, hx, hdx, hvs, hlk, hM⟩ := acc_obj S hv1 hm
  obtain ⟨of, hof, hofd⟩ := F.obj
  obtain ⟨c, oc, vs', file, tf, tq, e1, e2, e3, e4, e5, e6⟩ := F.code
  have hin := S.inb
  have X := T.X hin
  have dep := cx.depth
  obtain ⟨hh, gg, d, t, os⟩ := s
  have hlen := hvs.length
  rw [Array.length_toList] at hlen
  refine wpAny_call (ks_codeAny_call_defAt (fd := fd) (binds := [(Str.ofString "self", .ref x)]) (by show A.depth < 1000; exact ar168 dep) (X _ _ hof) hofd (T.O.nolimit _ hin) ⟨c, oc, vs', tq, e1, X _ _ e2, e3, e6⟩ F.body (hb _ _) F.nocell
    (fun y hy => by rw [List.mem_singleton.mp hy]; exact F.kself) (fun h₀ hns hk => ?_) F.co F.gen F.kind)
  have hin₀ : G.In h₀ := fun b o e => hk b o (hin b o e)
  have X₀ := T.X hin₀
  refine ks_wpAt_execs_cons (ks_wpAt_Return_some (ks_wpAt_MethodCall (super_at T (x := x) (dx := dx) (arr := arr) (n := n) (od := od) F hin₀ ⟨hk _ _ hx, hk _ _ hdx, hlk _ (by decide +kernel)⟩ rfl rfl rfl rfl F.globals F.builtins hns (by simp) (by decide +kernel) fun h₁ ho₁ hk₁ => ?_) (he _)))
  have X₁ : K.In h₁ := fun b o e => hk₁ b o (X₀ b o e)
  have hx₁ := hk₁ _ _ (hk _ _ hx)
  refine sup_method supLen ho₁ (looks_opaque X₁ T.opq) (T.mroL X₁) (l := [.type "list", .type "object"]) (by simp [List.dropWhile]) X₁ (by rfl) ((Looks.ld hx₁).andThen (looks_mroIn X₁ T.subl)) (T.ne X₁ hx₁) (by decide +kernel) ?_
  have hx₂ : (h₁.push (boundObj "method-wrapper" "list.__len__" x)).get? x = some (accObj G.C dx arr n) := Heap.get?_push_of_some _ hx₁
  refine callWith_bound0 (.inr rfl) (T := "method-wrapper") (id := "list.__len__") (x := x) (Heap.get?_push_size _ rfl) ?_
  refine call_bound0 (.inr rfl) (T := "method-wrapper") (x := x) (Heap.get?_push_size _ rfl) entry_list_len plain_len (fun _ _ _ q => check_len q) (len_body hx₂ ?_)
  rw [hlen]
  exact Cont.up (s := ⟨hh, gg, d, t, os⟩) k ok S (v := .int xs.length) (fun b o e => Heap.get?_push_of_some _ (hk₁ _ _ (hk _ _ e))) ⟨_, rfl⟩ hQ (by have := ok.toks; show 1 ≤ _ + 1; exact ar40)
end

end
section
set_option autoImplicit false
set_option maxRecDepth 100000

theorem check_meth {M : Model} {A : Around} {E : Value → Shared → Prop} {s : Shared} {i owner n : String} {self : Value} {rest : List Value} {kw : List (Str × Value)} {Q : Unit → Shared → Prop}
    (hk : builtinKind i = some .method) (hs : splitId i = some (owner, n)) (hi : Looks M s.heap (isInstance self (.type owner)) true) (ha : argsOk i ⟨self :: rest, kw⟩) (q : Q () s) :
    wpAny M A (checkBuiltinCall i ⟨self :: rest, kw⟩) Q E s := by
  simp only [checkBuiltinCall, hk, hs]
  refine wpAny_bind (hi.here ?_)
  simp only [Bool.not_true, Bool.false_eq_true, if_false]
  cases hsig : Manifest.signature? i with
  | none => exact wpAny_pure q
  | some sig =>
    simp only [argsOk, hsig] at ha
    have h2 : Bind.checkArgs i sig ⟨self :: rest, kw⟩ = pure () := ha
    show wpAny M A (Bind.checkArgs i sig ⟨self :: rest, kw⟩) Q E s
    rw [h2]; exact wpAny_pure q

section
variable {G : Glb} {K : Frag} {cc : Addr} {cd : ClassData} {ℓ : Nat} {sc : Scope}
theorem AccG.isL (T : AccG G K cc cd) {M : Model} {h : Heap} (hin : G.In h) {x dx : Addr} {arr : Array Value} {n : Nat} (hx : h.get? x = some (accObj G.C dx arr n)) : Looks M h (isInstance (.ref x) (.type "list")) true :=
  (Looks.ld hx).andThen (looks_mroIn (T.X hin) T.subl)

theorem upd_acc {G : Glb} {h : Heap} {x dx : Addr} {arr : Array Value} {n : Nat} (hx : h.get? x = some (accObj G.C dx arr n)) (f : Array Value → Array Value) : ∃ m, (h.update x (Obj.mapSeq f)).get? x = some (accObj G.C dx (f arr) m) := by
  exact ⟨_, (Heap.get?_update_self _ hx (by rfl)).trans rfl⟩

noncomputable def wAppendA : WF := fun vs Q σ => ∃ (i : Nat) (v : V) (xs : List V), vs = [.ref i, v] ∧ σ[i]? = some (.acc xs) ∧ xs.length ≤ 2 ^ 20 ∧ Q .none (σ.set i (.acc (xs ++ [v])))
theorem FnOk.appendA (T : AccG G K cc cd) : FnOk G ℓ (.builtin "list.append") wAppendA := by
  intro A s g φ σ vs ws Q cx ok S' hv hW Kc E k
  obtain ⟨i, v, xs, rfl, hm, hsz, hQ⟩ := hW
  obtain ⟨w, u, rfl, hv1, hv2⟩ := hv.two
  obtain ⟨x, dx, arr, n, od, rfl, hφ, hx, hdx, hvs, hlk, hM⟩ := acc_obj S' hv1 hm
  have hlen := hvs.length
  rw [Array.length_toList] at hlen
  refine wpAny_call (codeAny_call_builtin slot_list_append.plain entry_list_append (check_meth (owner := "list") (n := "append") (by decide +kernel) (by decide +kernel) (T.isL S'.inb hx) (args_list_append _ _) ?_))
  show wpAny _ _ (updateSeq x (·.push u) >>= fun _ => ret .none) _ _ s
  refine wpAny_bind (wpAny_updateSeq hx rfl (wpAny_pure ?_) (by rw [hlen]; exact Nat.le_trans hsz (by decide)) (by rw [Array.size_push, hlen]; unfold sizeLine; exact ar367 hsz))
  obtain ⟨m, hm'⟩ := upd_acc hx (·.push u)
  obtain ⟨d, arr', n', od', ho, hvs', hgd, hr⟩ := hM
  rw [hx] at ho
  cases ho
  exact Cont.upd k ok S' (m := .acc (xs ++ [v])) (v := .none) hφ (fun b o q e => (Heap.SameBut.update ..).extBut b o q e) (by rw [hm']; simp) ⟨dx, _, m, od', hm', by rw [Array.toList_push]; exact hvs.append (VRs.single hv2), hgd, hr⟩ rfl hQ ok.toks

/-- a method of an accumulator that is built in -/
noncomputable def wMethA (Wo : WE) (Ws : WL) (Wf : WF) : WE := fun Q ρ σ => Wo (fun ov σ₁ => (∃ i xs, ov = .ref i ∧ σ₁[i]? = some (.acc xs)) ∧ Ws (fun vs σ₂ => Wf (ov :: vs) Q σ₂) ρ σ₁) ρ σ
theorem r_accB (T : AccG G K cc cd) {name : Str} {id : String} (hf : findIn K (.ref G.C) name = some (some (.builtin id))) (hty : typeOf (.builtin id) = pure (.type "method_descriptor")) (hn : name ≠ Str.ofString "_initial_size")
    {o e : Expr} {rest : List Expr} {apos pos : Pos} {Wo : WE} {Ws : WL} {Wf : WF} (hF : FnOk G ℓ (.builtin id) Wf) {pl : Env → Sem Bool} (he : MethEq o name apos pos (e :: rest) pl) (ho : Ev G ℓ sc o Wo) (ha : Evs G ℓ sc (e :: rest) Ws)
    (h0 : ∀ env, attributeBase o name env (eval o env) = eval o env)
    (h1 : ∀ env, starEach (e :: rest) env = (false, eval e env) :: starEach rest env) (h2 : ∀ env, (backTo pos (starEach rest env)).any (·.1) = false) :
    Ev G ℓ sc (.Call (.Attribute o name apos) (e :: rest) [] pos) (wMethA Wo Ws Wf) := by
  intro A env own s g φ σ ρ Q cx eo R hW Kc E k
  rw [he, h0]
  refine wpAny_bind (ho A env own s g φ σ ρ _ cx eo R hW _ _ fun w s₁ g₁ φ₁ σ₁ ov N₁ R₁ hv hQ => ?_)
  obtain ⟨⟨i, xs, rfl, hm⟩, hQ⟩ := hQ
  obtain ⟨x, dx, arr, n, od, rfl, hφ, hx, hdx, hvs, hlk, hM⟩ := acc_obj R₁.sr hv hm
  have X := T.X R₁.sr.inb
  refine wpAny_bind (wpAny_standAt (wpAny_bind (wpAny_holding (method_bi (s := s₁) X (C := G.C) (ox := accObj G.C dx arr n) (od := some od) ⟨hx, rfl, rfl, hdx⟩ T.ga T.gat hf hty (by show Option.map _ (lookIn name od) = _; rw [hlk _ hn]; rfl) ?_))))
  refine callWith_method1 ?_ (h1 env) (h2 env)
  refine ha A env own s₁ g₁ φ₁ σ₁ ρ _ cx eo R₁ hQ _ _ _ fun ws s₂ g₂ φ₂ σ₂ vs N₂ R₂ hvs hQ₂ => ?_
  exact hF A s₂ g₂ φ₂ σ₂ (.ref i :: vs) (.ref x :: ws) _ cx R₂.ok R₂.sr ⟨_, _, rfl, N₂.vr hv, hvs⟩ hQ₂ _ _ fun w s' g' φ' σ' v N' ok' S' hv hQ => k _ _ _ _ _ v ((N₁.trans N₂).trans N') (R₂.step N' ok' S') hv hQ
/-- a method of an accumulator, of the text's own -/
theorem r_accM (T : AccG G K cc cd) {name : Str} {f : Addr} {fo : Obj} {fd : FuncData} (hf : findIn K (.ref G.C) name = some (some (.ref f))) (hty : typeIn K (.ref f) = some (.type "function")) (hfo : K.lookup f = some fo) (hfd : fo.data = .func fd) (hn : name ≠ Str.ofString "_initial_size")
    {o e : Expr} {rest : List Expr} {apos pos : Pos} {Wo : WE} {Ws : WL} {Wf : WF} (hF : FnOk G ℓ (.ref f) Wf) {pl : Env → Sem Bool} (he : MethEq o name apos pos (e :: rest) pl) (ho : Ev G ℓ sc o Wo) (ha : Evs G ℓ sc (e :: rest) Ws)
    (h0 : ∀ env, attributeBase o name env (eval o env) = eval o env)
    (h1 : ∀ env, starEach (e :: rest) env = (false, eval e env) :: starEach rest env) (h2 : ∀ env, (backTo pos (starEach rest env)).any (·.1) = false) :
    Ev G ℓ sc (.Call (.Attribute o name apos) (e :: rest) [] pos) (wMethA Wo Ws Wf) := by
  intro A env own s g φ σ ρ Q cx eo R hW Kc E k
  rw [he, h0]
  refine wpAny_bind (ho A env own s g φ σ ρ _ cx eo R hW _ _ fun w s₁ g₁ φ₁ σ₁ ov N₁ R₁ hv hQ => ?_)
  obtain ⟨⟨i, xs, rfl, hm⟩, hQ⟩ := hQ
  obtain ⟨x, dx, arr, n, od, rfl, hφ, hx, hdx, hvs, hlk, hM⟩ := acc_obj R₁.sr hv hm
  have X := T.X R₁.sr.inb
  refine wpAny_bind (wpAny_standAt (wpAny_bind (wpAny_holding (method_own (s := s₁) X (C := G.C) (ox := accObj G.C dx arr n) (od := some od) ⟨hx, rfl, rfl, hdx⟩ T.ga T.gat hf hty (by show Option.map _ (lookIn name od) = _; rw [hlk _ hn]; rfl) ?_))))
  dsimp only
  rw [h1]
  refine Calls.callWith_function (o := fo) (fd := fd) (Calls.evalArgs_plain ?_)
  have := ha A env own s₁ g₁ φ₁ σ₁ ρ (fun vs σ₂ => Wf (.ref i :: vs) Q σ₂) cx eo R₁ hQ pos (fun vs s₂ => (s₂.heap.get? f = some fo ∧ fo.data = .func fd) ∧ wpAny (model G.prog G.w) A (call (.ref f) (.ref x :: vs)) Kc E s₂) E fun ws s₂ g₂ φ₂ σ₂ vs N₂ R₂ hvs hQ₂ => ?_
  · rw [h1] at this
    exact wpAny_mono this (fun vs s₂ h₂ => by simpa using h₂) fun _ _ z => z
  · refine ⟨⟨T.X R₂.sr.inb _ _ hfo, hfd⟩, ?_⟩
    exact hF A s₂ g₂ φ₂ σ₂ (.ref i :: vs) (.ref x :: ws) _ cx R₂.ok R₂.sr ⟨_, _, rfl, N₂.vr hv, hvs⟩ hQ₂ _ _ fun w s' g' φ' σ' v N' ok' S' hv hQ => k _ _ _ _ _ v ((N₁.trans N₂).trans N') (R₂.step N' ok' S') hv hQ
/-- the same, with no argument -/
theorem r_accM0 (T : AccG G K cc cd) {name : Str} {f : Addr} {fo : Obj} {fd : FuncData} (hf : findIn K (.ref G.C) name = some (some (.ref f))) (hty : typeIn K (.ref f) = some (.type "function")) (hfo : K.lookup f = some fo) (hfd : fo.data = .func fd) (hn : name ≠ Str.ofString "_initial_size")
    {o : Expr} {apos pos : Pos} {Wo : WE} {Wf : WF} (hF : FnOk G ℓ (.ref f) Wf) {pl : Env → Sem Bool} (he : MethEq o name apos pos [] pl) (ho : Ev G ℓ sc o Wo)
    (h0 : ∀ env, attributeBase o name env (eval o env) = eval o env) :
    Ev G ℓ sc (.Call (.Attribute o name apos) [] [] pos) (wMethA Wo lNil Wf) := by
  intro A env own s g φ σ ρ Q cx eo R hW Kc E k
  rw [he, h0]
  refine wpAny_bind (ho A env own s g φ σ ρ _ cx eo R hW _ _ fun w s₁ g₁ φ₁ σ₁ ov N₁ R₁ hv hQ => ?_)
  obtain ⟨⟨i, xs, rfl, hm⟩, hQ⟩ := hQ
  obtain ⟨x, dx, arr, n, od, rfl, hφ, hx, hdx, hvs, hlk, hM⟩ := acc_obj R₁.sr hv hm
  have X := T.X R₁.sr.inb
  refine wpAny_bind (wpAny_standAt (wpAny_bind (wpAny_holding (method_own (s := s₁) X (C := G.C) (ox := accObj G.C dx arr n) (od := some od) ⟨hx, rfl, rfl, hdx⟩ T.ga T.gat hf hty (by show Option.map _ (lookIn name od) = _; rw [hlk _ hn]; rfl) ?_))))
  refine callWith_meth0 hfd (X _ _ hfo) ?_
  exact hF A s₁ g₁ φ₁ σ₁ [.ref i] [.ref x] _ cx R₁.ok R₁.sr ⟨_, _, rfl, hv, rfl⟩ hQ _ _ fun w s' g' φ' σ' v N' ok' S' hv hQ => k _ _ _ _ _ v (N₁.trans N') (R₁.step N' ok' S') hv hQ
end

end
section
set_option autoImplicit false
set_option maxRecDepth 100000
section
variable {prog : Program} {w : World} {A : Around} {E : Value → Shared → Prop} {s : Shared}
theorem pop_body {x C d : Addr} {arr : Array Value} {n : Nat} {y : Value} {ys : List Value} {Q : Value → Shared → Prop} (hx : s.heap.get? x = some (accObj C d arr n)) (hy : arr.toList = ys ++ [y]) (hl : ys.length ≤ 2 ^ 20)
    (hQ : ∀ h' m, h'.get? x = some (accObj C d ys.toArray m) → Heap.SameBut x s.heap h' → Q y { s with heap := h' }) :
    wpAny (model prog w) A (Builtin.«list.pop» ⟨[.ref x], []⟩) (fun fin s' => ∃ v, fin = .done (.ret v) ∧ Q v s') E s := by
  have hsz : arr.size = ys.length + 1 := by rw [← Array.length_toList, hy]; simp
  have harr : arr = ys.toArray.push y := by rw [← Array.toArray_toList (xs := arr), hy]; simp
  unfold Builtin.«list.pop»
  refine wpAny_bind (wpAny_of_eq (a := (.ref x, [])) (by kernel_rfl) ?_)
  dsimp only
  refine wpAny_bind (wpAny_pure ?_)
  rw [if_neg (by decide +kernel)]
  refine wpAny_bind (wpAny_bind (wpAny_seqItems hx rfl (wpAny_pure ?_)))
  have he : arr.isEmpty = false := by rw [Array.isEmpty_eq_false_iff]; intro q; rw [q] at hsz; simp at hsz
  rw [he, if_neg (by simp)]
  have hi : seqIndex? (-1) arr.size = some ys.length := by
    unfold seqIndex?
    rw [hsz]
    simp
    lia
  rw [hi]
  have hg : arr[ys.length]? = some y := by rw [harr]; simp
  simp only [Option.bind_some, hg, Option.map_some]
  have hers : arr.eraseIdxIfInBounds ys.length = ys.toArray := by
    rw [harr]
    simp [Array.eraseIdxIfInBounds]
    rw [List.eraseIdx_append_of_length_le (Nat.le_refl _), Nat.sub_self]; simp
  refine wpAny_bind (wpAny_updateSeq hx rfl (wpAny_pure ⟨y, rfl, ?_⟩) (by rw [hsz]; unfold sizeLine; exact ar368 hl) (by rw [hers, List.size_toArray]; unfold sizeLine; exact ar369 hl))
  have hu : ∃ m, (s.heap.update x (Obj.mapSeq fun xs => xs.eraseIdxIfInBounds ys.length)).get? x = some (accObj C d (arr.eraseIdxIfInBounds ys.length) m) := ⟨_, (Heap.get?_update_self _ hx (by rfl)).trans rfl⟩
  obtain ⟨m, hu⟩ := hu
  rw [hers] at hu
  exact hQ _ m hu (Heap.SameBut.update ..)
end
section
variable {G : Glb} {K : Frag} {cc : Addr} {cd : ClassData} {ℓ : Nat} {sc : Scope}
theorem sig_pop : Manifest.signature? "list.pop" = some ⟨.positional, "list.pop", "pop", .self, [⟨"index", .posOnly, false⟩]⟩ := by
  rw [signature?_of (id := "list.pop") (n := ['p', 'o', 'p']) (o := ['t', 's', 'i', 'l']) (by kernel_rfl) F.owner_list]; kernel_rfl
theorem check_pop (T : AccG G K cc cd) {A : Around} {E : Value → Shared → Prop} {s : Shared} {x dx : Addr} {arr : Array Value} {n : Nat} {Q : Unit → Shared → Prop} (hin : G.In s.heap) (hx : s.heap.get? x = some (accObj G.C dx arr n)) (hQ : Q () s) :
    wpAny (model G.prog G.w) A (checkBoundCall "list.pop" ⟨[.ref x], []⟩) Q E s := by
  have X := T.X hin
  have L0 : Looks (model G.prog G.w) s.heap (typeOf (.ref x)) (.ref G.C) := (Looks.ld hx).andThen .now
  have L1 : Looks (model G.prog G.w) s.heap (isInstance (.ref x) (.type "module")) false := L0.andThen (looks_mroIn X T.subm)
  unfold checkBoundCall
  rw [sig_pop]
  have hk : builtinKind "list.pop" = some .method := by decide +kernel
  rw [hk]
  dsimp only
  rw [if_neg (by decide)]
  refine wpAny_bind (L1.here ?_)
  rw [if_neg (show ¬ (Manifest.varargsMethods.contains "list.pop" || false) = true by decide +kernel)]
  refine wpAny_bind (m := isType (.ref x)) ?_
  obtain ⟨hh, gg, d, t, os⟩ := s
  refine ks_wpAny_isType_inst hx (fun c e => by cases e) ?_
  rw [if_neg (by decide)]
  refine wpAny_bind (L0.here ?_)
  dsimp only
  have L2 : Looks (model G.prog G.w) hh (typeOf (.ref G.C)) (.type "type") := looks_typeIn X T.metac
  have L3 : Looks (model G.prog G.w) hh (classData G.C) cd := looks_clsIn X T.cls
  refine wpAny_bind (L3.here (wpAny_bind (L2.here ?_)))
  rw [if_pos (by decide), T.popc]
  exact wpAny_pure hQ
end

end
section
set_option autoImplicit false
set_option maxRecDepth 100000

theorem cells_none : ∀ (names : List (Str × NameKind)) (n : Nat) (acc : List (Str × Addr)), (∀ x ∈ names, x.2 ≠ .cell) → cellsFrom n names acc = acc
  | [], _, _, _ => rfl
  | (x, k) :: r, n, acc, h => by
    have hk : (k == NameKind.cell) = false := by simpa using h (x, k) List.mem_cons_self
    unfold cellsFrom
    rw [if_neg (by rw [hk]; simp)]
    exact cells_none r n acc fun y hy => h y (List.mem_cons_of_mem _ hy)
theorem own_none {sc : Scope} (h : ∀ x ∈ sc.names, x.2 ≠ .cell) : ownOf sc = [] := by
  cases e : ownOf sc with
  | nil => rfl
  | cons x r => exact absurd rfl (h _ (mem_ownOf.mp (e ▸ List.mem_cons_self : x ∈ ownOf sc)))

/-- what the frame of such a method is -/
structure EnvAt (a : Addr) (fd : FuncData) (env : Env) : Prop where
  scope : env.scope = fd.scope
  func : env.func = some a
  code : env.code = fd.code
  cells : env.cells = fd.closure
  globals : env.globals = mainGlobals
  builtins : env.builtins = builtinsNs

/-- statements, with the code known -/
noncomputable def SxsAt (G : Glb) (ℓ : Nat) (a : Addr) (fd : FuncData) (body st : List Stmt) (W : WS) : Prop :=
  ∀ (A : Around) (env : Env) (s : Shared) (g : FM) (φ : List Addr) (σ : Sto) (ρ : Rho) (Q : Fl → Rho → Sto → Prop), Cx ℓ A → EnvOk fd.scope env → EnvAt a fd env → Rel G g φ σ env [] ρ s → W Q ρ σ →
    ∀ (K : Flow → Shared → Prop) (E : Value → Shared → Prop),
      (∀ f s' g' φ' σ' ρ' fl, Nx (fpOf env []) s s' g g' φ φ' → Rel G g' φ' σ' env [] ρ' s' → FlR g' φ' fl f → Q fl ρ' σ' → K f s') → _root_.PySem.wpAt (model G.prog G.w) A (.func body env) (execs st env) K E s

section
variable {G : Glb} {K : Frag} {cc : Addr} {cd : ClassData} {ℓ : Nat} {sc : Scope}
theorem FnOk.defAt (T : AccG G K cc cd) {a : Addr} {fd : FuncData} {body : List Stmt} (F : SupFn G K cc a fd body) {ps : List Str} {W : WS} (hp : ∀ x ∈ ps, canStore fd.scope [] x) (full : List V → Option (List V))
    (hb : ∀ s g φ σ vs ws vs', SR G g s.heap φ σ → VRs g φ vs ws → full vs = some vs' → ∃ ws', VRs g φ vs' ws' ∧ BindsTo s fd ⟨ws, []⟩ (ps.zip ws'))
    (hW : SxsAt G ℓ a fd body body W) : FnOk G (ℓ + 1) (.ref a) fun vs Q σ => ∃ vs', full vs = some vs' ∧ wFn ps W vs' Q σ := by
  intro A s g φ σ vs ws Q cx ok S hv hw Kc E k
  obtain ⟨vs', hfull, ρ, hρ, hw⟩ := hw
  obtain ⟨o, hbase, hdata⟩ := F.obj
  obtain ⟨c, oc, cvs, file, tf, tq, e1, e2, e3, e4, e5, e6⟩ := F.code
  obtain ⟨ws', hv', hbind⟩ := hb s g φ σ vs ws vs' S hv hfull
  have inb : G.In s.heap := S.inb
  have X := T.X inb
  have dep := cx.depth
  have uni := cx.units
  refine wpAny_call (codeAny_call_function (by show A.depth < 1000; exact ar168 dep) (X _ _ hbase) hdata F.co F.gen F.body ⟨c, oc, cvs, tq, e1, X _ _ e2, e3, e6⟩ (hbind _ _ _ _ ?_))
  simp only [newFunctionEnv, Option.isSome_none, Bool.false_eq_true, if_false]
  refine wpAny_bind (wpAny_alloc ?_)
  refine wpAny_bind (wpAny_layCells _ (fun name kind cells => by cases kind == NameKind.cell <;> simp) _ _ _ _ ?_)
  rw [show ({ s with heap := s.heap.push { cls := .type "frame", data := .dict #[] } } : Shared).heap.objs.size = s.heap.objs.size + 1 from Heap.size_push ..]
  have hcells : cellsFrom (s.heap.objs.size + 1) fd.scope.names fd.closure = fd.closure := cells_none _ _ _ F.nocell
  generalize hE : ({ scope := fd.scope, locals := s.heap.objs.size, globals := fd.globals, cells := cellsFrom (s.heap.objs.size + 1) fd.scope.names fd.closure, qual := fd.qualname ++ ".<locals>.", func := some a, code := fd.code, frame := some s.heap.objs.size, builtins := fd.builtins } : Env) = env
  have eo : EnvOk fd.scope env := ⟨by rw [← hE], F.kind, by rw [← hE]; exact F.globals, by rw [← hE]; exact F.builtins⟩
  have ea : EnvAt a fd env := ⟨by rw [← hE], by rw [← hE], by rw [← hE], by rw [← hE]; exact hcells, by rw [← hE]; exact F.globals, by rw [← hE]; exact F.builtins⟩
  obtain ⟨R₁, N₁, hfr⟩ := Rel.frame (cls := .type "frame") (sc := fd.scope) (sc' := fd.scope) (cl := fd.closure) (ρ₀ := fun _ => none) (env' := env) ok S (fun x v h => by cases h) eo.scope (by rw [← hE]) (by rw [← hE])
  rw [own_none F.nocell] at R₁ hfr
  refine wpAny_bind (stores eo _ (fun _ _ _ => rfl) ps vs' ws' _ g φ σ _ ρ _ _ hp R₁ (N₁.vrs hv') hρ fun s₂ N₂ R₂ => ?_)
  refine wpAny_pure ⟨T.O.nolimit _ R₂.sr.inb, ks_codeAny_funcAt ?_⟩
  have cx' : Cx ℓ (A.deeper env) := ⟨cx.handled, by show A.depth + 1 + 10 * ℓ ≤ 900; exact ar169 dep, by show A.units + 3 + 100 * ℓ ≤ 9000; exact ar170 uni⟩
  refine hW (A.deeper env) env s₂ g φ σ ρ _ cx' eo ea R₂ hw _ _ fun f s₃ g₃ φ₃ σ₃ ρ₃ fl N₃ R₃ hf hQ => ?_
  have N : Nx [] s s₃ g g₃ φ φ₃ := (N₁.leave N₂ hfr).leave N₃ hfr
  cases fl with
  | nx => cases hf; exact k _ _ _ _ _ .none N R₃.ok R₃.sr rfl hQ
  | br => exact hQ.elim
  | ct => exact hQ.elim
  | rt v => obtain ⟨w, rfl, hv⟩ := hf; exact k _ _ _ _ _ v N R₃.ok R₃.sr hv hQ

theorem SxsAt.ite {a : Addr} {fd : FuncData} {body rest b c : List Stmt} {t : Expr} {pos : Pos} {Wt : WT} {Wb Wc W₂ : WS} (ht : Tt G ℓ fd.scope t Wt) (hb : Sxs G ℓ fd.scope [] b Wb) (hc : Sxs G ℓ fd.scope [] c Wc) (h₂ : SxsAt G ℓ a fd body rest W₂) :
    SxsAt G ℓ a fd body (.If t b c pos :: rest) (wSeq (wIte Wt Wb Wc) W₂) := by
  intro A env s g φ σ ρ Q cx eo ea R hW K E k
  refine ks_wpAt_execs_cons (ks_wpAt_If (wpAt_of_wpAny (ht A env [] s g φ σ ρ _ cx eo R hW _ _ fun y s₁ g₁ φ₁ σ₁ N₁ R₁ hQ => ?_)))
  have fin : ∀ st W, Sxs G ℓ fd.scope [] st W → W (fun fl ρ' σ'' => match fl with | .nx => W₂ Q ρ' σ'' | .br => Q .br ρ' σ'' | .ct => Q .ct ρ' σ'' | .rt v => Q (.rt v) ρ' σ'') ρ σ₁ →
      _root_.PySem.wpAt (model G.prog G.w) A (.func body env) (execs st env) (fun f s' => match f with | .next => _root_.PySem.wpAt (model G.prog G.w) A (.func body env) (execs rest env) K E s' | f => K f s') E s₁ := by
    intro st W hs hW
    refine wpAt_of_wpAny (hs A env s₁ g₁ φ₁ σ₁ ρ _ cx eo R₁ hW _ _ fun f s₂ g₂ φ₂ σ₂ ρ₂ fl N₂ R₂ hf hq => ?_)
    cases fl with
    | nx => cases hf; exact h₂ A env s₂ g₂ φ₂ σ₂ ρ₂ Q cx eo ea R₂ hq K E fun f s₃ g₃ φ₃ σ₃ ρ₃ fl N₃ R₃ hf hq => k _ _ _ _ _ _ _ ((N₁.fp.trans N₂).trans N₃) R₃ hf hq
    | br => cases hf; exact k _ _ _ _ _ _ .br (N₁.fp.trans N₂) R₂ rfl hq
    | ct => cases hf; exact k _ _ _ _ _ _ .ct (N₁.fp.trans N₂) R₂ rfl hq
    | rt v => obtain ⟨w, rfl, hv⟩ := hf; exact k _ _ _ _ _ _ (.rt v) (N₁.fp.trans N₂) R₂ ⟨w, rfl, hv⟩ hq
  cases y with
  | true => exact fin b Wb hb hQ
  | false => exact fin c Wc hc hQ
end

end
section
set_option autoImplicit false
set_option maxRecDepth 100000

theorem ln_kind : builtinKind "list.__new__" = some .builtinFn := by decide +kernel
theorem ln_split : splitId "list.__new__" = some ("list", "__new__") := by decide +kernel
theorem ln_sig : Manifest.signature? "list.__new__" = some ⟨.any, "list", "list", .cls, [⟨"args", .varPos, false⟩, ⟨"kwargs", .varKw, false⟩]⟩ := by
  rw [signature?_of (id := "list.__new__") (n := ['_', '_', 'w', 'e', 'n', '_', '_']) (o := ['t', 's', 'i', 'l']) (by kernel_rfl) F.owner_list]; kernel_rfl

noncomputable def makesInL (K : Frag) (C : Addr) : Bool := match K.lookup C with
  | some ⟨_, _, .cls cd, sl⟩ => !cd.abstract && !cd.hasDel && (sl.toList[4]?).join == some (.builtin "list.__new__") && !cd.mro.isEmpty && cd.mro.contains (.ref C) && cd.mro.contains (.type "list") &&
      specialIn K (.ref C) "__call__" == some (some (.builtin "type.__call__")) && instIn K (.ref C) (.type "type") == some true
  | _ => false
structure MakesL (M : Model) (h : Heap) (C : Addr) : Prop where
  obj : ∃ oc od cd sl, h.get? C = some ⟨oc, od, .cls cd, sl⟩ ∧ cd.abstract = false ∧ cd.hasDel = false ∧ cd.mro.isEmpty = false
  made : Looks M h (Bind.madeBy (.ref C)) (some "list.__new__")
  base : Looks M h (Bind.staticBase (.ref C)) (.ref C)
  self : Looks M h (isSubtype (.ref C) (.ref C)) true
  top : Looks M h (isSubtype (.ref C) (.type "list")) true
  call : Looks M h (specialOf (.ref C) "__call__") (some (.builtin "type.__call__"))
  typ : Looks M h (isInstance (.ref C) (.type "type")) true
theorem makesL_of {K : Frag} {M : Model} {h : Heap} (X : K.In h) {C : Addr} (e : makesInL K C = true) : MakesL M h C := by
  unfold makesInL at e
  split at e
  · rename_i oc od cd sl ho
    simp only [Bool.and_eq_true, Bool.not_eq_true', beq_iff_eq] at e
    obtain ⟨⟨⟨⟨⟨⟨⟨e1, e2⟩, e3⟩, e4⟩, e5⟩, e6⟩, e7⟩, e8⟩ := e
    have hc : clsIn K C = some cd := by unfold clsIn; rw [ho]
    have hm : Looks M h (mroOf (.ref C)) cd.mro := (looks_clsIn X hc).andThen .now
    obtain ⟨c, l, hl⟩ : ∃ c l, cd.mro = c :: l := by cases q : cd.mro with | nil => rw [q] at e4; cases e4 | cons c l => exact ⟨c, l, rfl⟩
    have made : Looks M h (Bind.madeBy (.ref C)) (some "list.__new__") := by
      intro A Q E s k q
      unfold Bind.madeBy
      refine wpAny_bind (hm A _ E s k ?_)
      rw [hl, List.forIn_cons]
      refine wpAny_bind (wpAny_bind (wpAny_bind (wpAny_bind (wpAny_loadPart (k _ _ (X _ _ ho)) (wpAny_pure ?_)))))
      dsimp only
      rw [← Array.getElem?_toList, e3]
      exact wpAny_pure (wpAny_pure (wpAny_pure q))
    refine ⟨⟨oc, od, cd, sl, X _ _ ho, e1, e2, e4⟩, made, ?_, looks_mroIn X ?_, looks_mroIn X ?_, looks_specialIn X e7, looks_instIn X e8⟩
    · intro A Q E s k q
      unfold Bind.staticBase
      refine wpAny_bind (hm A _ E s k ?_)
      rw [hl, List.forIn_cons]
      exact wpAny_bind (wpAny_bind (wpAny_bind (made A _ E s k (wpAny_pure (wpAny_pure (wpAny_pure q))))))
    · unfold mroIn; rw [hc, Option.bind_some, if_neg (by rw [e4]; decide), e5]
    · unfold mroIn; rw [hc, Option.bind_some, if_neg (by rw [e4]; decide), e6]
  · cases e

noncomputable abbrev newAcc (C dx : Addr) : Obj := accObj C dx #[] 0

section
variable {prog : Program} {w : World} {A : Around} {K : Frag} {C : Addr} {R : Result → Shared → Prop} {h : Heap} {g : Array GenState} {d : Drawn} {t : Nat} {os : OsState}
theorem new_L (Y : MakesL (model prog w) h C) (hq : R (.ok (.ret (.ref (h.objs.size + 1)))) ⟨(h.push emptyDict).push (newAcc C h.objs.size), g, d, t, os⟩) :
    codeAny (model prog w) A (.call (.builtin "list.__new__") ⟨[.ref C], []⟩) R ⟨h, g, d, t, os⟩ := by
  obtain ⟨⟨oc, od, cd, sl, hC, e1, e2, e4⟩, made, base, self, top, call, typ⟩ := Y
  refine codeAny_call_builtin_code (plainId_quiet F.plain_list_new _) ?_
  simp only [checkBuiltinCall, ln_kind, ln_split, ln_sig]
  have args : Bind.checkArgs "list.__new__" ⟨.any, "list", "list", .cls, [⟨"args", .varPos, false⟩, ⟨"kwargs", .varKw, false⟩]⟩ ⟨[.ref C], []⟩ = pure () := by kernel_rfl
  rw [args]
  repeat (first | simp only [bne_self_eq_false, Bool.false_eq_true, if_false] | lk)
  refine codeAny_builtin_stack F.entry_list_new rfl fun p st => ?_
  rw [Around.under_plainId F.plain_list_new _]
  simp only [owner_list_new]
  have hC' := Heap.get?_push_of_some (newAcc C (h.push emptyDict).objs.size.pred) (Heap.get?_push_of_some emptyDict hC)
  refine wpAny_bind (ks_wpAny_isType_cls hC rfl ?_)
  simp only [Bool.not_true, Bool.false_eq_true, if_false]
  refine wpAny_bind (top.at ?_)
  simp only [Bool.not_true, Bool.false_eq_true, if_false]
  refine wpAny_bind (wpAny_pure ?_)
  rw [if_neg (by simp [typeHasDict])]
  refine wpAny_bind (wpAny_newObj_type ?_)
  dsimp only
  refine wpAny_bind ?_
  show wpAny _ _ (newObj (.ref C) (.seq #[]) (some h.objs.size)) _ _ _
  unfold newObj
  dsimp only
  rw [if_neg (by decide)]
  show wpAny _ _ (newObjAsIs _ _ _) _ _ _
  unfold newObjAsIs classHasDel
  refine wpAny_bind (wpAny_alloc (wpAny_bind (wpAny_bind (wpAny_load (Heap.get?_push_of_some _ (Heap.get?_push_of_some _ hC)) (wpAny_pure ?_)))))
  rw [e2]
  refine wpAny_pure (wpAny_pure ?_)
  show R _ _
  rw [Heap.size_push]
  exact hq

theorem make_L {init : Value} (Y : MakesL (model prog w) h C) (hi : Looks (model prog w) h (typeLookup (.ref C) "__init__") (some init))
    (hb : ∀ self, Looks (model prog w) h (bindSpecial init self) (init, [self]))
    (hq : codeAny (model prog w) (A.under (.builtin "type.__call__" ⟨[.ref C], []⟩)) (.call init ⟨[.ref (h.objs.size + 1)], []⟩) (InitBack (h.objs.size + 1) R) ⟨(h.push emptyDict).push (newAcc C h.objs.size), g, d, t, os⟩) :
    codeAny (model prog w) A (.call (.ref C) ⟨[], []⟩) R ⟨h, g, d, t, os⟩ := by
  have Y' := Y
  obtain ⟨⟨oc, od, cd, sl, hC, e1, e2, e4⟩, made, base, self, top, call, typ⟩ := Y
  refine codeAny_of_tree ?_
  show wpAny _ _ (callAny (.ref C) _) _ _ _
  refine nd_load hC ?_
  show wpAny _ _ (callAny.viaDunder (.ref C) _) _ _ _
  unfold callAny.viaDunder
  refine wpAny_bind (call.at ?_)
  dsimp only
  rw [tc_bind]
  refine wpAny_bind (wpAny_pure (wpAny_bind (wpAny_pure ?_)))
  refine wpAny_pure (a := Fin.again (.call (.builtin "type.__call__") ⟨[.ref C], []⟩)) (And.intro rfl ?_)
  refine codeAny_call_builtin_at (Code.quiet_builtin _ (by decide +kernel)) entry_typeCall (check_slot tc_kind tc_split typ (tc_args _ _ _) ?_)
  unfold Builtin.«type.__call__»
  have hm : Looks (model prog w) h (mroOf (.ref C)) cd.mro := ((Looks.ld (part := none) hC).andThen .now).andThen .now
  repeat (first | simp only [e4, Bool.false_eq_true, if_false] | with_reducible refine wpAny_call ?_ | lk)
  refine new_L Y' ?_
  have k : ∀ b o, h.get? b = some o → ((h.push emptyDict).push (newAcc C h.objs.size)).get? b = some o := fun b o e => Heap.get?_push_of_some _ (Heap.get?_push_of_some _ e)
  have hx : ((h.push emptyDict).push (newAcc C h.objs.size)).get? (h.objs.size + 1) = some (newAcc C h.objs.size) := by heap_get
  have t1 : Looks (model prog w) ((h.push emptyDict).push (newAcc C h.objs.size)) (typeOf (.ref (h.objs.size + 1))) (.ref C) := (Looks.ld hx).andThen .now
  have s1 := self.keeps k
  have i1 := hi.keeps k
  have b1 := (hb (.ref (h.objs.size + 1))).keeps k
  unfold isInstance callSpecial? specialOf
  repeat (first | with_reducible refine wpAny_call ?_ | lk)
  refine codeAny_mono hq fun r s' z => ?_
  rcases r with e | (v | _ | _ | _) <;> first | exact z | exact z.elim | skip
  obtain ⟨rfl, z⟩ := z
  exact wpAny_pure (wpAny_pure z)
end

end
section
set_option autoImplicit false
set_option maxRecDepth 100000
namespace F
open PySem.F
theorem store_list : StoreFacts "list" [.type "list", .type "object"] "object.__setattr__" "object" where
  mro := by kernel_rfl
  slot := .of (owner := "object") (n := "__setattr__") (by rw [typeLookup_type, builtinLookup_eq_fast]; kernel_rfl) (by decide +kernel) (by decide +kernel) (by decide +kernel)
    (by first | exact .inl (by decide +kernel) | exact .inr (by decide +kernel)) (by rw [isSubtype_type]; kernel_rfl)
  entry := entry_object_sa
  kind := by decide +kernel
  split := by decide +kernel
  hasOwner := by decide +kernel
  args := fun a b c => by unfold argsOk; kernel_rfl
  passes := fun self => by kernel_rfl
theorem nolook_is : typeLookup (.type "list") (Str.ofString "_initial_size") = pure none := by rw [typeLookup_type, builtinLookup_eq_fast]; kernel_rfl
end F

theorem look_ns {h : Heap} {a : Addr} {m : Str → Option Value} (hn : h.Ns a m) : ∃ od, h.get? a = some od ∧ ∀ name, lookIn name od = some (m name) := by
  obtain ⟨o, es, ep, ho, hd, hk, hf⟩ := hn
  refine ⟨o, ho, fun name => ?_⟩
  unfold lookIn
  rw [hd]
  dsimp only
  have hr : es.toList.any (·.refKey) = false := by
    rw [List.any_eq_false]
    intro e he
    obtain ⟨n, t, hk'⟩ := hk e (by simpa using he)
    unfold DictEntry.refKey
    rw [hk']; simp
  rw [← hf name]
  have : nsFind es name = (es.toList.find? (·.key.isStr name)).map (·.val) := by
    unfold nsFind findBy
    obtain ⟨l⟩ := es
    simp only [List.find?_toArray]
  rw [this]
  cases q : es.toList.find? (·.key.isStr name) with
  | some e => rfl
  | none => simp [hr]

section
variable {prog : Program} {w : World} {A : Around} {E : Value → Shared → Prop} {s : Shared}
theorem init_body {x C d : Addr} {n : Nat} {Q : Value → Shared → Prop} (hx : s.heap.get? x = some (accObj C d #[] n))
    (hQ : ∀ h' m, h'.get? x = some (accObj C d #[] m) → Heap.SameBut x s.heap h' → Q .none { s with heap := h' }) :
    wpAny (model prog w) A (Builtin.«list.__init__» ⟨[.ref x], []⟩) (fun fin s' => ∃ v, fin = .done (.ret v) ∧ Q v s') E s := by
  unfold Builtin.«list.__init__»
  dsimp only
  rw [if_neg (by decide), if_neg (by decide)]
  refine wpAny_bind (wpAny_bind (wpAny_seqItems hx rfl (wpAny_pure ?_)))
  refine wpAny_bind (wpAny_updateSeq hx rfl ?_ (by decide) (by decide))
  have hu : ∃ m, (s.heap.update x (Obj.mapSeq fun _ => #[])).get? x = some (accObj C d #[] m) := ⟨_, (Heap.get?_update_self _ hx (by rfl)).trans rfl⟩
  obtain ⟨m, hu⟩ := hu
  refine wpAny_bind (wpAny_letGo ?_)
  exact wpAny_pure ⟨_, rfl, hQ _ m hu (Heap.SameBut.update ..)⟩
end

/-- the class, as an object -/
structure AccC (K : Frag) (C N : Addr) : Prop where
  obj : ∃ nm q bs sn sub ab col dd k0 k1 k2 k3 k5, K.lookup C = some (excClassObj nm q C N bs [.type "list", .type "object"] true sn sub ab col dd k0 k1 k2 k3 k5 "list.__new__")
  ns : ∃ o es ep, K.lookup N = some o ∧ o.data = .dict es ep ∧ StrKeys es ∧ nsFind es (Str.ofString "__setattr__") = none ∧ nsFind es (Str.ofString "_initial_size") = none

section
variable {G : Glb} {K : Frag} {cc : Addr} {cd : ClassData}
noncomputable abbrev initBody (p0 p1 p2 p3 p4 q0 q1 q2 q3 : Pos) : List Stmt := [.Assign [.Attribute (.Name "self" q0) "_initial_size" q1] (.Name "initial_size" q2) q3, .Expr (.Call (.Attribute (.Call (.Name "super" p0) [] [] p1) "__init__" p2) [] [] p3) p4]
theorem init_run (T : AccG G K cc cd) {N : Addr} (CL : AccC K G.C N) {a : Addr} {fd : FuncData} {p0 p1 p2 p3 p4 q0 q1 q2 q3 : Pos} (F : SupFn G K cc a fd (initBody p0 p1 p2 p3 p4 q0 q1 q2 q3))
    {pl : Env → Sem Bool} (he : MethEq (.Call (.Name "super" p0) [] [] p1) "__init__" p2 p3 [] pl) {t0 : Tok} (hb : ∀ s x, G.In s.heap → BindsTo s fd ⟨[.ref x], []⟩ [(Str.ofString "self", .ref x), (Str.ofString "initial_size", .int 0 t0)])
    (hki : fd.scope.names.lookup ("initial_size" : Str) = some .local) (hint : ∀ env : Env, env.scope = fd.scope → interactive env = false)
    (hs1 : ∀ env, swapsWith (.Name "initial_size" q2) (some (.Attribute (.Name "self" q0) "_initial_size" q1)) q3.line env = pure false)
    (hs2 : ∀ env, swapsWith (.Call (.Attribute (.Call (.Name "super" p0) [] [] p1) "__init__" p2) [] [] p3) none p4.line env = pure false)
    {A : Around} {hh : Heap} {g : Array GenState} {d : Drawn} {t : Nat} {os : OsState} {x dx : Addr} {n : Nat} {R : Result → Shared → Prop} (hroom : A.depth < recursionLimit) (hin : G.In hh)
    (hx : hh.get? x = some (accObj G.C dx #[] n)) (hdx : hh.get? dx = some emptyDict) (hne : dx ≠ x) (hbx : G.base x = none) (hbd : G.base dx = none)
    (hR : ∀ h' tk, (∀ b o, b ≠ x → b ≠ dx → hh.get? b = some o → h'.get? b = some o) → (∃ m, h'.get? x = some (accObj G.C dx #[] m)) →
      (∃ od, h'.get? dx = some od ∧ (∀ name : Str, name ≠ Str.ofString "_initial_size" → lookIn name od = some none) ∧ ∃ t, lookIn (Str.ofString "_initial_size") od = some (some (.int 0 t))) → R (.ok (.ret (.ref x))) ⟨h', g, d, tk, os⟩) :
    codeAny (model G.prog G.w) A (.call (.ref a) ⟨[.ref x], []⟩) (InitBack x R) ⟨hh, g, d, t, os⟩ := by
  have X := T.X hin
  obtain ⟨of, hof, hofd⟩ := F.obj
  obtain ⟨c, oc, cvs, file, tf, tq, e1, e2, e3, e4, e5, e6⟩ := F.code
  obtain ⟨nm, q, bs, sn, sub, ab, col, dd, k0, k1, k2, k3, k5, hC⟩ := CL.obj
  obtain ⟨oN, esN, epN, hN, hNd, hNk, hN1, hN2⟩ := CL.ns
  refine ks_codeAny_call_defAt (fd := fd) (binds := [(Str.ofString "self", .ref x), (Str.ofString "initial_size", .int 0 t0)]) hroom (X _ _ hof) hofd (T.O.nolimit _ hin) ⟨c, oc, cvs, tq, e1, X _ _ e2, e3, e6⟩ F.body (hb _ _ hin) F.nocell
    (fun y hy => by
      rcases List.mem_cons.mp hy with z | z
      · rw [z]; exact F.kself
      · rw [List.mem_singleton.mp z]; exact hki) (fun h₀ hns hk => ?_) F.co F.gen F.kind
  have hin₀ : G.In h₀ := fun b o e => hk b o (hin b o e)
  have X₀ := T.X hin₀
  have hx₀ := hk _ _ hx
  have hdx₀ := hk _ _ hdx
  have hfs : ∀ o, hh.get? hh.objs.size ≠ some o := fun o z => absurd (Heap.lt_size z) (Nat.lt_irrefl _)
  have hxs : hh.objs.size ≠ x := fun z => hfs _ (z ▸ hx)
  have hds : hh.objs.size ≠ dx := fun z => hfs _ (z ▸ hdx)
  have hkf : (callEnv fd hh.objs.size a).scope.kind = .function := F.kind
  refine ks_wpAt_execs_cons (ks_wpAt_Assign_Attr (wpAt_of_wpAny ?_) (hs1 _))
  refine wpAny_Name (wpAny_loadName_local hkf hki hns (v := .int 0 t0) rfl ?_) (by decide +kernel)
  refine wpAny_Name (wpAny_loadName_local hkf F.kself hns (v := .ref x) rfl ?_) (by decide +kernel)
  have hxC : x ≠ G.C := T.ne X₀ hx₀
  refine store_attr Mine.F.store_list (X₀ _ _ hC) (mN := fun y => nsFind esN y) ⟨oN, esN, epN, X₀ _ _ hN, hNd, hNk, fun _ => rfl⟩ hN1 hN2 Mine.F.nolook_is hxC (mA := fun _ => none) ⟨_, hx₀, rfl, (fun c e => by cases e), .inr ⟨dx, rfl, hne, Heap.Ns1.of_empty ⟨_, #[], _, hdx₀, rfl, fun e he => absurd he (by simp), fun _ => rfl⟩⟩⟩
    (fun h₁ tk₁ I₁ hk₁ ho₁ => ?_) (ns := []) Within.nil (by decide)
  have hk1 : ∀ b o, b ≠ x → b ≠ dx → h₀.get? b = some o → h₁.get? b = some o := fun b o z y e => hk₁ b o z (fun o₀ dx' h1 h2 => by
    rw [hx₀] at h1; cases h1; cases h2; exact y) e
  have hx₁ : h₁.get? x = some (accObj G.C dx #[] n) := by
    obtain ⟨⟨c1, d1, da1, sl1⟩, z1, z2, z3, z4, z5⟩ := ho₁ _ hx₀
    have z6 := z5 dx rfl
    dsimp only at z2 z3 z4 z6
    rw [z1, z2, z3, z4, z6]
  have hod : ∃ od, h₁.get? dx = some od ∧ (∀ name : Str, name ≠ Str.ofString "_initial_size" → lookIn name od = some none) ∧ ∃ t, lookIn (Str.ofString "_initial_size") od = some (some (.int 0 t)) := by
    obtain ⟨o, z1, z2, z3, z4⟩ := I₁
    rw [hx₁] at z1
    cases z1
    rcases z4 with ⟨z4, _⟩ | ⟨d', z4, _, z5⟩
    · cases z4
    · cases z4
      obtain ⟨od, y1, y2⟩ := look_ns z5.ns
      exact ⟨od, y1, fun name hn => by rw [y2, if_neg hn], t0, by rw [y2, if_pos rfl]⟩
  obtain ⟨od, hod1, hod2, hod3⟩ := hod
  have hin₁ : G.In h₁ := fun b o e => hk1 b o (fun z => by rw [z, hbx] at e; cases e) (fun z => by rw [z, hbd] at e; cases e) (hin₀ b o e)
  have X₁ := T.X hin₁
  have hns₁ : h₁.Ns hh.objs.size (fun y => ([(Str.ofString "self", Value.ref x), (Str.ofString "initial_size", Value.int 0 t0)] : List (Str × Value)).reverse.lookup y) := by
    obtain ⟨oF, esF, epF, z1, z2⟩ := hns
    exact ⟨oF, esF, epF, hk1 _ _ hxs hds z1, z2⟩
  have hit := hint (callEnv fd hh.objs.size a) rfl
  refine ks_wpAt_execs_cons (ks_wpAt_Expr_any (ks_wpAt_MethodCall (super_at T (x := x) (dx := dx) (arr := #[]) (n := n) (od := od) F hin₁ ⟨hx₁, hod1, hod2 _ (by decide +kernel)⟩ rfl rfl rfl rfl F.globals F.builtins hns₁ rfl (by decide +kernel) fun h₂ ho₂ hk₂ => ?_) (he _)) hit (hs2 _))
  have X₂ : K.In h₂ := fun b o e => hk₂ b o (X₁ b o e)
  have hx₂ := hk₂ _ _ hx₁
  refine sup_method supInit ho₂ (looks_opaque X₂ T.opq) (T.mroL X₂) (l := [.type "list", .type "object"]) (by simp [List.dropWhile]) X₂ (by rfl) ((Looks.ld hx₂).andThen (looks_mroIn X₂ T.subl)) (T.ne X₂ hx₂) (by decide +kernel) ?_
  have hx₃ : (h₂.push (boundObj "method-wrapper" "list.__init__" x)).get? x = some (accObj G.C dx #[] n) := Heap.get?_push_of_some _ hx₂
  refine callWith_bound0 (.inr rfl) (T := "method-wrapper") (id := "list.__init__") (x := x) (Heap.get?_push_size _ rfl) ?_
  refine call_bound0 (.inr rfl) (T := "method-wrapper") (x := x) (Heap.get?_push_size _ rfl) PySem.F.entry_list_init plain_linit (fun _ _ _ q => check_init q) (init_body hx₃ fun h₄ m hx₄ hs₄ => ?_)
  refine wpAt_of_wpAny (wpAny_execs_nil ?_)
  refine ⟨rfl, hR _ _ (fun b o z y e => ?_) ⟨m, hx₄⟩ ⟨od, ?_, hod2, hod3⟩⟩
  · exact (hs₄.2 b z).trans (Heap.get?_push_of_some _ (hk₂ _ _ (hk1 _ _ z y (hk _ _ e))))
  · exact (hs₄.2 dx hne).trans (Heap.get?_push_of_some _ (hk₂ _ _ hod1))
end

end
section
set_option autoImplicit false
set_option maxRecDepth 100000

noncomputable def wNew : WF := fun vs Q σ => vs = [] ∧ Q (.ref σ.length) (σ ++ [.acc []])
noncomputable def wCall0 (Wf : WF) : WE := fun Q _ σ => Wf [] Q σ
section
variable {G : Glb} {K : Frag} {cc : Addr} {cd : ClassData} {ℓ : Nat} {sc : Scope}
theorem FnOk.new (T : AccG G K cc cd) {N : Addr} (CL : AccC K G.C N) {a : Addr} {fd : FuncData} {p0 p1 p2 p3 p4 q0 q1 q2 q3 : Pos} (F : SupFn G K cc a fd (initBody p0 p1 p2 p3 p4 q0 q1 q2 q3))
    (hm : makesInL K G.C = true) (hinit : findIn K (.ref G.C) "__init__" = some (some (.ref a))) (hft : typeIn K (.ref a) = some (.type "function"))
    {pl : Env → Sem Bool} (he : MethEq (.Call (.Name "super" p0) [] [] p1) "__init__" p2 p3 [] pl) {t0 : Tok} (hb : ∀ s x, G.In s.heap → BindsTo s fd ⟨[.ref x], []⟩ [(Str.ofString "self", .ref x), (Str.ofString "initial_size", .int 0 t0)])
    (hki : fd.scope.names.lookup ("initial_size" : Str) = some .local) (hint : ∀ env : Env, env.scope = fd.scope → interactive env = false)
    (hs1 : ∀ env, swapsWith (.Name "initial_size" q2) (some (.Attribute (.Name "self" q0) "_initial_size" q1)) q3.line env = pure false)
    (hs2 : ∀ env, swapsWith (.Call (.Attribute (.Call (.Name "super" p0) [] [] p1) "__init__" p2) [] [] p3) none p4.line env = pure false) : FnOk G ℓ (.ref G.C) wNew := by
  intro A s g φ σ vs ws Q cx ok S hv hW Kc E k
  obtain ⟨rfl, hQ⟩ := hW
  have hws : ws = [] := hv
  subst hws
  have dep := cx.depth
  have hin := S.inb
  have X := T.X hin
  refine of_toks ok.toks ?_
  obtain ⟨hh, gg, d, t, os⟩ := s
  have fr0 : hh.get? hh.objs.size = none := get?_size hh
  have fr1 : hh.get? (hh.objs.size + 1) = none := by
    cases z : hh.get? (hh.objs.size + 1) with
    | none => rfl
    | some o => exact absurd (Heap.lt_size z) (Nat.not_lt.mpr (Nat.le_succ _))
  have nb : ∀ b, hh.get? b = none → G.base b = none := fun b hb => by
    cases z : G.base b with
    | none => rfl
    | some o => rw [hin b o z] at hb; cases hb
  have hk : ∀ b o, hh.get? b = some o → ((hh.push emptyDict).push (newAcc G.C hh.objs.size)).get? b = some o := fun b o e => Heap.get?_push_of_some _ (Heap.get?_push_of_some _ e)
  refine wpAny_call (make_L (makesL_of X hm) (looks_findIn X hinit) (fun self => bind_fn X self hft) (init_run T CL F he hb hki hint hs1 hs2 (by show A.depth + 1 < 1000; exact ar370 dep) (fun b o e => hk b o (hin b o e)) (x := hh.objs.size + 1) (dx := hh.objs.size) (n := 0) (by heap_get) (by heap_get) (Nat.ne_of_lt (Nat.lt_succ_self _)) (nb _ fr1) (nb _ fr0)
    fun h' tk hk' hx' hd' htk => ?_))
  obtain ⟨m, hx'⟩ := hx'
  obtain ⟨od, hd', hl1, hl2⟩ := hd'
  have up : ∀ b o, hh.get? b = some o → h'.get? b = some o := fun b o e => hk' b o (fun z => by rw [z, fr1] at e; cases e) (fun z => by rw [z, fr0] at e; cases e) (hk b o e)
  obtain ⟨u1, u2⟩ := S.un fr0
  obtain ⟨v1, v2⟩ := S.un fr1
  have v2' : ins g hh.objs.size od (hh.objs.size + 1) = none := by unfold ins; rw [if_neg (Nat.ne_of_gt (Nat.lt_succ_self _))]; exact v2
  have S' : SR G g h' φ σ := S.keeps up
  refine k _ _ _ _ _ (.ref σ.length) (((Nx.up (s := ⟨hh, gg, d, t, os⟩) up).addF fr0 u2).addM fr1) ⟨htk, ok.bare⟩ ((S'.addF u1 u2 hd').addM (m := .acc []) v1 v2' ?_) ⟨_, rfl, at_end S.len⟩ hQ
  exact ⟨hh.objs.size, #[], m, od, hx', rfl, ins_at, hl1, hl2⟩

theorem r_new (T : AccG G K cc cd) {id : Str} {np pos : Pos} (hn : FnOk G ℓ (.ref G.C) wNew) (hg : G.mg id = some (.ref G.C)) (hkp : keepIn K (.ref G.C) = true) (hk : sc.names.lookup id = some .globalImplicit) (hd : (id == ("__debug__" : Str)) = false) :
    Ev G ℓ sc (.Call (.Name id np) [] [] pos) (wCall0 wNew) := by
  intro A env own s g φ σ ρ Q cx eo R hW Kc E k
  refine wpAny_Call_NameR (Ev.glob (ℓ := ℓ) T.O hk hg (v := .raw (.ref G.C)) (fun _ _ => rfl) hd A env own s g φ σ ρ (fun v σ' => v = .raw (.ref G.C) ∧ wNew [] Q σ') cx eo R ⟨rfl, hW⟩ _ _ fun w s₁ g₁ φ₁ σ₁ v N₁ R₁ hv hQ => ?_)
  obtain ⟨rfl, hQ⟩ := hQ
  have hv' : w = .ref G.C := hv
  subst hv'
  refine callWith_K0 (T.X R₁.sr.inb) hkp ?_
  exact hn A s₁ g₁ φ₁ σ₁ [] [] _ cx R₁.ok R₁.sr rfl hQ _ _ fun w s' g' φ' σ' v N' ok' S' hv hQ => k _ _ _ _ _ v (N₁.trans N') (R₁.step N' ok' S') hv hQ
end

end
section
set_option autoImplicit false
set_option maxRecDepth 100000

theorem VRs.snoc {g : FM} {φ : List Addr} {y : V} : ∀ {ys : List V} {ws : List Value}, VRs g φ (ys ++ [y]) ws → ∃ ws' w, ws = ws' ++ [w] ∧ VRs g φ ys ws' ∧ VR g φ y w
  | [], _, h => by
    obtain ⟨w, r, rfl, h1, h2⟩ := h
    have : r = [] := h2
    subst this
    exact ⟨[], w, rfl, rfl, h1⟩
  | x :: xs, _, h => by
    obtain ⟨w, r, rfl, h1, h2⟩ := h
    obtain ⟨ws', w', rfl, h3, h4⟩ := VRs.snoc (ys := xs) h2
    exact ⟨w :: ws', w', rfl, ⟨w, ws', rfl, h1, h3⟩, h4⟩

noncomputable def wSupPop : WS := fun Q ρ σ => ∃ i ys y, ρ (Str.ofString "self") = some (.ref i) ∧ σ[i]? = some (.acc (ys ++ [y])) ∧ ys.length ≤ 2 ^ 20 ∧ Q (.rt y) ρ (σ.set i (.acc ys))
section
variable {G : Glb} {K : Frag} {cc : Addr} {cd : ClassData} {ℓ : Nat} {sc : Scope}
theorem s_supPop (T : AccG G K cc cd) {a : Addr} {fd : FuncData} {bd body : List Stmt} {p0 p1 p2 p3 p4 : Pos} (F : SupFn G K cc a fd bd) {pl : Env → Sem Bool} (he : MethEq (.Call (.Name "super" p0) [] [] p1) "pop" p2 p3 [] pl) :
    SxsAt G ℓ a fd body [.Return (some (.Call (.Attribute (.Call (.Name "super" p0) [] [] p1) "pop" p2) [] [] p3)) p4] wSupPop := by
  intro A env s g φ σ ρ Q cx eo ea R hW Kc E k
  obtain ⟨i, ys, y, hρ, hm, hl, hQ⟩ := hW
  obtain ⟨m, hns, hmm⟩ := R.fr.ns
  have hks : env.kindOf (Str.ofString "self") = some .local := by unfold Env.kindOf; rw [ea.scope]; exact F.kself
  obtain ⟨w', hw', hv1⟩ := hmm _ _ hks hρ
  obtain ⟨x, dx, arr, n, od, rfl, hφ, hx, hdx, hvs, hlk, hM⟩ := acc_obj R.sr hv1 hm
  obtain ⟨ws', wy, harr, hvy, hy⟩ := VRs.snoc hvs
  have hin := R.sr.inb
  have htok := R.ok.toks
  refine ks_wpAt_execs_cons (ks_wpAt_Return_some (ks_wpAt_MethodCall (super_at T (x := x) (dx := dx) (arr := arr) (n := n) (od := od) F hin ⟨hx, hdx, hlk _ (by decide +kernel)⟩ ea.scope ea.func ea.code ea.cells ea.globals ea.builtins hns hw' (by decide +kernel) fun h₁ ho₁ hk₁ => ?_) (he _)))
  have hin₁ : G.In h₁ := fun b o e => hk₁ b o (hin b o e)
  have X₁ := T.X hin₁
  have hx₁ := hk₁ _ _ hx
  obtain ⟨hh, gg, d, t, os⟩ := s
  refine sup_method supPop ho₁ (looks_opaque X₁ T.opq) (T.mroL X₁) (l := [.type "list", .type "object"]) (by simp [List.dropWhile]) X₁ (by rfl) ((Looks.ld hx₁).andThen (looks_mroIn X₁ T.subl)) (T.ne X₁ hx₁) (by decide +kernel) ?_
  have hx₂ : (h₁.push (boundObj "builtin_function_or_method" "list.pop" x)).get? x = some (accObj G.C dx arr n) := Heap.get?_push_of_some _ hx₁
  refine callWith_bound0 (.inl rfl) (T := "builtin_function_or_method") (id := "list.pop") (x := x) (Heap.get?_push_size _ rfl) ?_
  have hlen : ws'.length ≤ 2 ^ 20 := by rw [hvy.length]; exact hl
  refine call_bound0 (.inl rfl) (T := "builtin_function_or_method") (x := x) (Heap.get?_push_size _ rfl) PySem.F.entry_list_pop plain_lpop (fun _ _ _ q => check_pop T (fun b o e => Heap.get?_push_of_some _ (hin₁ b o e)) hx₂ q) (pop_body hx₂ harr hlen fun h₃ m₃ hx₃ hs₃ => ?_)
  have hk₃ : ∀ b o, b ≠ x → hh.get? b = some o → h₃.get? b = some o := fun b o q e => (hs₃.2 b q).trans (Heap.get?_push_of_some _ (hk₁ _ _ e))
  obtain ⟨d', arr', n', od', ho', _, hgd', hr'⟩ := hM
  rw [hx] at ho'
  cases ho'
  have hl3 : h₃.get? x ≠ none := by rw [hx₃]; simp
  have hmo : MOR G g φ h₃ x (.acc ys) := ⟨dx, ws'.toArray, m₃, od', hx₃, by simpa using hvy, hgd', hr'⟩
  have N : Nx [] (⟨hh, gg, d, t, os⟩ : Shared) ⟨h₃, gg, d, t + 1, os⟩ g g φ φ := Nx.upd (List.mem_of_getElem? hφ) hk₃ hl3
  exact k _ _ g φ _ ρ (.rt y) N.fp (R.step N ⟨Nat.le_succ_of_le htok, R.ok.bare⟩ (R.sr.upd hφ hk₃ hmo)) ⟨wy, rfl, hy⟩ hQ
end

end
section
set_option autoImplicit false
set_option maxRecDepth 100000

structure TopA (G : Glb) (P : Params) : Prop where
  T : TopG G P
  C : G.C = 150
  file : ((G.prog.main.file : Str) == Str.ofString "/claim/cut.py") = true
  top : (G.prog.main.scope.names.lookup ("super" : Str)).isSome = false
noncomputable def cd1 : ClassData := match (hd1.heap_39 P0).lookup 150 with | some o => (match o.data with | .cls c => c | _ => default) | none => default

set_option maxHeartbeats 4000000 in
theorem acc1 {G : Glb} {P : Params} (T : TopA G P) : AccG G (hd1.heap_39 P) 74 cd1 where
  O := T.T.O
  inn := T.T.K
  cls := by rw [T.C]; rfl
  mro := by rw [T.C]; rfl
  cell := ⟨_, rfl, by rw [T.C]⟩
  mgs := by rw [T.T.mg]; rfl
  mbs := T.T.mb _ _ (by decide +kernel)
  ga := by rw [T.C]; kernel_rfl
  gat := by rw [T.C]; kernel_rfl
  opq := by kernel_rfl
  sub := by rw [T.C]; kernel_rfl
  subl := by rw [T.C]; kernel_rfl
  subm := by rw [T.C]; kernel_rfl
  metac := by rw [T.C]; kernel_rfl
  popc := fun x => by kernel_rfl
  top := T.top

end
section
set_option autoImplicit false
set_option maxRecDepth 100000

section
variable {G : Glb} {P : Params} {ℓ : Nat}
theorem sup147 (T : TopA G P) : SupFn G (hd1.heap_39 P) 74 147 (fd 147) (bd 147) where
  obj := ⟨_, rfl, rfl⟩
  body := rfl
  closure := rfl
  globals := rfl
  builtins := rfl
  first := ⟨_, rfl, rfl⟩
  code := ⟨_, _, _, _, _, _, rfl, rfl, rfl, rfl, T.file, rfl⟩
  co := rfl
  gen := rfl
  kind := rfl
  nocell := by decide +kernel
  ks := by decide +kernel
  kc := by decide +kernel
  kself := by decide +kernel
theorem fn147 (T : TopA G P) : FnOk G (ℓ + 1) (.ref 147) wPc := fn_pc (acc1 T) (sup147 T) (fun _ => rfl) (fun s w => BindsTo.of_eq rfl)
theorem sup110 (T : TopA G P) : SupFn G (hd1.heap_39 P) 74 110 (fd 110) (bd 110) where
  obj := ⟨_, rfl, rfl⟩
  body := rfl
  closure := rfl
  globals := rfl
  builtins := rfl
  first := ⟨_, rfl, rfl⟩
  code := ⟨_, _, _, _, _, _, rfl, rfl, rfl, rfl, T.file, rfl⟩
  co := rfl
  gen := rfl
  kind := rfl
  nocell := by decide +kernel
  ks := by decide +kernel
  kc := by decide +kernel
  kself := by decide +kernel
theorem sup87 (T : TopA G P) : SupFn G (hd1.heap_39 P) 74 87 (fd 87) (bd 87) where
  obj := ⟨_, rfl, rfl⟩
  body := rfl
  closure := rfl
  globals := rfl
  builtins := rfl
  first := ⟨_, rfl, rfl⟩
  code := ⟨_, _, _, _, _, _, rfl, rfl, rfl, rfl, T.file, rfl⟩
  co := rfl
  gen := rfl
  kind := rfl
  nocell := by decide +kernel
  ks := by decide +kernel
  kc := by decide +kernel
  kself := by decide +kernel

noncomputable def keysB (es : Array DictEntry) : Bool := es.toList.all fun e => match e.key with | .str _ _ => true | _ => false
theorem keys_of {es : Array DictEntry} (h : keysB es = true) : StrKeys es := fun e he => by
  have := List.all_eq_true.mp h e (by simpa using he)
  cases hk : e.key with
  | str n t => exact ⟨n, t, rfl⟩
  | _ => rw [hk] at this; cases this
theorem accC1 (T : TopA G P) : AccC (hd1.heap_39 P) G.C 149 where
  obj := by rw [T.C]; exact ⟨_, _, _, _, _, _, _, _, _, _, _, _, _, rfl⟩
  ns := ⟨_, _, _, rfl, rfl, keys_of (by kernel_rfl), by kernel_rfl, by kernel_rfl⟩
theorem ownNew (T : TopA G P) : FnOk G ℓ (.ref G.C) wNew :=
  FnOk.new (acc1 T) (accC1 T) (sup87 T) (by rw [T.C]; kernel_rfl) (by rw [T.C]; kernel_rfl) (by kernel_rfl) (fun _ => rfl)
    (fun s x hin => BindsTo.of_defaults rfl (hin _ _ (T.T.K _ _ rfl)) rfl rfl rfl) (by decide +kernel) (fun env he => by unfold interactive; rw [he]; rfl) (fun _ => rfl) (fun _ => rfl)
theorem def94 (T : TopA G P) : IsDef G 94 (fd 94) (bd 94) [] := isDef T.T 94 _ rfl rfl rfl rfl rfl rfl ⟨_, _, _, _, rfl, rfl, rfl, rfl⟩ rfl rfl rfl
noncomputable def wPush : WF := fun vs Q σ => ∃ (i : Nat) (xs : List V) (a b : V), vs = [.ref i, a, b] ∧ σ[i]? = some (.acc xs) ∧ xs.length ≤ 2 ^ 20 ∧ Q .none (σ.set i (.acc (xs ++ [.tup [a, b]])))
theorem p_methA {Wo : WE} {Ws : WL} {Wf : WF} {Q : V → Sto → Prop} {ρ : Rho} {σ : Sto} (h : Wo (fun ov σ₁ => (∃ i xs, ov = .ref i ∧ σ₁[i]? = some (.acc xs)) ∧ Ws (fun vs σ₂ => Wf (ov :: vs) Q σ₂) ρ σ₁) ρ σ) : wMethA Wo Ws Wf Q ρ σ := h
theorem fn94 (T : TopA G P) : FnOk G (ℓ + 1) (.ref 94) wPush := by
  apply FnOk.mono
  apply FnOk.def T.T.O (def94 T) (ps := ["self", "fws", "string"])
  focus (intro x hx; simp only [List.mem_cons, List.not_mem_nil, or_false] at hx; rcases hx with rfl | rfl | rfl <;> walk_at "cs")
  focus (intro ws h; obtain ⟨a, b, c, rfl⟩ := len3 h; rfl)
  focus (apply s_cons; (focus (apply s_expr; (focus (apply r_accB (acc1 T) (by rw [T.C]; kernel_rfl) Mine.F.type_lapp (by decide +kernel) (FnOk.appendA (acc1 T)) (fun _ => rfl); (focus walk_at "ev"); (focus walk_at "el"); (focus exact fun _ => rfl); (focus exact fun _ => rfl); (focus exact fun _ => rfl))); (focus exact rfl); (focus exact fun _ => rfl))); (focus walk_at "es"))
  rintro vs Q σ ⟨i, xs, a, b, rfl, hm, hl, hQ⟩
  refine ⟨_, rfl, ?_⟩
  repeat' walk_at "st"
  refine p_methA ?_
  repeat' walk_at "st"
  refine ⟨⟨i, xs, rfl, hm⟩, ?_⟩
  repeat' walk_at "st"
  refine ⟨by simp, ?_⟩
  repeat' walk_at "st"
  refine ⟨i, _, xs, rfl, hm, hl, ?_⟩
  repeat' walk_at "st"
  exact hQ

noncomputable def wPop : WF := fun vs Q σ => ∃ (i : Nat) (xs : List V), vs = [.ref i] ∧ σ[i]? = some (.acc xs) ∧ xs.length ≤ 2 ^ 20 ∧ (xs = [] → Q (.tup [.str (S []), .str (S [])]) σ) ∧ (∀ ys y, xs = ys ++ [y] → Q y (σ.set i (.acc ys)))
theorem fn110 (T : TopA G P) : FnOk G (ℓ + 2) (.ref 110) wPop := by
  apply FnOk.mono
  apply FnOk.defAt (acc1 T) (sup110 T) (ps := ["self"]) (full := fun vs => if vs.length = 1 then some vs else none)
  focus (intro x hx; rw [List.mem_singleton.mp hx]; walk_at "cs")
  rotate_left
  focus
    apply SxsAt.ite
    focus (apply t_cmp; (focus (apply r_accM0 (acc1 T) (by rw [T.C]; kernel_rfl) (by kernel_rfl) rfl rfl (by decide +kernel) (fn147 T) (fun _ => rfl); (focus walk_at "ev"); (focus exact fun _ => rfl))); (focus walk_at "ev"); (focus exact rfl))
    focus walk_at "es"
    focus walk_at "es"
    focus exact s_supPop (acc1 T) (sup110 T) (fun _ => rfl)
  rotate_left
  focus
    intro s g φ σ vs ws vs' S hv h
    split at h
    · cases h
      rename_i hl
      refine ⟨ws, hv, BindsTo.of_eq ?_⟩
      have := hv.length
      obtain ⟨w, rfl⟩ := List.length_eq_one_iff.mp (this.trans hl)
      rfl
    · cases h
  rintro vs Q σ ⟨i, xs, rfl, hm, hl, h0, h1⟩
  refine ⟨_, rfl, _, rfl, ?_⟩
  repeat' walk_at "st"
  refine p_methA ?_
  repeat' walk_at "st"
  refine ⟨⟨i, xs, rfl, hm⟩, ?_⟩
  repeat' walk_at "st"
  refine ⟨i, xs, rfl, hm, ?_⟩
  repeat' walk_at "st"
  rcases List.eq_nil_or_concat xs with rfl | ⟨ys, y, rfl⟩
  · refine p_ift (by simp) ?_
    repeat' walk_at "st"
    refine ⟨by simp, ?_⟩
    repeat' walk_at "st"
    rw [show (Str.ofString "") = S [] by decide +kernel]
    exact h0 rfl
  · rw [List.concat_eq_append] at *
    refine p_iff (decide_eq_false (by simp; lia)) ?_
    repeat' walk_at "st"
    refine ⟨i, ys, y, ?_, hm, by simp at hl; lia, h1 ys y rfl⟩
    walk_at "rho"
end

end
section
set_option autoImplicit false
set_option maxRecDepth 100000

local macro_rules | `(tactic| walk_at "sn") => mkWays "?p_range6|?p_items6l|?p_items6|p_divi D0 D0|p_modi D0"

noncomputable def b2i (b : Bool) : Int := if b then 1 else 0
/-- a matrix, a row of numbers, a row of words, in the store -/
noncomputable def matAt (σ : Sto) (v : V) (W : Nat → Nat → Bool) : Prop := ∃ rows, aList σ v = some rows ∧ ∀ i, i < 6 → ∃ r, rows[i]? = some r ∧ aList σ r = some ((List.range 6).map fun j => V.int (b2i (W i j)))
noncomputable def natAt (σ : Sto) (v : V) (d : Nat → Nat) : Prop := aList σ v = some ((List.range 6).map fun i => V.int (d i : Nat))
noncomputable def strAt (σ : Sto) (v : V) (e : Nat → List Nat) : Prop := aList σ v = some ((List.range 6).map fun i => V.str (S (e i)))
noncomputable def idxAt (σ : Sto) (v : V) (ls : List Nat) : Prop := aList σ v = some (ls.map fun i => V.int (i : Nat))
theorem matAt.app {σ : Sto} {v : V} {W : Nat → Nat → Bool} (τ : Sto) (h : matAt σ v W) : matAt (σ ++ τ) v W := by
  obtain ⟨rows, h1, h2⟩ := h
  exact ⟨rows, aList_app τ h1, fun i hi => by obtain ⟨r, h3, h4⟩ := h2 i hi; exact ⟨r, h3, aList_app τ h4⟩⟩
theorem natAt_app {σ τ : Sto} {v : V} {d : Nat → Nat} (h : natAt σ v d) : natAt (σ ++ τ) v d := aList_app τ h
theorem strAt_app {σ τ : Sto} {v : V} {d : Nat → List Nat} (h : strAt σ v d) : strAt (σ ++ τ) v d := aList_app τ h
theorem get_end {σ : Sto} {m : MO} : (σ ++ [m])[σ.length]? = some m := by rw [List.getElem?_append_right (Nat.le_refl _), Nat.sub_self]; rfl
theorem strs_set' (l : List (List Nat)) (x y : List Nat) : ((l ++ [x]).map fun x => V.str (S x)).set l.length (.str (S y)) = (l ++ [y]).map fun x => V.str (S x) := by
  rw [List.map_append, List.set_append_right _ _ (by simp), List.map_append]; simp
theorem mat_item {σ : Sto} {v : V} {W : Nat → Nat → Bool} (h : matAt σ v W) {i : Nat} (hi : i < 6) : ∃ r, aItem σ v (.int (i : Nat)) = some r ∧ ∀ j, j < 6 → aItem σ r (.int (j : Nat)) = some (.int (b2i (W i j))) := by
  obtain ⟨rows, h1, h2⟩ := h
  obtain ⟨r, h3, h4⟩ := h2 i hi
  refine ⟨r, by rw [item_at h1 (by lia)]; exact h3, fun j hj => ?_⟩
  rw [item_at h4 (by lia), List.getElem?_map, List.getElem?_range hj]; rfl
theorem nat_item {σ : Sto} {v : V} {d : Nat → Nat} (h : natAt σ v d) {i : Nat} (hi : i < 6) : aItem σ v (.int (i : Nat)) = some (.int (d i : Nat)) := by
  rw [item_at h (by lia), List.getElem?_map, List.getElem?_range hi]; rfl
theorem str_item {σ : Sto} {v : V} {e : Nat → List Nat} (h : strAt σ v e) {i : Nat} (hi : i < 6) : aItem σ v (.int (i : Nat)) = some (.str (S (e i))) := by
  rw [item_at h (by lia), List.getElem?_map, List.getElem?_range hi]; rfl
theorem abc_item {σ : Sto} {i : Nat} (hi : i < 6) : aItem σ (.str (Str.ofString "abcdef")) (.int (i : Nat)) = some (.str (S [97 + i])) := by
  have e : L (Str.ofString "abcdef") = [97, 98, 99, 100, 101, 102] := by decide +kernel
  dsimp only [aItem]
  rw [e, if_pos ⟨by lia, by lia⟩, Int.toNat_natCast]
  rcases lt6c hi with rfl | rfl | rfl | rfl | rfl | rfl
  all_goals rfl
theorem items_of {σ : Sto} {v : V} {xs : List V} (h : aList σ v = some xs) : aItems σ v = some xs := by
  cases v with
  | list ys => exact h
  | ref k => exact h
  | _ => cases h
theorem gd_of {σ : Sto} {v : V} {xs : List V} (h : aList σ v = some xs) : aGd v xs σ := by
  cases v with
  | list ys => trivial
  | ref k =>
    dsimp only [aList, aGd] at h ⊢
    split at h
    · rename_i ys e; cases h; exact e
    · cases h
  | _ => trivial

/-- what is due: the reading's names -/
noncomputable def dueStep (d : Nat → Nat) (e : Nat → List Nat) (o : Nat → Bool) (p : List (List Nat) × List Nat) (i : Nat) : List (List Nat) × List Nat :=
  if o i = true then (p.1 ++ [p.2 ++ List.replicate (d i / 2) 34], (97 + i) :: e i) else (p.1, p.2 ++ List.replicate (d i / 2) 34 ++ (97 + i) :: e i)
theorem dueStep_t {d : Nat → Nat} {e : Nat → List Nat} {o : Nat → Bool} {p : List (List Nat) × List Nat} {i : Nat} (h : o i = true) : dueStep d e o p i = (p.1 ++ [p.2 ++ List.replicate (d i / 2) 34], (97 + i) :: e i) := if_pos h
theorem dueStep_f {d : Nat → Nat} {e : Nat → List Nat} {o : Nat → Bool} {p : List (List Nat) × List Nat} {i : Nat} (h : o i = false) : dueStep d e o p i = (p.1, p.2 ++ List.replicate (d i / 2) 34 ++ (97 + i) :: e i) := if_neg (by rw [h]; simp)
noncomputable def dueF (d : Nat → Nat) (e : Nat → List Nat) (o : Nat → Bool) (ls : List Nat) : List (List Nat) := let p := ls.foldl (dueStep d e o) ([], []); p.1 ++ [p.2]
noncomputable def strsV (l : List (List Nat)) : List V := l.map fun x => V.str (S x)
theorem strs_set (l : List (List Nat)) (x y : List Nat) : (strsV (l ++ [x])).set l.length (.str (S y)) = strsV (l ++ [y]) := strs_set' l x y
noncomputable def wDue : WF := fun vs Q σ => ∃ (t dv ev lv : V) (W : Nat → Nat → Bool) (d : Nat → Nat) (e : Nat → List Nat) (ls : List Nat), vs = [t, dv, ev, lv] ∧ matAt σ t W ∧ natAt σ dv d ∧ strAt σ ev e ∧ idxAt σ lv ls ∧ ls.length ≤ 6 ∧ (∀ i ∈ ls, i < 6) ∧
  (∀ i, d i ≤ 1000) ∧ (∀ i, (e i).length ≤ 2) ∧ Q (.ref σ.length) (σ ++ [.list (strsV (dueF d e (fun i => W i i) ls))])

theorem def195 {G : Glb} {P : Params} (T : TopG G P) : IsDef G 195 (fd 195) (bd 195) [] := isDef T 195 _ rfl rfl rfl rfl rfl rfl ⟨_, _, _, _, rfl, rfl, rfl, rfl⟩ rfl rfl rfl
set_option maxHeartbeats 2000000 in
theorem fn195 {G : Glb} {P : Params} (T : TopG G P) {ℓ : Nat} : FnOk G (ℓ + 1) (.ref 195) wDue := by
  apply FnOk.mono
  apply FnOk.def T.O (def195 T) (ps := ["table", "dots", "ends", "left"])
  focus (intro x hx; simp only [List.mem_cons, List.not_mem_nil, or_false] at hx; rcases hx with rfl | rfl | rfl | rfl <;> walk_at "cs")
  focus (intro ws h; obtain ⟨a, b, c, d, rfl⟩ := len4 h; rfl)
  focus (apply s_cons; (focus walk_at "e1"); (focus walk_at "es"))
  rintro vs Q σ ⟨t, dv, ev, lv, W, d, e, ls, rfl, hW, hd, he, hl, hl6, hls, hd1, he2, hQ⟩
  refine ⟨_, rfl, ?_⟩
  repeat' walk_at "st"
  refine ⟨by simp, p_mut ?_⟩
  repeat' walk_at "st"
  refine ⟨_, items_of (aList_app _ hl), ?_⟩
  refine for_all (fun i ρ σ' => ∃ p, p = (ls.take i).foldl (dueStep d e fun i => W i i) ([], []) ∧ p.2.length ≤ i * 1000 ∧ p.1.length ≤ i ∧ σ' = σ ++ [.list (strsV (p.1 ++ [p.2]))] ∧ ρ (Str.ofString "table") = some t ∧ ρ (Str.ofString "dots") = some dv ∧ ρ (Str.ofString "ends") = some ev ∧ ρ (Str.ofString "due") = some (.ref σ.length)) ⟨([], []), rfl, by simp, by simp, ?_, ?_, ?_, ?_, ?_⟩ ?_ ?_ ?_
  · rw [show (Str.ofString "") = S [] by decide +kernel]; rfl
  · walk_at "rho"
  · walk_at "rho"
  · walk_at "rho"
  · walk_at "rho"
  · rintro i ρ σ' hi ⟨p, hp, hp2, hp1, rfl, e1, e2, e3, e4⟩
    exact gd_of (aList_app _ hl)
  · rintro ρ σ' ⟨p, hp, hp2, hp1, rfl, e1, e2, e3, e4⟩
    repeat' walk_at "st"
    rw [List.length_map, List.take_length] at hp
    rw [hp]; exact hQ
  · rintro i u ρ σ' hx ⟨p, hp, hp2, hp1, rfl, e1, e2, e3, e4⟩ K hK hR
    rw [List.getElem?_map, Option.map_eq_some_iff] at hx
    obtain ⟨j, hj, rfl⟩ := hx
    have hj6 := hls j (List.mem_of_getElem? hj)
    repeat' walk_at "st"
    have hdue : aList (σ ++ [MO.list (strsV (p.fst ++ [p.snd]))]) (V.ref σ.length) = some (strsV p.1 ++ [V.str (S p.2)]) := by rw [aList_end]; simp [strsV]
    have hi6 : i < 6 := by have := (List.getElem?_eq_some_iff.mp hj).1; lia
    have hlen1 : (strsV p.1).length < 2 ^ 50 := by unfold strsV; rw [List.length_map]; lia
    have hdj := hd1 j
    have hej := he2 j
    refine ⟨_, last_item hdue hlen1, ?_⟩
    repeat' walk_at "st"
    refine ⟨_, nat_item (natAt_app hd) hj6, ?_⟩
    repeat' walk_at "st"
    rw [show Str.ofString "\"" = S [34] by decide +kernel]
    refine p_muls (by lia) (by rw [L_S]; decide) (by lia) ?_
    have hq : (List.replicate ((d j : Int) / 2).toNat (L (S [34]))).flatten = List.replicate (d j / 2) 34 := by
      rw [show ((d j : Int) / 2).toNat = d j / 2 by lia, L_S]
      induction d j / 2 with
      | zero => rfl
      | succ n ih => rw [List.replicate_succ, List.flatten_cons, ih]; rfl
    rw [hq]
    refine p_adds (by rw [L_S, L_S, List.length_replicate]; lia) ?_
    rw [L_S, L_S]
    repeat' walk_at "st"
    refine ⟨σ.length, _, -1, p.1.length, rfl, get_end, rfl, by simp [strsV]; lia, ?_, ?_⟩
    · rw [show (strsV (p.1 ++ [p.2])).length = p.1.length + 1 by simp [strsV]]; exact last_ix
    rw [set_end, strs_set]
    repeat' walk_at "st"
    obtain ⟨r, hr1, hr2⟩ := mat_item (hW.app [.list (strsV (p.1 ++ [p.2 ++ List.replicate (d j / 2) 34]))]) hj6
    refine ⟨r, hr1, ?_⟩
    repeat' walk_at "st"
    refine ⟨_, hr2 j hj6, ?_⟩
    repeat' walk_at "st"
    cases hw : W j j
    refine p_iff (by decide) ?_
    repeat' walk_at "st"
    obtain ⟨q1, h1⟩ : ∃ q1, q1 = p.1 := ⟨_, rfl⟩
    obtain ⟨q2, h2⟩ : ∃ q2, q2 = p.2 ++ List.replicate (d j / 2) 34 := ⟨_, rfl⟩
    have hstep : dueStep d e (fun i => W i i) p j = (q1, q2 ++ (97 + j) :: e j) := by rw [dueStep_f (o := fun i => W i i) hw, h1, h2]
    have hb1 : q1.length ≤ i + 1 := by rw [h1]; lia
    have hb2 : q2.length ≤ i * 1000 + 500 := by rw [h2, List.length_append, List.length_replicate]; lia
    rw [← h1, ← h2]
    rotate_left
    refine p_ift (by decide) ?_
    repeat' walk_at "st"
    refine ⟨⟨_, aList_end⟩, ?_⟩
    repeat' walk_at "st"
    refine ⟨σ.length, _, _, rfl, get_end, by simp [strsV]; lia, ?_⟩
    rw [set_end]
    repeat' walk_at "st"
    obtain ⟨q1, h1⟩ : ∃ q1, q1 = p.1 ++ [p.2 ++ List.replicate (d j / 2) 34] := ⟨_, rfl⟩
    obtain ⟨q2, h2⟩ : ∃ q2 : List Nat, q2 = [] := ⟨_, rfl⟩
    have hstep : dueStep d e (fun i => W i i) p j = (q1, q2 ++ (97 + j) :: e j) := by rw [dueStep_t (o := fun i => W i i) hw, h1, h2]; rfl
    have hb1 : q1.length ≤ i + 1 := by rw [h1, List.length_append]; simp; lia
    have hb2 : q2.length ≤ i * 1000 + 500 := by rw [h2]; simp
    rw [show strsV (p.1 ++ [p.2 ++ List.replicate (d j / 2) 34]) ++ [V.str (Str.ofString "")] = strsV (q1 ++ [q2]) by rw [h1, h2, show Str.ofString "" = S [] by decide +kernel]; simp [strsV]]
    all_goals
      have hdue' : aList (σ ++ [MO.list (strsV (q1 ++ [q2]))]) (V.ref σ.length) = some (strsV q1 ++ [V.str (S q2)]) := by rw [aList_end]; simp [strsV]
      refine ⟨_, last_item hdue' (by unfold strsV; rw [List.length_map]; lia), ?_⟩
      repeat' walk_at "st"
      refine ⟨_, abc_item hj6, ?_⟩
      repeat' walk_at "st"
      refine ⟨_, str_item (strAt_app he) hj6, ?_⟩
      repeat' walk_at "st"
      rw [L_S, L_S, L_S, L_S]
      refine ⟨σ.length, _, -1, q1.length, rfl, get_end, rfl, by simp [strsV]; lia, ?_, ?_⟩
      · rw [show (strsV (q1 ++ [q2])).length = q1.length + 1 by simp [strsV]]; exact last_ix
      rw [set_end, strs_set]
      repeat' walk_at "st"
      refine hK _ _ ⟨(q1, q2 ++ (97 + j) :: e j), ?_, ?_, hb1, ?_, ?_, ?_, ?_, ?_⟩
      · rw [List.take_add_one, hj, List.foldl_append, ← hp]; exact hstep.symm
      · simp; lia
      · simp
      · walk_at "rho"
      · walk_at "rho"
      · walk_at "rho"
      · walk_at "rho"

end
section
set_option autoImplicit false
set_option maxRecDepth 100000

section
variable {G : Glb} {P : Params} {ℓ : Nat} {sc : Scope} {np pos apos : Pos} {e o : Expr} {rest : List Expr} {Ws : WL} {Wo : WE}
theorem c_parse (T : TopG G P) (hk : sc.names.lookup (Str.ofString "parse257") = some .globalImplicit) (ha : Evs G (ℓ + 1) sc (e :: rest) Ws)
    (h1 : ∀ env, starEach (e :: rest) env = (false, eval e env) :: starEach rest env) (h2 : ∀ env, (backTo pos (starEach rest env)).any (·.1) = false) :
    Ev G (ℓ + 1) sc (.Call (.Name (Str.ofString "parse257") np) (e :: rest) [] pos) (wCall wParse Ws) :=
  c_own T.O (by rw [T.mg]; rfl) (by decide +kernel) (CallOk.def (T.K 70 _ rfl) rfl) (fn70 T) hk ha h1 h2
end
local macro_rules | `(tactic| walk_at "fn") => mkWays "@c_parse D el R1 R1"

noncomputable def repliesN : Nat → List Nat → List (List Nat)
  | 0, _ => []
  | n + 1, t => if t = [] then [] else parseB t :: repliesN n (t.drop ((parseB t).length + (parseB t).count 34 + 1))
noncomputable def repliesL (t : List Nat) : List (List Nat) := repliesN t.length t
theorem repliesN_ge : ∀ (n m : Nat) (t : List Nat), t.length ≤ n → t.length ≤ m → repliesN n t = repliesN m t
  | 0, 0, t, _, _ => rfl
  | 0, m + 1, t, h, _ => by
    have : t = [] := List.length_eq_zero_iff.mp (by lia)
    rw [this]; rfl
  | n + 1, 0, t, _, h => by
    have : t = [] := List.length_eq_zero_iff.mp (by lia)
    rw [this]; rfl
  | n + 1, m + 1, t, h1, h2 => by
    unfold repliesN
    by_cases ht : t = []
    · rw [if_pos ht, if_pos ht]
    · rw [if_neg ht, if_neg ht]
      have : 0 < t.length := List.length_pos_iff.mpr ht
      rw [repliesN_ge n m _ (by rw [List.length_drop]; lia) (by rw [List.length_drop]; lia)]
theorem repliesL_nil : repliesL [] = [] := rfl
theorem repliesL_step {t : List Nat} (h : t ≠ []) : repliesL t = parseB t :: repliesL (t.drop ((parseB t).length + (parseB t).count 34 + 1)) := by
  have : 0 < t.length := List.length_pos_iff.mpr h
  unfold repliesL
  obtain ⟨n, hn⟩ : ∃ n, t.length = n + 1 := ⟨t.length - 1, by lia⟩
  rw [hn]
  show (if t = [] then [] else _) = _
  rw [if_neg h]
  congr 1
  exact repliesN_ge _ _ _ (by rw [List.length_drop]; lia) (Nat.le_refl _)
theorem parseB_len : ∀ (n : Nat) (t : List Nat), t.length ≤ n → (parseB t).length ≤ t.length
  | _, [], _ => by simp [parseB]
  | 0, c :: r, h => by simp at h
  | n + 1, c :: r, h => by
    by_cases hc : c = 34
    · subst hc
      cases r with
      | nil => rw [parseB_e _ (by simp)]; simp
      | cons c' r' =>
        by_cases hc' : c' = 34
        · subst hc'
          rw [parseB_q]
          have := parseB_len n r' (by simp at h; lia)
          simp; lia
        · rw [parseB_e _ (by simpa using hc')]; simp
    · rw [parseB_c _ _ hc]
      have := parseB_len n r (by simp at h; lia)
      simp; lia

noncomputable def wReplies : WF := fun vs Q σ => ∃ (v : V) (rows : List (List Nat)) (b : List Nat), vs = [v, .str (S b)] ∧ aList σ v = some (strsV rows) ∧ rows.flatten.length + b.length ≤ 2 ^ 18 ∧ Q (.ref σ.length) (σ ++ [.list (strsV (repliesL (repl 46 [34] rows.flatten ++ b)))])
theorem def188 {G : Glb} {P : Params} (T : TopG G P) : IsDef G 188 (fd 188) (bd 188) [] := isDef T 188 _ rfl rfl rfl rfl rfl rfl ⟨_, _, _, _, rfl, rfl, rfl, rfl⟩ rfl rfl rfl
theorem repl1_len : ∀ (l : List Nat), (repl 46 [34] l).length = l.length
  | [] => rfl
  | a :: l => by
    have := repl1_len l
    show (repl 46 [34] ([a] ++ l)).length = _
    rw [repl_app, List.length_append, this]
    have h1 : (repl 46 [34] [a]).length = 1 := by unfold repl; rw [List.flatMap_singleton]; split <;> rfl
    rw [h1]; simp; lia
theorem map_LS (rows : List (List Nat)) : (rows.map S).map L = rows := by
  rw [List.map_map]
  conv => rhs; rw [← List.map_id rows]
  exact List.map_congr_left fun x _ => L_S x

set_option maxHeartbeats 2000000 in
theorem fn188 {G : Glb} {P : Params} (T : TopG G P) {ℓ : Nat} : FnOk G (ℓ + 2) (.ref 188) wReplies := by
  apply FnOk.mono
  apply FnOk.def T.O (def188 T) (ps := ["rows", "behind"])
  focus (intro x hx; simp only [List.mem_cons, List.not_mem_nil, or_false] at hx; rcases hx with rfl | rfl <;> walk_at "cs")
  focus (intro ws h; obtain ⟨a, b, rfl⟩ := len2 h; rfl)
  focus (apply s_cons; (focus walk_at "e1"); (focus walk_at "es"))
  rintro vs Q σ ⟨v, rows, b, rfl, hv, hsz, hQ⟩
  refine ⟨_, rfl, ?_⟩
  repeat' walk_at "st"
  have e0 : Str.ofString "" = S [] := by decide +kernel
  have e257 : L (Str.ofString "257 \"") = [50, 53, 55, 32, 34] := by decide +kernel
  have eq1 : Str.ofString "\"" = S [34] := by decide +kernel
  rw [e0]
  refine ⟨v, rows.map S, rfl, by rw [hv]; simp [strsV], by rw [map_LS]; lia, ?_⟩
  rw [map_LS]
  have hr := repl1_len rows.flatten
  repeat' walk_at "st"
  rw [L_S, L_S, L_S]
  refine ⟨by simp, p_mut ?_⟩
  repeat' walk_at "st"
  refine p_while (fun m ρ σ' => ∃ (t : List Nat) (acc : List (List Nat)), σ' = σ ++ [.list (strsV acc)] ∧ ρ (Str.ofString "text") = some (.str (S t)) ∧ ρ (Str.ofString "names") = some (.ref σ.length) ∧
    acc ++ repliesL t = repliesL (repl 46 [34] rows.flatten ++ b) ∧ t.length = m ∧ acc.length + t.length ≤ 2 ^ 18) (repl 46 [34] rows.flatten ++ b).length ⟨_, [], rfl, ?_, ?_, rfl, rfl, by rw [List.length_append, hr]; simpa using hsz⟩ ?_
  · walk_at "rho"
  · walk_at "rho"
  rintro m ρ σ' ⟨t, acc, rfl, e1, e2, hrep, rfl, hlen⟩
  repeat' walk_at "st"
  rw [L_S, L_S]
  by_cases ht : t = []
  · refine p_iff (decide_eq_false (by simp [ht])) ?_
    repeat' walk_at "st"
    rw [ht, repliesL_nil, List.append_nil] at hrep
    rw [hrep]; exact hQ
  · refine p_ift (decide_eq_true ht) ?_
    repeat' walk_at "st"
    have hpl := parseB_len _ t (Nat.le_refl _)
    refine p_adds (by rw [e257, L_S]; simp; lia) ?_
    repeat' walk_at "st"
    refine ⟨_, rfl, by rw [L_S, e257]; rfl, by rw [L_S, e257, L_S]; simp; lia, ?_⟩
    have hp : (if List.take 2 (List.drop 3 (L (S (L (Str.ofString "257 \"") ++ L (S t))))) = [32, 34] then parseB (List.drop 5 (L (S (L (Str.ofString "257 \"") ++ L (S t))))) else []) = parseB t := by
      rw [L_S, e257, L_S]; rfl
    rw [hp]
    repeat' walk_at "st"
    refine ⟨⟨_, aList_end⟩, ?_⟩
    repeat' walk_at "st"
    refine ⟨σ.length, _, _, rfl, get_end, by simp [strsV]; lia, ?_⟩
    rw [set_end]
    repeat' walk_at "st"
    rw [eq1]
    refine ⟨_, 34, rfl, ?_⟩
    rw [L_S]
    repeat' walk_at "st"
    have hpos : 0 < t.length := List.length_pos_iff.mpr ht
    have hcut : cut (L (S t)) (some (((parseB t).length : Int) + (List.count 34 (parseB t) : Nat) + 1)) none = t.drop ((parseB t).length + (parseB t).count 34 + 1) := by
      rw [L_S]
      unfold cut
      rw [show (((parseB t).length : Int) + (List.count 34 (parseB t) : Nat) + 1) = (((parseB t).length + (parseB t).count 34 + 1 : Nat) : Int) by lia]
      exact congrArg (fun k => t.drop k) (Int.toNat_natCast _)
    rw [hcut]
    refine p_whnx (t.drop ((parseB t).length + (parseB t).count 34 + 1)).length (by rw [List.length_drop]; lia) ⟨_, acc ++ [parseB t], ?_, ?_, ?_, ?_, rfl, ?_⟩
    · simp [strsV]
    · walk_at "rho"
    · walk_at "rho"
    · rw [List.append_assoc, ← hrep, repliesL_step ht]; rfl
    · rw [List.length_append, List.length_drop]; simp; lia

end
section
set_option autoImplicit false
noncomputable def EndOk (x : List Nat) : Prop := x = [13] ∨ x = [10] ∨ x = [13, 10]
noncomputable def rowL (d : Nat → Nat) (e : Nat → List Nat) (i : Nat) : List Nat := List.replicate (d i) 46 ++ (97 + i) :: e i
theorem crlfy_c {c : Nat} {r : List Nat} (h1 : c ≠ 13) (h2 : c ≠ 10) : crlfy (c :: r) = c :: crlfy r := by
  rw [crlfy]
  · rw [if_neg (by exact ar343 h2 h1)]
  · intro r' h; exact absurd h h1
theorem crlfy_cr {r : List Nat} (h : r.head? ≠ some 10) : crlfy (13 :: r) = 13 :: 10 :: crlfy r := by
  cases r with
  | nil => rfl
  | cons c r =>
    rw [crlfy]
    · rw [if_pos (.inl rfl)]
    · intro r' _ h'; injection h' with h' _; exact h (by rw [h']; rfl)
theorem crlfy_lf {r : List Nat} : crlfy (10 :: r) = 13 :: 10 :: crlfy r := by
  rw [crlfy]
  · rw [if_pos (.inr rfl)]
  · intro r' h; cases h
theorem crlfy_crlf {r : List Nat} : crlfy (13 :: 10 :: r) = 13 :: 10 :: crlfy r := by rw [crlfy]
theorem crlfy_dots (n : Nat) (r : List Nat) : crlfy (List.replicate n 46 ++ r) = List.replicate n 46 ++ crlfy r := by
  induction n with
  | zero => rfl
  | succ n ih => rw [List.replicate_succ, List.cons_append, crlfy_c (by decide) (by decide), ih]; rfl
theorem crlfy_row {d : Nat → Nat} {e : Nat → List Nat} {i : Nat} {r : List Nat} (he : EndOk (e i)) (hi : i < 6) (hr : r.head? ≠ some 10) : crlfy (rowL d e i ++ r) = List.replicate (d i) 46 ++ (97 + i) :: 13 :: 10 :: crlfy r := by
  unfold rowL
  rw [List.append_assoc, crlfy_dots, List.cons_append, crlfy_c (by exact ar344) (by exact ar345)]
  rcases he with h | h | h
  · rw [h]; show _ ++ (97 + i) :: crlfy (13 :: r) = _; rw [crlfy_cr hr]
  · rw [h]; show _ ++ (97 + i) :: crlfy (10 :: r) = _; rw [crlfy_lf]
  · rw [h]; show _ ++ (97 + i) :: crlfy (13 :: 10 :: r) = _; rw [crlfy_crlf]
theorem dotify_f {c : Nat} {r : List Nat} : dotify false (c :: r) = c :: dotify (c == 10) r := by
  rw [dotify, if_neg (by simp)]
theorem dotify_dots (n : Nat) (r : List Nat) : dotify false (List.replicate n 46 ++ r) = List.replicate n 46 ++ dotify false r := by
  induction n with
  | zero => rfl
  | succ n ih => rw [List.replicate_succ, List.cons_append, dotify_f]; show 46 :: dotify false _ = _; rw [ih]; rfl
theorem dotify_row {n i : Nat} {r : List Nat} (hi : i < 6) : dotify true (List.replicate (n + 1) 46 ++ (97 + i) :: 13 :: 10 :: r) = List.replicate (n + 2) 46 ++ (97 + i) :: 13 :: 10 :: dotify true r := by
  rw [List.replicate_succ, List.cons_append, dotify, if_pos ⟨rfl, rfl⟩, dotify_dots, dotify_f]
  have h1 : (97 + i == 10) = false := by rw [beq_eq_false_iff_ne]; exact ar345
  rw [h1, dotify_f]
  show 46 :: 46 :: (_ ++ (97 + i) :: 13 :: dotify false (10 :: r)) = _
  rw [dotify_f]
  rfl
noncomputable def sentL (d : Nat → Nat) (i : Nat) : List Nat := List.replicate (d i + 1) 46 ++ [97 + i]
theorem send_text {d : Nat → Nat} {e : Nat → List Nat} (hd : ∀ i, 1 ≤ d i) (he : ∀ i, EndOk (e i)) : ∀ {ls : List Nat}, (∀ i ∈ ls, i < 6) → dotify true (crlfy (ls.map (rowL d e)).flatten) = crlf (ls.map (sentL d))
  | [], _ => rfl
  | i :: ls, h => by
    have ih := send_text hd he (ls := ls) fun j hj => h j (List.mem_cons_of_mem _ hj)
    have hi := h i List.mem_cons_self
    rw [List.map_cons, List.flatten_cons, crlfy_row (he i) hi, List.map_cons, crlf_cons]
    · obtain ⟨n, hn⟩ : ∃ n, d i = n + 1 := ⟨d i - 1, by have := hd i; exact ar347 this⟩
      unfold sentL
      rw [hn, dotify_row hi, ih]
      unfold sentL
      simp
    · cases ls with
      | nil => simp
      | cons j ls =>
        obtain ⟨n, hn⟩ : ∃ n, d j = n + 1 := ⟨d j - 1, by have := hd j; exact ar347 this⟩
        rw [List.map_cons, List.flatten_cons]
        unfold rowL
        rw [hn, List.replicate_succ]
        simp
theorem sentL_13 {d : Nat → Nat} {i : Nat} (hi : i < 6) : 13 ∉ sentL d i := by
  unfold sentL
  rw [List.mem_append]
  rintro (h | h)
  · have := List.eq_of_mem_replicate h; exact ar348 this
  · rw [List.mem_singleton] at h; exact ar349 h

end
section
set_option autoImplicit false
set_option maxRecDepth 100000

section
variable {G : Glb} {P : Params} {ℓ : Nat} {sc : Scope} {np pos apos : Pos} {e o : Expr} {rest : List Expr} {Ws : WL} {Wo : WE}
theorem c_quote (T : TopG G P) (hk : sc.names.lookup (Str.ofString "quotedata") = some .globalImplicit) (ha : Evs G (ℓ + 1) sc (e :: rest) Ws)
    (h1 : ∀ env, starEach (e :: rest) env = (false, eval e env) :: starEach rest env) (h2 : ∀ env, (backTo pos (starEach rest env)).any (·.1) = false) :
    Ev G (ℓ + 1) sc (.Call (.Name (Str.ofString "quotedata") np) (e :: rest) [] pos) (wCall wQuote Ws) :=
  c_own T.O (by rw [T.mg]; rfl) (by decide +kernel) (CallOk.def (T.K 171 _ rfl) rfl) (fn171 T) hk ha h1 h2
end
local macro_rules | `(tactic| walk_at "fn") => mkWays "@c_quote D el R1 R1"

noncomputable def rowsV (d : Nat → Nat) (e : Nat → List Nat) : List V := (List.range 6).map fun i => V.str (S (rowL d e i))
noncomputable def dUp (d : Nat → Nat) (ls : List Nat) : Nat → Nat := fun i => if i ∈ ls then d i + 1 else d i
noncomputable def eUp (e : Nat → List Nat) (ls : List Nat) : Nat → List Nat := fun i => if i ∈ ls then [13, 10] else e i
noncomputable def wSend : WF := fun vs Q σ => ∃ (r : Nat) (ls : List Nat) (d : Nat → Nat) (e : Nat → List Nat), vs = [.ref r, .list (ls.map fun i => V.int (i : Nat))] ∧ σ[r]? = some (.list (rowsV d e)) ∧ ls.length ≤ 6 ∧ (∀ i ∈ ls, i < 6) ∧ ls.Nodup ∧ (∀ i, 1 ≤ d i ∧ d i ≤ 1000) ∧ (∀ i, EndOk (e i)) ∧
  Q .none (σ.set r (.list (rowsV (dUp d ls) (eUp e ls))))
theorem def181 {G : Glb} {P : Params} (T : TopG G P) : IsDef G 181 (fd 181) (bd 181) [] := isDef T 181 _ rfl rfl rfl rfl rfl rfl ⟨_, _, _, _, rfl, rfl, rfl, rfl⟩ rfl rfl rfl
theorem EndOk.len {x : List Nat} (h : EndOk x) : x.length ≤ 2 := by rcases h with h | h | h <;> rw [h] <;> decide
theorem rows_set {d : Nat → Nat} {e : Nat → List Nat} {i : Nat} (hi : i < 6) : (rowsV d e).set i (.str (S (sentL d i ++ [13, 10]))) = rowsV (dUp d [i]) (eUp e [i]) := by
  apply List.ext_getElem?
  intro j
  unfold rowsV
  rw [List.getElem?_set, List.getElem?_map, List.getElem?_map]
  by_cases hj : j < 6
  · rw [List.getElem?_range hj]
    by_cases hij : i = j
    · subst hij
      rw [if_pos rfl, if_pos (by simpa using hi)]
      simp only [Option.map_some]
      congr 3
      unfold sentL rowL dUp eUp
      rw [if_pos (List.mem_singleton.mpr rfl), if_pos (List.mem_singleton.mpr rfl)]
      simp
    · rw [if_neg hij]
      simp only [Option.map_some]
      congr 3
      unfold rowL dUp eUp
      rw [if_neg (by rw [List.mem_singleton]; exact fun h => hij h.symm), if_neg (by rw [List.mem_singleton]; exact fun h => hij h.symm)]
  · rw [List.getElem?_eq_none (by simp; lia)]
    by_cases hij : i = j
    · lia
    · rw [if_neg hij]; rfl
theorem flat_len {f : Nat → List Nat} {c : Nat} : ∀ {ls : List Nat}, (∀ i ∈ ls, (f i).length ≤ c) → ((ls.map f).flatten).length ≤ ls.length * c
  | [], _ => by simp
  | i :: ls, h => by
    have := flat_len (ls := ls) fun j hj => h j (List.mem_cons_of_mem _ hj)
    have := h i List.mem_cons_self
    rw [List.map_cons, List.flatten_cons, List.length_append, List.length_cons, Nat.add_mul]
    lia
theorem rowL_len {d : Nat → Nat} {e : Nat → List Nat} (hd : ∀ i, d i ≤ 1000) (he : ∀ i, EndOk (e i)) (i : Nat) : (rowL d e i).length ≤ 1003 := by
  have h1 := hd i
  have h2 := (he i).len
  unfold rowL
  rw [List.length_append, List.length_replicate, List.length_cons]
  lia
theorem crlf_len : ∀ (rows : List (List Nat)), (crlf rows).length = rows.flatten.length + 2 * rows.length
  | [] => rfl
  | r :: rows => by
    have h := crlf_len rows
    have h2 : (r ++ [13, 10]).length = r.length + 2 := by simp
    rw [crlf_cons, List.length_append, h2, h, List.flatten_cons, List.length_append]
    show _ = _ + 2 * (rows.length + 1)
    lia
theorem set_ix {n j : Nat} (h : j < n) : setIx n (j : Nat) = some j := by unfold setIx; rw [if_pos (by lia), if_pos (by lia)]; rfl
theorem rowsV_len {d : Nat → Nat} {e : Nat → List Nat} : (rowsV d e).length = 6 := by unfold rowsV; simp
theorem rng_items {σ : Sto} {n : Nat} (h : n < 2 ^ 31) : aItems σ (.rng n) = some ((List.range n).map fun i => V.int (i : Nat)) := if_pos h
theorem rng_get {n i : Nat} {v : V} (h : ((List.range n).map fun i => V.int (i : Nat))[i]? = some v) : i < n ∧ v = .int (i : Nat) := by
  rw [List.getElem?_map, Option.map_eq_some_iff] at h
  obtain ⟨j, h1, rfl⟩ := h
  obtain ⟨h2, h3⟩ := List.getElem?_eq_some_iff.mp h1
  rw [List.getElem_range] at h3
  rw [List.length_range] at h2
  exact ⟨h2, by rw [h3]⟩
theorem ref_list {σ : Sto} {r : Nat} {xs : List V} (h : σ[r]? = some (.list xs)) : aList σ (.ref r) = some xs := by dsimp only [aList]; rw [h]
theorem dUp_snoc {d : Nat → Nat} {ls : List Nat} {i : Nat} (h : i ∉ ls) : dUp (dUp d ls) [i] = dUp d (ls ++ [i]) := by
  funext j
  unfold dUp
  by_cases hj : j = i
  · subst hj; rw [if_pos (by simp), if_neg h, if_pos (by simp)]
  · by_cases hl : j ∈ ls <;> simp [hj, hl]
theorem eUp_snoc {e : Nat → List Nat} {ls : List Nat} {i : Nat} : eUp (eUp e ls) [i] = eUp e (ls ++ [i]) := by
  funext j
  unfold eUp
  by_cases hj : j = i
  · subst hj; rw [if_pos (by simp), if_pos (by simp)]
  · by_cases hl : j ∈ ls <;> simp [hj, hl]
theorem sentL_up {d : Nat → Nat} {ls : List Nat} {i : Nat} (h : i ∉ ls) : sentL (dUp d ls) i = sentL d i := by
  unfold sentL dUp; rw [if_neg h]

set_option maxHeartbeats 2000000 in
theorem fn181 {G : Glb} {P : Params} (T : TopG G P) {ℓ : Nat} : FnOk G (ℓ + 2) (.ref 181) wSend := by
  apply FnOk.mono
  apply FnOk.def T.O (def181 T) (ps := ["rows", "some"])
  focus (intro x hx; simp only [List.mem_cons, List.not_mem_nil, or_false] at hx; rcases hx with rfl | rfl <;> walk_at "cs")
  focus (intro ws h; obtain ⟨a, b, rfl⟩ := len2 h; rfl)
  focus (apply s_cons; (focus walk_at "e1"); (focus walk_at "es"))
  rintro vs Q σ ⟨r, ls, d, e, rfl, hr, hl6, hls, hnd, hd, he, hQ⟩
  refine ⟨_, rfl, ?_⟩
  repeat' walk_at "st"
  have e0 : Str.ofString "" = S [] := by decide +kernel
  have ecr : Str.ofString "\r\n" = S [13, 10] := by decide +kernel
  refine ⟨_, rfl, by simp; lia, ?_⟩
  refine comp_over _ (fun ρ => ρ (Str.ofString "rows") = some (.ref r)) (fun i => [V.str (S (rowL d e i))]) _ _ _ ?_ ?_ ?_ ?_
  · walk_at "rho"
  · trivial
  · intro i hi ρ acc K hI hK
    have hi6 := hls i hi
    repeat' walk_at "st"
    refine ⟨_, ?_, hK _ ?_⟩
    · rw [item_at (ref_list hr) (by lia)]
      unfold rowsV
      rw [List.getElem?_map, List.getElem?_range hi6]; rfl
    · walk_at "rho"
  rw [flat_single]
  refine p_frozen ?_
  repeat' walk_at "st"
  rw [e0]
  have hb1 : ((ls.map (rowL d e)).flatten).length ≤ 6 * 1003 := Nat.le_trans (flat_len fun i _ => rowL_len (fun i => (hd i).2) he i) (Nat.mul_le_mul_right _ hl6)
  have hts : ((ls.map fun i => S (rowL d e i)).map L).flatten = (ls.map (rowL d e)).flatten := by
    rw [List.map_map]; rfl
  refine ⟨_, ls.map fun i => S (rowL d e i), rfl, by rw [List.map_map]; rfl, by rw [hts]; lia, ?_⟩
  rw [hts]
  repeat' walk_at "st"
  refine ⟨_, rfl, by rw [L_S]; lia, ?_⟩
  rw [L_S, send_text (fun i => (hd i).1) he hls]
  repeat' walk_at "st"
  rw [ecr]
  refine ⟨ls.map (sentL d), rfl, ?_, ?_, p_frozen ?_⟩
  · intro x hx
    obtain ⟨i, hi, rfl⟩ := List.mem_map.mp hx
    exact sentL_13 (hls i hi)
  · rw [crlf_len]
    have : ((ls.map (sentL d)).flatten).length ≤ ls.length * 1003 := flat_len fun i _ => by have := (hd i).2; unfold sentL; simp; lia
    have : ls.length * 1003 ≤ 6 * 1003 := Nat.mul_le_mul_right _ hl6
    rw [List.length_map]; lia
  repeat' walk_at "st"
  refine ⟨_, ls.length, rfl, by simp [aLen], by lia, ?_⟩
  repeat' walk_at "st"
  refine ⟨ls.length, rfl, ?_⟩
  refine ⟨_, rng_items (by lia), ?_⟩
  refine for_all (fun k ρ σ' => σ' = σ.set r (.list (rowsV (dUp d (ls.take k)) (eUp e (ls.take k)))) ∧ ρ (Str.ofString "rows") = some (.ref r) ∧ ρ (Str.ofString "some") = some (.list (ls.map fun i => V.int (i : Nat))) ∧
    ρ (Str.ofString "sent") = some (V.list (List.map V.str (List.map S (List.map (sentL d) ls) ++ [S []])))) ⟨?_, ?_, ?_, ?_⟩ (fun _ _ _ _ _ => trivial) ?_ ?_
  · rw [List.take_zero]
    have h1 : dUp d [] = d := by funext i; unfold dUp; simp
    have h2 : eUp e [] = e := by funext i; unfold eUp; simp
    rw [h1, h2]
    apply List.ext_getElem?
    intro j
    rw [List.getElem?_set]
    by_cases hj : r = j
    · subst hj; rw [if_pos rfl, if_pos (List.getElem?_eq_some_iff.mp hr).1]; exact hr
    · rw [if_neg hj]
  · walk_at "rho"
  · walk_at "rho"
  · walk_at "rho"
  · rintro ρ σ' ⟨rfl, e1, e2, e3⟩
    repeat' walk_at "st"
    rw [List.length_map, List.length_range, List.take_length]
    exact hQ
  · rintro k u ρ σ' hx ⟨rfl, e1, e2, e3⟩ K hK hR
    obtain ⟨hk, rfl⟩ := rng_get hx
    have hj := List.getElem?_eq_getElem hk
    have hjm := List.getElem_mem hk
    generalize ls[k] = j at hj hjm
    have hj6 := hls j hjm
    have hnot : j ∉ ls.take k := by
      intro hm
      obtain ⟨i, hi, he⟩ := List.mem_iff_getElem.mp hm
      rw [List.getElem_take] at he
      rw [List.length_take] at hi
      obtain ⟨_, he'⟩ := List.getElem?_eq_some_iff.mp hj
      have := (List.getElem_inj hnd).mp (he.trans he'.symm)
      lia
    repeat' walk_at "st"
    refine ⟨V.str (S (sentL d j)), ?_, ?_⟩
    · rw [item_at (xs := List.map V.str (List.map S (List.map (sentL d) ls) ++ [S []])) rfl (by lia), List.getElem?_map, List.getElem?_append_left (by simpa using hk), List.getElem?_map, List.getElem?_map, hj]; rfl
    repeat' walk_at "st"
    have hdj := (hd j).2
    have hrl := (List.getElem?_eq_some_iff.mp hr).1
    refine p_adds (by rw [L_S, L_S]; unfold sentL; simp; lia) ?_
    rw [L_S, L_S]
    repeat' walk_at "st"
    refine ⟨V.int (j : Nat), ?_, ?_⟩
    · rw [item_at (xs := ls.map fun i => V.int (i : Nat)) rfl (by lia), List.getElem?_map, hj]; rfl
    refine ⟨r, _, j, j, rfl, by rw [List.getElem?_set, if_pos rfl, if_pos hrl], rfl, by rw [rowsV_len]; decide, by rw [rowsV_len]; exact set_ix hj6, ?_⟩
    rw [List.set_set, ← sentL_up (d := d) hnot, rows_set hj6, dUp_snoc hnot, eUp_snoc]
    repeat' walk_at "st"
    refine hK _ _ ⟨?_, ?_, ?_, ?_⟩
    · rw [List.take_add_one, hj]; rfl
    · walk_at "rho"
    · walk_at "rho"
    · walk_at "rho"

end
section
set_option autoImplicit false
set_option maxRecDepth 100000

section
variable {G : Glb} {P : Params} {ℓ : Nat} {sc : Scope} {np pos apos : Pos} {e o : Expr} {rest : List Expr} {Ws : WL} {Wo : WE}
theorem c_pop (T : TopA G P) {pl : Env → Sem Bool} (he : MethEq o "pop" apos pos [] pl) (ho : Ev G (ℓ + 2) sc o Wo) (h0 : ∀ env, attributeBase o (Str.ofString "pop") env (eval o env) = eval o env) :
    Ev G (ℓ + 2) sc (.Call (.Attribute o (Str.ofString "pop") apos) [] [] pos) (wMethA Wo lNil wPop) :=
  r_accM0 (acc1 T) (by rw [T.C]; kernel_rfl) (by kernel_rfl) rfl rfl (by decide +kernel) (fn110 T) he ho h0
end
local macro_rules | `(tactic| walk_at "fn") => mkWays "@c_pop R1 ev R1"
local macro_rules | `(tactic| walk_at "sn") => mkWays "?p_methA|p_divi D0 D0|p_modi D0"

noncomputable def pileV (p : List Nat × Nat) : V := .tup [.str (S (p.1.map (97 + ·))), .str (S [97 + p.2])]
noncomputable def pressF : List (List Nat × Nat) → List Nat → List Nat
  | [], acc => acc
  | p :: r, acc => pressF r (if (p.1.filter (· ∈ acc)).length % 2 = 0 then acc ++ [p.2] else acc)
noncomputable def nearL : List (List Nat × Nat) → List Nat
  | [] => []
  | p :: _ => p.1.map (97 + ·)
noncomputable def nameL : List (List Nat × Nat) → List Nat
  | [] => []
  | p :: _ => [97 + p.2]
theorem pop_word {Q : V → Sto → Prop} {σ : Sto} {k : Nat} {l : List (List Nat × Nat)} (hk : σ[k]? = some (.acc (l.reverse.map pileV))) (hl : l.length ≤ 6) (hQ : Q (.tup [.str (S (nearL l)), .str (S (nameL l))]) (σ.set k (.acc (l.tail.reverse.map pileV)))) : wPop [.ref k] Q σ := by
  refine ⟨k, _, rfl, hk, by simp; lia, fun h => ?_, fun ys y h => ?_⟩
  · cases l with
    | nil =>
      have : σ.set k (.acc (([] : List (List Nat × Nat)).reverse.map pileV)) = σ := by
        apply List.ext_getElem?
        intro j
        rw [List.getElem?_set]
        by_cases hj : k = j
        · subst hj; rw [if_pos rfl, if_pos (List.getElem?_eq_some_iff.mp hk).1]; exact hk.symm
        · rw [if_neg hj]
      rw [show ([] : List (List Nat × Nat)).tail = [] from rfl, this] at hQ
      exact hQ
    | cons p l => simp at h
  · cases l with
    | nil => simp at h
    | cons p l =>
      rw [List.reverse_cons, List.map_append] at h
      obtain ⟨h1, h2⟩ := List.append_inj' h (by simp)
      simp at h2
      rw [← h1, ← h2]
      exact hQ
theorem flat_filter {α β : Type} (P : α → Prop) [DecidablePred P] (f : α → β) : ∀ l : List α, (l.map fun a => if P a then [f a] else []).flatten = (l.filter P).map f
  | [] => rfl
  | a :: l => by
    rw [List.map_cons, List.flatten_cons, flat_filter P f l]
    by_cases h : P a
    · rw [if_pos h, List.filter_cons_of_pos (by simpa using h)]; rfl
    · rw [if_neg h, List.filter_cons_of_neg (by simpa using h)]; rfl
theorem near_count (a acc : List Nat) : ((a.map (97 + ·)).filter (· ∈ acc.map (97 + ·))).length = (a.filter (· ∈ acc)).length := by
  induction a with
  | nil => rfl
  | cons c a ih =>
    rw [List.map_cons, List.filter_cons, List.filter_cons]
    have : decide (97 + c ∈ acc.map (97 + ·)) = decide (c ∈ acc) := by
      rw [decide_eq_decide, List.mem_map]
      exact ⟨fun ⟨x, hx, e⟩ => by have : x = c := by lia
                                  exact this ▸ hx, fun h => ⟨c, h, rfl⟩⟩
    rw [this]
    split
    · rw [List.length_cons, List.length_cons, ih]
    · exact ih
noncomputable def wPressed : WF := fun vs Q σ => ∃ (k : Nat) (ps : List (List Nat × Nat)), vs = [.ref k] ∧ σ[k]? = some (.acc (ps.map pileV)) ∧ ps.length ≤ 6 ∧ (∀ p ∈ ps, p.1.length ≤ 6) ∧ Q (.str (S ((pressF ps.reverse []).map (97 + ·)))) (σ.set k (.acc []))
theorem def205 {G : Glb} {P : Params} (T : TopG G P) : IsDef G 205 (fd 205) (bd 205) [] := isDef T 205 _ rfl rfl rfl rfl rfl rfl ⟨_, _, _, _, rfl, rfl, rfl, rfl⟩ rfl rfl rfl

set_option maxHeartbeats 2000000 in
theorem fn205 {G : Glb} {P : Params} (T : TopA G P) {ℓ : Nat} : FnOk G (ℓ + 3) (.ref 205) wPressed := by
  have T' := T.T
  apply FnOk.mono
  apply FnOk.def T'.O (def205 T') (ps := ["pile"])
  focus (intro x hx; rw [List.mem_singleton.mp hx]; walk_at "cs")
  focus (intro ws h; obtain ⟨w, rfl⟩ := List.length_eq_one_iff.mp h; rfl)
  focus (apply s_cons; (focus walk_at "e1"); (focus walk_at "es"))
  rintro vs Q σ ⟨k, ps, rfl, hk, hl6, hps, hQ⟩
  refine ⟨_, rfl, ?_⟩
  repeat' walk_at "st"
  have e0 : Str.ofString "" = S [] := by decide +kernel
  have hkl := (List.getElem?_eq_some_iff.mp hk).1
  refine ⟨⟨k, _, rfl, hk⟩, ?_⟩
  repeat' walk_at "st"
  refine pop_word (l := ps.reverse) (by rw [List.reverse_reverse]; exact hk) (by rw [List.length_reverse]; exact hl6) ?_
  repeat' walk_at "st"
  rw [e0]
  refine p_while (fun m ρ σ' => ∃ (l : List (List Nat × Nat)) (acc : List Nat), σ' = σ.set k (.acc (l.tail.reverse.map pileV)) ∧ ρ (Str.ofString "pile") = some (.ref k) ∧ ρ (Str.ofString "near") = some (.str (S (nearL l))) ∧ ρ (Str.ofString "name") = some (.str (S (nameL l))) ∧
    ρ (Str.ofString "pressed") = some (.str (S (acc.map (97 + ·)))) ∧ pressF l acc = pressF ps.reverse [] ∧ l.length = m ∧ l.length ≤ 6 ∧ (∀ p ∈ l, p.1.length ≤ 6) ∧ acc.length + l.length ≤ 6) ps.reverse.length ⟨ps.reverse, [], rfl, ?_, ?_, ?_, ?_, rfl, rfl, by simpa using hl6, fun p hp => hps p (by simpa using hp), by simpa using hl6⟩ ?_
  · walk_at "rho"
  · walk_at "rho"
  · walk_at "rho"
  · show _ = some (V.str (S []))
    walk_at "rho"
  rintro m ρ σ' ⟨l, acc, rfl, e1, e2, e3, e4, hp, rfl, hl, hll, hacc⟩
  repeat' walk_at "st"
  rw [L_S, L_S]
  cases l with
  | nil =>
    refine p_iff (decide_eq_false (by simp [nameL])) ?_
    repeat' walk_at "st"
    rw [show acc = pressF ps.reverse [] from hp]
    exact hQ
  | cons p l =>
    refine p_ift (decide_eq_true (by simp [nameL])) ?_
    repeat' walk_at "st"
    have hp6 := hll p List.mem_cons_self
    have hitems : aItems (List.set σ k (MO.acc (List.map pileV (p :: l).tail.reverse))) (V.str (S (nearL (p :: l)))) = some ((p.1.map (97 + ·)).map fun c => V.str (S [c])) := by
      show some _ = some _
      rfl
    refine ⟨_, hitems, by simp; lia, ?_⟩
    refine comp_over _ (fun ρ => ρ (Str.ofString "pressed") = some (.str (S (acc.map (97 + ·))))) (fun c => if c ∈ acc.map (97 + ·) then [V.str (S [c])] else []) _ _ _ ?_ ?_ ?_ ?_
    · walk_at "rho"
    · trivial
    · intro c hc ρ' acc' K hI hK
      repeat' walk_at "st"
      rw [txt_contains, L_S]
      by_cases hm : c ∈ acc.map (97 + ·)
      · refine p_ift (decide_eq_true hm) ?_
        repeat' walk_at "st"
        have := hK (upd ρ' (Str.ofString "one") (V.str (S [c]))) (by walk_at "rho")
        rw [if_pos hm] at this
        exact this
      · refine p_iff (decide_eq_false hm) ?_
        have := hK (upd ρ' (Str.ofString "one") (V.str (S [c]))) (by walk_at "rho")
        rw [if_neg hm, List.append_nil] at this
        exact this
    rw [flat_filter]
    refine p_frozen ?_
    repeat' walk_at "st"
    refine ⟨_, (p.1.filter (· ∈ acc)).length, rfl, ?_, ?_, ?_⟩
    · show some _ = some _
      rw [List.nil_append, List.length_map, near_count]
    · have := List.length_filter_le (· ∈ acc) p.1
      lia
    repeat' walk_at "st"
    have hstep : pressF (p :: l) acc = pressF l (if (p.1.filter (· ∈ acc)).length % 2 = 0 then acc ++ [p.2] else acc) := rfl
    simp only [List.length_cons] at hacc hl
    by_cases hc : (p.1.filter (· ∈ acc)).length % 2 = 0
    refine p_ift (decide_eq_true (by lia)) ?_
    repeat' walk_at "st"
    refine p_adds (by rw [L_S, L_S]; simp [nameL]; lia) ?_
    repeat' walk_at "st"
    rw [L_S, L_S]
    obtain ⟨acc1, ha1⟩ : ∃ a, a = acc ++ [p.2] := ⟨_, rfl⟩
    rw [if_pos hc, ← ha1] at hstep
    have hal : acc1.length + l.length ≤ 6 := by rw [ha1, List.length_append]; simp; lia
    rw [show acc.map (97 + ·) ++ nameL (p :: l) = acc1.map (97 + ·) by rw [ha1]; simp [nameL]]
    rotate_left
    refine p_iff (decide_eq_false (by lia)) ?_
    repeat' walk_at "st"
    obtain ⟨acc1, ha1⟩ : ∃ a, a = acc := ⟨_, rfl⟩
    rw [if_neg hc, ← ha1] at hstep
    have hal : acc1.length + l.length ≤ 6 := by rw [ha1]; lia
    rw [← ha1] at e4
    all_goals
      have hk' : (σ.set k (.acc (List.map pileV (p :: l).tail.reverse)))[k]? = some (.acc (l.reverse.map pileV)) := by rw [List.getElem?_set, if_pos rfl, if_pos hkl]; rfl
      refine ⟨⟨k, _, rfl, hk'⟩, ?_⟩
      repeat' walk_at "st"
      refine pop_word (l := l) hk' (by lia) ?_
      rw [List.set_set]
      repeat' walk_at "st"
      refine p_whnx l.length (by simp) ⟨l, acc1, rfl, ?_, ?_, ?_, ?_, hstep.symm.trans (by first | exact hp | (rw [ha1]; exact hp)), rfl, by lia, fun q hq => hll q (List.mem_cons_of_mem _ hq), hal⟩
      · walk_at "rho"
      · walk_at "rho"
      · walk_at "rho"
      · walk_at "rho"

end
section
set_option autoImplicit false
set_option maxRecDepth 100000

section
variable {G : Glb} {P : Params} {ℓ : Nat} {sc : Scope} {np pos apos : Pos} {e o : Expr} {rest : List Expr} {Ws : WL} {Wo : WE}
theorem c_send (T : TopG G P) (hk : sc.names.lookup (Str.ofString "_law_send") = some .globalImplicit) (ha : Evs G (ℓ + 2) sc (e :: rest) Ws)
    (h1 : ∀ env, starEach (e :: rest) env = (false, eval e env) :: starEach rest env) (h2 : ∀ env, (backTo pos (starEach rest env)).any (·.1) = false) :
    Ev G (ℓ + 2) sc (.Call (.Name (Str.ofString "_law_send") np) (e :: rest) [] pos) (wCall wSend Ws) :=
  c_own T.O (by rw [T.mg]; rfl) (by decide +kernel) (CallOk.def (T.K 181 _ rfl) rfl) (fn181 T) hk ha h1 h2
end
local macro_rules | `(tactic| walk_at "fn") => mkWays "@c_send D el R1 R1"
local macro_rules | `(tactic| walk_at "sn") => mkWays "?p_range6|?p_items6l|?p_items6|p_divi D0 D0|p_modi D0"

noncomputable def natV (d : Nat → Nat) : List V := (List.range 6).map fun i => V.int (d i : Nat)
noncomputable def someOf (W : Nat → Nat → Bool) (x : Nat) : List Nat := (List.range 6).filter fun j => W x j
noncomputable def chD (W : Nat → Nat → Bool) (xs : List Nat) : Nat → Nat := xs.foldl (fun d x => dUp d (someOf W x)) (fun _ => 2)
noncomputable def crE : Nat → List Nat := fun _ => [13, 10]
noncomputable def wChanged : WF := fun vs Q σ => ∃ (W : Nat → Nat → Bool) (xs : List Nat), vs = [vMat fun i j => b2i (W i j), .str (S (xs.map (97 + ·)))] ∧ (∀ x ∈ xs, x < 6) ∧ xs.length ≤ 6 ∧
  Q (.tup [.ref σ.length, .ref (σ.length + 1)]) (σ ++ [.list (rowsV (chD W xs) crE), .list (natV (chD W xs))])
theorem def210 {G : Glb} {P : Params} (T : TopG G P) : IsDef G 210 (fd 210) (bd 210) [] := isDef T 210 _ rfl rfl rfl rfl rfl rfl ⟨_, _, _, _, rfl, rfl, rfl, rfl⟩ rfl rfl rfl
theorem two_0 {σ : Sto} {a b : MO} : (σ ++ [a, b])[σ.length]? = some a := by rw [List.getElem?_append_right (Nat.le_refl _), Nat.sub_self]; rfl
theorem two_1 {σ : Sto} {a b : MO} : (σ ++ [a, b])[σ.length + 1]? = some b := by rw [List.getElem?_append_right (by lia), show σ.length + 1 - σ.length = 1 by lia]; rfl
theorem two_s0 {σ : Sto} {a b a' : MO} : (σ ++ [a, b]).set σ.length a' = σ ++ [a', b] := by rw [List.set_append_right _ _ (Nat.le_refl _), Nat.sub_self]; rfl
theorem two_s1 {σ : Sto} {a b b' : MO} : (σ ++ [a, b]).set (σ.length + 1) b' = σ ++ [a, b'] := by rw [List.set_append_right _ _ (by lia), show σ.length + 1 - σ.length = 1 by lia]; rfl
theorem abc_ix {i : Nat} (h : i < 6) : ∃ rest, Builtin.Str.occurrences (Str.ofString "abcdef") (S [97 + i]) 0 (Str.ofString "abcdef").length 1 = i :: rest := by
  rcases lt6c h with rfl | rfl | rfl | rfl | rfl | rfl
  all_goals exact ⟨[], by decide +kernel⟩

theorem natV_len {d : Nat → Nat} : (natV d).length = 6 := by unfold natV; simp
theorem natV_set {d : Nat → Nat} {i : Nat} (hi : i < 6) : (natV d).set i (.int ((d i : Nat) + 1 : Int)) = natV (dUp d [i]) := by
  apply List.ext_getElem?
  intro j
  unfold natV
  rw [List.getElem?_set, List.getElem?_map, List.getElem?_map]
  by_cases hj : j < 6
  · rw [List.getElem?_range hj]
    by_cases hij : i = j
    · subst hij
      rw [if_pos rfl, if_pos (by simpa using hi)]
      simp only [Option.map_some]
      unfold dUp
      rw [if_pos (List.mem_singleton.mpr rfl)]
      congr 2
    · rw [if_neg hij]
      simp only [Option.map_some]
      unfold dUp
      rw [if_neg (by rw [List.mem_singleton]; exact fun h => hij h.symm)]
  · rw [List.getElem?_eq_none (by simp; lia)]
    by_cases hij : i = j
    · lia
    · rw [if_neg hij]; rfl
theorem dUp_nil {d : Nat → Nat} : dUp d [] = d := by funext i; unfold dUp; simp
theorem eUp_cr {ls : List Nat} : eUp crE ls = crE := by funext i; unfold eUp crE; simp
theorem some_nodup {W : Nat → Nat → Bool} {x : Nat} : (someOf W x).Nodup := List.Pairwise.filter _ List.nodup_range
theorem some_lt {W : Nat → Nat → Bool} {x i : Nat} (h : i ∈ someOf W x) : i < 6 := List.mem_range.mp (List.mem_filter.mp h).1
theorem some_len {W : Nat → Nat → Bool} {x : Nat} : (someOf W x).length ≤ 6 := Nat.le_trans (List.length_filter_le _ _) (by simp)
theorem chD_snoc {W : Nat → Nat → Bool} {xs : List Nat} {x : Nat} : chD W (xs ++ [x]) = dUp (chD W xs) (someOf W x) := by unfold chD; rw [List.foldl_append]; rfl
theorem chD_le {W : Nat → Nat → Bool} : ∀ (xs : List Nat) (d : Nat → Nat) (n : Nat), (∀ i, 1 ≤ d i ∧ d i ≤ n) → ∀ i, 1 ≤ (xs.foldl (fun d x => dUp d (someOf W x)) d) i ∧ (xs.foldl (fun d x => dUp d (someOf W x)) d) i ≤ n + xs.length
  | [], d, n, h, i => ⟨(h i).1, (h i).2⟩
  | x :: xs, d, n, h, i => by
    have := chD_le (W := W) xs (dUp d (someOf W x)) (n + 1) (fun j => by have := h j; unfold dUp; split <;> lia) i
    rw [List.foldl_cons, List.length_cons]
    lia
set_option maxHeartbeats 2000000 in
theorem fn210 {G : Glb} {P : Params} (T : TopG G P) {ℓ : Nat} : FnOk G (ℓ + 3) (.ref 210) wChanged := by
  apply FnOk.mono
  apply FnOk.def T.O (def210 T) (ps := ["joined", "pressed"])
  focus (intro x hx; simp only [List.mem_cons, List.not_mem_nil, or_false] at hx; rcases hx with rfl | rfl <;> walk_at "cs")
  focus (intro ws h; obtain ⟨a, b, rfl⟩ := len2 h; rfl)
  focus (apply s_cons; (focus walk_at "e1"); (focus walk_at "es"))
  rintro vs Q σ ⟨W, xs, rfl, hxs, hl6, hQ⟩
  refine ⟨_, rfl, ?_⟩
  repeat' walk_at "st"
  have ecr : Str.ofString "\r\n" = S [13, 10] := by decide +kernel
  have edd : Str.ofString ".." = S [46, 46] := by decide +kernel
  have eabc : L (Str.ofString "abcdef") = [97, 98, 99, 100, 101, 102] := by decide +kernel
  refine ⟨[97, 98, 99, 100, 101, 102].map fun c => V.str (S [c]), ?_, by decide, ?_⟩
  · show some ((L (Str.ofString "abcdef")).map fun c => V.str (S [c])) = _
    rw [eabc]
  refine comp_over _ (fun _ => True) (fun c => [V.str (S [46, 46, c, 13, 10])]) _ _ _ trivial trivial ?_ ?_
  · intro c hc ρ acc K _ hK
    repeat' walk_at "st"
    rw [ecr, edd]
    refine p_adds (by rw [L_S, L_S]; simp) ?_
    repeat' walk_at "st"
    rw [L_S, L_S, L_S, L_S]
    exact hK _ trivial
  rw [flat_single]
  refine p_mut ?_
  have hrows : ([] : List V) ++ [97, 98, 99, 100, 101, 102].map (fun c => V.str (S [46, 46, c, 13, 10])) = rowsV (chD W []) crE := by rfl
  rw [hrows]
  repeat' walk_at "st"
  refine ⟨by decide, p_frozen ?_⟩
  repeat' walk_at "st"
  refine BinR.mulL ⟨[.int 2], rfl, by decide, by decide, by decide, p_mut ?_⟩
  repeat' walk_at "st"
  have hst : σ ++ [MO.list (rowsV (chD W []) crE)] ++ [MO.list (List.replicate (Int.toNat 6) [V.int 2]).flatten] = σ ++ [.list (rowsV (chD W []) crE), .list (natV (chD W []))] := by rw [List.append_assoc]; rfl
  rw [hst, show (σ ++ [MO.list (rowsV (chD W []) crE)]).length = σ.length + 1 by simp]
  refine ⟨(xs.map (97 + ·)).map fun c => V.str (S [c]), rfl, ?_⟩
  refine for_all (fun k ρ σ' => σ' = σ ++ [.list (rowsV (chD W (xs.take k)) crE), .list (natV (chD W (xs.take k)))] ∧ ρ (Str.ofString "joined") = some (vMat fun i j => b2i (W i j)) ∧ ρ (Str.ofString "rows") = some (.ref σ.length) ∧ ρ (Str.ofString "dots") = some (.ref (σ.length + 1))) ⟨rfl, ?_, ?_, ?_⟩ (fun _ _ _ _ _ => trivial) ?_ ?_
  · walk_at "rho"
  · walk_at "rho"
  · walk_at "rho"
  · rintro ρ σ' ⟨rfl, e1, e2, e3⟩
    repeat' walk_at "st"
    refine ⟨by simp, ?_⟩
    rw [List.length_map, List.length_map, List.take_length]
    repeat' walk_at "st"
    exact hQ
  · rintro k u ρ σ' hx ⟨rfl, e1, e2, e3⟩ K hK hR
    rw [List.map_map, List.getElem?_map, Option.map_eq_some_iff] at hx
    obtain ⟨x, hx, rfl⟩ := hx
    have hx6 := hxs x (List.mem_of_getElem? hx)
    have hk6 : k < xs.length := (List.getElem?_eq_some_iff.mp hx).1
    have hd := chD_le (W := W) (xs.take k) (fun _ => 2) 2 (fun _ => ⟨by decide, by decide⟩)
    rw [show xs.take (k + 1) = xs.take k ++ [x] by rw [List.take_add_one, hx]; rfl] at hK
    rw [chD_snoc] at hK
    have hdk : ∀ i, 1 ≤ chD W (xs.take k) i ∧ chD W (xs.take k) i ≤ 1000 := fun i => by
      have := hd i
      rw [List.length_take] at this
      unfold chD
      lia
    generalize chD W (xs.take k) = d at hK hdk
    dsimp only [Function.comp]
    repeat' walk_at "st"
    refine comp_over _ (fun ρ => ρ (Str.ofString "joined") = some (vMat fun i j => b2i (W i j)) ∧ ρ (Str.ofString "name") = some (V.str (S [97 + x]))) (fun i => if W x i = true then [V.int (i : Nat)] else []) _ _ _ ⟨?_, ?_⟩ ?_ ?_ ?_
    · walk_at "rho"
    · walk_at "rho"
    · trivial
    · rintro i hi ρ' acc K' ⟨f1, f2⟩ hK'
      have hi6 := List.mem_range.mp hi
      repeat' walk_at "st"
      obtain ⟨rest, hocc⟩ := abc_ix hx6
      refine ⟨_, _, x, rest, rfl, hocc, ?_⟩
      refine ⟨_, mat_at hx6, ?_⟩
      repeat' walk_at "st"
      refine ⟨_, row_at hi6, ?_⟩
      repeat' walk_at "st"
      cases hw : W x i
      · refine p_iff (by decide) ?_
        have := hK' (upd ρ' (Str.ofString "one") (V.int (i : Nat))) ⟨by walk_at "rho", by walk_at "rho"⟩
        rw [hw, if_neg (by decide), List.append_nil] at this
        exact this
      · refine p_ift (by decide) ?_
        repeat' walk_at "st"
        have := hK' (upd ρ' (Str.ofString "one") (V.int (i : Nat))) ⟨by walk_at "rho", by walk_at "rho"⟩
        rw [hw, if_pos rfl] at this
        exact this
    rw [flat_filter (fun i => W x i = true)]
    refine p_frozen ?_
    repeat' walk_at "st"
    have hsome : ([] : List V) ++ List.map (fun i => V.int ((i : Nat) : Int)) (List.filter (fun b => decide (W x b = true)) (List.range 6)) = (someOf W x).map fun i => V.int (i : Nat) := by
      rw [List.nil_append]
      unfold someOf
      congr 1
      exact List.filter_congr fun i _ => by simp
    rw [hsome]
    refine ⟨σ.length, someOf W x, d, crE, rfl, two_0, some_len, fun i hi => some_lt hi, some_nodup, hdk, fun _ => .inr (.inr rfl), ?_⟩
    rw [two_s0, eUp_cr]
    repeat' walk_at "st"
    refine ⟨_, rfl, ?_⟩
    refine for_all (fun t ρ σ' => σ' = σ ++ [.list (rowsV (dUp d (someOf W x)) crE), .list (natV (dUp d ((someOf W x).take t)))] ∧ ρ (Str.ofString "joined") = some (vMat fun i j => b2i (W i j)) ∧ ρ (Str.ofString "rows") = some (.ref σ.length) ∧ ρ (Str.ofString "dots") = some (.ref (σ.length + 1))) ⟨?_, ?_, ?_, ?_⟩ (fun _ _ _ _ _ => trivial) ?_ ?_
    · rw [List.take_zero, dUp_nil]
    · walk_at "rho"
    · walk_at "rho"
    · walk_at "rho"
    · rintro ρ' σ' ⟨rfl, f1, f2, f3⟩
      repeat' walk_at "st"
      refine hK _ _ ⟨?_, f1, f2, f3⟩
      rw [List.length_map, List.take_length]
    · rintro t u ρ' σ' hu ⟨rfl, f1, f2, f3⟩ K' hK' _
      rw [List.getElem?_map, Option.map_eq_some_iff] at hu
      obtain ⟨i, hi, rfl⟩ := hu
      have him := List.mem_of_getElem? hi
      have hi6 := some_lt him
      have ht := (List.getElem?_eq_some_iff.mp hi).1
      have hnot : i ∉ (someOf W x).take t := by
        intro hm
        obtain ⟨j, hj, he⟩ := List.mem_iff_getElem.mp hm
        rw [List.getElem_take] at he
        rw [List.length_take] at hj
        obtain ⟨_, he'⟩ := List.getElem?_eq_some_iff.mp hi
        have := (List.getElem_inj some_nodup).mp (he.trans he'.symm)
        lia
      repeat' walk_at "st"
      refine ⟨V.int (dUp d ((someOf W x).take t) i : Nat), ?_, ?_⟩
      · rw [item_at (ref_list two_1) (by lia)]
        unfold natV
        rw [List.getElem?_map, List.getElem?_range hi6]; rfl
      repeat' walk_at "st"
      refine ⟨σ.length + 1, _, i, i, rfl, two_1, rfl, by rw [natV_len]; decide, by rw [natV_len]; exact set_ix hi6, ?_⟩
      rw [two_s1, natV_set hi6, dUp_snoc hnot]
      repeat' walk_at "st"
      refine hK' _ _ ⟨?_, ?_, ?_, ?_⟩
      · rw [List.take_add_one, hi]; rfl
      · walk_at "rho"
      · walk_at "rho"
      · walk_at "rho"

end
section
set_option autoImplicit false

noncomputable def rowV (W : Nat → Nat → Bool) (i : Nat) : List V := (List.range 6).map fun j => V.int (b2i (W i j))
noncomputable def endV (e : Nat → List Nat) : List V := (List.range 6).map fun i => V.str (S (e i))
noncomputable def idxV (ls : List Nat) : List V := ls.map fun i => V.int (i : Nat)
/-- the store of _law_piled -/
structure St (σ : Sto) (l p : Nat) (σ' : Sto) (left : List Nat) (pile : List (List Nat × Nat)) (W : Nat → Nat → Bool) (d : Nat → Nat) (e : Nat → List Nat) (d2 : Nat → Nat) (e2 : Nat → List Nat) : Prop where
  ll : l < σ.length
  lp : p < σ.length
  ne : l ≠ p
  len : σ.length + 9 ≤ σ'.length
  old : ∀ j, j < σ.length → j ≠ l → j ≠ p → σ'[j]? = σ[j]?
  left : σ'[l]? = some (.list (idxV left))
  pile : σ'[p]? = some (.acc (pile.map pileV))
  work : ∀ i, i < 6 → σ'[σ.length + i]? = some (.list (rowV W i))
  dots : σ'[σ.length + 6]? = some (.list (natV d))
  ends : σ'[σ.length + 7]? = some (.list (endV e))
  rows : σ'[σ.length + 8]? = some (.list (rowsV d2 e2))

section
variable {σ : Sto} {l p : Nat} {σ' : Sto} {left : List Nat} {pile : List (List Nat × Nat)} {W : Nat → Nat → Bool} {d : Nat → Nat} {e : Nat → List Nat} {d2 : Nat → Nat} {e2 : Nat → List Nat}
theorem St.app (s : St σ l p σ' left pile W d e d2 e2) (τ : Sto) : St σ l p (σ' ++ τ) left pile W d e d2 e2 := by
  have h : ∀ j, j < σ'.length → (σ' ++ τ)[j]? = σ'[j]? := fun j hj => List.getElem?_append_left hj
  have hl := s.len
  have ll := s.ll
  have lp := s.lp
  exact ⟨s.ll, s.lp, s.ne, by rw [List.length_append]; lia, fun j h1 h2 h3 => by rw [h j (by lia)]; exact s.old j h1 h2 h3, by rw [h _ (by lia)]; exact s.left, by rw [h _ (by lia)]; exact s.pile,
    fun i hi => by rw [h _ (by lia)]; exact s.work i hi, by rw [h _ (by lia)]; exact s.dots, by rw [h _ (by lia)]; exact s.ends, by rw [h _ (by lia)]; exact s.rows⟩
theorem set_ne {σ' : Sto} {k j : Nat} {m : MO} (h : k ≠ j) : (σ'.set k m)[j]? = σ'[j]? := by rw [List.getElem?_set, if_neg h]
theorem set_eq {σ' : Sto} {k : Nat} {m : MO} (h : k < σ'.length) : (σ'.set k m)[k]? = some m := by rw [List.getElem?_set, if_pos rfl, if_pos h]
theorem St.setLeft (s : St σ l p σ' left pile W d e d2 e2) (left' : List Nat) : St σ l p (σ'.set l (.list (idxV left'))) left' pile W d e d2 e2 := by
  have hl := s.len
  have ll := s.ll
  have lp := s.lp
  have ne := s.ne
  exact ⟨ll, lp, ne, by rw [List.length_set]; exact hl, fun j h1 h2 h3 => by rw [set_ne (by lia)]; exact s.old j h1 h2 h3, set_eq (by lia), by rw [set_ne ne]; exact s.pile,
    fun i hi => by rw [set_ne (by lia)]; exact s.work i hi, by rw [set_ne (by lia)]; exact s.dots, by rw [set_ne (by lia)]; exact s.ends, by rw [set_ne (by lia)]; exact s.rows⟩
theorem St.setPile (s : St σ l p σ' left pile W d e d2 e2) (pile' : List (List Nat × Nat)) : St σ l p (σ'.set p (.acc (pile'.map pileV))) left pile' W d e d2 e2 := by
  have hl := s.len
  have ll := s.ll
  have lp := s.lp
  have ne := s.ne
  exact ⟨ll, lp, ne, by rw [List.length_set]; exact hl, fun j h1 h2 h3 => by rw [set_ne (by lia)]; exact s.old j h1 h2 h3, by rw [set_ne (by lia)]; exact s.left, set_eq (by lia),
    fun i hi => by rw [set_ne (by lia)]; exact s.work i hi, by rw [set_ne (by lia)]; exact s.dots, by rw [set_ne (by lia)]; exact s.ends, by rw [set_ne (by lia)]; exact s.rows⟩
theorem St.setWork (s : St σ l p σ' left pile W d e d2 e2) {i : Nat} (hi : i < 6) {W' : Nat → Nat → Bool} (hW : ∀ k, k ≠ i → W' k = W k) : St σ l p (σ'.set (σ.length + i) (.list (rowV W' i))) left pile W' d e d2 e2 := by
  have hl := s.len
  have ll := s.ll
  have lp := s.lp
  have ne := s.ne
  refine ⟨ll, lp, ne, by rw [List.length_set]; exact hl, fun j h1 h2 h3 => by rw [set_ne (by lia)]; exact s.old j h1 h2 h3, by rw [set_ne (by lia)]; exact s.left, by rw [set_ne (by lia)]; exact s.pile,
    fun k hk => ?_, by rw [set_ne (by lia)]; exact s.dots, by rw [set_ne (by lia)]; exact s.ends, by rw [set_ne (by lia)]; exact s.rows⟩
  by_cases q : k = i
  · subst q; exact set_eq (by lia)
  · rw [set_ne (by lia), s.work k hk]
    unfold rowV
    rw [hW k q]
theorem St.setDots (s : St σ l p σ' left pile W d e d2 e2) (d' : Nat → Nat) : St σ l p (σ'.set (σ.length + 6) (.list (natV d'))) left pile W d' e d2 e2 := by
  have hl := s.len
  have ll := s.ll
  have lp := s.lp
  have ne := s.ne
  exact ⟨ll, lp, ne, by rw [List.length_set]; exact hl, fun j h1 h2 h3 => by rw [set_ne (by lia)]; exact s.old j h1 h2 h3, by rw [set_ne (by lia)]; exact s.left, by rw [set_ne (by lia)]; exact s.pile,
    fun i hi => by rw [set_ne (by lia)]; exact s.work i hi, set_eq (by lia), by rw [set_ne (by lia)]; exact s.ends, by rw [set_ne (by lia)]; exact s.rows⟩
theorem St.setEnds (s : St σ l p σ' left pile W d e d2 e2) (e' : Nat → List Nat) : St σ l p (σ'.set (σ.length + 7) (.list (endV e'))) left pile W d e' d2 e2 := by
  have hl := s.len
  have ll := s.ll
  have lp := s.lp
  have ne := s.ne
  exact ⟨ll, lp, ne, by rw [List.length_set]; exact hl, fun j h1 h2 h3 => by rw [set_ne (by lia)]; exact s.old j h1 h2 h3, by rw [set_ne (by lia)]; exact s.left, by rw [set_ne (by lia)]; exact s.pile,
    fun i hi => by rw [set_ne (by lia)]; exact s.work i hi, by rw [set_ne (by lia)]; exact s.dots, set_eq (by lia), by rw [set_ne (by lia)]; exact s.rows⟩
theorem St.setRows (s : St σ l p σ' left pile W d e d2 e2) (d' : Nat → Nat) (e' : Nat → List Nat) : St σ l p (σ'.set (σ.length + 8) (.list (rowsV d' e'))) left pile W d e d' e' := by
  have hl := s.len
  have ll := s.ll
  have lp := s.lp
  have ne := s.ne
  exact ⟨ll, lp, ne, by rw [List.length_set]; exact hl, fun j h1 h2 h3 => by rw [set_ne (by lia)]; exact s.old j h1 h2 h3, by rw [set_ne (by lia)]; exact s.left, by rw [set_ne (by lia)]; exact s.pile,
    fun i hi => by rw [set_ne (by lia)]; exact s.work i hi, by rw [set_ne (by lia)]; exact s.dots, by rw [set_ne (by lia)]; exact s.ends, set_eq (by lia)⟩
theorem St.end (s : St σ l p σ' left pile W d e d2 e2) : ∃ τ, σ' = (σ.set l (.list (idxV left))).set p (.acc (pile.map pileV)) ++ τ := by
  have hl := s.len
  have ll := s.ll
  have lp := s.lp
  have ne := s.ne
  refine ⟨σ'.drop σ.length, ?_⟩
  conv => lhs; rw [← List.take_append_drop σ.length σ']
  congr 1
  apply List.ext_getElem?
  intro j
  by_cases hj : j < σ.length
  · rw [List.getElem?_take_of_lt hj]
    by_cases h1 : j = p
    · subst h1; rw [set_eq (by rw [List.length_set]; exact hj)]; exact s.pile
    · rw [set_ne (by lia)]
      by_cases h2 : j = l
      · subst h2; rw [set_eq hj]; exact s.left
      · rw [set_ne (by lia)]; exact s.old j hj h2 h1
  · rw [List.getElem?_eq_none (by rw [List.length_take]; lia), List.getElem?_eq_none (by rw [List.length_set, List.length_set]; lia)]
noncomputable def workV (n : Nat) : V := .list ((List.range 6).map fun i => V.ref (n + i))
theorem St.mat (s : St σ l p σ' left pile W d e d2 e2) : matAt σ' (workV σ.length) W := by
  refine ⟨(List.range 6).map fun i => V.ref (σ.length + i), rfl, fun i hi => ⟨.ref (σ.length + i), ?_, ref_list (s.work i hi)⟩⟩
  rw [List.getElem?_map, List.getElem?_range hi]; rfl
end
theorem rowV_set {W : Nat → Nat → Bool} {i j : Nat} (hj : j < 6) : (rowV W i).set j (.int (1 - b2i (W i j))) = rowV (fun a b => if a = i ∧ b = j then !W a b else W a b) i := by
  apply List.ext_getElem?
  intro k
  unfold rowV
  rw [List.getElem?_set, List.getElem?_map, List.getElem?_map]
  by_cases hk : k < 6
  · rw [List.getElem?_range hk]
    by_cases hjk : j = k
    · subst hjk
      rw [if_pos rfl, if_pos (by simpa using hk)]
      simp only [Option.map_some]
      simp only [and_self, if_true]
      cases W i j <;> rfl
    · rw [if_neg hjk]
      simp only [Option.map_some]
      rw [if_neg (fun q : True ∧ k = j => hjk q.2.symm)]
  · rw [List.getElem?_eq_none (by simp; lia)]
    by_cases hjk : j = k
    · lia
    · rw [if_neg hjk]; rfl
theorem rowV_len {W : Nat → Nat → Bool} {i : Nat} : (rowV W i).length = 6 := by unfold rowV; simp
theorem endV_len {e : Nat → List Nat} : (endV e).length = 6 := by unfold endV; simp
theorem endV_set {e : Nat → List Nat} {i : Nat} (hi : i < 6) : (endV e).set i (.str (S [13, 10])) = endV (eUp e [i]) := by
  apply List.ext_getElem?
  intro j
  unfold endV
  rw [List.getElem?_set, List.getElem?_map, List.getElem?_map]
  by_cases hj : j < 6
  · rw [List.getElem?_range hj]
    by_cases hij : i = j
    · subst hij
      rw [if_pos rfl, if_pos (by simpa using hi)]
      simp only [Option.map_some]
      unfold eUp
      rw [if_pos (List.mem_singleton.mpr rfl)]
    · rw [if_neg hij]
      simp only [Option.map_some]
      unfold eUp
      rw [if_neg (by rw [List.mem_singleton]; exact fun h => hij h.symm)]
  · rw [List.getElem?_eq_none (by simp; lia)]
    by_cases hij : i = j
    · lia
    · rw [if_neg hij]; rfl

/-- the elimination -/
noncomputable def flipW (W : Nat → Nat → Bool) (near : List Nat) : Nat → Nat → Bool := fun i j => if i ∈ near ∧ j ∈ near then !W i j else W i j
noncomputable def elimP : Nat → List Nat → (Nat → Nat → Bool) → List (List Nat × Nat)
  | 0, _, _ => []
  | n + 1, left, W => match left.filter fun i => W i i with
    | [] => []
    | p :: _ => (((left.erase p).filter fun j => W p j), p) :: elimP n (left.erase p) (flipW W ((left.erase p).filter fun j => W p j))
theorem elimP_nil {n : Nat} {left : List Nat} {W : Nat → Nat → Bool} (h : (left.filter fun i => W i i) = []) : elimP n left W = [] := by
  cases n with
  | zero => rfl
  | succ n => unfold elimP; rw [h]
theorem elimP_cons {n : Nat} {left r : List Nat} {q : Nat} {W : Nat → Nat → Bool} (h : (left.filter fun i => W i i) = q :: r) : elimP (n + 1) left W = (((left.erase q).filter fun j => W q j), q) :: elimP n (left.erase q) (flipW W ((left.erase q).filter fun j => W q j)) := by
  rw [elimP, h]
theorem erase_cast (q : Nat) : ∀ left : List Nat, ((left.map fun i => ((i : Nat) : Int)).erase (q : Int)).map V.int = idxV (left.erase q)
  | [] => rfl
  | a :: l => by
    rw [List.map_cons, List.erase_cons, List.erase_cons]
    by_cases h : a = q
    · subst h; simp [idxV]
    · have h1 : ((a : Nat) : Int) ≠ (q : Int) := by lia
      rw [if_neg (by simpa using h1), if_neg (by simpa using h), List.map_cons, erase_cast q l]; rfl
noncomputable def flipT (W : Nat → Nat → Bool) (near : List Nat) (t : Nat) : Nat → Nat → Bool := fun i j => if i ∈ near.take t ∧ j ∈ near then !W i j else W i j
noncomputable def flipR (W : Nat → Nat → Bool) (i0 : Nat) (ls : List Nat) : Nat → Nat → Bool := fun i j => if i = i0 ∧ j ∈ ls then !W i j else W i j
theorem flipR_snoc {W : Nat → Nat → Bool} {i0 j0 : Nat} {ls : List Nat} (h : j0 ∉ ls) : (fun a b => if a = i0 ∧ b = j0 then !(flipR W i0 ls a b) else flipR W i0 ls a b) = flipR W i0 (ls ++ [j0]) := by
  funext a b
  unfold flipR
  by_cases h1 : a = i0
  · by_cases h2 : b = j0
    · subst h1; subst h2; simp [h]
    · by_cases h3 : b ∈ ls <;> simp [h1, h2, h3]
  · simp [h1]
theorem flipT_snoc {W : Nat → Nat → Bool} {near : List Nat} {t i : Nat} (h : near[t]? = some i) (hn : i ∉ near.take t) : flipR (flipT W near t) i near = flipT W near (t + 1) := by
  have ht : near.take (t + 1) = near.take t ++ [i] := by rw [List.take_add_one, h]; rfl
  funext a b
  unfold flipR flipT
  rw [ht]
  by_cases h1 : a = i
  · subst h1
    by_cases h2 : b ∈ near <;> simp [hn, h2]
  · by_cases h2 : b ∈ near <;> simp [h1, h2]
theorem flipT_all {W : Nat → Nat → Bool} {near : List Nat} : flipT W near near.length = flipW W near := by
  unfold flipT flipW; rw [List.take_length]
theorem flipT_0 {W : Nat → Nat → Bool} {near : List Nat} : flipT W near 0 = W := by
  funext a b; unfold flipT; simp
theorem flipR_0 {W : Nat → Nat → Bool} {i : Nat} : flipR W i [] = W := by
  funext a b; unfold flipR; simp
theorem take_not {ls : List Nat} (hnd : ls.Nodup) {k j : Nat} (hj : ls[k]? = some j) : j ∉ ls.take k := by
  intro hm
  obtain ⟨i, hi, he⟩ := List.mem_iff_getElem.mp hm
  rw [List.getElem_take] at he
  rw [List.length_take] at hi
  obtain ⟨_, he'⟩ := List.getElem?_eq_some_iff.mp hj
  have := (List.getElem_inj hnd).mp (he.trans he'.symm)
  lia

end
section
set_option autoImplicit false

noncomputable def dbl (l : List Nat) : List Nat := l.flatMap fun c => if c = 34 then [34, 34] else [c]
theorem dbl_app (a b : List Nat) : dbl (a ++ b) = dbl a ++ dbl b := by simp [dbl]
theorem dbl_free {l : List Nat} (h : 34 ∉ l) : dbl l = l := by
  induction l with
  | nil => rfl
  | cons c l ih =>
    have h1 : c ≠ 34 := fun q => h (q ▸ List.mem_cons_self)
    show (if c = 34 then [34, 34] else [c]) ++ dbl l = _
    rw [if_neg h1, ih fun q => h (List.mem_cons_of_mem _ q)]; rfl
theorem dbl_rep (q : Nat) : dbl (List.replicate q 34) = List.replicate (2 * q) 34 := by
  induction q with
  | zero => rfl
  | succ q ih =>
    show [34, 34] ++ dbl (List.replicate q 34) = _
    rw [ih, show 2 * (q + 1) = 2 * q + 1 + 1 by lia, List.replicate_succ, List.replicate_succ]; rfl
theorem dbl_len (l : List Nat) : (dbl l).length = l.length + l.count 34 := by
  induction l with
  | nil => rfl
  | cons c l ih =>
    show ((if c = 34 then [34, 34] else [c]) ++ dbl l).length = _
    rw [List.length_append, ih, List.length_cons]
    by_cases h : c = 34
    · subst h; rw [if_pos rfl, List.count_cons_self]; simp; lia
    · rw [if_neg h, List.count_cons_of_ne h]; simp; lia
theorem parse_dbl (t : List Nat) : ∀ l : List Nat, parseB (dbl l ++ t) = l ++ parseB t
  | [] => rfl
  | c :: l => by
    show parseB (((if c = 34 then [34, 34] else [c]) ++ dbl l) ++ t) = _
    by_cases h : c = 34
    · subst h
      rw [if_pos rfl]
      show parseB (34 :: 34 :: (dbl l ++ t)) = _
      rw [parseB_q, parse_dbl t l]; rfl
    · rw [if_neg h]
      show parseB (c :: (dbl l ++ t)) = _
      rw [parseB_c _ _ h, parse_dbl t l]; rfl
theorem EndOk.no34 {x : List Nat} (h : EndOk x) : 34 ∉ x := by rcases h with h | h | h <;> rw [h] <;> decide
theorem EndOk.no46 {x : List Nat} (h : EndOk x) : 46 ∉ x := by rcases h with h | h | h <;> rw [h] <;> decide
/-- the text that is read -/
noncomputable def txtL (d : Nat → Nat) (e : Nat → List Nat) (ls : List Nat) : List Nat := (ls.map fun i => List.replicate (d i) 34 ++ (97 + i) :: e i).flatten
theorem repl_txt {d : Nat → Nat} {e : Nat → List Nat} (he : ∀ i, EndOk (e i)) : ∀ ls : List Nat, repl 46 [34] (ls.map (rowL d e)).flatten = txtL d e ls
  | [] => rfl
  | i :: ls => by
    rw [List.map_cons, List.flatten_cons, repl_app, repl_txt he ls]
    unfold rowL
    rw [repl_app]
    have h1 : ∀ n, repl 46 [34] (List.replicate n 46) = List.replicate n 34 := fun n => by
      induction n with
      | zero => rfl
      | succ n ih =>
        show [34] ++ repl 46 [34] (List.replicate n 46) = _
        rw [ih]; rfl
    have h2 : repl 46 [34] ((97 + i) :: e i) = (97 + i) :: e i := repl_free (by
      rw [List.mem_cons]
      rintro (q | q)
      · lia
      · exact (he i).no46 q)
    rw [h1, h2]; rfl
theorem fold_init {d : Nat → Nat} {e : Nat → List Nat} {o : Nat → Bool} : ∀ (ls : List Nat) (init : List (List Nat)) (last : List Nat), ls.foldl (dueStep d e o) (init, last) = (init ++ (ls.foldl (dueStep d e o) ([], last)).1, (ls.foldl (dueStep d e o) ([], last)).2)
  | [], init, last => by simp
  | i :: ls, init, last => by
    rw [List.foldl_cons, List.foldl_cons]
    cases h : o i with
    | true =>
      rw [dueStep_t h, dueStep_t h, fold_init ls, fold_init ls ([] ++ _)]
      simp
    | false => rw [dueStep_f h, dueStep_f h, fold_init ls]

theorem drop_dbl (l t : List Nat) : (dbl l ++ 34 :: t).drop (l.length + l.count 34 + 1) = t := by
  rw [← dbl_len, ← List.drop_drop, List.drop_left]; rfl
theorem read_all {d : Nat → Nat} {e : Nat → List Nat} {o : Nat → Bool} (he : ∀ i, EndOk (e i)) {b : List Nat} (hb : b = [34] ∨ b = []) : ∀ (ls cur : List Nat), (∀ i ∈ ls, o i = decide (d i % 2 = 1)) → (∀ i ∈ ls, i < 6) → (b = [] → ls ≠ [] ∨ cur ≠ []) →
    repliesL (dbl cur ++ (txtL d e ls ++ b)) = (ls.foldl (dueStep d e o) ([], cur)).1 ++ [(ls.foldl (dueStep d e o) ([], cur)).2]
  | [], cur, _, _, hne => by
    rcases hb with rfl | rfl
    · rw [show txtL d e [] ++ [34] = [34] from rfl, repliesL_step (by simp), parse_dbl, show parseB [34] = [] from rfl, List.append_nil, drop_dbl]; rfl
    · have hc : cur ≠ [] := (hne rfl).resolve_left (by simp)
      have hl := dbl_len cur
      have hpos : 0 < cur.length := List.length_pos_iff.mpr hc
      have hnz : dbl cur ++ [] ≠ [] := fun q => by
        have h0 : dbl cur = [] := by simpa using q
        rw [h0] at hl
        simp only [List.length_nil] at hl
        lia
      rw [show txtL d e [] ++ [] = [] from rfl, repliesL_step hnz, parse_dbl, show parseB [] = [] from rfl, List.append_nil, List.append_nil, List.drop_of_length_le (by rw [hl]; lia)]; rfl
  | i :: ls, cur, ho, hi, hne => by
    have ho' := ho i List.mem_cons_self
    have hi6 := hi i List.mem_cons_self
    have hfree : 34 ∉ (97 + i) :: e i := by
      rw [List.mem_cons]
      rintro (q | q)
      · lia
      · exact (he i).no34 q
    have ht : txtL d e (i :: ls) = List.replicate (d i) 34 ++ ((97 + i) :: e i) ++ txtL d e ls := rfl
    rw [List.foldl_cons, ht]
    have rec' := fun cur hne => read_all (o := o) he hb ls cur (fun j hj => ho j (List.mem_cons_of_mem _ hj)) (fun j hj => hi j (List.mem_cons_of_mem _ hj)) hne
    cases h : o i with
    | true =>
      rw [h] at ho'
      have hd : d i % 2 = 1 := by simpa using ho'.symm
      rw [dueStep_t h]
      have e1 : dbl cur ++ (List.replicate (d i) 34 ++ ((97 + i) :: e i) ++ txtL d e ls ++ b) = dbl (cur ++ List.replicate (d i / 2) 34) ++ 34 :: (dbl ((97 + i) :: e i) ++ (txtL d e ls ++ b)) := by
        rw [dbl_app, dbl_rep, dbl_free hfree, show d i = 2 * (d i / 2) + 1 by lia]
        rw [show (2 * (d i / 2) + 1) / 2 = d i / 2 by lia, List.replicate_succ']
        simp [List.append_assoc]
      have hp : parseB (dbl (cur ++ List.replicate (d i / 2) 34) ++ 34 :: (dbl ((97 + i) :: e i) ++ (txtL d e ls ++ b))) = cur ++ List.replicate (d i / 2) 34 := by
        rw [parse_dbl, dbl_free hfree, parseB_e _ (by simp; lia), List.append_nil]
      rw [e1, repliesL_step (by simp), hp, drop_dbl, rec' _ (fun _ => .inr (by simp)), fold_init ls ([] ++ _)]
      rfl
    | false =>
      rw [h] at ho'
      have hd : d i % 2 = 0 := by have : ¬ d i % 2 = 1 := by simpa using ho'.symm
                                  lia
      rw [dueStep_f h]
      have e1 : dbl cur ++ (List.replicate (d i) 34 ++ ((97 + i) :: e i) ++ txtL d e ls ++ b) = dbl (cur ++ List.replicate (d i / 2) 34 ++ (97 + i) :: e i) ++ (txtL d e ls ++ b) := by
        rw [dbl_app, dbl_app, dbl_rep, dbl_free hfree, show 2 * (d i / 2) = d i by lia]
        simp [List.append_assoc]
      rw [e1, rec' _ (fun _ => .inr (by simp))]
theorem replies_due {d : Nat → Nat} {e : Nat → List Nat} {o : Nat → Bool} (he : ∀ i, EndOk (e i)) {b : List Nat} (hb : b = [34] ∨ b = []) {ls : List Nat} (ho : ∀ i ∈ ls, o i = decide (d i % 2 = 1)) (hi : ∀ i ∈ ls, i < 6) (hne : b = [] → ls ≠ []) :
    repliesL (repl 46 [34] (ls.map (rowL d e)).flatten ++ b) = dueF d e o ls := by
  rw [repl_txt he]
  exact read_all he hb ls [] ho hi fun h => .inl (hne h)
noncomputable def Sm (y : List Nat) : Prop := ∀ c ∈ y, c < 200
theorem due_sm {d : Nat → Nat} {e : Nat → List Nat} {o : Nat → Bool} (he : ∀ i, EndOk (e i)) : ∀ (ls : List Nat) (p : List (List Nat) × List Nat), (∀ i ∈ ls, i < 6) → (∀ y ∈ p.1, Sm y) → Sm p.2 →
    (∀ y ∈ (ls.foldl (dueStep d e o) p).1, Sm y) ∧ Sm (ls.foldl (dueStep d e o) p).2
  | [], p, _, h1, h2 => ⟨h1, h2⟩
  | i :: ls, p, hi, h1, h2 => by
    rw [List.foldl_cons]
    have hi6 := hi i List.mem_cons_self
    have hr : Sm (p.2 ++ List.replicate (d i / 2) 34) := fun c hc => by
      rcases List.mem_append.mp hc with q | q
      · exact h2 c q
      · rw [List.eq_of_mem_replicate q]; decide
    have hx : Sm ((97 + i) :: e i) := fun c hc => by
      rcases List.mem_cons.mp hc with q | q
      · lia
      · rcases he i with h | h | h
        · rw [h] at q; simp at q; lia
        · rw [h] at q; simp at q; lia
        · rw [h] at q; simp at q; lia
    have hi' : ∀ j ∈ ls, j < 6 := fun j hj => hi j (List.mem_cons_of_mem _ hj)
    cases h : o i with
    | true =>
      rw [dueStep_t h]
      refine due_sm he ls _ hi' (fun y hy => ?_) hx
      rcases List.mem_append.mp hy with q | q
      · exact h1 y q
      · rw [List.mem_singleton.mp q]; exact hr
    | false =>
      rw [dueStep_f h]
      refine due_sm he ls _ hi' h1 fun c hc => ?_
      rcases List.mem_append.mp hc with q | q
      · exact hr c q
      · exact hx c q
theorem due_item {d : Nat → Nat} {e : Nat → List Nat} {o : Nat → Bool} (he : ∀ i, EndOk (e i)) {ls : List Nat} (hi : ∀ i ∈ ls, i < 6) : ∀ x ∈ strsV (dueF d e o ls), itemV x := by
  intro x hx
  obtain ⟨y, hy, rfl⟩ := List.mem_map.mp hx
  obtain ⟨h1, h2⟩ := due_sm (d := d) (o := o) he ls ([], []) hi (fun y hy => by cases hy) (fun c hc => by cases hc)
  have hs : Sm y := by
    rcases List.mem_append.mp hy with q | q
    · exact h1 y q
    · rw [List.mem_singleton.mp q]; exact h2
  refine .inl ⟨_, rfl, ?_⟩
  unfold PyData.strOk
  rw [Array.all_eq_true']
  intro c hc
  have := hs c (by simpa using hc)
  rw [decide_eq_true_iff]
  lia

end
section
set_option autoImplicit false
section
variable {Gd : Sto → Prop} {Wa : WA} {Wi : WT} {We : WE}
/-- a comprehension that changes the store -/
theorem comp_seq {α : Type} (f : α → V) {QL : List V → Sto → Prop} (J : Nat → Rho → List V → Sto → Prop) : ∀ (vs : List α) (i : Nat) (acc : List V) (ρ : Rho) (σ : Sto),
    (∀ i ρ acc σ, J i ρ acc σ → Gd σ) →
    (∀ k v ρ acc σ, vs[k]? = some v → J (i + k) ρ acc σ → ∀ K : List V → Rho → Sto → Prop, (∀ ρ' acc' σ', J (i + k + 1) ρ' acc' σ' → K acc' ρ' σ') →
      Wa (f v) (fun ρ' σ' => Wi (fun b σ'' => if b = true then We (fun y σ''' => K (acc ++ [y]) ρ' σ''') ρ' σ'' else K acc ρ' σ'') ρ' σ') ρ σ) →
    (∀ ρ acc σ, J (i + vs.length) ρ acc σ → QL acc σ) → J i ρ acc σ → wCompL Gd Wa Wi We (vs.map f) acc QL ρ σ
  | [], i, acc, ρ, σ, hG, _, fin, h => ⟨hG _ _ _ _ h, fin _ _ _ h⟩
  | v :: vs, i, acc, ρ, σ, hG, step, fin, h => ⟨hG _ _ _ _ h, step 0 v ρ acc σ rfl h (fun a r s => wCompL Gd Wa Wi We (vs.map f) a QL r s) fun ρ' acc' σ' h' =>
      comp_seq f J vs (i + 1) acc' ρ' σ' hG (fun k u ρ acc σ hk hJ => by
        have := step (k + 1) u ρ acc σ (by simpa using hk)
        rw [show i + (k + 1) = i + 1 + k by exact ar102] at this
        exact this hJ) (fun ρ acc σ hJ => fin ρ acc σ (by rw [List.length_cons, show i + (vs.length + 1) = i + 1 + vs.length by exact ar102]; exact hJ)) h'⟩
end

end
section
set_option autoImplicit false
set_option maxRecDepth 100000

section
variable {G : Glb} {P : Params} {ℓ : Nat} {sc : Scope} {np pos apos : Pos} {e o : Expr} {rest : List Expr} {Ws : WL} {Wo : WE}
theorem c_replies (T : TopG G P) (hk : sc.names.lookup (Str.ofString "_law_replies") = some .globalImplicit) (ha : Evs G (ℓ + 2) sc (e :: rest) Ws)
    (h1 : ∀ env, starEach (e :: rest) env = (false, eval e env) :: starEach rest env) (h2 : ∀ env, (backTo pos (starEach rest env)).any (·.1) = false) :
    Ev G (ℓ + 2) sc (.Call (.Name (Str.ofString "_law_replies") np) (e :: rest) [] pos) (wCall wReplies Ws) :=
  c_own T.O (by rw [T.mg]; rfl) (by decide +kernel) (CallOk.def (T.K 188 _ rfl) rfl) (fn188 T) hk ha h1 h2
theorem c_due (T : TopG G P) (hk : sc.names.lookup (Str.ofString "_law_due") = some .globalImplicit) (ha : Evs G (ℓ + 2) sc (e :: rest) Ws)
    (h1 : ∀ env, starEach (e :: rest) env = (false, eval e env) :: starEach rest env) (h2 : ∀ env, (backTo pos (starEach rest env)).any (·.1) = false) :
    Ev G (ℓ + 2) sc (.Call (.Name (Str.ofString "_law_due") np) (e :: rest) [] pos) (wCall wDue Ws) :=
  c_own T.O (by rw [T.mg]; rfl) (by decide +kernel) (CallOk.def (T.K 195 _ rfl) rfl) ((fn195 (ℓ := ℓ + 1) T)) hk ha h1 h2
theorem c_push (T : TopA G P) {pl : Env → Sem Bool} (he : MethEq o "push" apos pos (e :: rest) pl) (ho : Ev G (ℓ + 2) sc o Wo) (ha : Evs G (ℓ + 2) sc (e :: rest) Ws) (h0 : ∀ env, attributeBase o (Str.ofString "push") env (eval o env) = eval o env)
    (h1 : ∀ env, starEach (e :: rest) env = (false, eval e env) :: starEach rest env) (h2 : ∀ env, (backTo pos (starEach rest env)).any (·.1) = false) :
    Ev G (ℓ + 2) sc (.Call (.Attribute o (Str.ofString "push") apos) (e :: rest) [] pos) (wMethA Wo Ws wPush) :=
  r_accM (acc1 T) (by rw [T.C]; kernel_rfl) (by kernel_rfl) rfl rfl (by decide +kernel) (fn94 (ℓ := ℓ + 1) T) he ho ha h0 h1 h2
end
local macro_rules | `(tactic| walk_at "fn") => mkWays "@c_replies D el R1 R1|@c_due D el R1 R1|@c_send D el R1 R1|@c_push R1 ev el R1 R1 R1"
local macro_rules | `(tactic| walk_at "sn") => mkWays "?p_range6|?p_items6l|?p_items6|?p_methA|p_divi D0 D0|p_modi D0"

noncomputable def d0 (W : Nat → Nat → Bool) : Nat → Nat := fun i => if W i i then 3 else 2
noncomputable def e0 : Nat → List Nat := fun i => if i % 3 = 0 then [13] else if i % 3 = 1 then [10] else [13, 10]
theorem e0_ok (i : Nat) : EndOk (e0 i) := by
  unfold e0 EndOk
  split
  · exact .inl rfl
  · split
    · exact .inr (.inl rfl)
    · exact .inr (.inr rfl)
theorem st_0 {σ : Sto} {l p : Nat} {ls : List Nat} {W : Nat → Nat → Bool} (hl : σ[l]? = some (.list (idxV ls))) (hp : σ[p]? = some (.acc [])) : St σ l p (σ ++ ((List.range 6).map (fun i => MO.list (rowV W i)) ++ [.list (natV (d0 W)), .list (endV e0), .list (rowsV (d0 W) e0)])) ls [] W (d0 W) e0 (d0 W) e0 := by
  have h1 := (List.getElem?_eq_some_iff.mp hl).1
  have h2 := (List.getElem?_eq_some_iff.mp hp).1
  have old : ∀ (j : Nat) (τ : Sto), j < σ.length → (σ ++ τ)[j]? = σ[j]? := fun j τ h => List.getElem?_append_left h
  have new : ∀ (j : Nat) (τ : Sto), (σ ++ τ)[σ.length + j]? = τ[j]? := fun j τ => by rw [List.getElem?_append_right (by lia), show σ.length + j - σ.length = j by lia]
  have hlen : ((List.range 6).map (fun i => MO.list (rowV W i))).length = 6 := by simp
  refine ⟨h1, h2, (fun q => by rw [q, hp] at hl; cases hl), by rw [List.length_append, List.length_append, hlen]; simp, fun j a _ _ => old j _ a, by rw [old _ _ h1]; exact hl, by rw [old _ _ h2]; exact hp, fun i hi => ?_, ?_, ?_, ?_⟩
  · rw [new, List.getElem?_append_left (by rw [hlen]; exact hi), List.getElem?_map, List.getElem?_range hi]; rfl
  · rw [new, List.getElem?_append_right (by rw [hlen]; lia), hlen]; rfl
  · rw [new, List.getElem?_append_right (by rw [hlen]; lia), hlen]; rfl
  · rw [new, List.getElem?_append_right (by rw [hlen]; lia), hlen]; rfl
noncomputable def wPiled : WF := fun vs Q σ => ∃ (l p : Nat) (ls : List Nat) (W : Nat → Nat → Bool), vs = [vMat fun i j => b2i (W i j), .ref l, .ref p] ∧ σ[l]? = some (.list (idxV ls)) ∧ σ[p]? = some (.acc []) ∧ ls.Nodup ∧ (∀ i ∈ ls, i < 6) ∧ ls.length ≤ 6 ∧
  ∀ (left : List Nat) (τ : Sto), Q (.bool true) ((σ.set l (.list (idxV left))).set p (.acc ((elimP ls.length ls W).map pileV)) ++ τ)
theorem def200 {G : Glb} {P : Params} (T : TopG G P) : IsDef G 200 (fd 200) (bd 200) [] := isDef T 200 _ rfl rfl rfl rfl rfl rfl ⟨_, _, _, _, rfl, rfl, rfl, rfl⟩ rfl rfl rfl

set_option maxHeartbeats 4000000 in
theorem fn200 {G : Glb} {P : Params} (T : TopA G P) {ℓ : Nat} : FnOk G (ℓ + 3) (.ref 200) wPiled := by
  have T' := T.T
  apply FnOk.mono
  apply FnOk.def T'.O (def200 T') (ps := ["joined", "left", "pile"])
  focus (intro x hx; simp only [List.mem_cons, List.not_mem_nil, or_false] at hx; rcases hx with rfl | rfl | rfl <;> walk_at "cs")
  focus (intro ws h; obtain ⟨a, b, c, rfl⟩ := len3 h; rfl)
  focus (apply s_cons; (focus walk_at "e1"); (focus walk_at "es"))
  rintro vs Q σ ⟨l, p, ls, W, rfl, hl, hp, hnd, hls, hl6, hQ⟩
  refine ⟨_, rfl, ?_⟩
  repeat' walk_at "st"
  have es0 : Str.ofString "" = S [] := by decide +kernel
  have edot : Str.ofString "." = S [46] := by decide +kernel
  have ecr : Str.ofString "\r" = S [13] := by decide +kernel
  have elf : Str.ofString "\n" = S [10] := by decide +kernel
  have ecrlf : Str.ofString "\r\n" = S [13, 10] := by decide +kernel
  refine ⟨(List.range 6).map fun i => vRow fun j => b2i (W i j), rfl, by simp, ?_⟩
  refine comp_seq (fun i => vRow fun j => b2i (W i j)) (fun i ρ acc σ' => σ' = σ ++ (List.range i).map (fun i => MO.list (rowV W i)) ∧ acc = (List.range i).map (fun i => V.ref (σ.length + i))) (List.range 6) 0 [] _ _ (fun _ _ _ _ _ => trivial) ?_ ?_ ⟨by simp, rfl⟩
  · rintro k i ρ acc σ' hk ⟨rfl, rfl⟩ K hK
    obtain ⟨hk6, hki⟩ := List.getElem?_eq_some_iff.mp hk
    rw [List.getElem_range] at hki
    subst hki
    repeat' walk_at "st"
    refine ⟨_, _, rfl, .inl rfl, by simp, p_mut ?_⟩
    repeat' walk_at "st"
    refine hK _ _ _ ⟨?_, ?_⟩
    · rw [Nat.zero_add, show (List.range (k + 1)).map (fun i => MO.list (rowV W i)) = (List.range k).map (fun i => MO.list (rowV W i)) ++ [MO.list (rowV W k)] by rw [List.range_succ, List.map_append]; rfl, List.append_assoc]; rfl
    · rw [Nat.zero_add, List.range_succ, List.map_append]; simp
  rintro ρ acc σ' ⟨rfl, rfl⟩
  rw [show 0 + (List.range 6).length = 6 by simp]
  have hwl : (σ ++ (List.range 6).map (fun i => MO.list (rowV W i))).length = σ.length + 6 := by simp
  refine p_frozen ?_
  repeat' walk_at "st"
  refine comp_over _ (fun ρ => ρ (Str.ofString "joined") = some (vMat fun i j => b2i (W i j))) (fun i => [V.int (d0 W i : Nat)]) _ _ _ ?_ trivial ?_ ?_
  · walk_at "rho"
  · intro i hi ρ acc K hI hK
    have hi6 := List.mem_range.mp hi
    repeat' walk_at "st"
    refine ⟨_, mat_at hi6, ?_⟩
    repeat' walk_at "st"
    refine ⟨_, row_at hi6, ?_⟩
    repeat' walk_at "st"
    have hv : (2 : Int) + b2i (W i i) = (d0 W i : Nat) := by unfold d0 b2i; split <;> rfl
    rw [hv]
    exact hK _ (by walk_at "rho")
  rw [flat_single]
  refine p_mut ?_
  have hdv : [] ++ (List.range 6).map (fun i => V.int (d0 W i : Nat)) = natV (d0 W) := by unfold natV; simp
  rw [hwl, hdv]
  repeat' walk_at "st"
  refine ⟨by simp, p_mut ?_⟩
  rw [ecr, elf, ecrlf, edot]
  have hev : [V.str (S [13]), V.str (S [10]), V.str (S [13, 10]), V.str (S [13]), V.str (S [10]), V.str (S [13, 10])] = endV e0 := by rfl
  have hwl2 : (σ ++ (List.range 6).map (fun i => MO.list (rowV W i)) ++ [MO.list (natV (d0 W))]).length = σ.length + 7 := by simp
  rw [hev, hwl2]
  repeat' walk_at "st"
  refine comp_over _ (fun ρ => ρ (Str.ofString "dots") = some (.ref (σ.length + 6)) ∧ ρ (Str.ofString "ends") = some (.ref (σ.length + 7))) (fun i => [V.str (S (rowL (d0 W) e0 i))]) _ _ _ ⟨?_, ?_⟩ trivial ?_ ?_
  · walk_at "rho"
  · walk_at "rho"
  · rintro i hi ρ acc K ⟨f1, f2⟩ hK
    have hi6 := List.mem_range.mp hi
    repeat' walk_at "st"
    refine ⟨V.int (d0 W i : Nat), ?_, ?_⟩
    · have : (σ ++ (List.range 6).map (fun i => MO.list (rowV W i)) ++ [MO.list (natV (d0 W))] ++ [MO.list (endV e0)])[σ.length + 6]? = some (.list (natV (d0 W))) := by
        rw [← hwl, List.append_assoc, List.append_assoc, ← List.append_assoc σ]; exact two_0
      exact nat_item (ref_list this) hi6
    repeat' walk_at "st"
    have hd3 : d0 W i ≤ 3 := by unfold d0; split <;> lia
    refine p_muls (by lia) (by rw [L_S]; decide) (by lia) ?_
    have hq : (List.replicate ((d0 W i : Int)).toNat (L (S [46]))).flatten = List.replicate (d0 W i) 46 := by
      rw [Int.toNat_natCast, L_S]
      induction d0 W i with
      | zero => rfl
      | succ n ih => rw [List.replicate_succ, List.flatten_cons, ih]; rfl
    rw [hq]
    repeat' walk_at "st"
    refine ⟨_, abc_item hi6, ?_⟩
    repeat' walk_at "st"
    refine p_adds (by rw [L_S, L_S]; simp; lia) ?_
    repeat' walk_at "st"
    refine ⟨V.str (S (e0 i)), ?_, ?_⟩
    · have : (σ ++ (List.range 6).map (fun i => MO.list (rowV W i)) ++ [MO.list (natV (d0 W))] ++ [MO.list (endV e0)])[σ.length + 7]? = some (.list (endV e0)) := by
        rw [← hwl2]; exact get_end
      exact str_item (ref_list this) hi6
    have hle := (e0_ok i).len
    refine p_adds (by rw [L_S, L_S, L_S, L_S]; simp; lia) ?_
    rw [L_S, L_S, L_S, L_S, show List.replicate (d0 W i) 46 ++ [97 + i] ++ e0 i = rowL (d0 W) e0 i by unfold rowL; simp]
    exact hK _ ⟨by walk_at "rho", by walk_at "rho"⟩
  rw [flat_single]
  refine p_mut ?_
  have hrv : [] ++ (List.range 6).map (fun i => V.str (S (rowL (d0 W) e0 i))) = rowsV (d0 W) e0 := by unfold rowsV; simp
  have hwl3 : (σ ++ (List.range 6).map (fun i => MO.list (rowV W i)) ++ [MO.list (natV (d0 W))] ++ [MO.list (endV e0)]).length = σ.length + 8 := by simp
  rw [hrv, hwl3]
  have hst := st_0 (W := W) hl hp
  rw [show σ ++ ((List.range 6).map (fun i => MO.list (rowV W i)) ++ [MO.list (natV (d0 W)), .list (endV e0), .list (rowsV (d0 W) e0)]) = σ ++ (List.range 6).map (fun i => MO.list (rowV W i)) ++ [MO.list (natV (d0 W))] ++ [MO.list (endV e0)] ++ [MO.list (rowsV (d0 W) e0)] by simp] at hst
  generalize σ ++ (List.range 6).map (fun i => MO.list (rowV W i)) ++ [MO.list (natV (d0 W))] ++ [MO.list (endV e0)] ++ [MO.list (rowsV (d0 W) e0)] = σ1 at hst
  repeat' walk_at "st"
  obtain ⟨total, htot⟩ : ∃ t, t = elimP ls.length ls W := ⟨_, rfl⟩
  rw [← htot] at hQ
  have hodd : ∀ i, W i i = decide (d0 W i % 2 = 1) := fun i => by unfold d0; cases W i i <;> rfl
  have hd0 : ∀ i, 1 ≤ d0 W i ∧ d0 W i ≤ 3 := fun i => by unfold d0; split <;> lia
  refine p_while (fun m ρ σ' => (ρ (Str.ofString "left") = some (.ref l) ∧ ρ (Str.ofString "pile") = some (.ref p) ∧ ρ (Str.ofString "work") = some (workV σ.length) ∧ ρ (Str.ofString "dots") = some (.ref (σ.length + 6)) ∧ ρ (Str.ofString "ends") = some (.ref (σ.length + 7)) ∧ ρ (Str.ofString "rows") = some (.ref (σ.length + 8))) ∧
    ∃ (left : List Nat) (pl : List (List Nat × Nat)) (W : Nat → Nat → Bool) (d : Nat → Nat) (e : Nat → List Nat), St σ l p σ' left pl W d e d e ∧ (left.Nodup ∧ (∀ i ∈ left, i < 6) ∧ left.length ≤ 6 ∧ pl.length + left.length ≤ 6) ∧ (∀ i ∈ left, W i i = decide (d i % 2 = 1)) ∧
      (∀ i, 1 ≤ d i ∧ d i + left.length ≤ 9) ∧ (∀ i, EndOk (e i)) ∧ ((∃ k : Nat, ρ (Str.ofString "lamp") = some (.int (k : Nat)) ∧ m = left.length + 1 ∧ pl ++ elimP left.length left W = total) ∨ (ρ (Str.ofString "lamp") = some (.int (-1)) ∧ m = 0 ∧ pl = total))) (ls.length + 1)
    ⟨⟨?_, ?_, ?_, ?_, ?_, ?_⟩, ls, [], W, d0 W, e0, hst, ⟨hnd, hls, hl6, by simpa using hl6⟩, fun i _ => hodd i, fun i => by have := hd0 i; lia, e0_ok, .inl ⟨0, ?_, rfl, htot.symm⟩⟩ ?_
  · walk_at "rho"
  · walk_at "rho"
  · show _ = some (V.list _)
    walk_at "rho"
  · walk_at "rho"
  · walk_at "rho"
  · walk_at "rho"
  · show _ = some (V.int 0)
    walk_at "rho"
  clear hst hodd hd0 htot hl hp hls hl6 hnd hwl hwl2 hwl3
  rintro m ρ σ' ⟨⟨r1, r2, r3, r4, r5, r6⟩, left, pl, W, d, e, hS, ⟨hnd, hls, hl6, hpl⟩, hodd, hd, he, hlamp⟩
  rcases hlamp with ⟨k, r7, rfl, htot⟩ | ⟨r7, rfl, htot⟩
  · repeat' walk_at "st"
    refine p_ift (decide_eq_true (by lia)) ?_
    repeat' walk_at "st"
    have eqt : Str.ofString "\"" = S [34] := by decide +kernel
    have hleft : aList σ' (.ref l) = some (left.map fun i => V.int (i : Nat)) := ref_list hS.left
    have hd1000 : ∀ i, 1 ≤ d i ∧ d i ≤ 1000 := fun i => by have := hd i; lia
    refine ⟨_, items_of hleft, by rw [List.length_map]; lia, ?_⟩
    refine comp_over _ (fun ρ => ρ (Str.ofString "rows") = some (.ref (σ.length + 8))) (fun i => [V.str (S (rowL d e i))]) _ _ _ ?_ (gd_of hleft) ?_ ?_
    · walk_at "rho"
    · intro i hi ρ' acc K hI hK
      have hi6 := hls i hi
      repeat' walk_at "st"
      refine ⟨V.str (S (rowL d e i)), ?_, ?_⟩
      · rw [item_at (ref_list hS.rows) (by lia)]
        unfold rowsV
        rw [List.getElem?_map, List.getElem?_range hi6]; rfl
      exact hK _ (by walk_at "rho")
    rw [flat_single]
    refine p_frozen ?_
    repeat' walk_at "st"
    rw [eqt]
    have hfl : ((left.map (rowL d e)).flatten).length ≤ left.length * 1003 := flat_len fun i _ => rowL_len (fun i => (hd1000 i).2) he i
    have hfl2 : left.length * 1003 ≤ 6 * 1003 := Nat.mul_le_mul_right _ hl6
    refine ⟨_, left.map (rowL d e), [34], rfl, ?_, by simp only [List.length_cons, List.length_nil]; lia, ?_⟩
    · show some _ = some _
      unfold strsV
      rw [List.map_map]; rfl
    have hrd : repliesL (repl 46 [34] (left.map (rowL d e)).flatten ++ [34]) = dueF d e (fun i => W i i) left := replies_due he (.inl rfl) hodd hls (fun h => by cases h)
    rw [hrd]
    have hS1 := hS.app [.list (strsV (dueF d e (fun i => W i i) left))]
    have hlen1 : (σ' ++ [MO.list (strsV (dueF d e (fun i => W i i) left))])[σ'.length]? = some (.list (strsV (dueF d e (fun i => W i i) left))) := get_end
    generalize hs1 : σ' ++ [MO.list (strsV (dueF d e (fun i => W i i) left))] = σ1 at hS1 hlen1
    repeat' walk_at "st"
    refine ⟨_, _, _, _, W, d, e, left, rfl, hS1.mat, ref_list hS1.dots, ref_list hS1.ends, ref_list hS1.left, hl6, hls, fun i => (hd1000 i).2, fun i => (he i).len, ?_⟩
    refine CmpR.neL ⟨strsV (dueF d e (fun i => W i i) left), aList_app _ (ref_list hlen1), aList_end, due_item he hls, ?_⟩
    have hS2 := hS1.app [.list (strsV (dueF d e (fun i => W i i) left))]
    generalize σ1 ++ [MO.list (strsV (dueF d e (fun i => W i i) left))] = σ2 at hS2
    clear hS1 hlen1 hs1 hrd hS hfl hfl2 hleft
    repeat' walk_at "st"
    have hleft2 : aList σ2 (.ref l) = some (left.map fun i => V.int (i : Nat)) := ref_list hS2.left
    refine ⟨_, items_of hleft2, by rw [List.length_map]; lia, ?_⟩
    refine comp_over _ (fun ρ => ρ (Str.ofString "work") = some (workV σ.length)) (fun i => if W i i = true then [V.int (i : Nat)] else []) _ _ _ ?_ (gd_of hleft2) ?_ ?_
    · walk_at "rho"
    · intro i hi ρ' acc K hI hK
      have hi6 := hls i hi
      obtain ⟨r, hr1, hr2⟩ := mat_item hS2.mat hi6
      repeat' walk_at "st"
      refine ⟨r, hr1, ?_⟩
      repeat' walk_at "st"
      refine ⟨_, hr2 i hi6, ?_⟩
      repeat' walk_at "st"
      have hk := hK (upd ρ' (Str.ofString "one") (V.int (i : Nat))) (by walk_at "rho")
      cases hw : W i i
      · refine p_iff (by decide) ?_
        rw [hw, if_neg (by decide), List.append_nil] at hk
        exact hk
      · refine p_ift (by decide) ?_
        repeat' walk_at "st"
        rw [hw, if_pos rfl] at hk
        exact hk
    rw [flat_filter (fun i => W i i = true)]
    have hfil : ([] : List V) ++ List.map (fun i => V.int ((i : Nat) : Int)) (List.filter (fun b => decide (W b b = true)) left) = (left.filter fun i => W i i).map fun i => V.int (i : Nat) := by
      rw [List.nil_append]
      congr 1
      exact List.filter_congr fun i _ => by simp
    rw [hfil]
    refine p_frozen ?_
    repeat' walk_at "st"
    refine ⟨by simp, p_frozen ?_⟩
    have hfl6 : (left.filter fun i => W i i).length ≤ left.length := List.length_filter_le _ _
    refine BinR.addL ⟨_, _, rfl, rfl, by rw [List.length_map]; simp only [List.length_cons, List.length_nil]; lia, p_frozen ?_⟩
    repeat' walk_at "st"
    cases hc : left.filter fun i => W i i with
    | nil =>
      refine ⟨V.int (-1), rfl, ?_⟩
      repeat' walk_at "st"
      refine p_iff (by decide) ?_
      repeat' walk_at "st"
      refine p_whnx 0 (by lia) ⟨⟨?_, ?_, ?_, ?_, ?_, ?_⟩, left, pl, W, d, e, hS2, ⟨hnd, hls, hl6, hpl⟩, hodd, hd, he, .inr ⟨?_, rfl, ?_⟩⟩
      · walk_at "rho"
      · walk_at "rho"
      · walk_at "rho"
      · walk_at "rho"
      · walk_at "rho"
      · walk_at "rho"
      · walk_at "rho"
      · rw [elimP_nil hc, List.append_nil] at htot; exact htot
    | cons q r =>
      have hq : q ∈ left.filter fun i => W i i := by rw [hc]; exact List.mem_cons_self
      obtain ⟨hql, hqW⟩ := List.mem_filter.mp hq
      have hq6 := hls q hql
      refine ⟨V.int (q : Nat), rfl, ?_⟩
      repeat' walk_at "st"
      refine p_ift (decide_eq_true (by lia)) ?_
      repeat' walk_at "st"
      refine ⟨⟨_, hleft2⟩, ?_⟩
      repeat' walk_at "st"
      refine ⟨l, left.map fun i => ((i : Nat) : Int), (q : Int), rfl, ?_, List.mem_map.mpr ⟨q, hql, rfl⟩, by rw [List.length_map]; lia, ?_⟩
      · rw [hS2.left]; unfold idxV; rw [List.map_map]; rfl
      rw [erase_cast]
      have hS3 := hS2.setLeft (left.erase q)
      generalize σ2.set l (MO.list (idxV (left.erase q))) = σ3 at hS3
      clear hS2 hleft2 hfil
      repeat' walk_at "st"
      have hleft3 : aList σ3 (.ref l) = some ((left.erase q).map fun i => V.int (i : Nat)) := ref_list hS3.left
      have hel : (left.erase q).length + 1 = left.length := by rw [List.length_erase_of_mem hql]; have := List.length_pos_of_mem hql; lia
      have hls' : ∀ i ∈ left.erase q, i < 6 := fun i hi => hls i (List.mem_of_mem_erase hi)
      have hnd' : (left.erase q).Nodup := hnd.erase q
      refine ⟨_, items_of hleft3, by rw [List.length_map]; lia, ?_⟩
      refine comp_over _ (fun ρ => ρ (Str.ofString "work") = some (workV σ.length) ∧ ρ (Str.ofString "lamp") = some (.int (q : Nat))) (fun i => if W q i = true then [V.int (i : Nat)] else []) _ _ _ ⟨?_, ?_⟩ (gd_of hleft3) ?_ ?_
      · walk_at "rho"
      · walk_at "rho"
      · rintro i hi ρ' acc K ⟨f1, f2⟩ hK
        have hi6 := hls' i hi
        obtain ⟨r, hr1, hr2⟩ := mat_item hS3.mat hq6
        repeat' walk_at "st"
        refine ⟨r, hr1, ?_⟩
        repeat' walk_at "st"
        refine ⟨_, hr2 i hi6, ?_⟩
        repeat' walk_at "st"
        have hk := hK (upd ρ' (Str.ofString "one") (V.int (i : Nat))) ⟨by walk_at "rho", by walk_at "rho"⟩
        cases hw : W q i
        · refine p_iff (by decide) ?_
          rw [hw, if_neg (by decide), List.append_nil] at hk
          exact hk
        · refine p_ift (by decide) ?_
          repeat' walk_at "st"
          rw [hw, if_pos rfl] at hk
          exact hk
      rw [flat_filter (fun i => W q i = true)]
      obtain ⟨near, hnear⟩ : ∃ near, near = (left.erase q).filter fun j => W q j := ⟨_, rfl⟩
      have hfil2 : ([] : List V) ++ List.map (fun i => V.int ((i : Nat) : Int)) (List.filter (fun b => decide (W q b = true)) (left.erase q)) = near.map fun i => V.int (i : Nat) := by
        rw [List.nil_append, hnear]
        congr 1
        exact List.filter_congr fun i _ => by simp
      rw [hfil2]
      have hn6 : ∀ i ∈ near, i < 6 := fun i hi => hls' i (List.mem_filter.mp (hnear ▸ hi)).1
      have hnl : near.length ≤ 6 := by have := List.length_filter_le (fun j => W q j) (left.erase q); rw [← hnear] at this; lia
      have hnn : near.Nodup := by rw [hnear]; exact hnd'.filter _
      refine p_frozen ?_
      repeat' walk_at "st"
      refine ⟨⟨p, _, rfl, hS3.pile⟩, ?_⟩
      repeat' walk_at "st"
      refine ⟨_, rfl, by rw [List.length_map]; lia, ?_⟩
      refine comp_over _ (fun _ => True) (fun i => [V.str (S [97 + i])]) _ _ _ trivial trivial ?_ ?_
      · intro i hi ρ' acc K _ hK
        repeat' walk_at "st"
        exact ⟨_, abc_item (hn6 i hi), hK _ trivial⟩
      rw [flat_single]
      refine p_frozen ?_
      repeat' walk_at "st"
      rw [es0]
      have hts : ((near.map fun i => S [97 + i]).map L).flatten = near.map (97 + ·) := by
        rw [List.map_map]
        exact flat_single (fun i => 97 + i) near
      refine ⟨_, near.map fun i => S [97 + i], rfl, by rw [List.map_map]; rfl, by rw [hts, List.length_map]; lia, ?_⟩
      rw [hts]
      repeat' walk_at "st"
      refine ⟨_, abc_item hq6, ?_⟩
      repeat' walk_at "st"
      refine ⟨p, _, _, _, rfl, hS3.pile, by rw [List.length_map]; lia, ?_⟩
      have hS4 := hS3.setPile (pl ++ [(near, q)])
      rw [show pl.map pileV ++ [V.tup [.str (S (near.map (97 + ·))), .str (S [97 + q])]] = (pl ++ [(near, q)]).map pileV by rw [List.map_append]; rfl]
      generalize σ3.set p (MO.acc ((pl ++ [(near, q)]).map pileV)) = σ4 at hS4
      clear hS3 hleft3 hfil2
      repeat' walk_at "st"
      refine ⟨σ.length + 8, near, d, e, rfl, hS4.rows, hnl, hn6, hnn, hd1000, he, ?_⟩
      have hS5 := hS4.setRows (dUp d near) (eUp e near)
      generalize σ4.set (σ.length + 8) (MO.list (rowsV (dUp d near) (eUp e near))) = σ5 at hS5
      clear hS4
      repeat' walk_at "st"
      refine ⟨_, rfl, ?_⟩
      refine for_all (fun t ρ σ' => (ρ (Str.ofString "left") = some (V.ref l) ∧ ρ (Str.ofString "pile") = some (V.ref p) ∧ ρ (Str.ofString "work") = some (workV σ.length) ∧ ρ (Str.ofString "dots") = some (V.ref (σ.length + 6)) ∧ ρ (Str.ofString "ends") = some (V.ref (σ.length + 7)) ∧ ρ (Str.ofString "rows") = some (V.ref (σ.length + 8)) ∧ ρ (Str.ofString "lamp") = some (V.int (q : Nat)) ∧
        ρ (Str.ofString "near") = some (V.list (near.map fun i => V.int (i : Nat)))) ∧ St σ l p σ' (left.erase q) (pl ++ [(near, q)]) (flipT W near t) (dUp d (near.take t)) (eUp e (near.take t)) (dUp d near) (eUp e near)) ⟨⟨?_, ?_, ?_, ?_, ?_, ?_, ?_, ?_⟩, ?_⟩ (fun _ _ _ _ _ => trivial) ?_ ?_
      · walk_at "rho"
      · walk_at "rho"
      · walk_at "rho"
      · walk_at "rho"
      · walk_at "rho"
      · walk_at "rho"
      · walk_at "rho"
      · walk_at "rho"
      · have he0 : eUp e [] = e := by funext i; unfold eUp; simp
        rw [flipT_0, List.take_zero, dUp_nil, he0]
        exact hS5
      · rintro ρ' σ' ⟨⟨g1, g2, g3, g4, g5, g6, g7, g8⟩, hS6⟩
        rw [List.length_map, flipT_all, List.take_length] at hS6
        repeat' walk_at "st"
        refine p_whnx ((left.erase q).length + 1) (by lia) ⟨⟨g1, g2, g3, g4, g5, g6⟩, left.erase q, pl ++ [(near, q)], flipW W near, dUp d near, eUp e near, hS6, ⟨hnd', hls', by lia, by rw [List.length_append]; simp; lia⟩, ?_, ?_, ?_, .inl ⟨q, g7, rfl, ?_⟩⟩
        · intro i hi
          have ho := hodd i (List.mem_of_mem_erase hi)
          unfold flipW dUp
          by_cases hin : i ∈ near
          · rw [if_pos ⟨hin, hin⟩, if_pos hin, ho]
            by_cases hd2 : d i % 2 = 1
            · rw [decide_eq_true hd2, decide_eq_false (by lia)]; rfl
            · rw [decide_eq_false hd2, decide_eq_true (by lia)]; rfl
          · rw [if_neg (fun z => hin z.1), if_neg hin, ho]
        · intro i
          have := hd i
          unfold dUp
          split <;> lia
        · intro i
          unfold eUp
          split
          · exact .inr (.inr rfl)
          · exact he i
        · rw [← htot, ← hel, elimP_cons hc, ← hnear, List.append_assoc]; rfl
      · rintro t u ρ' σ' hu ⟨⟨g1, g2, g3, g4, g5, g6, g7, g8⟩, hS6⟩ K hK _
        rw [List.getElem?_map, Option.map_eq_some_iff] at hu
        obtain ⟨i, hi, rfl⟩ := hu
        have hi6 := hn6 i (List.mem_of_getElem? hi)
        have hnot := take_not hnn hi
        repeat' walk_at "st"
        refine ⟨_, nat_item (ref_list hS6.dots) hi6, ?_⟩
        repeat' walk_at "st"
        refine ⟨σ.length + 6, _, i, i, rfl, hS6.dots, rfl, by rw [natV_len]; decide, by rw [natV_len]; exact set_ix hi6, ?_⟩
        rw [natV_set hi6, dUp_snoc hnot]
        have hS7 := hS6.setDots (dUp d (near.take t ++ [i]))
        generalize σ'.set (σ.length + 6) (MO.list (natV (dUp d (near.take t ++ [i])))) = σ7 at hS7
        repeat' walk_at "st"
        refine ⟨σ.length + 7, _, i, i, rfl, hS7.ends, rfl, by rw [endV_len]; decide, by rw [endV_len]; exact set_ix hi6, ?_⟩
        rw [endV_set hi6, eUp_snoc]
        have hS8 := hS7.setEnds (eUp e (near.take t ++ [i]))
        generalize σ7.set (σ.length + 7) (MO.list (endV (eUp e (near.take t ++ [i])))) = σ8 at hS8
        clear hS6 hS7
        repeat' walk_at "st"
        refine ⟨_, rfl, ?_⟩
        refine for_all (fun u ρ σ' => (ρ (Str.ofString "left") = some (V.ref l) ∧ ρ (Str.ofString "pile") = some (V.ref p) ∧ ρ (Str.ofString "work") = some (workV σ.length) ∧ ρ (Str.ofString "dots") = some (V.ref (σ.length + 6)) ∧ ρ (Str.ofString "ends") = some (V.ref (σ.length + 7)) ∧ ρ (Str.ofString "rows") = some (V.ref (σ.length + 8)) ∧ ρ (Str.ofString "lamp") = some (V.int (q : Nat)) ∧
          ρ (Str.ofString "near") = some (V.list (near.map fun i => V.int (i : Nat))) ∧ ρ (Str.ofString "one") = some (V.int (i : Nat))) ∧ St σ l p σ' (left.erase q) (pl ++ [(near, q)]) (flipR (flipT W near t) i (near.take u)) (dUp d (near.take t ++ [i])) (eUp e (near.take t ++ [i])) (dUp d near) (eUp e near)) ⟨⟨?_, ?_, ?_, ?_, ?_, ?_, ?_, ?_, ?_⟩, ?_⟩ (fun _ _ _ _ _ => trivial) ?_ ?_
        · walk_at "rho"
        · walk_at "rho"
        · walk_at "rho"
        · walk_at "rho"
        · walk_at "rho"
        · walk_at "rho"
        · walk_at "rho"
        · walk_at "rho"
        · walk_at "rho"
        · rw [List.take_zero, flipR_0]; exact hS8
        · rintro ρ'' σ'' ⟨⟨k1, k2, k3, k4, k5, k6, k7, k8, k9⟩, hS9⟩
          rw [List.length_map, List.take_length, flipT_snoc hi hnot] at hS9
          repeat' walk_at "st"
          refine hK _ _ ⟨⟨k1, k2, k3, k4, k5, k6, k7, k8⟩, ?_⟩
          rw [show near.take (t + 1) = near.take t ++ [i] by rw [List.take_add_one, hi]; rfl]
          exact hS9
        · rintro u x ρ'' σ'' hx ⟨⟨k1, k2, k3, k4, k5, k6, k7, k8, k9⟩, hS9⟩ K' hK' _
          rw [List.getElem?_map, Option.map_eq_some_iff] at hx
          obtain ⟨j, hj, rfl⟩ := hx
          have hj6 := hn6 j (List.mem_of_getElem? hj)
          have hnotj := take_not hnn hj
          have hwi : aItem σ'' (workV σ.length) (.int (i : Nat)) = some (.ref (σ.length + i)) := by
            rw [item_at (xs := (List.range 6).map fun i => V.ref (σ.length + i)) rfl (by lia), List.getElem?_map, List.getElem?_range hi6]; rfl
          repeat' walk_at "st"
          refine ⟨_, hwi, ?_⟩
          repeat' walk_at "st"
          refine ⟨V.int (b2i (flipR (flipT W near t) i (near.take u) i j)), ?_, ?_⟩
          · rw [item_at (ref_list (hS9.work i hi6)) (by lia)]
            unfold rowV
            rw [List.getElem?_map, List.getElem?_range hj6]; rfl
          repeat' walk_at "st"
          refine ⟨_, hwi, ?_⟩
          repeat' walk_at "st"
          refine ⟨σ.length + i, _, j, j, rfl, hS9.work i hi6, rfl, by rw [rowV_len]; decide, by rw [rowV_len]; exact set_ix hj6, ?_⟩
          rw [rowV_set hj6, flipR_snoc hnotj]
          have hS10 := hS9.setWork hi6 (W' := flipR (flipT W near t) i (near.take u ++ [j])) (fun k hk => by funext b; unfold flipR; rw [if_neg (fun z => hk z.1), if_neg (fun z => hk z.1)])
          repeat' walk_at "st"
          refine hK' _ _ ⟨⟨?_, ?_, ?_, ?_, ?_, ?_, ?_, ?_, ?_⟩, ?_⟩
          · walk_at "rho"
          · walk_at "rho"
          · walk_at "rho"
          · walk_at "rho"
          · walk_at "rho"
          · walk_at "rho"
          · walk_at "rho"
          · walk_at "rho"
          · walk_at "rho"
          · rw [show near.take (u + 1) = near.take u ++ [j] by rw [List.take_add_one, hj]; rfl]
            exact hS10
  · repeat' walk_at "st"
    refine p_iff (decide_eq_false (by lia)) ?_
    repeat' walk_at "st"
    obtain ⟨τ, hτ⟩ := hS.end
    rw [hτ, htot]
    exact hQ _ _

end
section
set_option autoImplicit false

theorem pressF_snoc (q : List Nat × Nat) : ∀ (l : List (List Nat × Nat)) (acc : List Nat), pressF (l ++ [q]) acc = if (q.1.filter (· ∈ pressF l acc)).length % 2 = 0 then pressF l acc ++ [q.2] else pressF l acc
  | [], acc => rfl
  | p :: l, acc => by
    show pressF (l ++ [q]) _ = _
    rw [pressF_snoc q l]; rfl
theorem flip_in {W : Nat → Nat → Bool} {near : List Nat} {i : Nat} (hi : i ∈ near) : ∀ xs : List Nat, (xs.countP (fun x => flipW W near x i) + xs.countP (fun x => W x i)) % 2 = xs.countP (fun x => decide (x ∈ near)) % 2
  | [] => rfl
  | x :: xs => by
    have ih := flip_in (W := W) hi xs
    rw [List.countP_cons, List.countP_cons, List.countP_cons]
    have e : flipW W near x i = if x ∈ near then !W x i else W x i := by
      unfold flipW
      by_cases h : x ∈ near
      · rw [if_pos ⟨h, hi⟩, if_pos h]
      · rw [if_neg (fun z => h z.1), if_neg h]
    rw [e]
    by_cases h : x ∈ near
    · rw [if_pos h]
      cases hw : W x i <;> simp [h] <;> lia
    · rw [if_neg h]
      cases hw : W x i <;> simp [h] <;> lia
theorem flip_out {W : Nat → Nat → Bool} {near : List Nat} {i : Nat} (hi : i ∉ near) (xs : List Nat) : xs.countP (fun x => flipW W near x i) = xs.countP (fun x => W x i) := by
  congr 1
  funext x
  unfold flipW
  rw [if_neg (fun z => hi z.2)]
theorem count_swap {a b : List Nat} (ha : a.Nodup) (hb : b.Nodup) : b.countP (fun x => decide (x ∈ a)) = (a.filter (· ∈ b)).length := by
  rw [List.countP_eq_length_filter]
  refine (List.Perm.length_eq ?_)
  refine (List.perm_ext_iff_of_nodup (hb.filter _) (ha.filter _)).mpr fun x => ?_
  rw [List.mem_filter, List.mem_filter]
  simp only [decide_eq_true_eq]
  exact And.comm

theorem sutner : ∀ (n : Nat) (left : List Nat) (W : Nat → Nat → Bool), (∀ i j, W i j = W j i) → left.Nodup → left.length ≤ n →
    (∀ x ∈ pressF (elimP n left W).reverse [], x ∈ left) ∧ (pressF (elimP n left W).reverse []).Nodup ∧ ∀ i ∈ left, (pressF (elimP n left W).reverse []).countP (fun x => W x i) % 2 = if W i i then 1 else 0
  | 0, left, W, _, _, hl => by
    have : left = [] := List.length_eq_zero_iff.mp (by lia)
    subst this
    exact ⟨(fun x hx => by cases hx), List.nodup_nil, (fun i hi => by cases hi)⟩
  | n + 1, left, W, hW, hnd, hl => by
    cases hc : left.filter fun i => W i i with
    | nil =>
      rw [elimP_nil hc]
      refine ⟨(fun x hx => by cases hx), List.nodup_nil, fun i hi => ?_⟩
      have : W i i = false := by
        cases hw : W i i with
        | false => rfl
        | true =>
          have : i ∈ left.filter fun i => W i i := List.mem_filter.mpr ⟨hi, hw⟩
          rw [hc] at this; cases this
      rw [this]; rfl
    | cons q r =>
      have hq : q ∈ left.filter fun i => W i i := by rw [hc]; exact List.mem_cons_self
      obtain ⟨hql, hqW⟩ := List.mem_filter.mp hq
      have hel : (left.erase q).length + 1 = left.length := by rw [List.length_erase_of_mem hql]; have := List.length_pos_of_mem hql; lia
      rw [elimP_cons hc]
      generalize hnear : (left.erase q).filter (fun j => W q j) = near
      have hnn : near.Nodup := by rw [← hnear]; exact (hnd.erase q).filter _
      have hmem : ∀ i, i ∈ near ↔ i ∈ left.erase q ∧ W q i = true := fun i => by rw [← hnear]; exact List.mem_filter
      have hW' : ∀ i j, flipW W near i j = flipW W near j i := fun i j => by
        unfold flipW
        rw [hW i j]
        by_cases h1 : i ∈ near <;> by_cases h2 : j ∈ near <;> simp [h1, h2]
      obtain ⟨i1, i2, i3⟩ := sutner n (left.erase q) (flipW W near) hW' (hnd.erase q) (by lia)
      rw [List.reverse_cons, pressF_snoc]
      generalize pressF (elimP n (left.erase q) (flipW W near)).reverse [] = xs at i1 i2 i3
      have hsw := count_swap hnn i2
      generalize (near.filter (· ∈ xs)).length = s at hsw
      have hqx : q ∉ xs := fun h => (List.Nodup.mem_erase_iff hnd).mp (i1 q h) |>.1 rfl
      have hcase : ∀ i, (if s % 2 = 0 then xs ++ [q] else xs).countP (fun x => W x i) = xs.countP (fun x => W x i) + if s % 2 = 0 ∧ W q i = true then 1 else 0 := fun i => by
        by_cases h : s % 2 = 0
        · rw [if_pos h, List.countP_append]
          cases hw : W q i <;> simp [h, hw]
        · rw [if_neg h, if_neg (fun z => h z.1)]; rfl
      refine ⟨fun x hx => ?_, ?_, fun i hi => ?_⟩
      · by_cases h : s % 2 = 0
        · rw [if_pos h] at hx
          rcases List.mem_append.mp hx with z | z
          · exact List.mem_of_mem_erase (i1 x z)
          · rw [List.mem_singleton.mp z]; exact hql
        · rw [if_neg h] at hx; exact List.mem_of_mem_erase (i1 x hx)
      · by_cases h : s % 2 = 0
        · rw [if_pos h]
          exact List.nodup_append.mpr ⟨i2, by simp, fun x hx y hy e => hqx (by have hy' : y = q := List.mem_singleton.mp hy; rw [e, hy'] at hx; exact hx)⟩
        · rw [if_neg h]; exact i2
      · rw [hcase]
        by_cases hiq : i = q
        · subst hiq
          have e1 : xs.countP (fun x => W x i) = xs.countP (fun x => decide (x ∈ near)) := by
            refine List.countP_congr fun x hx => ?_
            rw [hW x i]
            simp only [decide_eq_true_eq]
            rw [hmem x]
            exact ⟨fun h => ⟨i1 x hx, h⟩, fun h => h.2⟩
          rw [e1, hsw, hqW]
          by_cases h : s % 2 = 0
          · rw [if_pos ⟨h, rfl⟩]; simp; lia
          · rw [if_neg (fun z => h z.1)]; simp; lia
        · have hie : i ∈ left.erase q := (List.Nodup.mem_erase_iff hnd).mpr ⟨hiq, hi⟩
          have ih := i3 i hie
          by_cases hin : i ∈ near
          · have hqi := ((hmem i).mp hin).2
            have hf := flip_in (W := W) hin xs
            have hfii : flipW W near i i = !W i i := by unfold flipW; rw [if_pos ⟨hin, hin⟩]
            rw [hfii] at ih
            rw [hsw] at hf
            by_cases h : s % 2 = 0
            · rw [if_pos ⟨h, hqi⟩]
              cases hw : W i i <;> rw [hw] at ih <;> simp at ih ⊢ <;> lia
            · rw [if_neg (fun z => h z.1)]
              cases hw : W i i <;> rw [hw] at ih <;> simp at ih ⊢ <;> lia
          · have hqi : W q i ≠ true := fun h => hin ((hmem i).mpr ⟨hie, h⟩)
            have hfii : flipW W near i i = W i i := by unfold flipW; rw [if_neg (fun z => hin z.1)]
            rw [hfii, flip_out hin] at ih
            rw [if_neg (fun z => hqi z.2), Nat.add_zero]
            exact ih

end
section
set_option autoImplicit false
theorem ch_count {W : Nat → Nat → Bool} {i : Nat} (hi : i < 6) : ∀ (xs : List Nat) (d : Nat → Nat), (xs.foldl (fun d x => dUp d (someOf W x)) d) i = d i + xs.countP (fun x => W x i)
  | [], d => rfl
  | x :: xs, d => by
    rw [List.foldl_cons, ch_count hi xs, List.countP_cons]
    unfold dUp
    have hm : i ∈ someOf W x ↔ W x i = true := by
      unfold someOf
      rw [List.mem_filter, List.mem_range]
      exact ⟨fun h => h.2, fun h => ⟨hi, h⟩⟩
    by_cases h : W x i = true
    · rw [if_pos (hm.mpr h), if_pos h]; lia
    · rw [if_neg (fun z => h (hm.mp z)), if_neg h]; lia
/-- the presses change just what they ought to -/
theorem presses {W : Nat → Nat → Bool} (hW : ∀ i j, W i j = W j i) {ls : List Nat} (hnd : ls.Nodup) (hall : ∀ i, i < 6 → i ∈ ls) {i : Nat} (hi : i < 6) :
    W i i = decide (chD W (pressF (elimP ls.length ls W).reverse []) i % 2 = 1) := by
  obtain ⟨_, _, h⟩ := sutner ls.length ls W hW hnd (Nat.le_refl _)
  have h1 := h i (hall i hi)
  unfold chD
  rw [ch_count hi]
  cases hw : W i i with
  | true =>
    rw [hw] at h1
    simp only [if_true] at h1
    rw [decide_eq_true (by lia)]
  | false =>
    rw [hw] at h1
    simp only [Bool.false_eq_true, if_false] at h1
    rw [decide_eq_false (by lia)]
theorem Mj_sym (sc : List Int) (i j : Nat) : Mj sc i j = Mj sc j i := by
  unfold Mj
  rw [Nat.min_comm, show ((i : Int) - j).natAbs = ((j : Int) - i).natAbs by lia]
noncomputable def Mb (sc : List Int) (i j : Nat) : Bool := decide (Mj sc i j = 1)
theorem Mb_sym (sc : List Int) (i j : Nat) : Mb sc i j = Mb sc j i := by unfold Mb; rw [Mj_sym]
theorem Mb_eq (sc : List Int) : (fun i j => b2i (Mb sc i j)) = Mj sc := by
  funext i j
  have h : Mj sc i j = 0 ∨ Mj sc i j = 1 := by
    unfold Mj
    have := Int.emod_nonneg (numAt sc (min i j) / 2 ^ ((i : Int) - j).natAbs) (show (2 : Int) ≠ 0 by decide)
    have := Int.emod_lt_of_pos (numAt sc (min i j) / 2 ^ ((i : Int) - j).natAbs) (show (0 : Int) < 2 by decide)
    lia
  unfold Mb b2i
  rcases h with h | h <;> rw [h] <;> rfl
noncomputable def rotL (n : Int) : List Nat := (List.range 6).map fun far => ((n + (far : Nat)) % 6).toNat
theorem rot_ok (n : Int) : (rotL n).Nodup ∧ (∀ i ∈ rotL n, i < 6) ∧ (rotL n).length = 6 ∧ ∀ i, i < 6 → i ∈ rotL n := by
  obtain ⟨k, hk, hk6⟩ : ∃ k : Nat, n % 6 = (k : Nat) ∧ k < 6 := ⟨(n % 6).toNat, by lia, by lia⟩
  have e : rotL n = (List.range 6).map fun far => (k + far) % 6 := by
    unfold rotL
    exact List.map_congr_left fun far _ => by lia
  rw [e]
  rcases lt6c hk6 with rfl | rfl | rfl | rfl | rfl | rfl
  all_goals decide

end
section
set_option autoImplicit false
set_option maxRecDepth 100000

noncomputable abbrev bmExc : List Value := [.type "Exception", .type "BaseException", .type "object"]
/-- a class of exceptions of the text's own -/
inductive ErrObj (G : Glb) (C : Addr) : Prop
  | mk (bm N nm q bs hdct sn sub ab col dd k0 k1 k2 k3 k5 mN) (h1 : G.base C = some (excClassObj nm q C N bs bm hdct sn sub ab col dd k0 k1 k2 k3 k5 "Exception.__new__")) (h2 : ∀ h, G.In h → h.Ns N mN) (h3 : ∀ n ∈ quietNames, mN n = none) (h4 : ∀ h, G.In h → OwnTailQ h bmExc bm) : ErrObj G C
structure ErrG (G : Glb) (x : Str) (C : Addr) : Prop where
  bound : G.mg x = some (.ref C)
  obj : ErrObj G C
theorem tailQ_has {h : Heap} {bm : List Value} (T : OwnTailQ h bmExc bm) : bm.contains (.type "BaseException") = true := by
  induction T with
  | base => decide
  | own _ _ _ _ ih => rw [List.contains_cons, ih, Bool.or_true]
noncomputable def FF (h : Heap) (l : List Env) : Prop := ∀ env ∈ l, env.scope.kind ≠ .module ∧ ∃ L o, env.frame = some L ∧ h.get? L = some o ∧ ∀ vs, o.data ≠ .fields vs
noncomputable abbrev frs (l : List Env) : List Addr := l.filterMap (·.frame)
theorem ff_fun {h base : Heap} : ∀ {l : List Env}, FF h l → (∀ L ∈ frs l, base.get? L = none) → h.FunFrames base l
  | [], _, _ => trivial
  | env :: l, hF, hb => by
    obtain ⟨h1, L, o, h2, h3, h4⟩ := hF env List.mem_cons_self
    have e : frs (env :: l) = L :: frs l := by unfold frs; rw [List.filterMap_cons, h2]
    rw [e] at hb
    exact ⟨h1, ⟨L, o, h2, hb L List.mem_cons_self, h3, h4⟩, ff_fun (fun v hv => hF v (List.mem_cons_of_mem _ hv)) fun L' hL' => hb L' (List.mem_cons_of_mem _ hL')⟩
theorem SR.keepsOn {G : Glb} {g : FM} {h h' : Heap} {φ : List Addr} {σ : Sto} (S : SR G g h φ σ) (hk : ∀ b o, (b ∈ φ ∨ ∃ o', g b = some o') → h.get? b = some o → h'.get? b = some o) : SR G g h' φ σ :=
  ⟨S.base, fun b o e => hk b o (.inr ⟨o, e⟩) (S.keep b o e), S.len, fun k a m h1 h2 => MOR.keeps (fun _ _ e => e) (fun _ _ e => e) (fun o e => hk a o (.inl (List.mem_of_getElem? h1)) e) (S.mo k a m h1 h2), S.fresh, S.nodup⟩
/-- an exception on its way -/
structure Flies (h : Heap) (e T : Addr) (cls : Value) : Prop where
  ne : T ≠ e
  there : ∃ oe vs oT ts a0, h.get? e = some oe ∧ oe.cls = cls ∧ vs[0]? = some a0 ∧ oe.data = .fields vs ∧ vs[1]? = some (.ref T) ∧ h.get? T = some oT ∧ oT.data = .fields ts ∧ ts[3]? = some .none

section
variable {G : Glb} {ℓ : Nat}
/-- a call that raises at once: `if test: raise X(args)` at the head of the body -/
theorem call_raises (O : G.Ok) {a : Addr} {fd : FuncData} {test : Expr} {x : Str} {np cpos rpos ipos : Pos} {e₁ : Expr} {er : List Expr} {rest : List Stmt} {ps : List Str} {Wt : WT} {Ws : WL} {C : Addr}
    (D : IsDef G a fd (.If test [.Raise (some (.Call (.Name x np) (e₁ :: er) [] cpos)) none rpos] [] ipos :: rest) []) (hp : ∀ x ∈ ps, canStore fd.scope (ownOf fd.scope) x)
    (hb : ∀ ws : List Value, ws.length = ps.length → bindArgs fd ⟨ws, []⟩ = pure (ps.zip ws)) (ht : Tt G ℓ fd.scope test Wt) (ha : Evs G ℓ fd.scope (e₁ :: er) Ws)
    (hC : ErrG G x C) (hk : fd.scope.names.lookup x = some .globalImplicit) (hd : (x == ("__debug__" : Str)) = false)
    (h1 : ∀ env, starEach (e₁ :: er) env = (false, eval e₁ env) :: starEach er env) (h2 : ∀ env, (backTo cpos (starEach (e₁ :: er) env)).any (·.1) = false)
    {A : Around} {s : Shared} {g : FM} {φ : List Addr} {σ : Sto} {vs : List V} {ws : List Value} {K E : Value → Shared → Prop} (cx : Cx (ℓ + 1) A) (ok : SOk s) (S : SR G g s.heap φ σ) (hv : VRs g φ vs ws) (hl : vs.length = ps.length)
    {ρ : Rho} (hρ : bindRho ps vs (fun _ => none) = some ρ) (hW : Wt (fun b σ' => b = true ∧ Ws (fun us σx => us.length ≤ 2 ^ 20 ∧ σx = σ) ρ σ') ρ σ)
    {outer : List Env} (hfr : A.frames = some outer) (hff : FF s.heap outer) (hfg : ∀ L ∈ frs outer, L ∉ φ ∧ g L = none)
    (hE : ∀ s' e T g' φ', SOk s' → s'.drawn = s.drawn → s'.os = s.os → Flies s'.heap e T (.ref C) → s.heap.get? e = none → s.heap.get? T = none → SR G g' s'.heap φ' σ → (∀ b o, b ∉ φ → b ∉ frs outer → s.heap.get? b = some o → s'.heap.get? b = some o) →
      (∀ b ∈ frs outer, ∀ o, s.heap.get? b = some o → ∃ sl, s'.heap.get? b = some { o with slots := sl }) →
      (∀ b o, g b = some o → g' b = some o) → (∀ b o, g' b = some o → g b = some o ∨ s.heap.get? b = none) → (∃ r, φ' = φ ++ r ∧ ∀ a ∈ r, s.heap.get? a = none) → g' e = none → g' T = none → e ∉ φ' → T ∉ φ' → E (.ref e) s') :
    wpAny (model G.prog G.w) A (call (.ref a) ws) K E s := by
  obtain ⟨o, hbase, hdata⟩ := D.obj
  have inb : G.In s.heap := S.inb
  have dep := cx.depth
  have uni := cx.units
  have hbind : BindsTo s fd ⟨ws, []⟩ (ps.zip ws) := BindsTo.of_eq (hb ws (hv.length.trans hl))
  refine wpAny_call (codeAny_call_function (by show A.depth < 1000; exact ar168 dep) (inb _ _ hbase) hdata D.co D.gen D.body (D.code _ inb) (hbind _ _ _ _ ?_))
  rw [D.closure]
  simp only [newFunctionEnv, Option.isSome_none, Bool.false_eq_true, if_false]
  refine wpAny_bind (wpAny_alloc ?_)
  refine wpAny_bind (wpAny_layCells _ (fun name kind cells => by cases kind == NameKind.cell <;> simp) _ _ _ _ ?_)
  rw [show ({ s with heap := s.heap.push { cls := .type "frame", data := .dict #[] } } : Shared).heap.objs.size = s.heap.objs.size + 1 from Heap.size_push ..]
  generalize hEnv : ({ scope := fd.scope, locals := s.heap.objs.size, globals := fd.globals, cells := cellsFrom (s.heap.objs.size + 1) fd.scope.names [], qual := fd.qualname ++ ".<locals>.", func := some a, code := fd.code, frame := some s.heap.objs.size, builtins := fd.builtins } : Env) = env
  have eo : EnvOk fd.scope env := ⟨by rw [← hEnv], D.kind, by rw [← hEnv]; exact D.globals, by rw [← hEnv]; exact D.builtins⟩
  have hfrm : env.frame = some s.heap.objs.size := by rw [← hEnv]
  have hloc : env.locals = s.heap.objs.size := by rw [← hEnv]
  obtain ⟨R₁, N₁, hfresh⟩ := Rel.frame (cls := .type "frame") (sc := fd.scope) (sc' := fd.scope) (cl := []) (ρ₀ := fun _ => none) (env' := env) ok S (fun x v h => by cases h) eo.scope (by rw [← hEnv]) (by rw [← hEnv])
  refine wpAny_bind (stores eo _ (fun _ _ _ => rfl) ps vs ws _ g φ σ _ ρ _ _ hp R₁ (N₁.vrs hv) hρ fun s₂ N₂ R₂ => ?_)
  refine wpAny_pure ⟨O.nolimit _ R₂.sr.inb, codeAny_func ?_⟩
  have cx' : Cx ℓ (A.deeper env) := ⟨cx.handled, by show A.depth + 1 + 10 * ℓ ≤ 900; exact ar169 dep, by show A.units + 3 + 100 * ℓ ≤ 9000; exact ar170 uni⟩
  refine wpAny_execs_cons (wpAny_If (ht (A.deeper env) env _ s₂ g φ σ ρ _ cx' eo R₂ hW _ _ fun b s₃ g₃ φ₃ σ₃ N₃ R₃ hQ => ?_))
  obtain ⟨rfl, hQ⟩ := hQ
  rw [if_pos rfl]
  refine wpAny_execs_cons ?_
  obtain ⟨bm, Nn, nm, q, bs, hdct, sn, sub, ab, col, dd, k0, k1, k2, k3, k5, mN, hCo, hN, hq, TQ⟩ := hC.obj
  have hnil : wpAny (model G.prog G.w) (A.deeper env) (exec (.Raise (some (.Call (.Name x np) (e₁ :: er) [] cpos)) none rpos) env) (fun _ _ => False) (fun e s' =>
      wpAny (model G.prog G.w) (A.deeper env) (leaving env e) (fun _ s'' => E e s'') (fun e' s'' => E e' s'') s') s₃ := ?_
  · exact wpAny_mono hnil (fun _ _ z => z.elim) fun _ _ z => z
  refine wpAny_Raise_call_subT (nm := nm) (q := q) (C := C) (N := Nn) (bs := bs) (hdct := hdct) (sn := sn) (sub := sub) (ab := ab) (col := col) (dd := dd) (k0 := k0) (k1 := k1) (k2 := k2) (k3 := k3) (k5 := k5) PySem.F.excBase_Exception (tailQ_has (TQ _ R₃.sr.inb)) cx'.handled (h2 env) (hq _ (.head _)) ?_
  refine Ev.glob (ℓ := ℓ) O hk hC.bound (v := .raw (.ref C)) (fun _ _ => rfl) hd (A.deeper env) env _ s₃ g₃ φ₃ σ₃ ρ (fun v σ' => v = .raw (.ref C) ∧ Ws (fun us σx => us.length ≤ 2 ^ 20 ∧ σx = σ) ρ σ') cx' eo R₃ ⟨rfl, hQ⟩ _ _ fun w s₄ g₄ φ₄ σ₄ v N₄ R₄ hv4 hQ4 => ?_
  obtain ⟨rfl, hQ4⟩ := hQ4
  refine ⟨hv4, ?_⟩
  have hargs := ha (A.deeper env) env _ s₄ g₄ φ₄ σ₄ ρ (fun us σx => us.length ≤ 2 ^ 20 ∧ σx = σ) cx' eo R₄ hQ4 cpos
  rw [h1] at hargs ⊢
  refine Calls.evalArgs_plain (hargs _ _ fun us s₅ g₅ φ₅ σ₅ vs5 N₅ R₅ hus hlen => ?_)
  obtain ⟨hlen, hσ⟩ := hlen
  subst hσ
  have hin5 := R₅.sr.inb
  refine ⟨rfl, ?_, hin5 _ _ hCo, hN _ hin5, (TQ _ hin5).tail, fun h6 e M => ?_⟩
  · show us.length ≤ sizeLine
    rw [hus.length]
    exact Nat.le_trans hlen (by decide)
  have N : Nx [] s s₅ g g₅ φ φ₅ := (((N₁.leave N₂ hfresh).trans N₃).trans N₄).trans N₅
  obtain ⟨t, he6, ht1, ht2⟩ := M.there
  obtain ⟨ue1, ue2⟩ := R₅.sr.un M.new
  have nb : ∀ b, s₅.heap.get? b = none → s.heap.get? b = none := fun b hb => by
    cases z : s.heap.get? b with
    | none => rfl
    | some o => exact absurd hb (N.ex b (by rw [z]; simp))
  have hLs : s.heap.get? s.heap.objs.size = none := get?_size s.heap
  have hff6 : FF h6 (env :: outer) := fun v hv => by
    rcases List.mem_cons.mp hv with rfl | hv
    · obtain ⟨m, ⟨oF, esF, epF, hoF, hdF, _⟩, _⟩ := R₅.fr.ns
      refine ⟨by rw [eo.scope, eo.kind]; decide, s.heap.objs.size, oF, hfrm, M.keeps _ _ (hloc ▸ hoF), fun vs q => by rw [hdF] at q; cases q⟩
    · obtain ⟨z1, Lf, oF, z2, z3, z4⟩ := hff v hv
      have hm : Lf ∈ frs outer := List.mem_filterMap.mpr ⟨v, hv, z2⟩
      exact ⟨z1, Lf, oF, z2, M.keeps _ _ (N.oth _ _ (by simp) (hfg Lf hm).1 z3), z4⟩
  have hfrl : frs (env :: outer) = s.heap.objs.size :: frs outer := by unfold frs; rw [List.filterMap_cons, hfrm]
  refine wpAny_leaving_firstW (base := hideAll h6 (e :: frs (env :: outer))) (outer := outer) (L := s.heap.objs.size) (by show A.frames.map _ = _; rw [hfr]; rfl) (ff_fun hff6 fun L hL => hideAll_none _ (.tail _ hL)) hfrm he6 (fun b o hb => of_hideAll _ hb) (hideAll_none _ (.head _)) rfl rfl rfl fun h7 LW => ?_
  obtain ⟨st, ff, tr, up⟩ := LW
  have kp : ∀ b o, b ≠ e → b ∉ frs (env :: outer) → h6.get? b = some o → h7.get? b = some o := fun b o z1 z2 z3 => st b o (hideAll_get _ z3 fun q => by
    rcases List.mem_cons.mp q with q | q
    · exact z1 q
    · exact z2 q)
  obtain ⟨oe, vse, T, oT, ts, y1, ⟨y2, y3⟩, y4, y5, y6, y7, y8, y9, y10⟩ := tr
  have hT6 : h6.get? T = none := by
    cases z : h6.get? T with
    | none => rfl
    | some o =>
      exfalso
      have hTf : T ∈ frs (env :: outer) := by
        by_cases hm : T ∈ frs (env :: outer)
        · exact hm
        · rw [hideAll_get _ z (fun q => by
            rcases List.mem_cons.mp q with q | q
            · exact y7 q
            · exact hm q)] at y6
          cases y6
      obtain ⟨_, o', ho', hnf⟩ := ff.mem hTf
      rw [y8] at ho'; cases ho'
      exact hnf ts y9
  have hT5 : s₅.heap.get? T = none := by
    cases z : s₅.heap.get? T with
    | none => rfl
    | some o => rw [M.keeps _ _ z] at hT6; cases hT6
  obtain ⟨uT1, uT2⟩ := R₅.sr.un hT5
  have frm : ∀ b ∈ frs (env :: outer), b ∉ φ₅ ∧ g₅ b = none := fun b hb => by
    rw [hfrl] at hb
    rcases List.mem_cons.mp hb with q | q
    · rw [q, ← hloc]; exact ⟨R₅.fr.Lφ, R₅.fr.Lg⟩
    · obtain ⟨w1, w2⟩ := hfg b q
      obtain ⟨v, hv, hvf⟩ := List.mem_filterMap.mp q
      obtain ⟨_, Lf, oF, z2, z3, _⟩ := hff v hv
      rw [hvf] at z2; cases z2
      refine ⟨fun hm => ?_, ?_⟩
      · obtain ⟨r, hr, hr2⟩ := N.pre
        rw [hr] at hm
        rcases List.mem_append.mp hm with q | q
        · exact w1 q
        · rw [hr2 b q] at z3; cases z3
      · cases z : g₅ b with
        | none => rfl
        | some o =>
          rcases N.new b o z with q | q
          · rw [w2] at q; cases q
          · rw [q] at z3; cases z3
  refine hE ⟨h7, s₅.gens, s₅.drawn, s₅.toks, s₅.os⟩ e T g₅ φ₅ ⟨R₅.ok.toks, R₅.ok.bare⟩ N.drawn N.os ⟨y7, oe, vse, oT, ts, _, y1, y2, y3, y4, y5, y8, y9, y10⟩ (nb _ M.new) (nb _ hT5) ((R₅.sr.keeps M.keeps).keepsOn fun b o hb hbo => ?_) (fun b o hb1 hb2 hbo => ?_) (fun b hb o hbo => ?_) N.sub N.new N.pre ue2 uT2 ue1 uT1
  · refine kp b o (fun q => ?_) (fun q => ?_) hbo
    · subst q
      rcases hb with hb | ⟨o', hb⟩
      · exact ue1 hb
      · rw [ue2] at hb; cases hb
    · obtain ⟨w1, w2⟩ := frm b q
      rcases hb with hb | ⟨o', hb⟩
      · exact w1 hb
      · rw [w2] at hb; cases hb
  · refine kp b o (fun q => ?_) (fun q => ?_) (M.keeps _ _ (N.oth _ _ (by simp) hb1 hbo))
    · subst q; rw [nb _ M.new] at hbo; cases hbo
    · rw [hfrl] at q
      rcases List.mem_cons.mp q with q | q
      · rw [q, hLs] at hbo; cases hbo
      · exact hb2 q
  · obtain ⟨v, hv, hvf⟩ := List.mem_filterMap.mp hb
    obtain ⟨_, Lf, oF, z2, z3, z4⟩ := hff v hv
    rw [hvf] at z2; cases z2
    rw [hbo] at z3; cases z3
    exact up b o (M.keeps _ _ (N.oth _ _ (by simp) (hfg b hb).1 hbo)) z4
end

end
section
set_option autoImplicit false
set_option maxRecDepth 100000
section
variable {M : Model} {A : Around} {E : Value → Shared → Prop} {s : Shared}
theorem note_next {base : Heap} {env : Env} {outer : List Env} {L e : Addr} {cls a0 : Value} {Q : Unit → Shared → Prop}
    (hfr : A.frames = some (env :: outer)) (hl : s.heap.FunFrames base (env :: outer)) (hf : env.frame = some L) (ht : s.heap.TracedW base e cls a0) (hkb : base.StaysIn s.heap) (hen : base.get? e = none)
    (h : ∀ h', Heap.LeftW base (env :: outer) e cls a0 s.heap h' → Q () { s with heap := h' }) : wpAny M A (noteFrame (.ref e) env) (fun _ s' => wpAny M A (setFlight (.ref e) none) Q E s') E s := by
  obtain ⟨oe, vs, T, oT, ts, he, ⟨hcls, h0⟩, hd, h1, hnT, hTe, hT, hdT, h3⟩ := ht
  subst hcls
  unfold noteFrame
  simp only [hf]
  refine wpAny_bind (wpAny_field he hd h1 ?_)
  rw [if_pos (show (Value.ref T != Value.none) = true from by simp)]
  refine wpAny_bind (wpAny_field hT hdT h3 ?_)
  rw [if_neg (show ¬ ((Value.none == rawInt L) = true) from by simp [rawInt])]
  refine wpAny_bind (wpAny_setField hT hdT (Array.getElem?_eq_some_iff.mp h3).1 ?_)
  have other : ∀ b, b ≠ T → (s.heap.update T (Obj.mapFields (·.setIfInBounds 3 Value.none))).get? b = s.heap.get? b := fun b hb => Heap.get?_update_other _ _ (Ne.symm hb)
  have noRecord : ∀ b o, s.heap.get? b = some o → (∀ vs, o.data ≠ .fields vs) → b ≠ T := fun b o hb hnf q => by
    rw [q, hT] at hb; injection hb with hb; subst hb; exact hnf ts hdT
  refine wpAny_newEntryW hfr (hl.of_keeps fun b o hb hnf => ⟨o, (other b (noRecord b o hb hnf)).trans hb, rfl⟩) hf ((other e (Ne.symm hTe)).trans he)
    (fun b o hbo => (other b fun q => by rw [q, hnT] at hbo; cases hbo).trans (hkb b o hbo)) hen hd (Array.getElem?_eq_some_iff.mp h1).1 h0
    fun h' ⟨x1, x2, x3, x4⟩ => h h' ⟨x1, x2, x3, fun b o hb hnf => x4 b o ((other b (noRecord b o hb hnf)).trans hb) hnf⟩
/-- the flight's mark is taken off -/
theorem flight_off {e T : Addr} {cls : Value} {Q : Unit → Shared → Prop} (F : Flies s.heap e T cls) (h : ∀ h', (∀ b o, b ≠ T → s.heap.get? b = some o → h'.get? b = some o) → Flies h' e T cls → Q () { s with heap := h' }) : wpAny M A (setFlight (.ref e) none) Q E s := by
  obtain ⟨ne, oe, vs, oT, ts, a0, he, hc, h0, hd, h1, hT, hdT, h3⟩ := F
  unfold setFlight
  refine wpAny_bind (wpAny_field he hd h1 ?_)
  rw [if_pos (show (Value.ref T != Value.none) = true from by simp)]
  have hsz := (Array.getElem?_eq_some_iff.mp h3).1
  have hd' := Obj.data_mapFields hdT (·.setIfInBounds 3 ((none : Option Addr).elim Value.none fun f => rawInt f))
  refine wpAny_setField hT hdT hsz (h _ (fun b o hb ho => (Heap.get?_update_other _ _ (Ne.symm hb)).trans ho) ⟨ne, oe, vs, _, _, a0, (Heap.get?_update_other _ _ ne).trans he, hc, h0, hd, h1, Heap.get?_update_self _ hT (Obj.isFreed_of_fields hd'), hd', ?_⟩)
  simp [hsz]
end

section
variable {G : Glb}
theorem ErrG.ownQ {x : Str} {C : Addr} (H : ErrG G x C) {h : Heap} (hin : G.In h) : OwnClsQ x C bmExc "Exception.__new__" G.mg h := by
  obtain ⟨bm, Nn, nm, q, bs, hdct, sn, sub, ab, col, dd, k0, k1, k2, k3, k5, mN, hCo, hN, hq, TQ⟩ := H.obj
  exact ⟨H.bound, bm, Nn, nm, q, bs, hdct, sn, sub, ab, col, dd, k0, k1, k2, k3, k5, mN, hin _ _ hCo, hN _ hin, hq, TQ _ hin⟩
theorem caught (O : G.Ok) {sc : Scope} {env : Env} {outer : List Env} {A : Around} {s : Shared} {g : FM} {φ : List Addr} {σ : Sto} {e T C L : Addr} {x : Str} {xp p1 q1 hp : Pos} {k1 : Nat} {Q : Flow → Shared → Prop} {E : Value → Shared → Prop}
    (H : ErrG G x C) (eo : EnvOk sc env) (hk : sc.names.lookup x = some .globalImplicit) (hd : (x == ("__debug__" : Str)) = false) (hfr : A.frames = some (env :: outer)) (hf : env.frame = some L) (hFF : FF s.heap (env :: outer)) (hfg : ∀ L ∈ frs (env :: outer), L ∉ φ ∧ g L = none)
    (ok : SOk s) (S : SR G g s.heap φ σ) (F : Flies s.heap e T (.ref C)) (hge : g e = none) (hgT : g T = none) (heφ : e ∉ φ) (hTφ : T ∉ φ)
    (hQ : ∀ s', SOk s' → s'.drawn = s.drawn → s'.os = s.os → SR G g s'.heap φ σ → (∀ b o, b ≠ e → b ≠ T → b ∉ frs (env :: outer) → s.heap.get? b = some o → s'.heap.get? b = some o) →
      (∀ b ∈ frs (env :: outer), ∀ o, s.heap.get? b = some o → ∃ sl, s'.heap.get? b = some { o with slots := sl }) → Q (.ret (.bool true)) s') :
    wpAny (model G.prog G.w) A (noteFrame (.ref e) env) (fun _ s₂ => wpAny (model G.prog G.w) A (setFlight (.ref e) none) (fun _ s₃ => wpAny (model G.prog G.w) A (handleBy (.ref e) env [.ExceptHandler (some (.Name x xp)) none [.Return (some (.Constant (.bool true) k1 p1)) q1] hp]) Q E s₃) E s₂) E s := by
  obtain ⟨ne, oe, vs, oT, ts, a0, he, hc, h0, hde, h1, hT, hdT, h3⟩ := F
  refine note_next (base := hideAll s.heap (e :: T :: frs (env :: outer))) (outer := outer) (cls := .ref C) (a0 := a0) hfr (ff_fun hFF fun L hL => hideAll_none _ (.tail _ (.tail _ hL))) hf
    ⟨oe, vs, T, oT, ts, he, ⟨hc, h0⟩, hde, h1, hideAll_none _ (.tail _ (.head _)), ne, hT, hdT, h3⟩ (fun b o hb => of_hideAll _ hb) (hideAll_none _ (.head _)) fun h₁ LW => ?_
  obtain ⟨st, ff, tr, up⟩ := LW
  have kp : ∀ b o, b ≠ e → b ≠ T → b ∉ frs (env :: outer) → s.heap.get? b = some o → h₁.get? b = some o := fun b o z1 z2 z3 z4 => st b o (hideAll_get _ z4 fun q => by
    rcases List.mem_cons.mp q with q | q
    · exact z1 q
    · rcases List.mem_cons.mp q with q | q
      · exact z2 q
      · exact z3 q)
  obtain ⟨oe1, vs1, T1, oT1, ts1, y1, ⟨y2, y3⟩, y4, y5, y6, y7, y8, y9, y10⟩ := tr
  have F1 : Flies h₁ e T1 (.ref C) := ⟨y7, oe1, vs1, oT1, ts1, _, y1, y2, y3, y4, y5, y8, y9, y10⟩
  have hT1f : T1 ∉ frs (env :: outer) := fun hm => by
    obtain ⟨_, o', ho', hnf⟩ := ff.mem hm
    rw [y8] at ho'; cases ho'
    exact hnf ts1 y9
  have hT1 : T1 = T ∨ s.heap.get? T1 = none := by
    by_cases q : T1 = T
    · exact .inl q
    · refine .inr ?_
      cases z : s.heap.get? T1 with
      | none => rfl
      | some o =>
        rw [hideAll_get _ z (fun q' => by
          rcases List.mem_cons.mp q' with q' | q'
          · exact y7 q'
          · rcases List.mem_cons.mp q' with q' | q'
            · exact q q'
            · exact hT1f q')] at y6
        cases y6
  have hT1φ : T1 ∉ φ ∧ g T1 = none := by
    rcases hT1 with q | q
    · rw [q]; exact ⟨hTφ, hgT⟩
    · exact S.un q
  have S1 : SR G g h₁ φ σ := S.keepsOn fun b o hb hbo => by
    refine kp b o (fun q => ?_) (fun q => ?_) (fun q => ?_) hbo
    · subst q
      rcases hb with hb | ⟨o', hb⟩
      · exact heφ hb
      · rw [hge] at hb; cases hb
    · subst q
      rcases hb with hb | ⟨o', hb⟩
      · exact hTφ hb
      · rw [hgT] at hb; cases hb
    · obtain ⟨w1, w2⟩ := hfg b q
      rcases hb with hb | ⟨o', hb⟩
      · exact w1 hb
      · rw [w2] at hb; cases hb
  have notT1 : ∀ b, (b ∈ φ ∨ ∃ o', g b = some o') → b ≠ T1 := fun b hb q => by
    subst q
    rcases hb with hb | ⟨o', hb⟩
    · exact hT1φ.1 hb
    · rw [hT1φ.2] at hb; cases hb
  refine handleBy_own (x := x) (C := C) (bmB := bmExc) (newId := "Exception.__new__") (mg := G.mg) (by decide) ?_
  refine wpAny_Name (ks_loadName_global (by rw [eo.scope]; exact eo.kind) (by unfold Env.kindOf; rw [eo.scope]; exact hk) (Calls.loadGlobal_global (by rw [eo.globals]; exact O.nsg _ S1.inb) H.bound ?_)) hd
  refine ⟨rfl, H.ownQ S1.inb, ?_, ?_⟩
  · obtain ⟨_, oe2, _, _, _, _, z1, z2, _⟩ := F1
    exact ⟨oe2, z1, z2⟩
  refine flight_off (s := { s with heap := h₁ }) F1 fun h₃ hk₃ F3 => ?_
  have S3 : SR G g h₃ φ σ := S1.keepsOn fun b o hb hbo => hk₃ b o (notT1 b hb) hbo
  refine wpAny_execs_cons (wpAny_Return_some (wpAny_Constant_bool ?_))
  have k3 : ∀ b o, b ≠ T1 → h₁.get? b = some o → h₃.get? b = some o := fun b o z1 z2 => hk₃ b o z1 z2
  refine hQ ⟨h₃, s.gens, s.drawn, s.toks, s.os⟩ ⟨ok.toks, ok.bare⟩ rfl rfl S3 (fun b o z1 z2 z3 z4 => k3 b o (fun q => ?_) (kp b o z1 z2 z3 z4)) (fun b hb o hbo => ?_)
  · rcases hT1 with q' | q'
    · exact z2 (q.trans q')
    · rw [q, q'] at z4; cases z4
  · obtain ⟨v, hv, hvf⟩ := List.mem_filterMap.mp hb
    obtain ⟨_, Lf, oF, w2, w3, w4⟩ := hFF v hv
    rw [hvf] at w2; cases w2
    rw [hbo] at w3; cases w3
    obtain ⟨sl, hsl⟩ := up b o hbo w4
    exact ⟨sl, k3 b _ (fun q => hT1f (q ▸ hb)) hsl⟩
end

end
section
set_option autoImplicit false
set_option maxRecDepth 100000
/-- a call, down to the body -/
theorem call_body {G : Glb} {ℓ : Nat} (O : G.Ok) {a : Addr} {fd : FuncData} {body : List Stmt} {ps : List Str} (D : IsDef G a fd body []) (hp : ∀ x ∈ ps, canStore fd.scope (ownOf fd.scope) x)
    (hb : ∀ ws : List Value, ws.length = ps.length → bindArgs fd ⟨ws, []⟩ = pure (ps.zip ws))
    {A : Around} {s : Shared} {g : FM} {φ : List Addr} {σ : Sto} {vs : List V} {ws : List Value} {K E : Value → Shared → Prop} (cx : Cx (ℓ + 1) A) (ok : SOk s) (S : SR G g s.heap φ σ) (hv : VRs g φ vs ws) (hl : vs.length = ps.length)
    {ρ : Rho} (hρ : bindRho ps vs (fun _ => none) = some ρ)
    (h : ∀ env s₂, EnvOk fd.scope env → env.frame = some env.locals → s.heap.get? env.locals = none → Cx ℓ (A.deeper env) → Rel G g φ σ env (ownOf fd.scope) ρ s₂ → Nx [] s s₂ g g φ φ → (∀ a ∈ fpOf env (ownOf fd.scope), s.heap.get? a = none) →
      wpAny (model G.prog G.w) (A.deeper env) (execs body env) (fun f s' => K (match f with | .ret v => v | _ => .none) s') (fun e s' => wpAny (model G.prog G.w) (A.deeper env) (leaving env e) (fun _ s'' => E e s'') (fun e' s'' => E e' s'') s') s₂) :
    wpAny (model G.prog G.w) A (call (.ref a) ws) K E s := by
  obtain ⟨o, hbase, hdata⟩ := D.obj
  have inb : G.In s.heap := S.inb
  have dep := cx.depth
  have uni := cx.units
  have hbind : BindsTo s fd ⟨ws, []⟩ (ps.zip ws) := BindsTo.of_eq (hb ws (hv.length.trans hl))
  refine wpAny_call (codeAny_call_function (by show A.depth < 1000; exact ar168 dep) (inb _ _ hbase) hdata D.co D.gen D.body (D.code _ inb) (hbind _ _ _ _ ?_))
  rw [D.closure]
  simp only [newFunctionEnv, Option.isSome_none, Bool.false_eq_true, if_false]
  refine wpAny_bind (wpAny_alloc ?_)
  refine wpAny_bind (wpAny_layCells _ (fun name kind cells => by cases kind == NameKind.cell <;> simp) _ _ _ _ ?_)
  rw [show ({ s with heap := s.heap.push { cls := .type "frame", data := .dict #[] } } : Shared).heap.objs.size = s.heap.objs.size + 1 from Heap.size_push ..]
  generalize hEnv : ({ scope := fd.scope, locals := s.heap.objs.size, globals := fd.globals, cells := cellsFrom (s.heap.objs.size + 1) fd.scope.names [], qual := fd.qualname ++ ".<locals>.", func := some a, code := fd.code, frame := some s.heap.objs.size, builtins := fd.builtins } : Env) = env
  have eo : EnvOk fd.scope env := ⟨by rw [← hEnv], D.kind, by rw [← hEnv]; exact D.globals, by rw [← hEnv]; exact D.builtins⟩
  have hloc : env.locals = s.heap.objs.size := by rw [← hEnv]
  have hfrm : env.frame = some env.locals := by rw [← hEnv]
  obtain ⟨R₁, N₁, hfresh⟩ := Rel.frame (cls := .type "frame") (sc := fd.scope) (sc' := fd.scope) (cl := []) (ρ₀ := fun _ => none) (env' := env) ok S (fun x v h => by cases h) eo.scope (by rw [← hEnv]) (by rw [← hEnv])
  refine wpAny_bind (stores eo _ (fun _ _ _ => rfl) ps vs ws _ g φ σ _ ρ _ _ hp R₁ (N₁.vrs hv) hρ fun s₂ N₂ R₂ => ?_)
  refine wpAny_pure ⟨O.nolimit _ R₂.sr.inb, codeAny_func ?_⟩
  have cx' : Cx ℓ (A.deeper env) := ⟨cx.handled, by show A.depth + 1 + 10 * ℓ ≤ 900; exact ar169 dep, by show A.units + 3 + 100 * ℓ ≤ 9000; exact ar170 uni⟩
  exact h env s₂ eo hfrm (by rw [hloc]; exact get?_size s.heap) cx' R₂ (N₁.leave N₂ hfresh) hfresh

end
section
set_option autoImplicit false
set_option maxRecDepth 100000

theorem err61 {G : Glb} {P : Params} (T : TopG G P) : ErrG G (Str.ofString "error_reply") 61 where
  bound := by rw [T.mg]; rfl
  obj := by
    have hN : ∀ (N : Addr) (o : Obj) (es : Array DictEntry) (ep : Nat), (hd1.heap_39 P).lookup N = some o → o.data = .dict es ep → keysB es = true → ∀ h, G.In h → h.Ns N (fun y => nsFind es y) :=
      fun N o es ep h1 h2 h3 h hin => ⟨o, es, ep, hin _ _ (T.K _ _ h1), h2, keys_of h3, fun _ => rfl⟩
    refine ⟨_, _, _, _, _, _, _, _, _, _, _, _, _, _, _, _, _, T.K 61 _ rfl, fun h hin => hN 60 _ _ _ rfl rfl (by kernel_rfl) h hin, fun n hn => ?_, fun h hin => ?_⟩
    · simp only [quietNames, List.mem_cons, List.not_mem_nil, or_false] at hn
      rcases hn with rfl | rfl | rfl | rfl <;> kernel_rfl
    · refine .own (hin _ _ (T.K 48 _ rfl)) (hN 47 _ _ _ rfl rfl (by kernel_rfl) h hin) (fun n hn => ?_) .base
      simp only [quietNames, List.mem_cons, List.not_mem_nil, or_false] at hn
      rcases hn with rfl | rfl | rfl | rfl <;> kernel_rfl

theorem raise70 {G : Glb} {P : Params} (T : TopG G P) {ℓ : Nat} {A : Around} {s : Shared} {g : FM} {φ : List Addr} {σ : Sto} {x : Str} {w : Value} {K E : Value → Shared → Prop} (cx : Cx (ℓ + 1) A) (ok : SOk s) (S : SR G g s.heap φ σ) (hv : VR g φ (.str x) w)
    (h3 : (L x).take 3 ≠ [50, 53, 55]) (hsz : (L x).length ≤ 2 ^ 20) {outer : List Env} (hfr : A.frames = some outer) (hff : FF s.heap outer) (hfg : ∀ L ∈ frs outer, L ∉ φ ∧ g L = none)
    (hE : ∀ s' e T g' φ', SOk s' → s'.drawn = s.drawn → s'.os = s.os → Flies s'.heap e T (.ref 61) → s.heap.get? e = none → s.heap.get? T = none → SR G g' s'.heap φ' σ → (∀ b o, b ∉ φ → b ∉ frs outer → s.heap.get? b = some o → s'.heap.get? b = some o) →
      (∀ b ∈ frs outer, ∀ o, s.heap.get? b = some o → ∃ sl, s'.heap.get? b = some { o with slots := sl }) →
      (∀ b o, g b = some o → g' b = some o) → (∀ b o, g' b = some o → g b = some o ∨ s.heap.get? b = none) → (∃ r, φ' = φ ++ r ∧ ∀ a ∈ r, s.heap.get? a = none) → g' e = none → g' T = none → e ∉ φ' → T ∉ φ' → E (.ref e) s') :
    wpAny (model G.prog G.w) A (call (.ref 70) [w]) K E s := by
  have e257 : L (Str.ofString "257") = [50, 53, 55] := by decide +kernel
  refine call_raises (ℓ := ℓ) T.O (def70 T) (ps := ["resp"]) (C := 61) (vs := [.str x]) (Wt := tCmp .NotEq (wSlice (wName (Str.ofString "resp")) oNone (oSome (wVal (.int 3)))) (wVal (.str (Str.ofString "257")))) (Ws := lCons (wName (Str.ofString "resp")) lNil) ?hp ?hb (ht := ?ht) (ha := ?ha) (hC := err61 T) (hk := ?hk) (hd := ?hd) (h1 := fun _ => rfl) (h2 := fun _ => rfl) cx ok S (VRs.single hv) rfl rfl ?hW hfr hff hfg hE
  case hp => intro y hy; rw [List.mem_singleton.mp hy]; walk_at "cs"
  case hb => intro ws h; obtain ⟨w, rfl⟩ := List.length_eq_one_iff.mp h; rfl
  case hk => decide +kernel
  case hd => decide +kernel
  case ht => walk_at "et"
  case ha => walk_at "el"
  case hW =>
    repeat' walk_at "st"
    rw [L_S, e257]
    refine ⟨decide_eq_true (by simpa [cut] using h3), ?_⟩
    repeat' walk_at "st"
    exact ⟨by simp, rfl⟩

theorem def217 {G : Glb} {P : Params} (T : TopG G P) : IsDef G 217 (fd 217) (bd 217) [] := isDef T 217 _ rfl rfl rfl rfl rfl rfl ⟨_, _, _, _, rfl, rfl, rfl, rfl⟩ rfl rfl rfl
/-- _law_refused -/
theorem refused {G : Glb} {P : Params} (T : TopG G P) {ℓ : Nat} {A : Around} {s : Shared} {g : FM} {φ : List Addr} {σ : Sto} {x : Str} {w : Value} {K E : Value → Shared → Prop} (cx : Cx (ℓ + 2) A) (ok : SOk s) (S : SR G g s.heap φ σ) (hv : VR g φ (.str x) w)
    (hsz : (L x).length ≤ 2 ^ 20) {outer : List Env} (hfr : A.frames = some outer) (hff : FF s.heap outer) (hfg : ∀ L ∈ frs outer, L ∉ φ ∧ g L = none)
    (hK : ∀ s' g' φ', SOk s' → s'.drawn = s.drawn → s'.os = s.os → SR G g' s'.heap φ' σ → (∀ b o, b ∉ φ → b ∉ frs outer → s.heap.get? b = some o → s'.heap.get? b = some o) →
      (∀ b ∈ frs outer, ∀ o, s.heap.get? b = some o → ∃ sl, s'.heap.get? b = some { o with slots := sl }) →
      (∀ b o, g b = some o → g' b = some o) → (∀ b o, g' b = some o → g b = some o ∨ s.heap.get? b = none) → (∃ r, φ' = φ ++ r ∧ ∀ a ∈ r, s.heap.get? a = none) → K (.bool (decide ((L x).take 3 ≠ [50, 53, 55]))) s') :
    wpAny (model G.prog G.w) A (call (.ref 217) [w]) K E s := by
  refine call_body (ℓ := ℓ + 1) T.O (def217 T) (ps := ["reply"]) (vs := [.str x]) ?hp ?hb cx ok S (VRs.single hv) rfl rfl fun env s₂ eo hfrm hloc cx' R₂ N₂ hfp => ?_
  case hp => intro y hy; rw [List.mem_singleton.mp hy]; walk_at "cs"
  case hb => intro ws h; obtain ⟨w, rfl⟩ := List.length_eq_one_iff.mp h; rfl
  refine wpAny_execs_cons (wpAny_Try_except ?_)
  refine wpAny_execs_cons (wpAny_Expr_any ?_ (by unfold interactive; rw [eo.scope]; rfl) rfl)
  refine wpAny_Call_NameR (Ev.glob (ℓ := ℓ + 1) T.O (by decide +kernel) (by rw [T.mg]; rfl) (v := .raw (.ref 70)) (fun _ _ => rfl) (by decide +kernel) (A.deeper env) env _ s₂ g φ σ _ (fun v σ' => v = .raw (.ref 70) ∧ σ' = σ) cx' eo R₂ ⟨rfl, rfl⟩ _ _ fun wf s₃ g₃ φ₃ σ₃ v N₃ R₃ hv3 hQ3 => ?_)
  obtain ⟨rfl, rfl⟩ := hQ3
  have hw : wf = .ref 70 := hv3
  subst hw
  refine CallOk.def (G := G) (T.K 70 _ rfl) rfl rfl rfl ?_
  have hargs (pos : Pos) : Evs G (ℓ + 1) (fd 217).scope [.Name (Str.ofString "reply") pos] (lCons (wName (Str.ofString "reply")) lNil) := by
    walk_at "el"
  refine hargs _ (A.deeper env) env _ s₃ g₃ φ₃ σ₃ _ (fun vs σ' => vs = [.str x] ∧ σ' = σ₃) cx' eo R₃ ⟨_, by walk_at "rho", ⟨rfl, rfl⟩⟩ _ _ _ fun ws s₄ g₄ φ₄ σ₄ vs N₄ R₄ hv4 hQ4 => ?_
  obtain ⟨rfl, rfl⟩ := hQ4
  refine ⟨R₄.sr.inb, ?_⟩
  have N : Nx [] s s₄ g g₄ φ φ₄ := (N₂.trans N₃).trans N₄
  by_cases h3 : (L x).take 3 = [50, 53, 55]
  · refine fn70 T (ℓ := ℓ) (A.deeper env) s₄ g₄ φ₄ σ₄ [.str x] ws (fun _ σ' => σ' = σ₄) cx' R₄.ok R₄.sr hv4 ⟨x, rfl, h3, hsz, ?_⟩ _ _ fun w s₅ g₅ φ₅ σ₅ v N₅ ok₅ S₅ hv5 hQ5 => ?_
    · rfl
    · subst hQ5
      refine wpAny_execs_nil ?_
      refine wpAny_execs_nil ?_
      refine wpAny_execs_cons (wpAny_Return_some (wpAny_Constant_bool ?_))
      have N₆ : Nx [] s s₅ g g₅ φ φ₅ := N.trans N₅
      rw [h3] at hK
      exact hK s₅ g₅ φ₅ ok₅ N₆.drawn N₆.os S₅ (fun b o h1 _ h2 => N₆.oth b o (by simp) h1 h2) (fun b hb o ho => ⟨o.slots, N₆.oth b o (by simp) (hfg b hb).1 ho⟩) N₆.sub N₆.new N₆.pre
  · obtain ⟨w4, rfl⟩ : ∃ w4, ws = [w4] := by obtain ⟨w4, r, rfl, _, h⟩ := hv4; rw [h]; exact ⟨w4, rfl⟩
    have hv4' : VR g₄ φ₄ (.str x) w4 := by obtain ⟨w5, r, e, h, _⟩ := hv4; cases e; exact h
    have hloc4 : frs (env :: outer) = env.locals :: frs outer := by unfold frs; rw [List.filterMap_cons, hfrm]
    have hff4 : FF s₄.heap (env :: outer) := fun v hv => by
      rcases List.mem_cons.mp hv with rfl | hv
      · obtain ⟨m, ⟨oF, esF, epF, hoF, hdF, _⟩, _⟩ := R₄.fr.ns
        refine ⟨by rw [eo.scope, eo.kind]; decide, v.locals, oF, hfrm, hoF, fun vs q => by rw [hdF] at q; cases q⟩
      · obtain ⟨z1, Lf, oF, z2, z3, z4⟩ := hff v hv
        have hm : Lf ∈ frs outer := List.mem_filterMap.mpr ⟨v, hv, z2⟩
        exact ⟨z1, Lf, oF, z2, N.oth _ _ (by simp) (hfg Lf hm).1 z3, z4⟩
    have hfg4 : ∀ L ∈ frs (env :: outer), L ∉ φ₄ ∧ g₄ L = none := fun b hb => by
      rw [hloc4] at hb
      rcases List.mem_cons.mp hb with q | q
      · rw [q]; exact ⟨R₄.fr.Lφ, R₄.fr.Lg⟩
      · obtain ⟨w1, w2⟩ := hfg b q
        obtain ⟨v, hv, hvf⟩ := List.mem_filterMap.mp q
        obtain ⟨_, Lf, oF, z2, z3, _⟩ := hff v hv
        rw [hvf] at z2; cases z2
        refine ⟨fun hm => ?_, ?_⟩
        · obtain ⟨r, hr, hr2⟩ := N.pre
          rw [hr] at hm
          rcases List.mem_append.mp hm with q | q
          · exact w1 q
          · rw [hr2 b q] at z3; cases z3
        · cases z : g₄ b with
          | none => rfl
          | some o =>
            rcases N.new b o z with q | q
            · rw [w2] at q; cases q
            · rw [q] at z3; cases z3
    have hfr4 : (A.deeper env).frames = some (env :: outer) := by show A.frames.map _ = _; rw [hfr]; rfl
    refine raise70 T (ℓ := ℓ) cx' R₄.ok R₄.sr hv4' h3 hsz hfr4 hff4 hfg4 fun s₅ e Te g₅ φ₅ ok₅ hdr hos F heN hTN S₅ oth₅ up₅ sub₅ new₅ pre₅ ge gT eφ Tφ => ?_
    have hff5 : FF s₅.heap (env :: outer) := fun v hv => by
      obtain ⟨z1, Lf, oF, z2, z3, z4⟩ := hff4 v hv
      obtain ⟨sl, hsl⟩ := up₅ Lf (List.mem_filterMap.mpr ⟨v, hv, z2⟩) oF z3
      exact ⟨z1, Lf, _, z2, hsl, z4⟩
    have hfg5 : ∀ L ∈ frs (env :: outer), L ∉ φ₅ ∧ g₅ L = none := fun b hb => by
      obtain ⟨w1, w2⟩ := hfg4 b hb
      obtain ⟨v, hv, hvf⟩ := List.mem_filterMap.mp hb
      obtain ⟨_, Lf, oF, z2, z3, _⟩ := hff4 v hv
      rw [hvf] at z2; cases z2
      refine ⟨fun hm => ?_, ?_⟩
      · obtain ⟨r, hr, hr2⟩ := pre₅
        rw [hr] at hm
        rcases List.mem_append.mp hm with q | q
        · exact w1 q
        · rw [hr2 b q] at z3; cases z3
      · cases z : g₅ b with
        | none => rfl
        | some o =>
          rcases new₅ b o z with q | q
          · rw [w2] at q; cases q
          · rw [q] at z3; cases z3
    refine caught T.O (err61 T) eo (by decide +kernel) (by decide +kernel) hfr4 hfrm hff5 hfg5 ok₅ S₅ F ge gT eφ Tφ fun s₆ ok₆ dr₆ os₆ S₆ oth₆ up₆ => ?_
    have nb : ∀ b, s₄.heap.get? b = none → s.heap.get? b = none := fun b hb => by
      cases z : s.heap.get? b with
      | none => rfl
      | some o => exact absurd hb (N.ex b (by rw [z]; simp))
    have hLs : s.heap.get? env.locals = none := hloc
    have hdec : decide ((L x).take 3 ≠ [50, 53, 55]) = true := decide_eq_true h3
    rw [hdec] at hK
    refine hK s₆ g₅ φ₅ ok₆ (dr₆.trans (hdr.trans N.drawn)) (os₆.trans (hos.trans N.os)) S₆ (fun b o h1 h2 h4 => ?_) (fun b hb o ho => ?_) (fun b o q => sub₅ b o (N.sub b o q)) (fun b o q => ?_) ?_
    · have hbf : b ∉ frs (env :: outer) := fun q => by
        rw [hloc4] at q
        rcases List.mem_cons.mp q with q | q
        · rw [q, hLs] at h4; cases h4
        · exact h2 q
      have h5 : s₄.heap.get? b = some o := N.oth b o (by simp) h1 h4
      refine oth₆ b o (fun q => ?_) (fun q => ?_) hbf (oth₅ b o (fun q => ?_) hbf h5)
      · rw [q, heN] at h5; cases h5
      · rw [q, hTN] at h5; cases h5
      · obtain ⟨r, hr, hr2⟩ := N.pre
        rw [hr] at q
        rcases List.mem_append.mp q with q | q
        · exact h1 q
        · rw [hr2 b q] at h4; cases h4
    · have hm : b ∈ frs (env :: outer) := by rw [hloc4]; exact .tail _ hb
      obtain ⟨sl, h5⟩ := up₅ b hm o (N.oth b o (by simp) (hfg b hb).1 ho)
      obtain ⟨sl', h6⟩ := up₆ b hm _ h5
      exact ⟨sl', h6⟩
    · rcases new₅ b o q with q | q
      · exact N.new b o q
      · exact .inr (nb b q)
    · obtain ⟨r, hr, hr2⟩ := N.pre
      obtain ⟨r', hr', hr2'⟩ := pre₅
      refine ⟨r ++ r', by rw [hr', hr]; simp, fun a ha => ?_⟩
      rcases List.mem_append.mp ha with q | q
      · exact hr2 a q
      · exact nb a (hr2' a q)

end
section
set_option autoImplicit false
set_option maxRecDepth 100000

theorem FR.keepsL {g g' : FM} {φ φ' : List Addr} {env : Env} {own : List Str} {ρ : Rho} {h h' : Heap} (F : FR g φ h env own ρ) (hg : ∀ b o, g b = some o → g' b = some o) (hp : ∀ (k : Nat) (a : Addr), φ[k]? = some a → φ'[k]? = some a)
    (hn : ∀ b, h.get? b ≠ none → g' b = none ∨ g b ≠ none) (hm : ∀ b ∈ φ', b ∈ φ ∨ h.get? b = none)
    (hk : ∀ b o, b ≠ env.locals → b ∈ fpOf env own ∨ g b ≠ none → h.get? b = some o → h'.get? b = some o)
    (hl : ∀ o, h.get? env.locals = some o → ∃ sl, h'.get? env.locals = some { o with slots := sl }) : FR g' φ' h' env own ρ := by
  have hc : ∀ x ∈ own, ∀ c, env.cells.lookup x = some c → c ∈ fpOf env own := fun x hx c e => List.mem_cons_of_mem _ (List.mem_filterMap.mpr ⟨x, hx, e⟩)
  obtain ⟨m, hns, hv⟩ := F.ns
  obtain ⟨o, es, ep, ho, hd, r⟩ := hns
  obtain ⟨sl, hsl⟩ := hl o ho
  refine ⟨?_, fun q => ?_, ⟨m, ⟨_, es, ep, hsl, hd, r⟩, fun x v h1 h2 => ?_⟩, fun x v h1 h2 => ?_, fun x hx => ?_, F.inj⟩
  · rcases hn _ (by rw [ho]; simp) with q | q
    · exact q
    · exact absurd F.Lg q
  · rcases hm _ q with q | q
    · exact F.Lφ q
    · rw [ho] at q; cases q
  · obtain ⟨w, e, q⟩ := hv x v h1 h2
    exact ⟨w, e, VR.mono hg hp q⟩
  · obtain ⟨c, w, e, ⟨oc, hoc, hd⟩, q, r⟩ := F.cell x v h1 h2
    have hcL : c ≠ env.locals := fun q => by
      rcases r with hx | ⟨o', e'⟩
      · obtain ⟨c', _, e', _, _, _, z⟩ := F.ownc x hx
        rw [e] at e'; cases e'; exact z q
      · rw [q, F.Lg] at e'; cases e'
    refine ⟨c, w, e, ⟨oc, hk _ _ hcL ?_ hoc, hd⟩, VR.mono hg hp q, r.imp id fun ⟨o, e⟩ => ⟨o, hg _ _ e⟩⟩
    exact r.imp (fun h => hc x h c e) fun ⟨o, e⟩ => by rw [e]; simp
  · obtain ⟨c, v0, e, ⟨oc, hoc, hd⟩, q, r, z⟩ := F.ownc x hx
    refine ⟨c, v0, e, ⟨oc, hk _ _ z (.inl (hc x hx c e)) hoc, hd⟩, ?_, fun y => ?_, z⟩
    · rcases hn _ (by rw [hoc]; simp) with y | y
      · exact y
      · exact absurd q y
    · rcases hm _ y with y | y
      · exact r y
      · rw [hoc] at y; cases y

/-- a statement, in a call of its own right behind the caller -/
noncomputable def SxF (G : Glb) (ℓ : Nat) (sc : Scope) (own : List Str) (st : Stmt) (W : WS) : Prop :=
  ∀ (A : Around) (env : Env) (s : Shared) (g : FM) (φ : List Addr) (σ : Sto) (ρ : Rho) (Q : Fl → Rho → Sto → Prop), Cx ℓ A → EnvOk sc env → A.frames = some [env] → env.frame = some env.locals → Rel G g φ σ env own ρ s → W Q ρ σ →
    ∀ (K : Flow → Shared → Prop) (E : Value → Shared → Prop),
      (∀ f s' g' φ' σ' ρ' fl, Nx (fpOf env own) s s' g g' φ φ' → Rel G g' φ' σ' env own ρ' s' → FlR g' φ' fl f → Q fl ρ' σ' → K f s') → wpAny (model G.prog G.w) A (exec st env) K E s
noncomputable def SxsF (G : Glb) (ℓ : Nat) (sc : Scope) (own : List Str) (st : List Stmt) (W : WS) : Prop :=
  ∀ (A : Around) (env : Env) (s : Shared) (g : FM) (φ : List Addr) (σ : Sto) (ρ : Rho) (Q : Fl → Rho → Sto → Prop), Cx ℓ A → EnvOk sc env → A.frames = some [env] → env.frame = some env.locals → Rel G g φ σ env own ρ s → W Q ρ σ →
    ∀ (K : Flow → Shared → Prop) (E : Value → Shared → Prop),
      (∀ f s' g' φ' σ' ρ' fl, Nx (fpOf env own) s s' g g' φ φ' → Rel G g' φ' σ' env own ρ' s' → FlR g' φ' fl f → Q fl ρ' σ' → K f s') → wpAny (model G.prog G.w) A (execs st env) K E s
section
variable {G : Glb} {P : Params} {ℓ : Nat} {sc : Scope} {own : List Str}
theorem SxF.of {st : Stmt} {W : WS} (h : Sx G ℓ sc own st W) : SxF G ℓ sc own st W := fun A env s g φ σ ρ Q cx eo _ _ R hW => h A env s g φ σ ρ Q cx eo R hW
theorem SxsF.nil : SxsF G ℓ sc own [] fun Q ρ σ => Q .nx ρ σ := fun A env s g φ σ ρ Q cx eo _ _ R hW => Sxs.nil A env s g φ σ ρ Q cx eo R hW
theorem SxsF.cons {st : Stmt} {rest : List Stmt} {W₁ W₂ : WS} (h₁ : SxF G ℓ sc own st W₁) (h₂ : SxsF G ℓ sc own rest W₂) : SxsF G ℓ sc own (st :: rest) (wSeq W₁ W₂) := by
  intro A env s g φ σ ρ Q cx eo hf1 hf2 R hW K E k
  refine wpAny_execs_cons (h₁ A env s g φ σ ρ _ cx eo hf1 hf2 R hW _ _ fun f s₁ g₁ φ₁ σ₁ ρ₁ fl N R₁ hf hQ => ?_)
  cases fl with
  | nx =>
    cases hf
    exact h₂ A env s₁ g₁ φ₁ σ₁ ρ₁ _ cx eo hf1 hf2 R₁ hQ _ _ fun f s₂ g₂ φ₂ σ₂ ρ₂ fl₂ N₂ R₂ hf₂ hQ₂ => k _ _ _ _ _ _ _ (N.trans N₂) R₂ hf₂ hQ₂
  | br => cases hf; exact k _ _ _ _ _ _ .br N R₁ rfl hQ
  | ct => cases hf; exact k _ _ _ _ _ _ .ct N R₁ rfl hQ
  | rt v => obtain ⟨w, rfl, hv⟩ := hf; exact k _ _ _ _ _ _ (.rt v) N R₁ ⟨w, rfl, hv⟩ hQ
theorem SxsF.mono {st : List Stmt} {W W' : WS} (h : SxsF G ℓ sc own st W) (hW : ∀ Q ρ σ, W' Q ρ σ → W Q ρ σ) : SxsF G ℓ sc own st W' :=
  fun A env s g φ σ ρ Q cx eo hf1 hf2 R hq => h A env s g φ σ ρ Q cx eo hf1 hf2 R (hW Q ρ σ hq)
noncomputable def wRef (Ws : WL) (Wr : WE) (Wb : WS) : WS := fun Q ρ σ => Ws (fun vs σ₁ => ∃ x, vs = [.str x] ∧ (L x).length ≤ 2 ^ 20 ∧ Wr (fun u σ₂ => aCmp .NotEq (.bool (decide ((L x).take 3 ≠ [50, 53, 55]))) u (fun y σ₃ => if y = true then Wb Q ρ σ₃ else Q .nx ρ σ₃) σ₂) ρ σ₁) ρ σ
theorem sf_refused (T : TopG G P) {np cp pos ipos : Pos} {e r : Expr} {b : List Stmt} {Ws : WL} {Wr : WE} {Wb : WS} (hk : sc.names.lookup (Str.ofString "_law_refused") = some .globalImplicit) (ha : Evs G (ℓ + 2) sc [e] Ws)
    (h1 : ∀ env, starEach [e] env = (false, eval e env) :: starEach [] env) (h2 : ∀ env, (backTo cp (starEach [] env)).any (·.1) = false)
    (hr : Ev G (ℓ + 2) sc r Wr) (hm : behindInMarks .NotEq r = false) (hb : Sxs G (ℓ + 2) sc own b Wb) :
    SxF G (ℓ + 2) sc own (.If (.Compare (.Call (.Name (Str.ofString "_law_refused") np) [e] [] cp) [.NotEq] [r] pos) b [] ipos) (wRef Ws Wr Wb) := by
  intro A env s g φ σ ρ Q cx eo hf1 hf2 R hW K E k
  refine wpAny_If (wpAny_isTrue_Compare1 ?_ hm)
  refine wpAny_Call_NameR (Ev.glob (ℓ := ℓ + 2) T.O hk (by rw [T.mg]; rfl) (v := .raw (.ref 217)) (fun _ _ => rfl) (by decide +kernel) A env _ s g φ σ ρ (fun v σ' => v = .raw (.ref 217) ∧ σ' = σ) cx eo R ⟨rfl, rfl⟩ _ _ fun wf s₁ g₁ φ₁ σ₁ v N₁ R₁ hv hQ => ?_)
  obtain ⟨rfl, rfl⟩ := hQ
  have hw : wf = .ref 217 := hv
  subst hw
  refine CallOk.def (G := G) (T.K 217 _ rfl) rfl (h1 env) (h2 env) (ha A env own s₁ g₁ φ₁ σ₁ ρ _ cx eo R₁ hW _ _ _ fun ws s₂ g₂ φ₂ σ₂ vs N₂ R₂ hvs hQ₂ => ⟨R₂.sr.inb, ?_⟩)
  obtain ⟨x, rfl, hsz, hQ₂⟩ := hQ₂
  obtain ⟨w, rfl, hv⟩ := hvs.one
  have hfs : frs [env] = [env.locals] := by unfold frs; rw [List.filterMap_cons, hf2]; rfl
  have hff : FF s₂.heap [env] := fun v hv => by
    rw [List.mem_singleton.mp hv]
    obtain ⟨m, ⟨oF, esF, epF, hoF, hdF, _⟩, _⟩ := R₂.fr.ns
    exact ⟨by rw [eo.scope, eo.kind]; decide, env.locals, oF, hf2, hoF, fun vs q => by rw [hdF] at q; cases q⟩
  refine refused T (ℓ := ℓ) cx R₂.ok R₂.sr hv hsz hf1 hff (fun b hb => by rw [hfs] at hb; rw [List.mem_singleton.mp hb]; exact ⟨R₂.fr.Lφ, R₂.fr.Lg⟩) fun s₃ g₃ φ₃ ok₃ dr₃ os₃ S₃ oth₃ up₃ sub₃ new₃ pre₃ => ?_
  rw [hfs] at oth₃ up₃
  have hL2 : ∃ o, s₂.heap.get? env.locals = some o := by
    obtain ⟨m, ⟨oF, esF, epF, hoF, _⟩, _⟩ := R₂.fr.ns
    exact ⟨oF, hoF⟩
  have ex₃ : ∀ b, s₂.heap.get? b ≠ Option.none → s₃.heap.get? b ≠ Option.none := fun b hb => by
    by_cases q : b = env.locals
    · obtain ⟨o, ho⟩ := hL2
      obtain ⟨sl, h3⟩ := up₃ env.locals (List.mem_singleton.mpr rfl) o ho
      rw [q, h3]; simp
    · by_cases m : b ∈ φ₂
      · obtain ⟨r, hr, _⟩ := pre₃
        obtain ⟨o, ho⟩ := S₃.live (a := b) (by rw [hr]; exact List.mem_append_left _ m)
        rw [ho]; simp
      · cases z : s₂.heap.get? b with
        | none => exact absurd z hb
        | some o => rw [oth₃ b o m (fun y => q (List.mem_singleton.mp y)) z]; simp
  have N₃ : Nx (fpOf env own) s₂ s₃ g₂ g₃ φ₂ φ₃ := ⟨dr₃, os₃, sub₃, new₃, pre₃, fun b o h1 h2 h3 => oth₃ b o h2 (fun q => h1 (by rw [List.mem_singleton.mp q]; exact List.mem_cons_self)) h3, ex₃⟩
  have R₃ : Rel G g₃ φ₃ σ₂ env own ρ s₃ := by
    refine ⟨ok₃, S₃, FR.keepsL R₂.fr sub₃ N₃.phi (fun b hb => ?_) (fun b hb => ?_) (fun b o h1 h2 h3 => oth₃ b o (fun q => ?_) (fun q => h1 (List.mem_singleton.mp q)) h3) (fun o ho => up₃ _ (List.mem_singleton.mpr rfl) o ho)⟩
    · cases z : g₃ b with
      | none => exact .inl rfl
      | some o =>
        rcases new₃ b o z with q | q
        · exact .inr (by rw [q]; simp)
        · exact absurd q hb
    · obtain ⟨r, hr, hr2⟩ := pre₃
      rw [hr] at hb
      rcases List.mem_append.mp hb with q | q
      · exact .inl q
      · exact .inr (hr2 b q)
    · rcases h2 with h2 | h2
      · rcases List.mem_cons.mp h2 with h2 | h2
        · exact h1 h2
        · obtain ⟨y, hy, hc⟩ := List.mem_filterMap.mp h2
          obtain ⟨c, v0, e, _, _, hcφ, _⟩ := R₂.fr.ownc y hy
          rw [hc] at e; cases e; exact hcφ q
      · exact h2 (R₂.sr.fresh b q)
  have N₀ : Nx (fpOf env own) s s₃ g g₃ φ φ₃ := (N₁.fp.trans N₂.fp).trans N₃
  refine hr A env own s₃ g₃ φ₃ σ₂ ρ _ cx eo R₃ hQ₂ _ _ fun wu s₄ g₄ φ₄ σ₄ u N₄ R₄ hu hQ₄ => ?_
  refine cmp_sound cx R₄.sr (a := .bool (decide ((L x).take 3 ≠ [50, 53, 55]))) rfl hu hQ₄ fun t hQ => wpAny_truthy_bool ?_
  cases t with
  | true =>
    rw [if_pos rfl] at hQ ⊢
    exact hb A env s₄ g₄ φ₄ σ₄ ρ _ cx eo R₄ hQ _ _ fun f s₅ g₅ φ₅ σ₅ ρ₅ fl N₅ R₅ hf hQ₅ => k _ _ _ _ _ _ _ ((N₀.trans N₄.fp).trans N₅) R₅ hf hQ₅
  | false =>
    rw [if_neg (by simp)] at hQ ⊢
    exact wpAny_execs_nil (k _ _ _ _ _ _ .nx (N₀.trans N₄.fp) R₄ rfl hQ)
end
section
variable {G : Glb} {P : Params} {ℓ : Nat} {sc : Scope} {np pos apos : Pos} {e o : Expr} {rest : List Expr} {Ws : WL} {Wo : WE}
theorem c_piled (T : TopA G P) (hk : sc.names.lookup (Str.ofString "_law_piled") = some .globalImplicit) (ha : Evs G (ℓ + 3) sc (e :: rest) Ws)
    (h1 : ∀ env, starEach (e :: rest) env = (false, eval e env) :: starEach rest env) (h2 : ∀ env, (backTo pos (starEach rest env)).any (·.1) = false) :
    Ev G (ℓ + 3) sc (.Call (.Name (Str.ofString "_law_piled") np) (e :: rest) [] pos) (wCall wPiled Ws) :=
  c_own T.T.O (by rw [T.T.mg]; rfl) (by decide +kernel) (CallOk.def (T.T.K 200 _ rfl) rfl) (fn200 (ℓ := ℓ) T) hk ha h1 h2
theorem c_pressed (T : TopA G P) (hk : sc.names.lookup (Str.ofString "_law_pressed") = some .globalImplicit) (ha : Evs G (ℓ + 3) sc (e :: rest) Ws)
    (h1 : ∀ env, starEach (e :: rest) env = (false, eval e env) :: starEach rest env) (h2 : ∀ env, (backTo pos (starEach rest env)).any (·.1) = false) :
    Ev G (ℓ + 3) sc (.Call (.Name (Str.ofString "_law_pressed") np) (e :: rest) [] pos) (wCall wPressed Ws) :=
  c_own T.T.O (by rw [T.T.mg]; rfl) (by decide +kernel) (CallOk.def (T.T.K 205 _ rfl) rfl) (fn205 (ℓ := ℓ) T) hk ha h1 h2
theorem c_changed (T : TopG G P) (hk : sc.names.lookup (Str.ofString "_law_changed") = some .globalImplicit) (ha : Evs G (ℓ + 3) sc (e :: rest) Ws)
    (h1 : ∀ env, starEach (e :: rest) env = (false, eval e env) :: starEach rest env) (h2 : ∀ env, (backTo pos (starEach rest env)).any (·.1) = false) :
    Ev G (ℓ + 3) sc (.Call (.Name (Str.ofString "_law_changed") np) (e :: rest) [] pos) (wCall wChanged Ws) :=
  c_own T.O (by rw [T.mg]; rfl) (by decide +kernel) (CallOk.def (T.K 210 _ rfl) rfl) (fn210 (ℓ := ℓ) T) hk ha h1 h2
theorem c_new (T : TopA G P) (hk : sc.names.lookup (Str.ofString "_Accumulator") = some .globalImplicit) :
    Ev G ℓ sc (.Call (.Name (Str.ofString "_Accumulator") np) [] [] pos) (wCall0 wNew) :=
  r_new (acc1 T) (ownNew T) (by rw [T.T.mg, T.C]; rfl) (by rw [T.C]; kernel_rfl) hk (by decide +kernel)
end
local macro_rules | `(tactic| walk_at "fn") => mkWays "@c_joined D el R1 R1|@c_piled D el R1 R1|@c_pressed D el R1 R1|@c_changed D el R1 R1|@c_new D|@c_parse D el R1 R1|@c_replies D el R1 R1|@c_due D el R1 R1"
local macro_rules | `(tactic| walk_at "ef1") => mkWays "@sf_refused D el R1 R1 ev R es|SxF.of e1"
local macro_rules | `(tactic| walk_at "ef") => mkWays "!SxsF.nil|SxsF.cons ef1 ef"
local macro_rules | `(tactic| walk_at "sn") => mkWays "?p_range6|?p_items6l|?p_items6|?p_methA|p_divi D0 D0|p_modi D0"

theorem aList_of {σ σ' : Sto} {v : V} {xs : List V} (h : aList σ v = some xs) (hk : ∀ k, k < σ.length → σ'[k]? = σ[k]?) : aList σ' v = some xs := by
  cases v with
  | list ys => exact h
  | ref k =>
    dsimp only [aList] at h ⊢
    cases e : σ[k]? with
    | none => rw [e] at h; cases h
    | some m => rw [hk k (List.getElem?_eq_some_iff.mp e).1, e]; rw [e] at h; exact h
  | _ => cases h
theorem elimP_len : ∀ (n : Nat) (left : List Nat) (W : Nat → Nat → Bool), (elimP n left W).length ≤ n
  | 0, _, _ => Nat.le_refl _
  | n + 1, left, W => by
    unfold elimP
    split
    · simp
    · have := elimP_len n
      simp only [List.length_cons]
      exact Nat.succ_le_succ (this _ _)
theorem elimP_near : ∀ (n : Nat) (left : List Nat) (W : Nat → Nat → Bool), left.length ≤ 6 → ∀ p ∈ elimP n left W, p.1.length ≤ 6
  | 0, _, _, _, p, hp => by cases hp
  | n + 1, left, W, hl, p, hp => by
    have he : ∀ q, (left.erase q).length ≤ 6 := fun q => Nat.le_trans (List.length_erase_le ..) hl
    unfold elimP at hp
    split at hp
    · cases hp
    · rcases List.mem_cons.mp hp with rfl | hp
      · exact Nat.le_trans (List.length_filter_le _ _) (he _)
      · exact elimP_near n _ _ (he _) p hp
theorem pressF_len : ∀ (ps : List (List Nat × Nat)) (acc : List Nat), (pressF ps acc).length ≤ acc.length + ps.length
  | [], acc => Nat.le_refl _
  | p :: r, acc => by
    unfold pressF
    have := pressF_len r
    split
    · have h := this (acc ++ [p.2]); simp only [List.length_append, List.length_cons, List.length_nil] at h ⊢; lia
    · have h := this acc; simp only [List.length_cons] at h ⊢; lia
theorem code_all : ∀ k : Nat, k < 1000 → decide ((L (Str.ofString (toString (k : Int))) ++ [32, 34, 46]).take 3 = [50, 53, 55]) = decide (L (Str.ofString (toString (k : Int))) = [50, 53, 55]) ∧ (L (Str.ofString (toString (k : Int)))).length ≤ 3 := by
  have h : (List.range 1000).all (fun k => decide ((L (Str.ofString (toString (k : Int))) ++ [32, 34, 46]).take 3 = [50, 53, 55]) == decide (L (Str.ofString (toString (k : Int))) = [50, 53, 55]) && decide ((L (Str.ofString (toString (k : Int)))).length ≤ 3)) = true := by decide +kernel
  intro k hk
  have := List.all_eq_true.mp h k (List.mem_range.mpr hk)
  rw [Bool.and_eq_true] at this
  exact ⟨eq_of_beq this.1, of_decide_eq_true this.2⟩
theorem code_eq (n : Int) (y : List Nat) : decide ((L (Str.ofString (toString (n % 1000))) ++ 32 :: 34 :: 46 :: y).take 3 ≠ [50, 53, 55]) = decide (L (Str.ofString (toString (n % 1000))) ≠ [50, 53, 55]) ∧ (L (Str.ofString (toString (n % 1000)))).length ≤ 3 := by
  have h1 := Int.emod_nonneg n (show (1000 : Int) ≠ 0 by decide)
  have h2 := Int.emod_lt_of_pos n (show (0 : Int) < 1000 by decide)
  obtain ⟨k, hk⟩ : ∃ k : Nat, n % 1000 = (k : Int) := ⟨(n % 1000).toNat, by lia⟩
  rw [hk]
  obtain ⟨h3, h4⟩ := code_all k (by lia)
  refine ⟨?_, h4⟩
  have h5 : ∀ c : List Nat, (c ++ 32 :: 34 :: 46 :: y).take 3 = (c ++ [32, 34, 46]).take 3 := by
    intro c
    rw [show c ++ 32 :: 34 :: 46 :: y = (c ++ [32, 34, 46]) ++ y by simp, List.take_append_of_le_length (by simp)]
  rw [h5]
  rw [decide_eq_decide] at h3 ⊢
  rw [ne_eq, ne_eq, h3]
theorem p_ref {Ws : WL} {Wr : WE} {Wb : WS} {Q : Fl → Rho → Sto → Prop} {ρ : Rho} {σ : Sto} (h : Ws (fun vs σ₁ => ∃ x, vs = [.str x] ∧ (L x).length ≤ 2 ^ 20 ∧ Wr (fun u σ₂ => aCmp .NotEq (.bool (decide ((L x).take 3 ≠ [50, 53, 55]))) u (fun y σ₃ => if y = true then Wb Q ρ σ₃ else Q .nx ρ σ₃) σ₂) ρ σ₁) ρ σ) : wRef Ws Wr Wb Q ρ σ := h
theorem p_new {Q : V → Sto → Prop} {ρ : Rho} {σ : Sto} (h : Q (.ref σ.length) (σ ++ [.acc []])) : wCall0 wNew Q ρ σ := ⟨rfl, h⟩
set_option maxHeartbeats 4000000 in
theorem tail222 {G : Glb} {P : Params} (T : TopA G P) {ℓ : Nat} {sc : List Int} (hsc : sc.length ≤ 63) : SxsF G (ℓ + 3) (fd 222).scope (ownOf (fd 222).scope) (bd 222).tail fun Q ρ σ =>
    ∃ v, ρ (Str.ofString "script") = some v ∧ aList σ v = some (sc.map V.int) ∧ ρ (Str.ofString "joined") = some (vMat (Mj sc)) ∧ ∀ ρ' σ', Q (.rt (.bool true)) ρ' σ' := by
  have T' := T.T
  apply SxsF.mono
  focus (apply SxsF.cons; (focus (apply SxF.of; walk_at "e1")); (focus walk_at "ef"))
  rintro Q ρ σ ⟨v, hv, hl, hj, hQ⟩
  rw [← Mb_eq sc] at hj
  have hW := Mb_sym sc
  generalize Mb sc = W at hW hj
  have hl1 := hl
  generalize σ = σ1 at hl1 hl
  repeat' walk_at "st"
  refine p_new ?_
  have hl2 : aList (σ1 ++ [.acc []]) v = some (sc.map V.int) := aList_app _ hl1
  repeat' walk_at "st"
  refine comp_over _ (fun ρ => ρ (Str.ofString "script") = some v) (fun i => [V.int ((sc.sum + (i : Nat)) % 6)]) _ _ _ ?_ trivial ?_ ?_
  · walk_at "rho"
  · intro i hi ρ' acc K f1 hK
    repeat' walk_at "st"
    refine ⟨v, sc, rfl, hl2, ?_⟩
    repeat' walk_at "st"
    exact hK _ (by walk_at "rho")
  rw [flat_single]
  have hrot : ([] : List V) ++ (List.range 6).map (fun i => V.int ((sc.sum + (i : Nat)) % 6)) = idxV (rotL sc.sum) := by
    unfold idxV rotL
    rw [List.nil_append, List.map_map]
    refine List.map_congr_left fun i _ => ?_
    show V.int _ = V.int _
    congr 1
    show _ = (((sc.sum + (i : Nat)) % 6).toNat : Int)
    have := Int.emod_nonneg (sc.sum + (i : Nat)) (show (6 : Int) ≠ 0 by decide)
    lia
  rw [hrot]
  refine p_mut ?_
  repeat' walk_at "st"
  obtain ⟨hr1, hr2, hr3, hr4⟩ := rot_ok sc.sum
  have hpr : ∀ {i : Nat}, i < 6 → W i i = decide (chD W (pressF (elimP (rotL sc.sum).length (rotL sc.sum) W).reverse []) i % 2 = 1) := fun hi => presses hW hr1 hr4 hi
  have hin := (sutner (rotL sc.sum).length (rotL sc.sum) W hW hr1 (Nat.le_refl _)).1
  generalize rotL sc.sum = ls at hr1 hr2 hr3 hr4 hpr hin
  have hg0 : (σ1 ++ [MO.acc []] ++ [MO.list (idxV ls)])[σ1.length]? = some (MO.acc []) := by
    rw [List.append_assoc, List.getElem?_append_right (Nat.le_refl _), Nat.sub_self]; rfl
  refine ⟨_, _, ls, W, rfl, get_end, hg0, hr1, hr2, by lia, fun left τ2 => ?_⟩
  have hk3 : ∀ k, k < σ1.length → (((σ1 ++ [MO.acc []] ++ [MO.list (idxV ls)]).set (σ1 ++ [MO.acc []]).length (MO.list (idxV left))).set σ1.length (MO.acc (List.map pileV (elimP ls.length ls W))) ++ τ2)[k]? = σ1[k]? := fun k hk => by
    rw [List.getElem?_append_left (by simp; lia), List.getElem?_set_ne (by lia), List.getElem?_set_ne (by rw [List.length_append]; lia), List.append_assoc, List.getElem?_append_left hk]
  have hp3 : (((σ1 ++ [MO.acc []] ++ [MO.list (idxV ls)]).set (σ1 ++ [MO.acc []]).length (MO.list (idxV left))).set σ1.length (MO.acc (List.map pileV (elimP ls.length ls W))) ++ τ2)[σ1.length]? = some (.acc (List.map pileV (elimP ls.length ls W))) := by
    rw [List.getElem?_append_left (by simp), List.getElem?_set_self (by simp)]
  have hlen3 : σ1.length < (((σ1 ++ [MO.acc []] ++ [MO.list (idxV ls)]).set (σ1 ++ [MO.acc []]).length (MO.list (idxV left))).set σ1.length (MO.acc (List.map pileV (elimP ls.length ls W))) ++ τ2).length := by simp
  generalize ((σ1 ++ [MO.acc []] ++ [MO.list (idxV ls)]).set (σ1 ++ [MO.acc []]).length (MO.list (idxV left))).set σ1.length (MO.acc (List.map pileV (elimP ls.length ls W))) ++ τ2 = σ3 at hk3 hp3 hlen3
  have hvk : ∀ (τ : Sto), aList (σ3.set σ1.length (.acc []) ++ τ) v = some (sc.map V.int) := fun τ => aList_of hl1 fun k hk => by
    rw [List.getElem?_append_left (by rw [List.length_set]; lia), List.getElem?_set_ne (by lia), hk3 k hk]
  repeat' walk_at "st"
  refine p_iff rfl ?_
  repeat' walk_at "st"
  refine ⟨σ1.length, elimP ls.length ls W, rfl, hp3, by have := elimP_len ls.length ls W; lia, elimP_near _ _ _ (by lia), ?_⟩
  have hxl : (pressF (elimP ls.length ls W).reverse []).length ≤ 6 := by
    have h1 := pressF_len (elimP ls.length ls W).reverse []
    have h2 := elimP_len ls.length ls W
    simp only [List.length_nil, List.length_reverse] at h1
    lia
  generalize pressF (elimP ls.length ls W).reverse [] = xs at hpr hin hxl
  repeat' walk_at "st"
  refine ⟨W, xs, rfl, fun x hx => hr2 x (hin x hx), hxl, ?_⟩
  repeat' walk_at "st"
  generalize σ3.set σ1.length (.acc []) = σ4 at hvk
  have hd8 := chD_le (W := W) xs (fun _ => 2) 2 (fun _ => ⟨by decide, by decide⟩)
  have hd : ∀ i, 1 ≤ chD W xs i ∧ chD W xs i ≤ 8 := fun i => by have := hd8 i; unfold chD; lia
  generalize chD W xs = d at hd hpr
  have es0 : Str.ofString "" = S [] := by decide +kernel
  have hcr : ∀ i, EndOk (crE i) := fun _ => .inr (.inr rfl)
  have hTl : ((List.range 6).map (rowL d crE)).flatten.length ≤ 100 := by
    have h1 : ∀ i, (rowL d crE i).length ≤ 11 := fun i => by
      have := (hd i).2
      unfold rowL crE
      simp only [List.length_append, List.length_replicate, List.length_cons, List.length_nil]
      lia
    have h6 : List.range 6 = [0, 1, 2, 3, 4, 5] := by decide
    rw [h6]
    simp only [List.map_cons, List.map_nil, List.flatten_cons, List.flatten_nil, List.length_append, List.length_nil]
    have := h1 0; have := h1 1; have := h1 2; have := h1 3; have := h1 4; have := h1 5
    lia
  obtain ⟨T1, hT1⟩ : ∃ T1, ((List.range 6).map (rowL d crE)).flatten = 46 :: T1 := by
    have h6 : List.range 6 = [0, 1, 2, 3, 4, 5] := by decide
    obtain ⟨n, hn⟩ : ∃ n, d 0 = n + 1 := ⟨d 0 - 1, by have := (hd 0).1; lia⟩
    have hh : ((List.range 6).map (rowL d crE)).flatten.head? = some 46 := by
      rw [h6, List.map_cons, List.flatten_cons, rowL, hn, List.replicate_succ]
      rfl
    cases e : ((List.range 6).map (rowL d crE)).flatten with
    | nil => rw [e] at hh; cases hh
    | cons c r => rw [e] at hh; cases hh; exact ⟨r, rfl⟩
  have hjoin : (((List.range 6).map fun i => S (rowL d crE i)).map L).flatten = ((List.range 6).map (rowL d crE)).flatten := by
    rw [List.map_map]
    congr 1
  refine ⟨.ref σ4.length, (List.range 6).map fun i => S (rowL d crE i), by rw [es0], ?_, by rw [hjoin]; lia, ?_⟩
  · rw [ref_list two_0]; unfold rowsV; rw [List.map_map]; rfl
  rw [hjoin]
  repeat' walk_at "st"
  refine ⟨v, sc, rfl, hvk _, ?_⟩
  repeat' walk_at "st"
  obtain ⟨hc1, hc2⟩ := code_eq sc.sum T1
  have hint : (sc.sum % 1000).natAbs < 2 ^ 64 := by
    have h1 := Int.emod_nonneg sc.sum (show (1000 : Int) ≠ 0 by decide)
    have h2 := Int.emod_lt_of_pos sc.sum (show (0 : Int) < 1000 by decide)
    lia
  refine ⟨_, rfl, hint, ?_⟩
  generalize Str.ofString (toString (sc.sum % 1000)) = code at hc1 hc2
  rw [hT1] at hTl
  have esq : Str.ofString " \"" = S [32, 34] := by decide +kernel
  have e257 : L (Str.ofString "257") = [50, 53, 55] := by decide +kernel
  rw [hT1]
  simp only [List.length_cons] at hTl
  repeat' walk_at "st"
  refine p_ref ?_
  repeat' walk_at "st"
  rw [esq]
  refine p_adds ?_ ?_
  · rw [L_S [32, 34]]; show _ + 2 ≤ _; lia
  repeat' walk_at "st"
  rw [L_S [32, 34], L_S (46 :: T1), L_S (L code ++ [32, 34])]
  refine ⟨_, rfl, ?_, ?_⟩
  · rw [L_S (L code ++ [32, 34] ++ 46 :: T1)]; simp only [List.length_append, List.length_cons, List.length_nil]; lia
  repeat' walk_at "st"
  rw [L_S (L code ++ [32, 34] ++ 46 :: T1), show L code ++ [32, 34] ++ 46 :: T1 = L code ++ 32 :: 34 :: 46 :: T1 by simp, hc1, e257]
  refine p_iff (by simp) ?_
  repeat' walk_at "st"
  refine ⟨by simp, p_frozen ⟨_, rfl, ?_⟩⟩
  refine for_all (fun k ρ σ' => σ' = σ4 ++ [MO.list (rowsV d crE), MO.list (natV d)] ∧ ρ (Str.ofString "joined") = some (vMat fun i j => b2i (W i j)) ∧ ρ (Str.ofString "rows") = some (.ref σ4.length) ∧ ρ (Str.ofString "dots") = some (.ref (σ4.length + 1)) ∧ ρ (Str.ofString "text") = some (.str (S (46 :: T1)))) ⟨rfl, ?_, ?_, ?_, ?_⟩ (fun _ _ _ _ _ => trivial) ?_ ?_
  · walk_at "rho"
  · walk_at "rho"
  · walk_at "rho"
  · walk_at "rho"
  · rintro ρ σ' ⟨rfl, e1, e2, e3, e4⟩
    repeat' walk_at "st"
    have hrows : aList (σ4 ++ [MO.list (rowsV d crE), MO.list (natV d)]) (.ref σ4.length) = some (strsV ((List.range 6).map (rowL d crE))) := by
      rw [ref_list two_0]; unfold rowsV strsV; rw [List.map_map]; rfl
    refine ⟨.ref σ4.length, (List.range 6).map (rowL d crE), [], by rw [es0], hrows, by rw [hT1]; simp only [List.length_cons, List.length_nil]; lia, ?_⟩
    rw [replies_due hcr (.inr rfl) (o := fun i => W i i) (fun i hi => hpr (List.mem_range.mp hi)) (fun i hi => List.mem_range.mp hi) (fun _ => by decide)]
    repeat' walk_at "st"
    refine ⟨by decide, p_frozen ?_⟩
    repeat' walk_at "st"
    refine BinR.mulL ⟨_, rfl, by decide, by decide, by decide, p_frozen ?_⟩
    repeat' walk_at "st"
    refine ⟨_, _, rfl, .inr ⟨6, rfl, by decide, rfl⟩, by simp, p_frozen ?_⟩
    repeat' walk_at "st"
    have hm : ∀ σ, matAt σ (vMat fun i j => b2i (W i j)) W := fun σ => ⟨(List.range 6).map fun i => vRow fun j => b2i (W i j), rfl, fun i hi => ⟨vRow fun j => b2i (W i j), by rw [List.getElem?_map, List.getElem?_range hi]; rfl, rfl⟩⟩
    have ecr : Str.ofString "\r\n" = S [13, 10] := by decide +kernel
    refine ⟨_, _, _, _, W, d, crE, List.range 6, rfl, hm _, ?_, ?_, rfl, by simp, fun i hi => List.mem_range.mp hi, fun i => by have := hd i; lia, fun i => by unfold crE; decide, ?_⟩
    · exact aList_app _ (ref_list two_1)
    · rw [ecr]; rfl
    refine CmpR.eqL ⟨strsV (dueF d crE (fun i => W i i) (List.range 6)), ?_, ?_, due_item hcr fun i hi => List.mem_range.mp hi, ?_⟩
    · exact aList_app _ aList_end
    · exact aList_end
    exact hQ _ _
  · rintro k u ρ σ' hx ⟨rfl, e1, e2, e3, e4⟩ K hK hR
    obtain ⟨o, rfl, ho, hol⟩ : ∃ o : List Nat, u = .str (S o) ∧ (o ++ 46 :: T1).take 2 ≠ [32, 34] ∧ o.length ≤ 3 := by
      have hm := List.mem_of_getElem? hx
      simp only [List.mem_cons, List.not_mem_nil, or_false] at hm
      rcases hm with rfl | rfl | rfl | rfl
      · exact ⟨[32], congrArg V.str (by decide +kernel), by simp, by decide⟩
      · exact ⟨[34], congrArg V.str (by decide +kernel), by simp, by decide⟩
      · exact ⟨[45, 34], congrArg V.str (by decide +kernel), by simp, by decide⟩
      · exact ⟨[48, 32, 34], congrArg V.str (by decide +kernel), by simp, by decide⟩
    have h257 : Str.ofString "257" = S [50, 53, 55] := by decide +kernel
    repeat' walk_at "st"
    rw [h257]
    refine p_adds ?_ ?_
    · rw [L_S, L_S]; show 3 + _ ≤ _; lia
    repeat' walk_at "st"
    rw [L_S [50, 53, 55], L_S o, L_S (46 :: T1), L_S ([50, 53, 55] ++ o)]
    refine ⟨_, rfl, ?_, ?_, ?_⟩
    · rw [L_S]; rfl
    · rw [L_S]; simp only [List.length_append, List.length_cons, List.length_nil]; lia
    have hdrop : ([50, 53, 55] ++ o ++ 46 :: T1).drop 3 = o ++ 46 :: T1 := by simp
    rw [L_S ([50, 53, 55] ++ o ++ 46 :: T1), hdrop, if_neg ho]
    repeat' walk_at "st"
    rw [es0]
    refine p_iff (by simp) ?_
    repeat' walk_at "st"
    refine hK _ _ ⟨rfl, ?_, ?_, ?_, ?_⟩
    · walk_at "rho"
    · walk_at "rho"
    · walk_at "rho"
    · walk_at "rho"

end
section
set_option autoImplicit false
set_option maxRecDepth 100000
theorem biT_boot : ∀ p ∈ biT, bootBuiltins p.1 = some p.2 := by
  intro p hp
  unfold biT at hp
  simp only [List.mem_cons, List.not_mem_nil, or_false] at hp
  rcases hp with rfl | rfl | rfl | rfl | rfl | rfl | rfl | rfl | rfl | rfl <;> kernel_rfl
/-- what the law's call knows -/
noncomputable def G1 (w : World) (h : Heap) (mb : Str → Option Value) : Glb where
  prog := PySem.Challenge.rw_xl0003_01.row.prog
  w := w
  base := fun a => if a = builtinsNs ∨ a = cStatics then h.get? a else (hd1.heap_39 w.params).lookup a
  mg := fun x => match (hd1.heap_39 w.params).lookup 3 with | some o => (match o.data with | .dict es _ => nsFind es x | _ => none) | none => none
  mb := mb
  C := 150
theorem look3 (P : Params) : ((hd1.heap_39 P).lookup 3).isSome = true := rfl
theorem top1 {w : World} {h : Heap} {mg mb : Str → Option Value} (KX : (hd1.heap_39 w.params).In h) (hg : h.Ns mainGlobals mg) (hb : h.Ns builtinsNs mb) (hbi : ∀ x : Str, x ≠ "__name__" → mb x = bootBuiltins x) (hl : h.NoLimit) :
    TopA (G1 w h mb) w.params ∧ (G1 w h mb).In h ∧ ∀ x, mg x = (G1 w h mb).mg x := by
  have hin : ∀ b o, (G1 w h mb).base b = some o → h.get? b = some o := fun b o e => by
    by_cases q : b = builtinsNs ∨ b = cStatics
    · exact (if_pos q (α := Option Obj) (t := h.get? b) (e := (hd1.heap_39 w.params).lookup b)).symm.trans e
    · exact KX b o ((if_neg q (α := Option Obj) (t := h.get? b) (e := (hd1.heap_39 w.params).lookup b)).symm.trans e)
  have hb2 : ∀ a, (a = builtinsNs ∨ a = cStatics) → (G1 w h mb).base a = h.get? a := fun a q => if_pos q
  have hnb : ∀ a, ¬ (a = builtinsNs ∨ a = cStatics) → (G1 w h mb).base a = (hd1.heap_39 w.params).lookup a := fun a q => if_neg q
  have h3 : (G1 w h mb).base 3 = (hd1.heap_39 w.params).lookup 3 := hnb 3 (by decide)
  have hmg : ∀ x, mg x = (G1 w h mb).mg x := fun x => by
    obtain ⟨o, es, ep, ho, hd, hk, hf⟩ := hg
    show _ = (match (hd1.heap_39 w.params).lookup 3 with | some o => (match o.data with | .dict es _ => nsFind es x | _ => none) | none => none)
    cases e : (hd1.heap_39 w.params).lookup 3 with
    | none => exact absurd ((look3 w.params).symm.trans (congrArg Option.isSome e)) (by simp)
    | some o' =>
      have := KX 3 o' e
      rw [show mainGlobals = 3 from rfl] at ho
      rw [ho] at this; cases this
      dsimp only; rw [hd]; exact (hf x).symm
  refine ⟨⟨⟨⟨fun h' hin' => ?_, fun h' hin' => ?_, fun h' hin' => ?_⟩, fun a o e => ?_, fun x => rfl, fun x v e => ?_⟩, rfl, ?_, ?_⟩, hin, hmg⟩
  · obtain ⟨o, es, ep, ho, hd, hk, hf⟩ := hg
    have e3 : (hd1.heap_39 w.params).lookup 3 = some o := by
      cases e : (hd1.heap_39 w.params).lookup 3 with
      | none => exact absurd ((look3 w.params).symm.trans (congrArg Option.isSome e)) (by simp)
      | some o' =>
        have := KX 3 o' e
        rw [show mainGlobals = 3 from rfl] at ho
        rw [ho] at this; cases this; rfl
    exact ⟨o, es, ep, hin' 3 o (h3.trans e3), hd, hk, fun x => (hf x).trans (hmg x)⟩
  · obtain ⟨o, es, ep, ho, r⟩ := hb
    exact ⟨o, es, ep, hin' _ _ ((hb2 _ (.inl rfl)).trans ho), r⟩
  · obtain ⟨mc, ⟨o, es, ep, ho, r⟩, z⟩ := hl
    exact ⟨mc, ⟨o, es, ep, hin' _ _ ((hb2 _ (.inr rfl)).trans ho), r⟩, z⟩
  · by_cases q : a = builtinsNs ∨ a = cStatics
    · rw [hb2 _ q]; exact KX a o e
    · rw [hnb _ q]; exact e
  · show mb x = some v
    have hx : x ≠ "__name__" := fun q => by
      have z : biT.lookup (Str.ofString "__name__") = none := by kernel_rfl
      rw [q] at e; rw [z] at e; cases e
    rw [hbi x hx]
    exact biT_boot _ (mem_of_lookup e)
  · show (PySem.Challenge.rw_xl0003_01.row.prog.main.file == Str.ofString "/claim/cut.py") = true
    decide +kernel
  · show (PySem.Challenge.rw_xl0003_01.row.prog.main.scope.names.lookup (Str.ofString "super")).isSome = false
    decide +kernel

theorem def222 {G : Glb} {P : Params} (T : TopG G P) : IsDef G 222 (fd 222) (bd 222) [] := isDef T 222 _ rfl rfl rfl rfl rfl rfl ⟨_, _, _, _, rfl, rfl, rfl, rfl⟩ rfl rfl rfl
theorem ints_of {P : Params} {h : Heap} {g : FM} {φ : List Addr} : ∀ {ns : List Int} {vs : List Value}, WellAll P h vs (ofPys (ns.map PyData.int)) → VRs g φ (ns.map V.int) vs
  | [], vs, h => by
    have h' : WellAll P _ vs [] := h
    cases h'; rfl
  | n :: r, vs, h => by
    have h' : WellAll P _ vs (.int n :: ofPys (r.map PyData.int)) := h
    cases h' with
    | cons h1 h2 =>
      cases h1
      exact ⟨_, _, rfl, ⟨_, rfl⟩, ints_of h2⟩
/-- the law's call -/
theorem law1 {w : World} {s : Shared} {mg mb : Str → Option Value} (KX : (hd1.heap_39 w.params).In s.heap) (hg : s.heap.Ns mainGlobals mg) (hb : s.heap.Ns builtinsNs mb) (hbi : ∀ x : Str, x ≠ "__name__" → mb x = bootBuiltins x) (hl : s.heap.NoLimit)
    (bare : AllBare s.gens) {la fa : Addr} {ns : List Int} (hL : Well w.params s.heap (.ref la) (ofPy (.list (ns.map PyData.int)))) (hn : ns.length ≤ 63) (hf : mg (Str.ofString "law") = some (.ref fa)) {K E : Value → Shared → Prop}
    (hK : ∀ s', (∀ b o, s.heap.get? b = some o → s'.heap.get? b = some o) → s'.os = s.os → AllBare s'.gens → K (.bool true) s') :
    wpAny (model PySem.Challenge.rw_xl0003_01.row.prog w) callerA (call (.ref fa) [.ref la]) K E s := by
  obtain ⟨T, hin, hmg⟩ := top1 (w := w) (mb := mb) KX hg hb hbi hl
  have hfa : fa = 222 := by
    have h1 := (hmg _).symm.trans hf
    have h2 : (G1 w s.heap mb).mg (Str.ofString "law") = some (.ref 222) := by rw [T.T.mg]; rfl
    rw [h2] at h1; cases h1; rfl
  subst hfa
  obtain ⟨vs, hla, hvs⟩ : ∃ vs : List Value, s.heap.get? la = some (listObj vs.toArray 0) ∧ WellAll w.params s.heap vs (ofPys (ns.map PyData.int)) := by
    have h' : Well w.params s.heap (.ref la) (.list (ofPys (ns.map PyData.int))) := hL
    cases h' with
    | list h1 h2 => exact ⟨_, h1, h2⟩
  have S : SR (G1 w s.heap mb) (fun a => if a = la then some (listObj vs.toArray 0) else (G1 w s.heap mb).base a) s.heap [] [] := by
    refine ⟨fun b o e => ?_, fun b o e => ?_, rfl, fun k a m h _ => (by cases h), fun a h => (by cases h), List.nodup_nil⟩
    · by_cases q : b = la
      · subst q
        rw [if_pos rfl, ← hla, hin b o e]
      · rw [if_neg q]; exact e
    · by_cases q : b = la
      · subst q
        rw [if_pos rfl] at e; rw [hla]; exact e
      · rw [if_neg q] at e; exact hin b o e
  generalize hG : G1 w s.heap mb = G at T hin hmg S
  have hprog : G.prog = PySem.Challenge.rw_xl0003_01.row.prog := by rw [← hG]; rfl
  have hw : G.w = w := by rw [← hG]; rfl
  rw [← hprog, ← hw]
  have hv : VR (fun a => if a = la then some (listObj vs.toArray 0) else G.base a) [] (.list (ns.map V.int)) (.ref la) := ⟨la, vs.toArray, 0, rfl, if_pos rfl, by rw [List.toList_toArray]; exact ints_of hvs⟩
  generalize (fun a => if a = la then some (listObj vs.toArray 0) else G.base a) = g at S hv
  refine enter1c (ℓ := 30) T.T.O (def222 T.T) (x := "script") (by decide +kernel) (fun w => rfl) ⟨rfl, by decide, by decide⟩ bare S hv fun env s₁ eo hfl cx hfr N₁ B₁ S₁ F₁ E' => ?_
  have hfs : (callerA.deeper env).frames = some [env] := Around.frames_deeper rfl
  generalize callerA.deeper env = A at cx hfs
  -- the first statement
  obtain ⟨np, np2, apos, pos, apos2, hbd⟩ : ∃ np np2 apos pos apos2, bd 222 = .Assign [.Name (Str.ofString "joined") np2] (.Call (.Name (Str.ofString "_law_joined") np) [.Name (Str.ofString "script") apos] [] pos) apos2 :: (bd 222).tail := ⟨_, _, _, _, _, rfl⟩
  rw [hbd]
  have hkj : env.kindOf (Str.ofString "_law_joined") = some .globalImplicit := by unfold Env.kindOf; rw [eo.scope]; decide +kernel
  have hks : env.kindOf (Str.ofString "script") = some .cell := by unfold Env.kindOf; rw [eo.scope]; decide +kernel
  refine wpAny_execs_cons (wpAny_Assign_Name ?_ rfl)
  refine wpAny_Call_NameR (Calls.Name_function_global (by rw [eo.scope]; exact eo.kind) hkj (Calls.loadGlobal_global (mg := G.mg) (v := .ref 176) (by rw [eo.globals]; exact T.T.O.nsg _ S₁.inb) (by rw [T.T.mg]; rfl) ?_) (by decide +kernel))
  refine CallOk.def (G := G) (T.T.K 176 _ rfl) rfl rfl rfl ?_
  show wpAny _ A (do let v ← eval (.Name (Str.ofString "script") apos) env; return [v] ++ (← holding [v] (spliced []))) _ _ s₁
  obtain ⟨c, wv, hc, hcw, hr, _⟩ := F₁.cell (Str.ofString "script") (.list (ns.map V.int)) (.inl hks) (if_pos rfl)
  refine wpAny_bind (wpAny_Name (wpAny_loadName_cell (by rw [eo.scope]; exact eo.kind) hks hc hcw ?_) (by decide +kernel))
  refine wpAny_bind (wpAny_holding (wpAny_pure (wpAny_pure ⟨S₁.inb, ?_⟩)))
  refine fn176z T.T (ℓ := 29) A s₁ g [] [] [.list (ns.map V.int)] [wv] (fun v _ => v = vMat (Mj ns)) cx B₁ S₁ (VRs.single hr) ⟨_, ns, rfl, rfl, by lia, fun _ => rfl⟩ _ _ fun w₂ s₂ g₂ φ₂ σ₂ v₂ N₂ ok₂ S₂ hv₂ hQ₂ => ?_
  have R₁ : Rel G g [] [] env (ownOf (fd 222).scope) (upd (fun _ => none) (Str.ofString "script") (.list (ns.map V.int))) (up1 s₁) := ⟨up1_ok B₁, S₁, F₁⟩
  have R₂ := R₁.step N₂.to_up ok₂ S₂
  subst hQ₂
  refine store_name eo R₂ (.inl (by decide +kernel)) hv₂ fun s₃ N₃ R₃ => ?_
  refine tail222 T (ℓ := 27) hn A env s₃ g₂ φ₂ σ₂ _ (fun fl _ _ => fl = .rt (.bool true)) cx eo hfs hfl R₃ ⟨.list (ns.map V.int), ?_, rfl, ?_, fun _ _ => rfl⟩ _ _ fun f s₄ g₄ φ₄ σ₄ ρ₄ fl N₄ R₄ hf hQ => ?_
  · unfold upd; rw [if_neg (by decide +kernel), if_pos rfl]
  · unfold upd; rw [if_pos rfl]
  · subst hQ
    obtain ⟨wr, rfl, hwr⟩ := hf
    have hwr' : wr = .bool true := hwr
    subst hwr'
    have N : Nx [] s s₄ g g₄ [] φ₄ := ((N₁.leave (fp := fpOf env (ownOf (fd 222).scope)) (N₂.fp.trans N₃) hfr).leave N₄ hfr)
    refine ⟨(fun h => nomatch h), (fun w h => by cases h; exact hK s₄ (fun b o e => N.oth b o (by simp) (by simp) e) N.os R₄.ok.bare), .inr ⟨_, rfl⟩⟩

end
end Mine
set_option maxRecDepth 100000 in
set_option maxHeartbeats 8000000 in
theorem PySem.Challenge.cw_xl0003_01_holds : PySem.Challenge.rw_xl0003_01.Holds := by
  refine Mine.hd1 ?_
  intro w s₀ s₁ mg mb G Y fa o pm cd doc dV kV ho hd hcd hD hmg hg args vals as hpre hlay hrd hwl hlo
  have KX := kIn_of Y
  refine Ground.open G ?_
  intro T B D TE TW
  wrow_args hpre hlay hrd hwl hlo
  refine Mine.law1 KX T.g T.b T.builtins T.nolimit (.of_eq hg) (by assumption) (by omega) hmg fun s' hk hos hba => ?_
  refine ⟨.inl ⟨.bool true, .bool true, [], rfl, fun cls => rfl, .bool true, ?_, fun _ => ⟨List.nodup_nil, fun a h => by cases h⟩⟩, .of_keep hk, hos, hba⟩
  wrow_post

import PyProof.Rows.All
import Wide.All
import OpenK.AllK
import Wide.FinOn
import KE.KPop
import KE.KRevIter
import PySem.Challenge.RW_to0007_01
set_option Elab.async false
set_option linter.all false
set_option compiler.extract_closed false

-- part HD
section
open PySem PySem.W PyProof.Rows
namespace Mine
set_option maxRecDepth 100000
set_option maxHeartbeats 8000000
open_top hd for PySem.Challenge.rw_to0007_01
end Mine
end
theorem Mine.topOff : True := by
  w_top off
  trivial

-- part C0
section
open PySem PySem.W PyProof.Rows
namespace Mine
theorem hide {G : Prop} (h : ∀ P : Prop, (G → P) → P) : G := h G id
/-- two frames' maps agree at the names of a written chain -/
inductive Ag (f g m : Str → Option Value) : (Str → Option Value) → Prop
  | nil : Ag f g m m
  | cons {k : Str} {a : Option Value} {r : Str → Option Value} : f k = g k → Ag f g m r → Ag f g m (fun y => if y = k then a else r y)
theorem Ag.off {f g m r : Str → Option Value} (c : Ag f g m r) : ∀ y, f y = g y ∨ r y = m y := by
  induction c with
  | nil => exact fun _ => .inr rfl
  | @cons k a r hk _ ih =>
    intro y
    by_cases h : y = k
    · subst h; exact .inl hk
    · rcases ih y with e | e
      · exact .inl e
      · exact .inr ((if_neg h).trans e)
theorem chain_eq {m f g : Str → Option Value} (cf : Ag f g m f) (cg : Ag f g m g) : f = g := by
  funext y
  rcases cf.off y with e | e
  · exact e
  rcases cg.off y with e' | e'
  · exact e'
  exact e.trans e'.symm
/-- room for one more call -/
theorem rm (a : Nat) {A dp D D' : Nat} (h : dp + D < recursionLimit) (hA : A = dp + a) (hD : a + 1 + D' ≤ D) : A + 1 + D' < recursionLimit := by
  subst hA
  exact Nat.lt_of_le_of_lt (by omega) h
theorem um (a : Nat) {A un U U' : Nat} (h : un + U < cLine) (hA : A = un + a) (hU : a + 3 + U' ≤ U) : A + 3 + U' < cLine := by
  subst hA
  exact Nat.lt_of_le_of_lt (by omega) h
theorem rm5 {a b : Nat} (h : a < b) : 0 + 1 + (2 + a) ≤ 2 + b := by omega
theorem um5 {a b : Nat} (h : a < b) : 0 + 3 + (20 + 5 * a) ≤ 20 + 5 * b := by omega
theorem rm7 {k : Nat} (h : k ≤ 7) : 0 + 1 + (2 + k) ≤ 80 := by omega
theorem um7 {k : Nat} (h : k ≤ 7) : 0 + 3 + (20 + 5 * k) ≤ 400 := by omega
theorem rm60 {k : Nat} (h : k ≤ 60) : 0 + 1 + (2 + k) ≤ 80 := by omega
theorem um60 {k : Nat} (h : k ≤ 60) : 0 + 3 + (20 + 5 * k) ≤ 400 := by omega
end Mine
end

-- part O0
section
namespace Mine
theorem lit16_23 : @LT.lt Nat _ 16 23 := by decide
theorem lit16_86 : @LT.lt Nat _ 16 86 := by decide
theorem lit23_86 : @LT.lt Nat _ 23 86 := by decide
theorem ar1 {a : Nat}  : 0 ≤ (↑a : Int) := Int.natCast_nonneg a
theorem ar3 {a : Nat} {b : Nat}  : a + 1 + b = a + b + 1 := Nat.add_right_comm a 1 b
theorem ar5 {a : Nat}  : (↑a : Int) + 1 - 1 = (↑a : Int) := Int.add_sub_cancel (↑a) 1
theorem ar8 {a : Nat} (h0 : a ≤ 7) : a ≤ 256 := by grind
theorem ar9 {a : Nat} (h0 : 1 ≤ (↑a : Int)) (h1 : (↑a : Int) = 0) : False := by grind
theorem ar10 {a : Nat} {b : Nat} {c : Nat} {d : Nat} (h0 : a ≤ 7) (h1 : b - c = d) (h2 : b ≤ a) : d ≤ 7 := by grind
theorem ar11 {a : Nat} {b : Nat} (h0 : (↑a : Int) + 1 = (↑b : Int)) (h1 : (↑a : Int) + 1 ≠ (↑b : Int)) : False := (iff_false_intro h1).mp h0
theorem ar12 {a : Nat} {b : Nat} {c : Nat} {d : Nat} (h0 : a ≤ b) (h1 : c = b) (h2 : (↑d : Int) + 1 = (↑a : Int)) : d < c := by grind
theorem ar13 {a : Nat} {b : Nat} (h0 : a ≤ 7) (h1 : b = a) : b ≤ 1000 := by grind
theorem ar14 {a : Nat} {b : Nat} {c : Nat} (h0 : a - b = c) (h1 : (↑b : Int) + 1 = (↑a : Int)) : c = 1 := by grind
theorem ar15 {a : Nat} {b : Nat} (h0 : (↑a : Int) + 1 = (↑b : Int)) : b = a + 1 := Int.ofNat_inj.mp (id (Eq.symm h0))
theorem ar16 {a : Nat} {b : Nat}  : ((↑a : Int) + (↑b : Int)) / 2 = (↑((a + b) / 2) : Int) := Eq.symm (Nat.ToInt.div_congr rfl rfl)
theorem ar17 {a : Nat} {b : Nat} (h0 : ¬(↑a : Int) + 1 = (↑b : Int)) (h1 : (↑a : Int) + 1 = (↑b : Int)) : False := ar11 h1 h0
theorem ar18 {a : Nat} {b : Nat} (h0 : a < b) (h1 : (↑a : Int) + 1 ≠ (↑b : Int)) : a < (a + b) / 2 := by grind
theorem ar19 {a : Nat} {b : Nat} (h0 : a < (a + b) / 2) : (a + b) / 2 < b := by grind
theorem ar20 {a : Nat} {b : Nat}  : (((↑a : Int) - (↑b : Int)) * 1).toNat = a - b := by grind
theorem ar21 {a : Nat} {b : Nat} {c : Nat} {d : Nat} (h0 : a ≤ 7) (h1 : b ≤ a) (h2 : c < b) : c - d < 8 := by grind
theorem ar22 {a : Nat} {b : Nat} {c : Nat} (h0 : a < b) (h1 : b < c) : c - a = b - a + (c - b) := by grind
theorem ar23 {a : Nat} {b : Nat} {c : Nat} {d : Nat} (h0 : a - b = c) (h1 : b < d) (h2 : d < a) : d - b + (a - d) = c := by grind
theorem ar24 {a : Nat} {b : Nat} (h0 : a < b) : 0 ≤ ((↑b : Int) - (↑a : Int)) * 1 := by grind
theorem ar25 {a : Nat} {b : Nat} {c : Nat} {d : Nat} (h0 : a ≤ 7) (h1 : b ≤ a) (h2 : c < b) : ((↑c : Int) - (↑d : Int)) * 1 ≤ 1000000 := by grind
theorem ar27 {a : Nat} {b : Nat} {c : Nat} {d : Nat} (h0 : a - b = c) (h1 : b < d) (h2 : d < a) : d - b < c := by grind
theorem ar28 {a : Nat} {b : Nat} {c : Nat} (h0 : a ≤ b) (h1 : c < a) : c ≤ b := by grind
theorem ar29 {a : Nat} {b : Nat} {c : Nat} {d : Nat} (h0 : a - b = c) (h1 : b < d) (h2 : d < a) : a - d < c := by grind
theorem ar30 {a : Nat} {b : Nat} {c : Nat} {d : Nat} (h0 : a ≤ b) (h1 : c < d) (h2 : d < a) : min c b + (d - c) + (b - d) = b := by grind
theorem ar31 {a : Nat} {b : Nat} {c : Nat} {d : Nat} (h0 : a ≤ b) (h1 : c < d) (h2 : d < a) : min c b + (d - c) = d := by grind
theorem ar32 {a : Nat} {b : Nat} (h0 : a = b) : b ≤ a := Nat.le_of_eq (id (Eq.symm h0))
theorem ar33 {a : Nat} {b : Nat} (h0 : a = b) : a ≤ b := ar32 (id (Eq.symm h0))
theorem ar34 {a : Nat} {b : Nat} {c : Nat} (h0 : a < b) (h1 : c = a) : c ≤ b := by grind
theorem ar35 {a : Nat} {b : Nat} (h0 : a < b) : a + (b - a) = b := by grind
theorem ar36 {a : Nat}  : a - 0 = a := Nat.sub_zero a
theorem ar37 {a : Nat} (h0 : a ≤ 50) : a ≤ 60 := by grind
theorem ar38 {a : Nat} (h0 : a + 0 = 2) : a = 2 := Eq.symm (Nat.add_right_cancel (congrFun (congrArg HAdd.hAdd (id (Eq.symm h0))) a))
theorem ar39 {a : Nat} {b : Nat} (h0 : a + (b + 1) = 2) : a = 0 ∨ a = 1 := by grind
theorem ar40 {a : Nat} {b : Nat} {c : Nat} (h0 : a = b) (h1 : b + 1 = 1 - c + (min c 1 + 1)) : a ≤ 2 := by omega
theorem ar41 {a : Nat} (h0 : a ≤ 2) : a ≤ 100 := by grind
theorem ar42 {a : Nat} (h0 : a ≤ 6) : a ≤ 1000 := by grind
theorem ar43 {a : Nat} (h0 : a ≤ 50) : a ≤ 1000 := by grind
theorem ar44 {a : Nat} (h0 : (↑a : Int) = 3) : a = 3 := ar15 (id (Eq.symm h0))
theorem ar45 {a : Nat} {b : Nat} (h0 : a + (b + 1) = 2) : a + 1 + b = 2 := by grind
theorem ar46 {a : Nat} (h0 : (↑a : Int) % 3 = 1) : a % 3 = 1 := ar15 (id (Eq.symm h0))
theorem ar50 {a : Nat} {b : Nat} (h0 : a = b + 1) (h1 : b ≤ 50) : a ≤ 60 := by grind
theorem ar51 {a : Nat} {b : Nat} (h0 : a = b + 1) : 0 < a := Nat.lt_of_sub_eq_succ h0
theorem ar52 {a : Nat} (h0 : (↑a : Int) < 2) : a < 2 := Int.ofNat_lt.mp h0
theorem ar53 {a : Nat} (h0 : ¬(↑a : Int) < 2) : ¬a < 2 := by omega
theorem ar54 {a : Nat} (h0 : a ≤ 60) : a ≤ 1000 := by grind
theorem ar55 {a : Nat} {b : Nat} (h0 : a + (b + 1) = 5) : a = 0 ∨ a = 1 ∨ a = 2 ∨ a = 3 ∨ a = 4 := by grind
theorem ar56 {a : Nat} {b : Nat} (h0 : a + (b + 1) = 5) : a < 6 := by grind
theorem ar57 {a : Nat} {b : Nat} (h0 : a + (b + 1) = 5) : a < 5 := by grind
theorem ar58 {a : Nat} {b : Nat} (h0 : a + (b + 1) = 5) : a + 1 < 6 := by grind
theorem ar59 {a : Nat} {b : Nat} (h0 : a + (b + 1) = 5) : a + 1 + b = 5 := by grind
theorem ar60 {a : Nat} {b : Nat} {c : Nat} (h0 : a ≤ 63) (h1 : b ≤ c) (h2 : c = a) : b ≤ 63 := by grind
theorem ar61 {a : Nat} {b : Nat} (h0 : a ≤ 63) (h1 : a = b) : b ≤ 63 := le_of_eq_of_le (id (Eq.symm h1)) h0
theorem ar62 {a : Nat} {b : Prop} (h0 : a + 0 = 2) (h1 : 0 = a) : b := by grind
theorem ar63 {a : Nat} {b : Prop} (h0 : a + 0 = 2) (h1 : 1 = a) : b := by grind
theorem ar64 {a : Nat} {b : Nat} {c : Prop} (h0 : a + 0 = 2) (h1 : b + 1 + 1 + 1 = a) : c := by grind
theorem ar65 {a : Int}  : 1 + a % 127 = (↑(1 + a % 127).toNat : Int) := by grind
theorem ar66 {a : Int}  : 1 ≤ (1 + a % 127).toNat := by grind
theorem ar67 {a : Int}  : (1 + a % 127).toNat < 128 := by grind
theorem ar68 {a : Nat} (h0 : 1 ≤ a ∧ a < 128) : 1 ≤ (↑a : Int) := by grind
theorem ar69 {a : Nat} {b : Nat} (h0 : a = b) (h1 : b ≤ 6) : a ≤ 1000 := by grind
theorem ar70 {a : Nat} {b : Nat} {c : Nat} (h0 : a = b) (h1 : b + (c + 1) = 2) : a ≤ 2 := by grind
theorem ar71 {a : Int} {b : Int} {c : Int} {d : Int}  : a + (2 * b + c * 2 * d) = a + 2 * b + c * 2 * d := Eq.symm (Int.add_assoc a (2 * b) (c * 2 * d))
theorem ar72 {a : Int} {b : Int} {c : Int} (h0 : 0 ≤ a ∧ a < b) (h1 : 0 ≤ c ∧ c ≤ 1) : 0 ≤ c + 2 * a ∧ c + 2 * a < b * 2 := by grind
theorem ar73 {a : Nat} {b : Nat} {c : Nat} (h0 : a ≤ b) (h1 : b ≤ c) : c - a = b - a + (c - b) := by grind
theorem ar74 {a : Nat} {b : Nat} (h0 : a ≤ b) : a + (b - a) = b := Nat.add_sub_of_le h0
theorem ar75 {a : Nat} {b : Nat} {c : Nat} {d : Nat} (h0 : a ≤ b) (h1 : b ≤ c) : a - d ≤ c - d := by omega
theorem ar76 {a : Nat} {b : Nat} {c : Nat} (h0 : a ≤ 60) : min b (a - c) ≤ 60 := by omega
theorem ar78 {a : Nat} {b : Nat} {c : Nat} (h0 : a ≤ b) (h1 : (↑c : Int) + 1 = (↑a : Int)) : c < b := ar12 h0 rfl h1
theorem ar80 {a : Nat} {b : Nat} (h0 : (↑a : Int) + 1 = (↑b : Int)) : b - a = 1 := ar14 rfl h0
theorem ar81 {a : Nat} (h0 : a ≤ 6) : a ≤ 60 := by grind
theorem ar82 {a : Nat}  : min a 2 ≤ 2 := Nat.min_le_right a 2
theorem ar83 {a : Nat} {b : Nat} (h0 : a ≤ 12) (h1 : b ≤ 12) : 1 + a + 1 + (1 + b + 1) ≤ 16777214 := by grind
theorem ar84 {a : Nat} {b : Nat} (h0 : a ≤ 12) (h1 : b ≤ 12) : a + (b + 1 + 1 + 1 + 1) ≤ 199 := by grind
theorem ar86 {a : Nat} {b : Nat} {c : Nat} {d : Nat} {e : Nat} {f : Prop} {g : Nat} (h0 : a < b ∧ c < b ∧ d < b ∧ e + 1 + 1 < b ∧ e + 1 < b ∧ 86 < b ∧ f) (h1 : b < g) : d < g := by omega
theorem ar87 {a : Nat} {b : Nat} {c : Nat} {d : Nat} {e : Nat} {f : Nat} {g : Nat} {k : Nat} {l : Nat} {m : Nat} {n : Prop} (h0 : a < b ∧ c < b ∧ d < b ∧ e < b ∧ f < b ∧ g < b ∧ k < b ∧ l < b ∧ m + 1 + 1 < b ∧ m + 1 < b ∧ 86 < b ∧ n) : a < b := by omega
theorem ar88 {a : Nat} {b : Nat} {c : Nat} {d : Nat} {e : Nat} {f : Prop} {g : Nat} (h0 : a < b ∧ c < b ∧ d < b ∧ e + 1 + 1 < b ∧ e + 1 < b ∧ 86 < b ∧ f) (h1 : b < g) : a < g := by omega
theorem ar89 {a : Nat} {b : Nat} {c : Nat} {d : Nat} {e : Nat} {f : Prop} {g : Nat} (h0 : a < b ∧ c < b ∧ d < b ∧ e + 1 + 1 < b ∧ e + 1 < b ∧ 86 < b ∧ f) (h1 : b < g) : c < g := by omega
theorem ar90 {a : Nat}  : 0 ≤ (↑(a + 1) : Int) + 1 := Int.zero_le_ofNat (a + 1 + 1)
theorem ar91 {a : Nat} {b : Nat} (h0 : a + 2 ≤ b) : (↑(a + 1) : Int) + 1 ≤ (↑b : Int) := Int.toNat_le.mp h0
theorem ar92 {a : Nat}  : ((↑(a + 1) : Int) + 1).toNat = a + 2 := ar15 rfl
theorem ar93 {a : Nat} {b : Nat}  : a ≤ ((↑a : Int) - ((↑b : Int) + 1 + 1)).toNat + (b + 2) := by omega
theorem ar94 {a : Nat} (h0 : a ≤ 120) : a ≤ 1000 := by grind
theorem ar95 {a : Nat} {b : Nat} {c : Nat} (h0 : a ≤ 60) (h1 : b + 2 * c ≤ 2 * a) : c ≤ 60 := by grind
theorem ar96 {a : Nat} {b : Nat} {c : Nat} (h0 : a ≤ 60) (h1 : b + 2 * c ≤ 2 * a) : b ≤ 1000 := by grind
theorem ar97 {a : Nat} {b : Nat} (h0 : a ≤ 60) (h1 : b ≤ 2 * a) : b ≤ 120 := by grind
theorem ar98 {a : Nat} {b : Nat} {c : Nat} (h0 : a + 2 * (b + 1) ≤ 2 * c) : a + 2 + 2 * b ≤ 2 * c := by grind
theorem ar99 {a : Nat} {b : Nat} {c : Nat} (h0 : a + 2 * (b + 1 + 1) ≤ 2 * c) : a + 1 + 2 * b ≤ 2 * c := by grind
theorem ar100 {a : Nat} {b : Nat} {c : Nat} (h0 : a - b = c + 1 + 1) : b + 2 + c = a := by grind
theorem ar101 {a : Nat} {b : Nat} {c : Nat} (h0 : a + 2 + b = c) : a + 2 ≤ c := Nat.le.intro h0
theorem ar102 {a : Nat} {b : Nat} {c : Nat} (h0 : a ≤ 60) (h1 : b + 2 + c = a) : c ≤ 1000 := by grind
theorem ar103 {a : Nat} {b : Nat} {c : Nat} (h0 : a + 2 + b = c) : b + 1 < c + 1 := by grind
theorem ar104 {a : Nat} {b : Nat} {c : Nat} (h0 : a + 2 * (b + 1 + 1) ≤ 2 * c) : a + 2 + 2 * b ≤ 2 * c := by grind
theorem ar105 {a : Nat} {b : Nat} {c : Prop} (h0 : a ≤ b) (h1 : b < a + 0) : c := by grind
theorem ar106 {a : Nat} {b : Nat} {c : Nat} (h0 : a < b + (c + 1)) (h1 : ¬a = b + c) : a < b + c := by grind
theorem ar107 {a : Nat} {b : Nat} (h0 : a < 128) : (b * 128 + a) / 128 = b := by grind
theorem ar108 {a : Nat} {b : Nat} (h0 : (a * 128 + b) / 128 = a) : (a * 128 + b) % 128 = b := by grind
theorem ar109 {a : Nat} {b : Nat} (h0 : a < 128) (h1 : (a * 128 + b) % 128 = b) : a * 128 + b < 16384 := by grind
theorem ar110 {a : Nat}  : 0 ≤ a := Nat.zero_le a
theorem ar111 {a : Nat} (h0 : a < 1024) : a < 0 + 1024 := ar12 h0 rfl rfl
theorem ar112 {a : Nat} (h0 : ¬a < 1024) : 1024 ≤ a := Nat.le_of_not_lt h0
theorem ar113 {a : Nat} (h0 : a < 2048) : a < 1024 + 1024 := ar12 h0 rfl rfl
theorem ar114 {a : Nat} (h0 : ¬a < 2048) : 2048 ≤ a := Nat.le_of_not_lt h0
theorem ar115 {a : Nat} (h0 : a < 3072) : a < 2048 + 1024 := ar12 h0 rfl rfl
theorem ar116 {a : Nat} (h0 : ¬a < 3072) : 3072 ≤ a := Nat.le_of_not_lt h0
theorem ar117 {a : Nat} (h0 : a < 4096) : a < 3072 + 1024 := ar12 h0 rfl rfl
theorem ar118 {a : Nat} (h0 : ¬a < 4096) : 4096 ≤ a := Nat.le_of_not_lt h0
theorem ar119 {a : Nat} (h0 : a < 5120) : a < 4096 + 1024 := ar12 h0 rfl rfl
theorem ar120 {a : Nat} (h0 : ¬a < 5120) : 5120 ≤ a := Nat.le_of_not_lt h0
theorem ar121 {a : Nat} (h0 : a < 6144) : a < 5120 + 1024 := ar12 h0 rfl rfl
theorem ar122 {a : Nat} (h0 : ¬a < 6144) : 6144 ≤ a := Nat.le_of_not_lt h0
theorem ar123 {a : Nat} (h0 : a < 7168) : a < 6144 + 1024 := ar12 h0 rfl rfl
theorem ar124 {a : Nat} (h0 : ¬a < 7168) : 7168 ≤ a := Nat.le_of_not_lt h0
theorem ar125 {a : Nat} (h0 : a < 8192) : a < 7168 + 1024 := ar12 h0 rfl rfl
theorem ar126 {a : Nat} (h0 : ¬a < 8192) : 8192 ≤ a := Nat.le_of_not_lt h0
theorem ar127 {a : Nat} (h0 : a < 9216) : a < 8192 + 1024 := ar12 h0 rfl rfl
theorem ar128 {a : Nat} (h0 : ¬a < 9216) : 9216 ≤ a := Nat.le_of_not_lt h0
theorem ar129 {a : Nat} (h0 : a < 10240) : a < 9216 + 1024 := ar12 h0 rfl rfl
theorem ar130 {a : Nat} (h0 : ¬a < 10240) : 10240 ≤ a := Nat.le_of_not_lt h0
theorem ar131 {a : Nat} (h0 : a < 11264) : a < 10240 + 1024 := ar12 h0 rfl rfl
theorem ar132 {a : Nat} (h0 : ¬a < 11264) : 11264 ≤ a := Nat.le_of_not_lt h0
theorem ar133 {a : Nat} (h0 : a < 12288) : a < 11264 + 1024 := ar12 h0 rfl rfl
theorem ar134 {a : Nat} (h0 : ¬a < 12288) : 12288 ≤ a := Nat.le_of_not_lt h0
theorem ar135 {a : Nat} (h0 : a < 13312) : a < 12288 + 1024 := ar12 h0 rfl rfl
theorem ar136 {a : Nat} (h0 : ¬a < 13312) : 13312 ≤ a := Nat.le_of_not_lt h0
theorem ar137 {a : Nat} (h0 : a < 14336) : a < 13312 + 1024 := ar12 h0 rfl rfl
theorem ar138 {a : Nat} (h0 : ¬a < 14336) : 14336 ≤ a := Nat.le_of_not_lt h0
theorem ar139 {a : Nat} (h0 : a < 15360) : a < 14336 + 1024 := ar12 h0 rfl rfl
theorem ar140 {a : Nat} (h0 : ¬a < 15360) : 15360 ≤ a := Nat.le_of_not_lt h0
theorem ar141 {a : Nat} (h0 : a < 16384) : a < 15360 + 1024 := ar12 h0 rfl rfl
theorem ar142 {a : Nat} {b : Prop} (h0 : a < 16384) (h1 : ¬a < 16384) : b := False.elim (h1 h0)
theorem ar143 {a : Nat} (h0 : a ≤ 127) : (↑a : Int) ≤ 127 := Nat.ToInt.of_le rfl rfl h0
theorem ar145 {a : Nat}  : 2 * a + 1 + 1 = (a + 1) * 2 := by grind
theorem ar146 {a : Nat} {b : Nat} {c : Nat} (h0 : (a + 1) * (2 * b) ≤ c) (h1 : (2 * a + 1 + 1) * b = (a + 1) * (2 * b)) : (2 * a + 1 + 1) * b ≤ c := le_of_eq_of_le h1 h0
theorem ar147 {a : Nat} {b : Nat} (h0 : a < b) : (↑b : Int) - (↑a : Int) = (↑(b - a) : Int) := by grind
theorem ar148 {a : Nat}  : 2 * a + 1 ≤ (a + 1) * 2 := by grind
theorem ar149 {a : Nat} {b : Nat} {c : Nat} (h0 : (a + 1) * (2 * b) ≤ c) (h1 : (2 * a + 1) * b ≤ (a + 1) * (2 * b)) : (2 * a + 1) * b ≤ c := Nat.le_trans h1 h0
theorem ar150 {a : Nat} {b : Nat} (h0 : ¬a < b) : (↑a : Int) - (↑b : Int) = (↑(a - b) : Int) := by grind
theorem ar152 {a : Nat} {b : Nat} (h0 : a + 1 ≤ b) : a < b := ar12 h0 rfl rfl
theorem ar153 {a : Nat}  : (↑(a + 1) : Int) - 1 = (↑a : Int) := Int.sub_eq_iff_eq_add.mpr rfl
theorem ar154 {a : Nat} {b : Nat} (h0 : a + 1 ≤ b) : a ≤ b := ar34 h0 rfl
theorem ar155 {a : Nat} {b : Nat} (h0 : a < b) : (↑b : Int) - 1 - (↑a : Int) = (↑(b - 1 - a) : Int) := by omega
theorem ar156 {a : Nat} {b : Nat} (h0 : (↑a : Int) - 1 - (↑b : Int) = (↑(a - 1 - b) : Int)) : a - 1 - b < a := by omega
theorem ar157 {a : Nat} {b : Nat} (h0 : (↑a : Int) - 1 - (↑b : Int) = (↑(a - 1 - b) : Int)) : (↑(a - 1 - b) : Int) - 1 = (↑a : Int) - 1 - (↑(b + 1) : Int) := by grind
theorem ar159 {a : Nat} {b : Nat} {c : Nat} (h0 : a + 0 = b) (h1 : c = a) : c = b := by grind
theorem ar160 {a : Nat} {b : Nat} {c : Nat} (h0 : a + (b + 1) = c) : a < c := by grind
theorem ar161 {a : Nat} {b : Nat} {c : Nat} (h0 : a + (b + 1) = c) : a + 1 + b = c := by grind
theorem ar162 {a : Nat} {b : Nat} {c : Nat} (h0 : a = b) (h1 : c < b) : c < a := ar12 h1 h0 rfl
theorem ar163 {a : Nat} {b : Nat} {c : Nat} (h0 : a = b) (h1 : c ≥ b) : a ≤ c := le_of_eq_of_le h0 h1
theorem ar164 {a : Nat} {b : Nat} (h0 : a - b > 0) : 1 ≤ a - b := ar163 rfl h0
theorem ar165 {a : Nat} {b : Nat} {c : Nat} (h0 : a = b) (h1 : c ≥ b) (h2 : c - a = 0) : c = b := by grind
theorem ar166 {a : Nat}  : 0 + a = a := Nat.zero_add a
theorem ar167 {a : Nat} {b : Nat} (h0 : a < b) : b - a = b - a - 1 + 1 := by grind
theorem ar168 {a : Nat} {b : Nat} {c : Nat} (h0 : a - b = c + 1) : a + 1 - (b + 1) < a + 1 - b := by grind
theorem ar169 {a : Nat} {b : Nat} {c : Nat} (h0 : a - b = c + 1) : a - (b + 1) = c := by omega
theorem ar170 {a : Nat}  : ¬(↑a : Int) < 0 := Int.not_ofNat_neg a
theorem ar173 {a : Nat} {b : Nat} (h0 : a < b) : (↑a : Int) < (↑b : Int) := Int.ofNat_lt.mpr h0
theorem ar175 {a : Nat} {b : Nat} (h0 : a + b ≤ 60) : a ≤ 1000 := by grind
end Mine
end

-- part B0
section
open PySem PySem.W PyProof.Rows
namespace Mine
/-- a way: true is a stroke, false a backslash -/
abbrev Way := List Bool
noncomputable def sgn (b : Bool) : Nat := if b then 47 else 92
noncomputable def wayS (ws : Way) : Str := ⟨(ws.map sgn).toArray⟩
theorem wayS_length (ws : Way) : (wayS ws).length = ws.length := by simp [wayS, Str.length]
theorem way_is : Str.mk #[47] = Str.ofString "/" := by decide +kernel
theorem way_is' : Str.mk #[92] = Str.ofString "\\" := by decide +kernel

/-- the contract of a call: from any frame, with the ledger `news`; what comes back is `Ret`'s value and ledger -/
abbrev Ct (w : World) (p : Program) (loose : List Str) (mean : ExcName → Option Value) (mg mb : Str → Option Value) (f : Value) (vs : List Value) (D U : Nat)
    (news : List (Addr × Obj)) (Ret : Value → List (Addr × Obj) → Prop) : Prop :=
  ∀ (dp un : Nat) (gd : Option (List Code)) (cn : Str) (cs : Scope) (a : Addr) (ccd : Value) (cl : List (Str × Addr)) (outer : List Env) (A₀ : Around) (base h₀ : Heap) (L : Addr) (m : Str → Option Value) (s : Shared) (Q : Value → Shared → Prop),
    Below A₀ base outer h₀ → Fr h₀ L s.heap m → (Mine.hd.heap_39 w.params).In h₀ → News h₀ L s.heap news → Top p loose mean mg mb h₀ → cs.kind = .function →
    dp + D < recursionLimit → un + U < cLine → AllBare s.gens →
    (∀ v news' h' tk' g', Ret v news' → AllBare g' → Fr h₀ L h' m → News h₀ L h' news' → Q v { heap := h', gens := g', drawn := s.drawn, toks := tk', os := s.os }) →
      wpAny (model PySem.Challenge.rw_to0007_01.row.prog w) (ktrTop dp un gd cn cs L a ccd cl outer) (call f vs) Q (fun _ _ => False) s
end Mine
namespace Mine
/-- the walk stands still here -/
structure Hold (P : Prop) : Prop where
  out : P
end Mine
namespace Mine
theorem Ct.app {w : World} {p : Program} {loose : List Str} {mean : ExcName → Option Value} {mg mb : Str → Option Value} {f : Value} {vs : List Value} {D U : Nat} {news : List (Addr × Obj)} {Ret : Value → List (Addr × Obj) → Prop}
    (C : Ct w p loose mean mg mb f vs D U news Ret) {A : Around} {dp un : Nat} {gd : Option (List Code)} {cn : Str} {cs : Scope} {a : Addr} {ccd : Value} {cl : List (Str × Addr)} {outer : List Env} {A₀ : Around} {base h₀ : Heap} {L : Addr} {m : Str → Option Value} {s : Shared} {Q : Value → Shared → Prop} {E : Value → Shared → Prop}
    (hA : A = ktrTop dp un gd cn cs L a ccd cl outer) (B : Below A₀ base outer h₀) (F : Fr h₀ L s.heap m) (X : (Mine.hd.heap_39 w.params).In h₀) (N : News h₀ L s.heap news) (T : Top p loose mean mg mb h₀) (hk : cs.kind = .function)
    (hd : dp + D < recursionLimit) (hu : un + U < cLine) (hg : AllBare s.gens)
    (k : ∀ v news' h' tk' g', Ret v news' → AllBare g' → Fr h₀ L h' m → News h₀ L h' news' → Q v { heap := h', gens := g', drawn := s.drawn, toks := tk', os := s.os }) :
    wpAny (model PySem.Challenge.rw_to0007_01.row.prog w) A (call f vs) Q E s := by
  subst hA
  exact wpAny_mono (C dp un gd cn cs a ccd cl outer A₀ base h₀ L m s Q B F X N T hk hd hu hg k) (fun _ _ h => h) fun _ _ h => h.elim
end Mine
namespace Mine
/-- all addresses of the ledger lie under `L` -/
noncomputable def Under (rest : List (Addr × Obj)) (L : Addr) : Prop := ∀ p ∈ rest, p.1 < L
theorem Under.ne {rest : List (Addr × Obj)} {L a : Addr} (h : Under rest L) (ha : @LE.le Nat _ L a) : ∀ p ∈ rest, p.1 ≠ a :=
  fun p hp => Nat.ne_of_lt (Nat.lt_of_lt_of_le (h p hp) ha)
/-- a name for the post: the big one stands once -/
theorem abs_post {R : Type} {prog : Program} {w : World} {A : Around} {c : Sem R} {Q : R → Shared → Prop} {E : Value → Shared → Prop} {s : Shared} (h : ∀ Q' : R → Shared → Prop, Hold (∀ r s', Q r s' → Q' r s') → wpAny (model prog w) A c Q' E s) : wpAny (model prog w) A c Q E s :=
  h Q ⟨fun _ _ q => q⟩
theorem Under.ne9 {rest : List (Addr × Obj)} {L a : Addr} (h : Under rest L := by assumption) (ha : @LE.le Nat _ L a := by omega) : ∀ p ∈ rest, p.1 ≠ a := h.ne ha
end Mine
end

-- part B1
section
open PySem PySem.W PyProof.Rows
namespace Mine
theorem emptyS : Str.ofString "" = ⟨#[]⟩ := by decide +kernel
theorem foldl_ones : ∀ (l : List Nat) (a : Array Nat), ((l.map fun c => (⟨#[c]⟩ : Str)).foldl (fun acc p => acc ++ (#[] : Array Nat) ++ p.cps) a) = a ++ l.toArray
  | [], a => by simp
  | c :: l, a => by
    rw [List.map_cons, List.foldl_cons, foldl_ones l]
    apply Array.ext'
    simp
theorem glue_ones (l : List Nat) : Txt.join (Str.ofString "") (l.map fun c => (⟨#[c]⟩ : Str)) = ⟨l.toArray⟩ := by
  rw [emptyS]
  unfold Txt.join PySem.Builtin.Str.glued
  cases l with
  | nil => rfl
  | cons c l =>
    simp only [List.map_cons, List.drop_succ_cons, List.drop_zero, List.headD_cons]
    rw [foldl_ones]
    simp
theorem glue_way (ws : Way) : Txt.join (Str.ofString "") (ws.map fun b => (⟨#[sgn b]⟩ : Str)) = wayS ws := by
  have h := glue_ones (ws.map sgn)
  rw [List.map_map] at h
  exact h
theorem signs_way (ws : Way) : signs (wayS ws) = ws.map fun b => (⟨#[sgn b]⟩ : Str) := by
  unfold signs wayS
  simp
section
variable {prog : Program} {w : World} {A : Around} {E : Value → Shared → Prop} {s : Shared} {t : Tok} {Q : Value → Shared → Prop}
theorem join_way {D : Addr} {items : List Value} {ws : Way} {ds : List PyData} (hl : s.heap.IsList D items.toArray) (hc : CarriedAll items ds) (hd : ds = ws.map fun b => PyData.str ⟨#[sgn b]⟩) (hn : ws.length ≤ 1000)
    (h : ∀ t' k, Q (.str (wayS ws) t') { s with toks := k }) : wpAny (model prog w) A (call (.builtin "str.join") [.str (Str.ofString "") t, .ref D]) Q E s := by
  subst hd
  have hc' : CarriedAll items ((ws.map fun b => (⟨#[sgn b]⟩ : Str)).map PyData.str) := by rw [List.map_map]; exact hc
  have hi : StrsAre items.toArray.toList (ws.map fun b => (⟨#[sgn b]⟩ : Str)) := StrsAre.of_carried hc'
  have h1 : ((ws.map fun b => (⟨#[sgn b]⟩ : Str)).map (·.length)).sum = (ws.map fun b => (⟨#[sgn b]⟩ : Str)).length :=
    sumLen_of_ones _ fun a ha => by obtain ⟨b, _, rfl⟩ := List.mem_map.mp ha; rfl
  refine join_list hl hi ?_ (fun t' k => ?_)
  · rw [h1, List.length_map, emptyS]
    show ws.length + ws.length * 0 ≤ _
    omega
  · rw [glue_way]; exact h t' k
end
end Mine
end

-- part R0
section
open PySem PySem.W PyProof.Rows
set_option maxRecDepth 100000
set_option maxHeartbeats 1000000
namespace Mine
theorem owner_rev : Manifest.owners.lookup (String.ofList ['d', 'e', 's', 'r', 'e', 'v', 'e', 'r'].reverse) = some Manifest.sig_reversed := by kernel_rfl
theorem slot_rev_next : Slot "reversed" "__next__" "reversed.__next__" :=
  .of (owner := "reversed") (n := "__next__") (by rw [typeLookup_type, builtinLookup_eq_fast]; kernel_rfl) (by decide +kernel) (by decide +kernel) (by decide +kernel)
    (by first | exact .inl (by decide +kernel) | exact .inr (by decide +kernel)) (by rw [isSubtype_type]; kernel_rfl)
theorem slot_rev_iter : Slot "reversed" "__iter__" "reversed.__iter__" :=
  .of (owner := "reversed") (n := "__iter__") (by rw [typeLookup_type, builtinLookup_eq_fast]; kernel_rfl) (by decide +kernel) (by decide +kernel) (by decide +kernel)
    (by first | exact .inl (by decide +kernel) | exact .inr (by decide +kernel)) (by rw [isSubtype_type]; kernel_rfl)
theorem slot_rev_init : Slot "reversed" "__init__" "object.__init__" :=
  .of (owner := "object") (n := "__init__") (by rw [typeLookup_type, builtinLookup_eq_fast]; kernel_rfl) (by decide +kernel) (by decide +kernel) (by decide +kernel)
    (by first | exact .inl (by decide +kernel) | exact .inr (by decide +kernel)) (by rw [isSubtype_type]; kernel_rfl)
theorem entry_rev_next : entryFor table "reversed.__next__" = some Builtin.«reversed.__next__» := entryFor_of_tree (by kernel_rfl)
theorem entry_rev_iter : entryFor table "reversed.__iter__" = some Builtin.«dict_keyiterator.__iter__» :=
  entryFor_alias (id' := "dict_keyiterator.__iter__") (by kernel_rfl) (by first | rfl | decide +kernel | (unfold String.splitOn; simp +decide [String.splitOnAux])) (by decide +kernel) (by kernel_rfl)
theorem args_rev_next_1 (a : Value) : argsOk "reversed.__next__" ⟨[a], []⟩ := by
  unfold argsOk; rw [signature?_of (id := "reversed.__next__") (n := ['_', '_', 't', 'x', 'e', 'n', '_', '_']) (o := ['d', 'e', 's', 'r', 'e', 'v', 'e', 'r']) (by kernel_rfl) owner_rev]; kernel_rfl
theorem args_rev_iter_1 (a : Value) : argsOk "reversed.__iter__" ⟨[a], []⟩ := by
  unfold argsOk; rw [signature?_of (id := "reversed.__iter__") (n := ['_', '_', 'r', 'e', 't', 'i', '_', '_']) (o := ['d', 'e', 's', 'r', 'e', 'v', 'e', 'r']) (by kernel_rfl) owner_rev]; kernel_rfl
theorem called_rev : TypeCalled "reversed" "reversed.__new__" "object.__init__" :=
  ⟨by decide +kernel, by decide +kernel, ⟨_, _, PySem.F.mro_reversed⟩, PySem.F.made_reversed, by decide +kernel, PySem.F.sub_reversed_self, slot_rev_init⟩
noncomputable def revS (x : Str) (t : Tok) (i : Int) : Obj := { cls := .type "reversed", data := .fields #[.str x t, rawInt i] }
theorem no_str_reversed : typeLookup (.type "str") "__reversed__" = pure none := by rw [typeLookup_type, builtinLookup_eq_fast]; kernel_rfl
theorem str_no_dict : isSubtype (.type "str") (.type "dict") = pure false := by rw [isSubtype_type]; kernel_rfl
section
variable {prog : Program} {w : World} {A : Around} {E : Value → Shared → Prop} {s : Shared}
theorem meets_reversed_newS (x : Str) (t : Tok) (hx : x.length ≤ 1000) :
    Meets (Builtin.«reversed.__new__» ⟨[.type "reversed", .str x t], []⟩) (fun _ R s => ∀ tk,
      R (.ok (.ret (.ref s.heap.objs.size))) { s with heap := s.heap.push (revS x t ((x.length : Int) - 1)), toks := tk }) :=
  .of_wp fun prog w A R s h => by
    unfold Builtin.«reversed.__new__»
    refine wpAny_bind (wpAny_of_eq (newClass_reversed _) ?_)
    try dsimp only
    refine wpAny_bind (wpAny_of_eq (a := ()) (by first | rfl | kernel_rfl) ?_)
    refine wpAny_bind (wpAny_of_eq (a := ()) (by first | rfl | kernel_rfl) ?_)
    try dsimp only
    refine wpAny_bind (wpAny_specialOf (typeIs_str _ x t) no_str_reversed ?_)
    try dsimp only
    refine wpAny_bind (wpAny_of_eq (a := true) (by kernel_rfl) ?_)
    rw [if_neg (by decide)]
    refine wpAny_bind (len_str (by omega) ?_)
    refine wpAny_bind (wpAny_of_eq (a := some (x.length : Int)) rfl ?_)
    dsimp only
    refine wpAny_bind ?_
    unfold PySem.Builtin.SmallTypes.newRecord
    exact wpAny_newObj_type (wpAny_pure ⟨_, rfl, h _⟩)

theorem call_reversed_str {x : Str} {t : Tok} (hx : x.length ≤ 1000) {Q : Value → Shared → Prop}
    (h : ∀ tk, Q (.ref s.heap.objs.size) { s with heap := s.heap.push (revS x t ((x.length : Int) - 1)), toks := tk }) :
    wpAny (model prog w) A (call (.type "reversed") [.str x t]) Q E s :=
  callType_new called_rev (by decide) (PySem.F.typeCall_reversed_1 _) (PySem.F.newCall_reversed_1 _) (fun obj => PySem.F.args_object_init_2 obj _) PySem.F.entry_reversed_new
    (meets_reversed_newS x t hx) fun tk => ⟨⟨_, Heap.get?_push_size _ rfl, rfl⟩, h tk⟩

end
end Mine
end

-- part R1
section
open PySem PySem.W PyProof.Rows
set_option maxRecDepth 100000
set_option maxHeartbeats 1000000
namespace Mine
section
variable {prog : Program} {w : World} {A : Around} {E : Value → Shared → Prop} {s : Shared}
theorem next_rev_item {it : Addr} {x : Str} {t : Tok} {i c : Nat} {Q : Option Value → Shared → Prop} (ho : s.heap.get? it = some (revS x t (i : Int))) (hx : x.length ≤ 1000) (hc : x.cps[i]? = some c)
    (hQ : ∀ h' tk tk', h'.get? it = some (revS x t ((i : Int) - 1)) → Heap.SameBut it s.heap h' → Q (some (.str ⟨#[c]⟩ tk)) { s with heap := h', toks := tk' }) : wpAny (model prog w) A (pyNext (.ref it)) Q E s := by
  have hT : s.TypeIs (.ref it) "reversed" := ⟨_, ho, rfl⟩
  have hd : (revS x t (i : Int)).data = .fields #[.str x t, rawInt (i : Int)] := rfl
  have hlt : i < x.cps.size := by
    rcases Nat.lt_or_ge i x.cps.size with h | h
    · exact h
    · rw [Array.getElem?_eq_none h] at hc; cases hc
  have hlt' : i < x.length := hlt
  unfold pyNext
  refine wpAny_bind (wpAny_attempt (wpAny_callSpecial?_slot (name := Str.ofString "__next__") hT slot_rev_next
    (wpAny_call_entry slot_rev_next hT entry_rev_next ?_ (args_rev_next_1 _))))
  unfold Builtin.«reversed.__next__»
  refine wpAny_bind (wpAny_of_eq (a := (Value.ref it, [])) rfl ?_)
  try dsimp only
  refine wpAny_bind (wpAny_field ho hd (x := .str x t) rfl ?_)
  refine wpAny_bind (wpAny_field ho hd (x := rawInt (i : Int)) rfl ?_)
  show wpAny _ _ (if (i : Int) < 0 then _ else _) _ _ s
  rw [if_neg (by (first | exact Mine.ar170 | omega))]
  refine wpAny_bind (wpAny_specialOf (typeIs_str _ x t) (PySem.F.slot_str_getitem).lookup ?_)
  try dsimp only
  show wpAny _ _ (if false = true then _ else _) _ _ s
  rw [if_neg (by decide)]
  refine wpAny_bind (wpAny_mkInt (wpAny_bind (wpAny_attempt (P.getItem_str (c := c) ?_ ?_ ?_))))
  · have : ¬ ((i : Int) < -(2 ^ 63 : Int)) := by omega
    have : ¬ ((i : Int) ≥ 2 ^ 63) := by omega
    rw [decide_eq_false (by assumption), decide_eq_false (by assumption)]; rfl
  · unfold seqIndex?
    have h1 : ¬ ((i : Int) < 0) := by (first | exact Mine.ar170 | omega)
    have h2 : (0 ≤ (i : Int)) := by (first | exact Mine.ar1 | omega)
    have h3 : ((i : Int) < (x.length : Int)) := by (first | exact Mine.ar173 hlt' | omega)
    simp [h1, h2, h3, hc]
  try dsimp only
  refine wpAny_bind (wpAny_field ho hd (x := rawInt (i : Int)) rfl ?_)
  try dsimp only [rawInt]
  refine wpAny_bind (wpAny_setField ho hd (by simp) ?_)
  refine wpAny_pure ⟨_, rfl, wpAny_pure (hQ _ _ _ ?_ (Heap.SameBut.update ..))⟩
  exact Heap.get?_update_self _ ho rfl

theorem next_rev_end {it : Addr} {x : Str} {t : Tok} {Q : Option Value → Shared → Prop} (hh : A.handled = none) (ho : s.heap.get? it = some (revS x t (-1)))
    (hQ : ∀ h', Heap.ExtBut it s.heap h' → Q none { s with heap := h' }) : wpAny (model prog w) A (pyNext (.ref it)) Q E s := by
  have hT : s.TypeIs (.ref it) "reversed" := ⟨_, ho, rfl⟩
  have hd : (revS x t (-1)).data = .fields #[.str x t, rawInt (-1)] := rfl
  unfold pyNext
  refine wpAny_bind (wpAny_attempt (wpAny_callSpecial?_slot (name := Str.ofString "__next__") hT slot_rev_next
    (wpAny_call_entry slot_rev_next hT entry_rev_next ?_ (args_rev_next_1 _))))
  unfold Builtin.«reversed.__next__»
  refine wpAny_bind (wpAny_of_eq (a := (Value.ref it, [])) rfl ?_)
  try dsimp only
  refine wpAny_bind (wpAny_field ho hd (x := .str x t) rfl ?_)
  refine wpAny_bind (wpAny_field ho hd (x := rawInt (-1)) rfl ?_)
  show wpAny _ _ (if (-1 : Int) < 0 then _ else _) _ _ s
  rw [if_pos (by decide)]
  refine wpAny_bind (wpAny_rule ?_)
  refine wpAny_bind ?_
  show wpAny _ _ (do setField (.ref it) 1 (rawInt (-1)); setField (.ref it) 0 .none) _ _ _
  refine wpAny_bind (wpAny_setField ho hd (by simp) ?_)
  refine wpAny_setField (vs := #[.str x t, rawInt (-1)]) (Heap.get?_update_self _ ho rfl) rfl (by simp) ?_
  refine wpAny_bind ?_
  show wpAny _ _ (newExc (.type "StopIteration") [] >>= _) _ _ _
  refine wpAny_bind ?_
  simp only [newExc, newTuple]
  refine wpAny_bind (wpAny_newObj_type ?_ (by size_fits))
  refine wpAny_bind (m := firstArgMember _ _) (wpAny_of_eq (a := Value.none) (by first | rfl | (simp only [firstArgMember]; rfl)) ?_)
  refine wpAny_newObj_type ?_ (by size_fits)
  simp only [raiseNew]
  refine wpAny_bind (wpAny_handled ?_)
  first | rw [show A.in1.handled = none from hh] | rw [hh]
  refine wpAny_bind (wpAny_pure (wpAny_throw ?_))
  refine wpAny_bind (wpAny_isInstance (T := "StopIteration") (b := true) ⟨_, Heap.get?_push_size _ rfl, rfl⟩ isSubtype_stop ?_)
  refine wpAny_pure (hQ _ ((Heap.ExtBut.push (Heap.ExtBut.push ?_ _) _)))
  exact fun b o hb e => (Heap.SameBut.update (Heap.update s.heap it _) it _).extBut b o hb ((Heap.SameBut.update s.heap it _).extBut b o hb e)

theorem iter_rev {it : Addr} {x : Str} {t : Tok} {i : Int} {Q : Value → Shared → Prop} (ho : s.heap.get? it = some (revS x t i)) (h : Q (.ref it) s) : wpAny (model prog w) A (pyIter (.ref it)) Q E s := by
  have hT : s.TypeIs (.ref it) "reversed" := ⟨_, ho, rfl⟩
  refine wpAny_pyIter_slot hT slot_rev_iter (wpAny_call_entry slot_rev_iter hT entry_rev_iter ?_ (args_rev_iter_1 _))
  show wpAny _ _ (ret (.ref it)) _ _ s
  exact wpAny_pure ⟨_, rfl, "reversed", _, hT, slot_rev_next.lookup, h⟩
end
end Mine
end

-- part R2
section
open PySem PySem.W PyProof.Rows
set_option maxRecDepth 100000
set_option maxHeartbeats 1000000
namespace Mine
section
variable {prog : Program} {w : World} {A : Around} {E : Value → Shared → Prop} {s : Shared} {env : Env} {h₀ h h' : Heap} {L : Addr} {m : Str → Option Value} {news news' : List (Addr × Obj)}

/-- one object of the ledger changed -/
theorem led_upd {d : Addr} {o o' : Obj} (F : Fr h₀ L h m) (N : News h₀ L h news) (U : Upd d o o' news news') (hs : Heap.SameBut d h h') (ho : h'.get? d = some o') : Fr h₀ L h' m ∧ News h₀ L h' news' := by
  obtain ⟨pre, post, rfl, rfl, a, b⟩ := U.split
  have z := N (d, o) (by simp)
  exact ⟨F.change hs z.2.1 z.2.2, news_set N a b hs ho⟩

/-- all but the first object of the ledger stays -/
theorem led_drop {d : Addr} {o : Obj} (F : Fr h₀ L h m) (N : News h₀ L h ((d, o) :: news)) (hne : ∀ p ∈ news, p.1 ≠ d) (hx : Heap.ExtBut d h h') : Fr h₀ L h' m ∧ News h₀ L h' news := by
  have z := N (d, o) (by simp)
  refine ⟨⟨F.ns.extBut hx (Ne.symm z.2.1), fun b o' e => hx b o' (fun q => ?_) (F.keep b o' e), F.above⟩, fun p hp => ?_⟩
  · rw [q, z.2.2] at e; cases e
  · have y := N p (List.mem_cons_of_mem _ hp)
    exact ⟨hx p.1 p.2 (hne p hp) y.1, y.2⟩

/-- a for loop by a measure, no turn raises -/
theorem for_loop {target it body} {R : Flow → Shared → Prop} (I : Nat → Shared → Prop)
    (turn : ∀ n s, I n s → wpAny (model prog w) A (pyNext it) (fun r s₁ => match r with
      | none => R .next s₁
      | some v => wpAny (model prog w) A (letOwnedTupleGo target it v) (fun _ s₁ => wpAny (model prog w) A (assign target env v) (fun _ s₂ => wpAny (model prog w) A (execs body env) (fun f s₃ => match f with
          | .next | .cont => Hold (∃ m, m < n ∧ I m s₃)
          | .brk => R .next s₃
          | .ret v => R (.ret v) s₃) (fun _ _ => False) s₂) (fun _ _ => False) s₁) (fun _ _ => False) s₁) (fun _ _ => False) s)
    (n : Nat) (h : I n s) : codeAny (model prog w) A (.forLoop target it body [] env) (fun r s' => match r with | .ok f => R f s' | .error e => cameBackBy (model prog w) A env E e s') s := by
  refine codeAny_loop' rfl I (fun n s hI => ?_) n h
  show wpAny _ _ ((forTurn target it body [] env).onRaise (fun x => do noteFrame x env; theTreesLotGoes x)) _ _ s
  refine wpAny_mono (Q := fun fin s' => match fin with | .done f => R f s' | .again c' => (c' = .forLoop target it body [] env ∧ ∃ m, m < n ∧ I m s') ∨ (c' = .block [] env ∧ R .next s')) (E := fun _ _ => False) (wpAny_onRaise ?_) (fun fin s' h' => ?_) (fun _ _ h' => h'.elim)
  · simp only [forTurn]
    refine wpAny_bind (wpAny_standAt (wpAny_bind (wpAny_onRaise (wpAny_mono (turn n s hI) (fun r s₁ h₁ => ?_) fun _ _ h' => h'.elim))))
    cases r with
    | none => exact wpAny_pure (.inr ⟨rfl, h₁⟩)
    | some v =>
      refine wpAny_bind (wpAny_mono h₁ (fun _ s₁' h₁' => wpAny_bind (wpAny_mono h₁' (fun _ s₂ h₂ => wpAny_bind (wpAny_mono h₂ (fun f s₃ h₃ => ?_) fun _ _ h' => h'.elim)) fun _ _ h' => h'.elim)) fun _ _ h' => h'.elim)
      cases f with
      | next => exact wpAny_pure (.inl ⟨rfl, Hold.out h₃⟩)
      | cont => exact wpAny_pure (.inl ⟨rfl, Hold.out h₃⟩)
      | brk => exact wpAny_pure h₃
      | ret v => exact wpAny_pure h₃
  · cases fin with
    | done f => exact h'
    | again c' =>
      rcases h' with ⟨rfl, hI⟩ | ⟨rfl, hR⟩
      · exact .inl ⟨rfl, hI⟩
      · exact .inr ⟨rfl, codeAny_block (wpAny_execs_nil hR)⟩

/-- a while loop by a measure, no turn raises -/
theorem while_loop {test body} {R : Flow → Shared → Prop} (I : Nat → Shared → Prop)
    (turn : ∀ n s, I n s → wpAny (model prog w) A (isTrue test env (eval test env)) (fun b s₂ =>
        if b then wpAny (model prog w) A (execs body env) (fun f s₃ => match f with
            | .next | .cont => Hold (∃ m, m < n ∧ I m s₃)
            | .brk => R .next s₃
            | .ret v => R (.ret v) s₃) (fun _ _ => False) s₂
        else R .next s₂) (fun _ _ => False) s)
    (n : Nat) (h : I n s) : codeAny (model prog w) A (.whileLoop test body [] env) (fun r s' => match r with | .ok f => R f s' | .error e => cameBackBy (model prog w) A env E e s') s := by
  refine codeAny_whileLoop I (fun n s hI => ?_) n h
  refine wpAny_mono (turn n s hI) (fun b s₂ h₂ => ?_) fun _ _ h' => h'.elim
  cases b with
  | true =>
    simp only [if_true] at h₂ ⊢
    refine wpAny_mono h₂ (fun f s₃ h₃ => ?_) fun _ _ h' => h'.elim
    cases f with
    | next => exact Hold.out h₃
    | cont => exact Hold.out h₃
    | brk => exact h₃
    | ret v => exact h₃
  | false =>
    simp only [Bool.false_eq_true, if_false] at h₂ ⊢
    exact wpAny_execs_nil h₂

/-- a turn's ends, behind a name for its post -/
structure Ends (QQ R : Flow → Shared → Prop) (I : Nat → Shared → Prop) (n : Nat) : Prop where
  nx : ∀ {f : Flow} {m : Nat} {s : Shared}, (f = .next ∨ f = .cont) → m < n → I m s → QQ f s
  bk : ∀ {s : Shared}, R .next s → QQ .brk s
  rt : ∀ {v : Value} {s : Shared}, R (.ret v) s → QQ (.ret v) s
theorem Ends.own {R : Flow → Shared → Prop} {I : Nat → Shared → Prop} {n : Nat} : Ends (fun f s₃ => match f with
    | .next | .cont => Hold (∃ m, m < n ∧ I m s₃)
    | .brk => R .next s₃
    | .ret v => R (.ret v) s₃) R I n :=
  ⟨fun hf hm hI => by rcases hf with rfl | rfl <;> exact ⟨_, hm, hI⟩, fun h => h, fun h => h⟩
theorem for_loopQ {target it body} {R : Flow → Shared → Prop} (I : Nat → Shared → Prop)
    (turn : ∀ n s QQ, I n s → Ends QQ R I n → wpAny (model prog w) A (pyNext it) (fun r s₁ => match r with
      | none => R .next s₁
      | some v => wpAny (model prog w) A (letOwnedTupleGo target it v) (fun _ s₁ => wpAny (model prog w) A (assign target env v) (fun _ s₂ => wpAny (model prog w) A (execs body env) QQ (fun _ _ => False) s₂) (fun _ _ => False) s₁) (fun _ _ => False) s₁) (fun _ _ => False) s)
    (n : Nat) (h : I n s) : codeAny (model prog w) A (.forLoop target it body [] env) (fun r s' => match r with | .ok f => R f s' | .error e => cameBackBy (model prog w) A env E e s') s :=
  for_loop I (fun n s hI => turn n s _ hI .own) n h
theorem while_loopQ {test body} {R : Flow → Shared → Prop} (I : Nat → Shared → Prop)
    (turn : ∀ n s QQ, I n s → Ends QQ R I n → wpAny (model prog w) A (isTrue test env (eval test env)) (fun b s₂ =>
        if b then wpAny (model prog w) A (execs body env) QQ (fun _ _ => False) s₂
        else R .next s₂) (fun _ _ => False) s)
    (n : Nat) (h : I n s) : codeAny (model prog w) A (.whileLoop test body [] env) (fun r s' => match r with | .ok f => R f s' | .error e => cameBackBy (model prog w) A env E e s') s :=
  while_loop I (fun n s hI => turn n s _ hI .own) n h
theorem krev_str {x : Str} {t : Tok} {Q : Value → Shared → Prop} (F : Fr h₀ L s.heap m) (N : News h₀ L s.heap news) (hx : x.length ≤ 1000)
    (h : ∀ D h' tk, Fr h₀ L h' m → News h₀ L h' ((D, revS x t ((x.length : Int) - 1)) :: news) → (∀ p ∈ news, p.1 < D) → Q (.ref D) { s with heap := h', toks := tk }) :
    wpAny (model prog w) A (call (.type "reversed") [.str x t]) Q E s :=
  call_reversed_str hx fun tk => h _ _ tk (F.push _) (N.push F _) fun p hp => Heap.lt_size (N p hp).1
theorem krev_iter {it : Addr} {x : Str} {t : Tok} {i : Int} {Q : Value → Shared → Prop} (N : News h₀ L s.heap news) (hm : (it, revS x t i) ∈ news) (h : Q (.ref it) s) : wpAny (model prog w) A (pyIter (.ref it)) Q E s :=
  iter_rev (N _ hm).1 h
end
end Mine
namespace Mine
theorem fr_hide {P : Prop} {h₀ h : Heap} {L : Addr} {m : Str → Option Value} (F : Fr h₀ L h m) (k : ∀ m', m' = m → Fr h₀ L h m' → P) : P := k m rfl F
theorem fr_map {h₀ h : Heap} {L : Addr} {m m' : Str → Option Value} (F : Fr h₀ L h m) (e : m = m') : Fr h₀ L h m' := e ▸ F
end Mine
end

-- part R3
section
open PySem PySem.W PyProof.Rows PySem.Flt
set_option maxRecDepth 100000
set_option maxHeartbeats 1000000
namespace Mine
section
variable {prog : Program} {w : World} {A : Around} {E : Value → Shared → Prop} {s : Shared} {Q : Value → Shared → Prop} {a b c r : Value} {h₀ : Heap} {L : Addr} {m : Str → Option Value} {news : List (Addr × Obj)}
theorem max_three (hh : A.handled = none) (ha : NumV a) (hb : NumV b) (hc : NumV c)
    (hr : r = #[a, b, c].getD (argBest (fun i j => ltV (#[a, b, c].getD j .none) (#[a, b, c].getD i .none)) 2) .none) (F : Fr h₀ L s.heap m) (N : News h₀ L s.heap news)
    (h : ∀ h' tk, Fr h₀ L h' m → News h₀ L h' news → Q r { s with heap := h', toks := tk }) :
    wpAny (model prog w) A (call (.builtin "max") [a, b, c]) Q E s := by
  have hT : (s.heap.push { cls := .type "tuple", data := .seq #[a, b, c] }).IsTuple s.heap.objs.size #[a, b, c] := ⟨_, Heap.get?_push_size _ rfl, rfl, 0, rfl⟩
  refine call_max_three (wpAny_pyIter_tuple hT ?_)
  have hsz : (s.heap.push { cls := .type "tuple", data := .seq #[a, b, c] }).objs.size = s.heap.objs.size + 1 := Heap.size_push ..
  refine ⟨_, [_, s.heap.objs.size], [_], _, _, _, _, rfl, Walks.tuple (A := A.in1) hh _ s.heap.objs.size (by rw [hsz]; exact Nat.ne_of_lt (Nat.lt_succ_self _)) #[a, b, c],
    ⟨⟨_, Heap.get?_push_size _ rfl, rfl, rfl⟩, hT.push _⟩, fun d hd => ?_, by simp, cmpOf_gt #[a, b, c] (by simp [ha, hb, hc]), fun v h' tk hP hk => ?_⟩
  · show d < ((s.heap.push _).push _).objs.size
    rw [Heap.size_push, hsz]
    rcases List.mem_cons.mp hd with rfl | hd
    · rw [hsz]; exact Nat.lt_succ_self _
    · rcases List.mem_cons.mp hd with rfl | hd
      · exact Nat.lt_succ_of_lt (Nat.lt_succ_self _)
      · cases hd
  · have hold : ∀ d o, s.heap.get? d = some o → h'.get? d = some o := fun d o e => by
      refine hk d o (fun hm => ?_) (Heap.get?_push_of_some _ (Heap.get?_push_of_some _ e))
      rcases List.mem_cons.mp hm with e1 | hm
      · have := Heap.lt_size e; rw [e1, hsz] at this; exact Nat.lt_irrefl _ (Nat.lt_of_succ_lt this)
      · cases hm
    have hv : v = r := by
      rw [hr, Array.getD_eq_getD_getElem?]
      have hP' : #[a, b, c][argBest (fun i j => ltV (#[a, b, c].getD j .none) (#[a, b, c].getD i .none)) 2]? = some v := hP
      rw [hP']; rfl
    rw [hv]; exact h h' tk (F.grownK hold) (N.grown hold)
theorem min_three (hh : A.handled = none) (ha : NumV a) (hb : NumV b) (hc : NumV c)
    (hr : r = #[a, b, c].getD (argBest (fun i j => ltV (#[a, b, c].getD i .none) (#[a, b, c].getD j .none)) 2) .none) (F : Fr h₀ L s.heap m) (N : News h₀ L s.heap news)
    (h : ∀ h' tk, Fr h₀ L h' m → News h₀ L h' news → Q r { s with heap := h', toks := tk }) :
    wpAny (model prog w) A (call (.builtin "min") [a, b, c]) Q E s := by
  have hT : (s.heap.push { cls := .type "tuple", data := .seq #[a, b, c] }).IsTuple s.heap.objs.size #[a, b, c] := ⟨_, Heap.get?_push_size _ rfl, rfl, 0, rfl⟩
  refine call_min_three (wpAny_pyIter_tuple hT ?_)
  have hsz : (s.heap.push { cls := .type "tuple", data := .seq #[a, b, c] }).objs.size = s.heap.objs.size + 1 := Heap.size_push ..
  refine ⟨_, [_, s.heap.objs.size], [_], _, _, _, _, rfl, Walks.tuple (A := A.in1) hh _ s.heap.objs.size (by rw [hsz]; exact Nat.ne_of_lt (Nat.lt_succ_self _)) #[a, b, c],
    ⟨⟨_, Heap.get?_push_size _ rfl, rfl, rfl⟩, hT.push _⟩, fun d hd => ?_, by simp, cmpOf_lt #[a, b, c] (by simp [ha, hb, hc]), fun v h' tk hP hk => ?_⟩
  · show d < ((s.heap.push _).push _).objs.size
    rw [Heap.size_push, hsz]
    rcases List.mem_cons.mp hd with rfl | hd
    · rw [hsz]; exact Nat.lt_succ_self _
    · rcases List.mem_cons.mp hd with rfl | hd
      · exact Nat.lt_succ_of_lt (Nat.lt_succ_self _)
      · cases hd
  · have hold : ∀ d o, s.heap.get? d = some o → h'.get? d = some o := fun d o e => by
      refine hk d o (fun hm => ?_) (Heap.get?_push_of_some _ (Heap.get?_push_of_some _ e))
      rcases List.mem_cons.mp hm with e1 | hm
      · have := Heap.lt_size e; rw [e1, hsz] at this; exact Nat.lt_irrefl _ (Nat.lt_of_succ_lt this)
      · cases hm
    have hv : v = r := by
      rw [hr, Array.getD_eq_getD_getElem?]
      have hP' : #[a, b, c][argBest (fun i j => ltV (#[a, b, c].getD i .none) (#[a, b, c].getD j .none)) 2]? = some v := hP
      rw [hP']; rfl
    rw [hv]; exact h h' tk (F.grownK hold) (N.grown hold)
end
/-- which of the three is greatest, which is least -/
theorem max_at0 {x y z : UInt64} {t u v : Tok} (h1 : (Float64.cmp x y == some .lt) = false) (h2 : (Float64.cmp x z == some .lt) = false) :
    Value.float x t = #[Value.float x t, .float y u, .float z v].getD (argBest (fun i j => ltV (#[Value.float x t, .float y u, .float z v].getD j .none) (#[Value.float x t, .float y u, .float z v].getD i .none)) 2) .none := by
  simp [argBest, ltV, h1, h2]
theorem max_at1 {x y z : UInt64} {t u v : Tok} (h1 : (Float64.cmp x y == some .lt) = true) (h2 : (Float64.cmp y z == some .lt) = false) :
    Value.float y u = #[Value.float x t, .float y u, .float z v].getD (argBest (fun i j => ltV (#[Value.float x t, .float y u, .float z v].getD j .none) (#[Value.float x t, .float y u, .float z v].getD i .none)) 2) .none := by
  simp [argBest, ltV, h1, h2]
theorem min_at2 {x y z : UInt64} {t u v : Tok} (h1 : (Float64.cmp z x == some .lt) = true) (h2 : (Float64.cmp z y == some .lt) = true) :
    Value.float z v = #[Value.float x t, .float y u, .float z v].getD (argBest (fun i j => ltV (#[Value.float x t, .float y u, .float z v].getD i .none) (#[Value.float x t, .float y u, .float z v].getD j .none)) 2) .none := by
  cases h3 : (Float64.cmp y x == some .lt) <;> simp [argBest, ltV, h1, h2, h3]
end Mine
end

-- part F1
section
open PySem PySem.W PyProof.Rows
set_option maxRecDepth 100000
set_option maxHeartbeats 8000000
namespace Mine
theorem turned_signs (ws : Way) : (List.map (fun a => if (a == Str.ofString "\\") = true then PyData.str (Str.ofString "/") else PyData.str (Str.ofString "\\")) (List.filter (fun _ => true) (signs (wayS ws)))) = (ws.map (!·)).map fun b => PyData.str ⟨#[sgn b]⟩ := by
  rw [signs_way, filter_everyA, List.map_map, List.map_map]
  apply List.map_congr_left
  intro b _
  cases b
  · show (if (Str.mk #[92] == Str.ofString "\\") = true then PyData.str (Str.ofString "/") else PyData.str (Str.ofString "\\")) = PyData.str ⟨#[47]⟩
    rw [if_pos (by decide +kernel), way_is]
  · show (if (Str.mk #[47] == Str.ofString "\\") = true then PyData.str (Str.ofString "/") else PyData.str (Str.ofString "\\")) = PyData.str ⟨#[92]⟩
    rw [if_neg (by decide +kernel), way_is']
section
local macro_rules | `(tactic| walk_at "call builtin:str.join") => `(tactic| refine Hold.out ?_)
theorem turned_ct (w : World) (p : Program) (loose : List Str) (mean : ExcName → Option Value) (mg mb : Str → Option Value) (ws : Way) (hws : ws.length ≤ 1000) (t : Tok) (news : List (Addr × Obj)) :
  Ct w p loose mean mg mb (.ref 96) [Value.str (wayS ws) t] 2 9 news (fun v n => n = news ∧ ∃ t, v = .str (wayS (ws.map (!·))) t) := by
  unfold Ct; k_fill
  intro dp un gd cn cs a ccd cl outer A₀ base h₀ L m s Q B F X N T hk hdp hun hg hret
  have hxl : (wayS ws).length ≤ 1000 := by rw [wayS_length]; exact hws
  refine wpAny_call ?_
  k_dflt cell_enter
  k_steps
  refine ⟨?_⟩
  rename CarriedAll _ _ => hc
  refine join_way (by assumption) hc (turned_signs ws) (by simpa using hws) fun t' k => ?_
  k_steps
  exact hret _ _ _ _ _ ⟨rfl, _, rfl⟩ hg (by assumption) (cb_drop (by assumption) (by simp +contextual))
end
end Mine
end

-- part F2
section
open PySem PySem.W PyProof.Rows
set_option maxRecDepth 100000
set_option maxHeartbeats 8000000
namespace Mine
noncomputable def shareW : Way → Int × Int
  | [] => (1, 1)
  | b :: ws => let p := shareW ws; if b then (p.1 + p.2, p.2) else (p.1, p.2 + p.1)
inductive F2Inv1 (g' : Heap) (L' : Addr) (D' : Addr) (t : Tok) (news : List (Addr × Obj)) (ws : Way) (m₁ : Str → Option Value) (dr : Drawn) (os : OsState) (gens0 : Array GenState) : Nat → Shared → Prop
  | mk (n : Nat) (h : Heap) (tk : Nat) (t1 : Tok) (t2 : Tok) (sv : Option Value) : (n ≤ ws.length) → (Fr g' L' h (fun y => if y = Str.ofString "sign" then sv else if y = Str.ofString "red" then some (Value.int (shareW (ws.drop n)).1 t1) else if y = Str.ofString "green" then some (Value.int (shareW (ws.drop n)).2 t2) else m₁ y)) → (News g' L' h ((D', revS (wayS ws) t ((n : Int) - 1)) :: news)) → F2Inv1 g' L' D' t news ws m₁ dr os gens0 n { heap := h, gens := gens0, drawn := dr, toks := tk, os := os }
section
local macro_rules | `(tactic| walk_at "exec For Name Call cons nil") => `(tactic| refine Hold.out ?_)
local macro_rules | `(tactic| walk_at "pyIter ref") => `(tactic| refine Hold.out ?_)
theorem share_ct (w : World) (p : Program) (loose : List Str) (mean : ExcName → Option Value) (mg mb : Str → Option Value) (ws : Way) (hws : ws.length ≤ 1000) (t : Tok) (news : List (Addr × Obj)) :
  Ct w p loose mean mg mb (.ref 110) [Value.str (wayS ws) t] 2 9 news (fun v n => ∃ D t1 t2, v = .ref D ∧ n = (D, ({ cls := .type "tuple", data := .seq #[.int (shareW ws).1 t1, .int (shareW ws).2 t2] } : Obj)) :: news ∧ ∀ p ∈ news, p.1 < D) := by
  unfold Ct; k_fill
  intro dp un gd cn cs a ccd cl outer A₀ base h₀ L m s Q B F X N T hk hdp hun hg hret
  have hxl : (wayS ws).length ≤ 1000 := by rw [wayS_length]; exact hws
  refine wpAny_call ?_
  refine' code_def ?k1 ?k2 ?k3 ?k4 ?k5 ?kA ?kF ?kK ?k6 ?k7 ?k8 ?k9 ?kB ?_ ?c2 ?c3 ?c4 ?c5
  case kA => exact rfl
  case kF => exact rfl
  case kK => assumption
  case k1 => k_asm
  case k2 => k_asm
  case k3 => k_asm
  case k4 => k_asm
  case k5 => k_asm
  case k6 => k_is
  case k7 => k_is
  case k8 => ktr_room
  case k9 => exact BindsTo.of_eq rfl
  case c5 => decide
  case kB => exact locs rfl
  case c2 => exact rfl
  case c3 => exact rfl
  case c4 => exact rfl
  intro g' L' h' FG' F' N' B' X' T'
  (try dsimp only); (try k_lift B'); (try k_fold)
  k_steps
  refine ⟨?_⟩
  refine wpAny_For ?_
  k_steps
  refine krev_str (by assumption) (by assumption) hxl ?_
  intro D' h' tk' F' N' l'
  refine krev_iter N' (.head _) ?_
  refine fr_hide F' fun m₁ hm₁ F₁ => ?_
  have e1 : ∃ t, m₁ (Str.ofString "red") = some (Value.int 1 t) := ⟨_, by rw [hm₁]; rfl⟩
  have e2 : ∃ t, m₁ (Str.ofString "green") = some (Value.int 1 t) := ⟨_, by rw [hm₁]; rfl⟩
  obtain ⟨t1, e1⟩ := e1
  obtain ⟨t2, e2⟩ := e2
  clear hm₁
  refine for_loopQ (F2Inv1 g' L' D' t news ws m₁ s.drawn s.os s.gens) ?_ ws.length ?_
  · rintro n _ QQ1 ⟨h, tk, t1, t2, sv, hn, F2, N2⟩ KE1
    cases n with
    | zero =>
      refine next_rev_end rfl (N2 _ (.head _)).1 fun h' hx => ?_
      obtain ⟨F3, N3⟩ := led_drop F2 N2 (fun p hp => Nat.ne_of_lt (l' p (.tail _ hp))) hx
      clear F2 N2
      dsimp only
      k_steps
      exact hret _ _ _ _ _ ⟨_, _, _, rfl, rfl, by assumption⟩ hg (by assumption) (by assumption)
    | succ n =>
      have hb : ∃ b, ws[n]? = some b := ⟨ws[n], List.getElem?_eq_getElem (by (first | exact Mine.ar152 hn | omega))⟩
      obtain ⟨b, hb⟩ := hb
      have hc : (wayS ws).cps[n]? = some (sgn b) := by simp [wayS, hb]
      have hs : shareW (ws.drop n) = if b then ((shareW (ws.drop (n + 1))).1 + (shareW (ws.drop (n + 1))).2, (shareW (ws.drop (n + 1))).2) else ((shareW (ws.drop (n + 1))).1, (shareW (ws.drop (n + 1))).2 + (shareW (ws.drop (n + 1))).1) := by
        rw [List.drop_eq_getElem_cons (by (first | exact Mine.ar152 hn | omega) : n < ws.length)]
        rw [List.getElem?_eq_getElem (by (first | exact Mine.ar152 hn | omega))] at hb
        cases hb
        rfl
      have e3 : ((n + 1 : Nat) : Int) - 1 = (n : Int) := by (first | exact Mine.ar153 | omega)
      rw [e3] at N2
      refine next_rev_item (N2 _ (.head _)).1 hxl hc fun h' tk tk' ho' hsb => ?_
      obtain ⟨F3, N3⟩ := led_upd F2 N2 (Upd.head (fun p hp => Nat.ne_of_lt (l' p (.tail _ hp)))) hsb ho'
      clear F2 N2
      dsimp only
      refine wpAny_of_eq (a := ()) rfl ?_
      cases b
      · rw [show Str.mk #[sgn false] = Str.ofString "\\" from way_is']
        k_steps
        refine KE1.nx (by first | exact .inl rfl | exact .inr rfl) (m := n) (by (first | exact (Nat.lt_succ_self _) | omega)) (.mk _ (_) (_) (?t1) (?t2) (?sv) (by (first | exact Mine.ar154 hn | omega)) (fr_map (by assumption) ?e) (by assumption))
        case e =>
          rw [hs]
          exact chain_eq (m := m₁) (by repeat (first | refine Ag.cons (by first | rfl | assumption) ?_ | exact Ag.nil)) (by repeat (first | refine Ag.cons (by first | rfl | assumption) ?_ | exact Ag.nil))
      · rw [show Str.mk #[sgn true] = Str.ofString "/" from way_is]
        k_steps
        refine KE1.nx (by first | exact .inl rfl | exact .inr rfl) (m := n) (by (first | exact (Nat.lt_succ_self _) | omega)) (.mk _ (_) (_) (?u1) (?u2) (?su) (by (first | exact Mine.ar154 hn | omega)) (fr_map (by assumption) ?e') (by assumption))
        case e' =>
          rw [hs]
          exact chain_eq (m := m₁) (by repeat (first | refine Ag.cons (by first | rfl | assumption) ?_ | exact Ag.nil)) (by repeat (first | refine Ag.cons (by first | rfl | assumption) ?_ | exact Ag.nil))
  · refine .mk _ (_) (_) (t1) (t2) (m₁ (Str.ofString "sign")) (Nat.le_refl _) (fr_map F₁ ?_) (?_)
    · rw [List.drop_length]
      exact chain_eq (m := m₁) (by repeat (first | refine Ag.cons (by first | rfl | assumption) ?_ | exact Ag.nil)) (by repeat (first | refine Ag.cons (by first | rfl | assumption) ?_ | exact Ag.nil))
    · rw [wayS_length] at N'
      exact cb_drop N' (by simp +contextual)
end
end Mine
end

-- part F3
section
local macro_rules | `(tactic| walk_at "pad F3") => `(tactic| skip)
open PySem PySem.W PyProof.Rows
set_option maxRecDepth 100000
set_option maxHeartbeats 8000000
namespace Mine

noncomputable def hueGt (x y : UInt64) : UInt64 := (Float64.divmod (Float64.div (Float64.sub (Float64.div (Float64.sub x 0) (Float64.sub x 0)) (Float64.div (Float64.sub x y) (Float64.sub x 0))) 4618441417868443648) 4607182418800017408).snd
noncomputable def hueLt (x y : UInt64) : UInt64 := (Float64.divmod (Float64.div (Float64.sub (Float64.add 4611686018427387904 (Float64.div (Float64.sub y x) (Float64.sub y 0))) (Float64.div (Float64.sub y 0) (Float64.sub y 0))) 4618441417868443648) 4607182418800017408).snd
section
local macro_rules | `(tactic| walk_at "call builtin:max") => `(tactic| refine Hold.out ?_)
local macro_rules | `(tactic| walk_at "call builtin:min") => `(tactic| refine Hold.out ?_)

theorem rgb_gt (w : World) (p : Program) (loose : List Str) (mean : ExcName → Option Value) (mg mb : Str → Option Value) (x y : UInt64) (t u v : Tok) (news : List (Addr × Obj)) 
  (g1 : (Float64.cmp x y == some .lt) = false) (g2 : (Float64.cmp x 0 == some .lt) = false) (g3 : (Float64.cmp 0 x == some .lt) = true) (g4 : (Float64.cmp 0 y == some .lt) = true)
  (g5 : (Float64.cmp 0 x == some .eq) = false) (g6 : Float64.isZero (Float64.sub x 0) = false) (g7 : (Float64.cmp x x == some .eq) = true) :
  Ct w p loose mean mg mb (.ref 35) [Value.float x t, Value.float y u, Value.float 0 v] 2 9 news (fun r n => ∃ D t b c, r = .ref D ∧ n = (D, ({ cls := .type "tuple", data := .seq #[.float (hueGt x y) t, b, c] } : Obj)) :: news ∧ ∀ p ∈ news, p.1 < D) := by
  unfold Ct; k_fill
  intro dp un gd cn cs a ccd cl outer A₀ base h₀ L m s Q B F X N T hk hdp hun hg hret
  refine wpAny_call ?_
  refine' code_def ?k1 ?k2 ?k3 ?k4 ?k5 ?kA ?kF ?kK ?k6 ?k7 ?k8 ?k9 ?kB ?_ ?c2 ?c3 ?c4 ?c5
  case kA => exact rfl
  case kF => exact rfl
  case kK => assumption
  case k1 => k_asm
  case k2 => k_asm
  case k3 => k_asm
  case k4 => k_asm
  case k5 => k_asm
  case k6 => k_is
  case k7 => k_is
  case k8 => ktr_room
  case k9 => exact BindsTo.of_eq rfl
  case c5 => decide
  case kB => exact locs rfl
  case c2 => exact rfl
  case c3 => exact rfl
  case c4 => exact rfl
  intro g' L' h' FG' F' N' B' X' T'
  (try dsimp only); (try k_lift B'); (try k_fold)
  k_steps
  refine ⟨?_⟩
  refine max_three rfl (.float _ _) (.float _ _) (.float _ _) (max_at0 g1 g2) (by assumption) (by assumption) ?_
  intro h1 tk1 F1 N1
  k_steps
  refine ⟨?_⟩
  refine min_three rfl (.float _ _) (.float _ _) (.float _ _) (min_at2 g3 g4) (by assumption) (by assumption) ?_
  intro h2 tk2 F2 N2
  k_steps
  all_goals first
    | exact hret _ _ _ _ _ ⟨_, _, _, _, rfl, rfl, by assumption⟩ hg (by assumption) (by assumption)
    | simp_all

theorem rgb_lt (w : World) (p : Program) (loose : List Str) (mean : ExcName → Option Value) (mg mb : Str → Option Value) (x y : UInt64) (t u v : Tok) (news : List (Addr × Obj)) 
  (g1 : (Float64.cmp x y == some .lt) = true) (g2 : (Float64.cmp y 0 == some .lt) = false) (g3 : (Float64.cmp 0 x == some .lt) = true) (g4 : (Float64.cmp 0 y == some .lt) = true)
  (g5 : (Float64.cmp 0 y == some .eq) = false) (g6 : Float64.isZero (Float64.sub y 0) = false) (g7 : (Float64.cmp y y == some .eq) = true) (g8 : (Float64.cmp x y == some .eq) = false) :
  Ct w p loose mean mg mb (.ref 35) [Value.float x t, Value.float y u, Value.float 0 v] 2 9 news (fun r n => ∃ D t b c, r = .ref D ∧ n = (D, ({ cls := .type "tuple", data := .seq #[.float (hueLt x y) t, b, c] } : Obj)) :: news ∧ ∀ p ∈ news, p.1 < D) := by
  unfold Ct; k_fill
  intro dp un gd cn cs a ccd cl outer A₀ base h₀ L m s Q B F X N T hk hdp hun hg hret
  refine wpAny_call ?_
  refine' code_def ?k1 ?k2 ?k3 ?k4 ?k5 ?kA ?kF ?kK ?k6 ?k7 ?k8 ?k9 ?kB ?_ ?c2 ?c3 ?c4 ?c5
  case kA => exact rfl
  case kF => exact rfl
  case kK => assumption
  case k1 => k_asm
  case k2 => k_asm
  case k3 => k_asm
  case k4 => k_asm
  case k5 => k_asm
  case k6 => k_is
  case k7 => k_is
  case k8 => ktr_room
  case k9 => exact BindsTo.of_eq rfl
  case c5 => decide
  case kB => exact locs rfl
  case c2 => exact rfl
  case c3 => exact rfl
  case c4 => exact rfl
  intro g' L' h' FG' F' N' B' X' T'
  (try dsimp only); (try k_lift B'); (try k_fold)
  k_steps
  refine ⟨?_⟩
  refine max_three rfl (.float _ _) (.float _ _) (.float _ _) (max_at1 g1 g2) (by assumption) (by assumption) ?_
  intro h1 tk1 F1 N1
  k_steps
  refine ⟨?_⟩
  refine min_three rfl (.float _ _) (.float _ _) (.float _ _) (min_at2 g3 g4) (by assumption) (by assumption) ?_
  intro h2 tk2 F2 N2
  k_steps
  all_goals first
    | exact hret _ _ _ _ _ ⟨_, _, _, _, rfl, rfl, by assumption⟩ hg (by assumption) (by assumption)
    | simp_all

end
end Mine
end

-- part F4
section
local macro_rules | `(tactic| walk_at "pad F4") => `(tactic| skip)
open PySem PySem.W PyProof.Rows
set_option maxRecDepth 100000
set_option maxHeartbeats 8000000
namespace Mine

/-- an int over 128, as a float -/
noncomputable def xf (r : Nat) : UInt64 := Float64.ofFrac (decide ((r : Int) < 0) != decide ((128 : Int) < 0)) ((r : Int)).natAbs (Int.natAbs 128)
/-- what the hue is asked for -/
noncomputable def hueM (h : UInt64) : UInt64 := Float64.mul h 4618441417868443648
noncomputable def okGt (x y : UInt64) : Bool := (Float64.cmp x y == some .lt) == false && (Float64.cmp x 0 == some .lt) == false && (Float64.cmp 0 x == some .lt) && (Float64.cmp 0 y == some .lt) &&
  (Float64.cmp 0 x == some .eq) == false && Float64.isZero (Float64.sub x 0) == false && (Float64.cmp x x == some .eq) &&
  Float64.isNaN (hueM (hueGt x y)) == false && Float64.isInf (hueM (hueGt x y)) == false && Flt.toInt Float64.truncOf (hueM (hueGt x y)) == 0
noncomputable def okLt (x y : UInt64) : Bool := (Float64.cmp x y == some .lt) && (Float64.cmp y 0 == some .lt) == false && (Float64.cmp 0 x == some .lt) && (Float64.cmp 0 y == some .lt) &&
  (Float64.cmp 0 y == some .eq) == false && Float64.isZero (Float64.sub y 0) == false && (Float64.cmp y y == some .eq) && (Float64.cmp x y == some .eq) == false &&
  Float64.isNaN (hueM (hueLt x y)) == false && Float64.isInf (hueM (hueLt x y)) == false && (Flt.toInt Float64.truncOf (hueM (hueLt x y)) == 0) == false
noncomputable def okPair (r g : Nat) : Bool := decide (r ≤ 127) && decide (g ≤ 127) && if g < r then okGt (xf r) (xf g) else okLt (xf r) (xf g)
noncomputable def okRun (ok : Nat → Nat → Bool) : Nat → Nat → Nat → Bool
  | 0, r, g => r == g
  | n + 1, r, g => r == g || (ok r g && if g < r then okRun ok n (r - g) g else okRun ok n r (g - r))
noncomputable def placeN : Nat → Nat → Nat → Nat → Nat
  | 0, _, _, c => c
  | n + 1, r, g, c => if r = g then c else if g < r then placeN n (r - g) g (2 * c + 1) else placeN n r (g - r) (2 * c)
inductive F4Inv1 (g' : Heap) (L' : Addr) (n₀ : Nat) (r₀ : Nat) (g₀ : Nat) (news : List (Addr × Obj)) (m₁ : Str → Option Value) (ok : Nat → Nat → Bool) (dr : Drawn) (os : OsState) : Nat → Shared → Prop
  | mk (n : Nat) (h : Heap) (gn : Array GenState) (tk : Nat) (t1 : Tok) (t2 : Tok) (t3 : Tok) (hv : Option Value) (r : Nat) (g : Nat) (c : Nat) (ri : Int) (gi : Int) (ci : Int) : (AllBare gn) → (Fr g' L' h (fun y => if y = Str.ofString "hue" then hv else if y = Str.ofString "red" then some (Value.int ri t1) else if y = Str.ofString "green" then some (Value.int gi t2) else if y = Str.ofString "place" then some (Value.int ci t3) else m₁ y)) → (News g' L' h news) → (ri = (r : Int)) → (gi = (g : Int)) → (ci = (c : Int)) → (okRun ok n r g = true) → (placeN n r g c = placeN n₀ r₀ g₀ 1) → ((c + 1) * 2 ^ n ≤ 2 ^ 48) → F4Inv1 g' L' n₀ r₀ g₀ news m₁ ok dr os n { heap := h, gens := gn, drawn := dr, toks := tk, os := os }
section
local macro_rules | `(tactic| walk_at "exec While") => `(tactic| refine Hold.out ?_)
local macro_rules | `(tactic| walk_at "exec While Compare cons nil") => `(tactic| refine Hold.out ?_)
local macro_rules | `(tactic| walk_at "call ref") => `(tactic| refine Hold.out ?_)
theorem place_ct (w : World) (p : Program) (loose : List Str) (mean : ExcName → Option Value) (mg mb : Str → Option Value) (ok : Nat → Nat → Bool) (hokp : ∀ r g, ok r g = true → okPair r g = true) (n₀ r₀ g₀ : Nat) (hn₀ : n₀ ≤ 40) (hok₀ : okRun ok n₀ r₀ g₀ = true) (t u : Tok) (news : List (Addr × Obj)) :
  Ct w p loose mean mg mb (.ref 117) [Value.int r₀ t, Value.int g₀ u] 4 20 news (fun v n => n = news ∧ ∃ t, v = .int (placeN n₀ r₀ g₀ 1) t) := by
  unfold Ct; k_fill
  intro dp un gd cn cs a ccd cl outer A₀ base h₀ L m s Q B F X N T hk hdp hun hg hret
  refine wpAny_call ?_
  refine' code_def ?k1 ?k2 ?k3 ?k4 ?k5 ?kA ?kF ?kK ?k6 ?k7 ?k8 ?k9 ?kB ?_ ?c2 ?c3 ?c4 ?c5
  case kA => exact rfl
  case kF => exact rfl
  case kK => assumption
  case k1 => k_asm
  case k2 => k_asm
  case k3 => k_asm
  case k4 => k_asm
  case k5 => k_asm
  case k6 => k_is
  case k7 => k_is
  case k8 => first | exact Mine.rm 0 hdp rfl (by decide) | exact Mine.rm 1 hdp rfl (by decide) | ktr_room
  case k9 => exact BindsTo.of_eq rfl
  case c5 => decide
  case kB => exact locs rfl
  case c2 => exact rfl
  case c3 => exact rfl
  case c4 => exact rfl
  intro g' L' h' FG' F' N' B' X' T'
  (try dsimp only); (try k_lift B'); (try k_fold)
  k_steps
  refine ⟨?_⟩
  refine wpAny_While ?_
  refine fr_hide (by assumption) fun m₁ hm₁ F₁ => ?_
  have e1 : ∃ t, m₁ (Str.ofString "red") = some (Value.int r₀ t) := ⟨_, by rw [hm₁]; rfl⟩
  have e2 : ∃ t, m₁ (Str.ofString "green") = some (Value.int g₀ t) := ⟨_, by rw [hm₁]; rfl⟩
  have e3 : ∃ t, m₁ (Str.ofString "place") = some (Value.int 1 t) := ⟨_, by rw [hm₁]; rfl⟩
  obtain ⟨t1, e1⟩ := e1
  obtain ⟨t2, e2⟩ := e2
  obtain ⟨t3, e3⟩ := e3
  clear hm₁
  refine while_loopQ (F4Inv1 g' L' n₀ r₀ g₀ news m₁ ok s.drawn s.os) ?_ n₀ ?_
  · rintro n _ QQ1 ⟨h, gn, tk, t1, t2, t3, hv, r, g, c, ri, gi, ci, hgn, F2, N2, ev2, ev3, ev4, hok, hpl, hcb⟩ KE1
    subst ev2
    subst ev3
    subst ev4
    by_cases hrg : r = g
    · subst hrg
      have hpl' : placeN n₀ r₀ g₀ 1 = c := by
        rw [← hpl]; cases n <;> simp [placeN]
      k_steps
      all_goals first
        | (exfalso; simp_all; done)
        | exact hret _ _ _ _ _ ⟨rfl, _, by rw [hpl']⟩ hgn (by assumption) (by assumption)
    have hrg' : ¬ ((r : Int) = g) := fun e => hrg (Int.ofNat.inj e)
    cases n with
    | zero => simp [okRun, hrg] at hok
    | succ n =>
    have hb : (r == g) = false := by simpa using hrg
    unfold okRun at hok
    rw [hb, Bool.false_or, Bool.and_eq_true] at hok
    obtain ⟨hop, hok'⟩ := hok
    have hop := hokp r g hop
    unfold okPair at hop
    rw [Bool.and_eq_true, Bool.and_eq_true, decide_eq_true_eq, decide_eq_true_eq] at hop
    obtain ⟨⟨hr, hgr⟩, hop⟩ := hop
    have hr' : (r : Int) ≤ 127 := by (first | exact Mine.ar143 hr | omega)
    have hgr' : (g : Int) ≤ 127 := by (first | exact Mine.ar143 hgr | omega)
    have hcc : (c : Int) < 2 ^ 50 := by
      have : 1 ≤ 2 ^ (n + 1) := Nat.one_le_two_pow
      have : (c + 1) * 1 ≤ (c + 1) * 2 ^ (n + 1) := Nat.mul_le_mul_left _ this
      omega
    have hp2 : 2 ^ (n + 1) = 2 * 2 ^ n := by rw [Nat.pow_succ, Nat.mul_comm]
    have hpl : (if r = g then c else if g < r then placeN n (r - g) g (2 * c + 1) else placeN n r (g - r) (2 * c)) = placeN n₀ r₀ g₀ 1 := hpl
    rw [if_neg hrg] at hpl
    k_steps
    all_goals first
      | (exfalso; simp_all; done)
      | skip
    refine ⟨?_⟩
    change wpAny _ _ (call (Value.ref 35) [Value.float (xf r) _, Value.float (xf g) _, Value.float 0 _]) _ _ _
    rcases Nat.lt_or_ge g r with hlt | hge
    · rw [if_pos hlt] at hop hok' hpl
      have hpl' := hpl
      have hcb' : (2 * c + 1 + 1) * 2 ^ n ≤ 2 ^ 48 := by
        rw [hp2] at hcb
        have : (2 * c + 1 + 1) * 2 ^ n = (c + 1) * (2 * 2 ^ n) := by rw [← Nat.mul_assoc]; congr 1; (first | exact Mine.ar145 | omega)
        (first | exact Mine.ar146 hcb this | omega)
      unfold okGt at hop
      simp only [Bool.and_eq_true, beq_iff_eq] at hop
      obtain ⟨⟨⟨⟨⟨⟨⟨⟨⟨q1, q2⟩, q3⟩, q4⟩, q5⟩, q6⟩, q7⟩, q8⟩, q9⟩, q10⟩ := hop
      unfold hueM at q8 q9 q10
      
      refine Ct.app (rgb_gt w p loose mean mg mb (xf r) (xf g) _ _ _ _ q1 q2 (by simpa using q3) (by simpa using q4) q5 q6 (by simpa using q7)) rfl B' F2 X' N2 T' rfl (by first | exact Mine.rm 0 hdp rfl (by decide) | exact Mine.rm 1 hdp rfl (by decide) | ktr_room) (by first | exact Mine.um 0 hun rfl (by decide) | exact Mine.um 3 hun rfl (by decide) | exact Mine.um 1 hun rfl (by decide) | exact Mine.um 4 hun rfl (by decide) | ktr_units) hgn ?_
      intro v news' h3 tk3 g3 hRt hg3 F3 N3
      refine hide fun PP hPP => ?_
      obtain ⟨D, tf, vb, vc, ev1, ev2, lD⟩ := hRt
      refine hPP ?_
      clear hPP
      subst ev1
      subst ev2
      k_steps
      all_goals first
        | (exfalso; simp_all; done)
        | skip
      dsimp only
      refine KE1.nx (by first | exact .inl rfl | exact .inr rfl) (m := n) (Nat.lt_succ_self n) (.mk _ (_) (g3) (_) (?t1A) (?t2A) (?t3A) (?hvA) (r - g) (g) (2 * c + 1) (?riA) (?giA) (?ciA) (hg3) (fr_map (by assumption) ?eA) (cb_drop (by assumption) (by simp +contextual)) (?aA) (?bA) (?cA) (?dA) (?fA) (?gA))
      case eA =>
          exact chain_eq (m := m₁) (by repeat (first | refine Ag.cons (by first | rfl | assumption) ?_ | exact Ag.nil)) (by repeat (first | refine Ag.cons (by first | rfl | assumption) ?_ | exact Ag.nil))
      case aA => first | rfl | (first | exact Mine.ar147 hlt | omega)
      case bA => first | rfl | omega
      case cA => first | rfl | omega
      case dA => exact hok'
      case fA => exact hpl'
      case gA => exact hcb' 
    · have hlt : ¬ g < r := Nat.not_lt.mpr hge
      rw [if_neg hlt] at hop hok' hpl
      have hpl' := hpl
      have hcb' : (2 * c + 1) * 2 ^ n ≤ 2 ^ 48 := by
        rw [hp2] at hcb
        have : (2 * c + 1) * 2 ^ n ≤ (c + 1) * (2 * 2 ^ n) := by rw [← Nat.mul_assoc]; exact Nat.mul_le_mul_right _ (by (first | exact Mine.ar148 | omega))
        (first | exact Mine.ar149 hcb this | omega)
      unfold okLt at hop
      simp only [Bool.and_eq_true, beq_iff_eq] at hop
      obtain ⟨⟨⟨⟨⟨⟨⟨⟨⟨⟨q1, q2⟩, q3⟩, q4⟩, q5⟩, q6⟩, q7⟩, q71⟩, q8⟩, q9⟩, q10⟩ := hop
      unfold hueM at q8 q9 q10
      
      refine Ct.app (rgb_lt w p loose mean mg mb (xf r) (xf g) _ _ _ _ (by simpa using q1) q2 (by simpa using q3) (by simpa using q4) q5 q6 (by simpa using q7) q71) rfl B' F2 X' N2 T' rfl (by first | exact Mine.rm 0 hdp rfl (by decide) | exact Mine.rm 1 hdp rfl (by decide) | ktr_room) (by first | exact Mine.um 0 hun rfl (by decide) | exact Mine.um 3 hun rfl (by decide) | exact Mine.um 1 hun rfl (by decide) | exact Mine.um 4 hun rfl (by decide) | ktr_units) hgn ?_
      intro v news' h3 tk3 g3 hRt hg3 F3 N3
      refine hide fun PP hPP => ?_
      obtain ⟨D, tf, vb, vc, ev1, ev2, lD⟩ := hRt
      refine hPP ?_
      clear hPP
      subst ev1
      subst ev2
      k_steps
      all_goals first
        | (exfalso; simp_all; done)
        | skip
      dsimp only
      refine KE1.nx (by first | exact .inl rfl | exact .inr rfl) (m := n) (Nat.lt_succ_self n) (.mk _ (_) (g3) (_) (?t1B) (?t2B) (?t3B) (?hvB) (r) (g - r) (2 * c) (?riB) (?giB) (?ciB) (hg3) (fr_map (by assumption) ?eB) (cb_drop (by assumption) (by simp +contextual)) (?aB) (?bB) (?cB) (?dB) (?fB) (?gB))
      case eB =>
          exact chain_eq (m := m₁) (by repeat (first | refine Ag.cons (by first | rfl | assumption) ?_ | exact Ag.nil)) (by repeat (first | refine Ag.cons (by first | rfl | assumption) ?_ | exact Ag.nil))
      case aB => first | rfl | omega
      case bB => first | rfl | (first | exact Mine.ar150 hlt | omega)
      case cB => first | rfl | omega
      case dB => exact hok'
      case fB => exact hpl'
      case gB => exact hcb' 
  · refine .mk _ (_) (_) (_) (t1) (t2) (t3) (m₁ (Str.ofString "hue")) (r₀) (g₀) (1) (_) (_) (_) (hg) (fr_map F₁ ?_) (by assumption) (rfl) (rfl) (rfl) (hok₀) (rfl) (?_)
    · exact chain_eq (m := m₁) (by repeat (first | refine Ag.cons (by first | rfl | assumption) ?_ | exact Ag.nil)) (by repeat (first | refine Ag.cons (by first | rfl | assumption) ?_ | exact Ag.nil))
    · have : 2 ^ n₀ ≤ 2 ^ 40 := Nat.pow_le_pow_right (by omega) hn₀
      omega
end
end Mine
end

-- part F5
section
local macro_rules | `(tactic| walk_at "pad F5") => `(tactic| skip)
open PySem PySem.W PyProof.Rows
set_option maxRecDepth 100000
set_option maxHeartbeats 8000000
namespace Mine

theorem code23 {w : World} {h : Heap} (X : (Mine.hd.heap_39 w.params).In h) : CodeHd h 27 23 :=
  ⟨_, _, _, _, _, _, _, _, _, X 27 _ rfl, rfl, rfl, rfl, rfl, rfl, rfl, rfl, rfl, by decide⟩
noncomputable def bitsV : List Int → Int
  | [] => 0
  | d :: r => d + 2 * bitsV r
/-- the table behind the first call: the inner def's place and its code -/
abbrev tab23 (c : Addr) : Array Value := #[rawInt 20, rawInt 4, .ref c]
abbrev qual23 : Str := Str.ofString "_digits2int" ++ Str.ofString ".<locals>." ++ Str.ofString "inner"
theorem bitsV_append : ∀ a b : List Int, bitsV (a ++ b) = bitsV a + 2 ^ a.length * bitsV b
  | [], b => by simp [bitsV]
  | d :: a, b => by
    rw [List.cons_append, bitsV, bitsV, bitsV_append a b, List.length_cons, Int.pow_succ, Int.mul_add]
    rw [show 2 * (2 ^ a.length * bitsV b) = 2 ^ a.length * 2 * bitsV b by rw [← Int.mul_assoc, Int.mul_comm 2]]
    (first | exact Mine.ar71 | omega)
theorem bitsV_bound : ∀ a : List Int, (∀ d ∈ a, 0 ≤ d ∧ d ≤ 1) → 0 ≤ bitsV a ∧ bitsV a < 2 ^ a.length
  | [], _ => by simp [bitsV]
  | d :: a, h => by
    have h1 := bitsV_bound a fun x hx => h x (.tail _ hx)
    have h2 := h d (.head _)
    rw [bitsV, List.length_cons, Int.pow_succ]
    (first | exact Mine.ar72 h1 h2 | omega)
theorem bitsV_split {ds : List Int} {Lo M Hi : Nat} (h1 : Lo ≤ M) (h2 : M ≤ Hi) (h3 : Hi ≤ ds.length) :
    bitsV ((ds.drop Lo).take (Hi - Lo)) = bitsV ((ds.drop Lo).take (M - Lo)) + 2 ^ (M - Lo) * bitsV ((ds.drop M).take (Hi - M)) := by
  have e : (ds.drop Lo).take (Hi - Lo) = (ds.drop Lo).take (M - Lo) ++ (ds.drop M).take (Hi - M) := by
    rw [show Hi - Lo = (M - Lo) + (Hi - M) by (first | exact Mine.ar73 h1 h2 | omega), List.take_add, List.drop_drop]
    congr 3
    (first | exact Mine.ar74 h1 | omega)
  rw [e, bitsV_append, List.length_take, List.length_drop, Nat.min_eq_left (by (first | exact Mine.ar75 h2 h3 | omega))]
theorem bitsV_small {ds : List Int} (hb : ∀ d ∈ ds, 0 ≤ d ∧ d ≤ 1) (hlen : ds.length ≤ 60) (i k : Nat) : 0 ≤ bitsV ((ds.drop i).take k) ∧ bitsV ((ds.drop i).take k) < 1152921504606846976 := by
  have h := bitsV_bound ((ds.drop i).take k) fun d hd => hb d (List.mem_of_mem_drop (List.mem_of_mem_take hd))
  have h2 : ((ds.drop i).take k).length ≤ 60 := by rw [List.length_take, List.length_drop]; (first | exact Mine.ar76 hlen | omega)
  have h3 : (2 : Int) ^ ((ds.drop i).take k).length ≤ 2 ^ 60 := by exact_mod_cast Nat.pow_le_pow_right (n := 2) (by decide) h2
  omega
theorem with_news {P : Prop} {h₀ h : Heap} {L : Addr} {news : List (Addr × Obj)} (_N : News h₀ L h news) (k : ∀ nf, nf = news → P) : P := k news rfl
section
local macro_rules | `(tactic| k_all) => `(tactic| first | assumption | exact Under.ne9)
local macro_rules | `(tactic| walk_at "exec FunctionDef") => `(tactic| refine Hold.out ?_)
local macro_rules | `(tactic| walk_at "call ref") => `(tactic| refine Hold.out ?_)
local macro_rules | `(tactic| walk_at "subscriptTail") => `(tactic| refine Hold.out ?_)
local macro_rules | `(tactic| walk_at "subscriptTail Name Name ref int") => `(tactic| refine Hold.out ?_)

theorem d2i_miss (w : World) (p : Program) (loose : List Str) (mean : ExcName → Option Value) (mg mb : Str → Option Value) (ds : List Int) (vs : List Value) (hds : IntsAre vs ds) (hb : ∀ d ∈ ds, 0 ≤ d ∧ d ≤ 1) (hlen : ds.length ≤ 60) (hne : 0 < ds.length) (n₀ : Nat) (dl : Addr) (t : Tok) (rest : List (Addr × Obj)) (hP : ∀ p ∈ rest, p.1 ≠ 23) (hdl : dl ≠ 23)  :
  Ct w p loose mean mg mb (.ref 28) [Value.ref dl, Value.int 1 t] 80 400 ((dl, W.listOf vs.toArray n₀) :: (23, tabObj #[]) :: rest) (fun v n => ∃ c1 oc1 vs1 t1, n = (dl, W.listOf vs.toArray n₀) :: (c1, oc1) :: (23, tabObj (tab23 c1)) :: rest ∧ oc1.data = Data.fields vs1 ∧ vs1[1]? = some (Value.str qual23 t1) ∧ (∀ p ∈ (dl, W.listOf vs.toArray n₀) :: (23, tabObj #[]) :: rest, p.1 < c1) ∧ ∃ t, v = .int (bitsV ds) t) := by
  unfold Ct; k_fill
  intro dp un gd cn cs a ccd cl outer A₀ base h₀ L m s Q B F X N T hk hdp hun hg hret
  refine wpAny_call ?_
  refine' code_defC ?k1 ?k2 ?k3 ?k4 ?k5 ?kA ?kF ?kK ?k6 ?k7 ?k8 ?k9 ?kB ?kD ?_ ?c2 ?c3 ?c4
  case kA => exact rfl
  case kF => exact rfl
  case kK => assumption
  case k1 => k_asm
  case k2 => k_asm
  case k3 => k_asm
  case k4 => k_asm
  case k5 => k_asm
  case k6 => k_is
  case k7 => k_is
  case k8 => first | exact Mine.rm 0 hdp rfl (by decide) | exact Mine.rm 1 hdp rfl (by decide) | ktr_room
  case k9 => exact BindsTo.of_eq rfl
  case kB => exact rfl
  case kD => decide +kernel
  case c2 => exact rfl
  case c3 => exact rfl
  case c4 => exact rfl
  intro g' L' h' tk' cells' FG' F' N' Y' B' X' T' l1
  have hR : Under rest L' := fun p hp => l1 p (.tail _ (.tail _ hp))
  have C23 := code23 X'
  k_lt l1
  obtain ⟨o1, o2, o3, hE', d1, d2, d3⟩ := CellsAre.three Y'
  subst hE'
  clear Y'
  replace d1 : o1.data = Data.cell none := d1
  replace d2 : o2.data = Data.cell (some (Value.int 1 t)) := d2
  replace d3 : o3.data = Data.cell (some (Value.ref dl)) := d3
  simp only [List.cons_append, List.nil_append] at N'
  (try dsimp only); (try k_lift B'); (try k_fold)
  k_steps
  refine ⟨?_⟩
  refine' nestDef_K ?d0 ?k0 ?a0 ?_
  case d0 => exact rfl
  case k0 => exact rfl
  case a0 => exact rfl
  refine' nest_K ?nkF ?nkN ?nkT ?nkC ?nkcd ?nkU ?nkt ?nkn ?nkcl ?_
  case nkF => k_asm
  case nkN => k_asm
  case nkT => k_asm
  case nkcd => exact rfl
  case nkC => kn_code
  case nkU => k_updF
  case nkt => kn_triples
  case nkn => kn_among
  case nkcl => exact rfl
  intro f1 c1 oc1 vs1 t1 ct1 dc1 h1 tk1 F1 N1 d11 d12 l11 l12
  have hlc : Hold (∀ p ∈ (dl, W.listOf vs.toArray n₀) :: (23, tabObj #[]) :: rest, p.1 < c1) := ⟨fun p hp => l11 p (.tail _ (.tail _ (.tail _ hp)))⟩
  (try dsimp only at N1); (try k_lt l11); (try k_lt2 l12)
  k_steps
  all_goals try (exfalso; omega)
  refine ⟨?_⟩
  rename PySem.Obj.data _ = Data.cell (some (Value.ref f1)) => dI
  rename PySem.Obj => oI
  rename News _ _ _ _ => NL
  rename Fr g' L' _ _ => FL
  refine with_news NL fun nf hnf => ?_
  have key : ∀ k Lo Hi : Nat, Hi - Lo = k → Lo < Hi → Hi ≤ ds.length → ∀ (nf' : List (Addr × Obj)) (t u : Tok), (∀ p ∈ nf, p ∈ nf') →
      Ct w p loose mean mg mb (.ref f1) [.int Lo t, .int Hi u] (2 + k) (20 + 5 * k) nf' (fun v n => n = nf' ∧ ∃ t, v = .int (bitsV ((ds.drop Lo).take (Hi - Lo))) t) := by
      clear B N F X T hret NL FL B' FG' X' T' hk hdp hun hg
      intro k
      induction k using Nat.strongRecOn with
      | ind k ih =>
      intro Lo Hi hk hlt hhi nf' t2 u2 hsub
      rw [hnf] at hsub
      have hmF := hsub _ (.head _)
      have hmC := hsub _ (.tail _ (.head _))
      have hmI := hsub _ (.tail _ (.tail _ (.head _)))
      have hmN := hsub _ (.tail _ (.tail _ (.tail _ (.head _))))
      have hmD := hsub _ (.tail _ (.tail _ (.tail _ (.tail _ (.head _)))))
      have hmL := hsub _ (.tail _ (.tail _ (.tail _ (.tail _ (.tail _ (.head _))))))
      unfold Ct
      intro dp un gd cn cs a ccd cl outer A₀ base h₀ L m s Q B F X N T hk hdp hun hg hret
      refine wpAny_call ?_
      refine' code_nest ?k1 ?k2 ?k3 ?k4 ?k5 ?kA ?kF ?kK ?k6 ?k7 ?k8 ?k9 ?kB ?_ ?c2 ?c3 ?c4 ?c5
      case kA => exact rfl
      case kF => exact rfl
      case kK => assumption
      case k1 => k_asm
      case k2 => k_asm
      case k3 => k_asm
      case k4 => k_asm
      case k5 => k_asm
      case k6 => exact hmF
      case k7 => exact codeRec_news (by k_asm) hmC d11 d12
      case k8 => first | exact Mine.rm 0 hdp rfl (by decide) | exact Mine.rm 1 hdp rfl (by decide) | ktr_room
      case k9 => exact BindsTo.of_eq rfl
      case c5 => decide
      case kB => exact locs rfl
      case c2 => exact rfl
      case c3 => exact rfl
      case c4 => exact rfl
      intro g2 L2 h2 FG2 F2 N2 B2 X2 T2
      (try dsimp only); (try k_lift B2); (try k_fold)
      by_cases h1 : (Lo : Int) + 1 = (Hi : Int)
      · k_steps
        all_goals try (exfalso; (first | exact Mine.ar11 h1 (by assumption) | omega))
        refine ⟨?_⟩
        have hlt' : Lo < ds.length := by (first | exact Mine.ar78 hhi (by assumption) | omega)
        obtain ⟨td, hx⟩ := hds.get Lo ds[Lo] (by simp [hlt'])
        have hIL : Heap.IsList _ dl vs.toArray := ⟨_, (News.get (by assumption) hmL), rfl, _, rfl⟩
        refine tail_any hIL.typeIs slot_list_getitem.lookup (wpAny_getItem_list hIL (by (first | exact Mine.ar1 | omega)) (by omega) (by simpa using hx) ?_) rfl
        k_steps
        refine hret _ _ _ _ _ ⟨rfl, td, ?_⟩ hg (by assumption) (by assumption)
        have e1 : Hi - Lo = 1 := by (first | exact Mine.ar80 (by assumption) | omega)
        rw [e1, List.drop_eq_getElem_cons hlt', List.take_succ_cons, List.take_zero]
        simp [bitsV]
      · have hM : ((Lo : Int) + (Hi : Int)).fdiv (2 ^ Int.toNat 1) = (((Lo + Hi) / 2 : Nat) : Int) := by
          have e : ((Lo : Int) + (Hi : Int)).fdiv 2 = (((Lo + Hi) / 2 : Nat) : Int) := by
            rw [Int.fdiv_eq_ediv_of_nonneg _ (by omega)]; (first | exact Mine.ar16 | omega)
          exact e
        k_steps
        all_goals try (exfalso; (first | exact Mine.ar17 h1 (by assumption) | omega))
        refine ⟨?_⟩
        rename Fr g2 _ _ _ => F5
        rename News g2 _ _ _ => N5
        rw [hM] at F5 ⊢
        clear hM
        have hM1 : Lo < (Lo + Hi) / 2 := by (first | exact Mine.ar18 hlt (by assumption) | omega)
        have hM2 : (Lo + Hi) / 2 < Hi := by (first | exact Mine.ar19 hM1 | omega)
        generalize (Lo + Hi) / 2 = M at hM1 hM2 F5 ⊢
        refine Ct.app (ih (Hi - M) (by (first | exact Mine.ar29 (by assumption) hM1 hM2 | omega)) M Hi rfl hM2 hhi nf' _ _ (by rw [hnf]; exact hsub)) rfl B2 F5 X2 N5 T2 rfl (by first | exact Mine.rm 0 hdp rfl (by decide) | exact Mine.rm 1 hdp rfl (by decide) | exact Mine.rm 0 hdp rfl (Mine.rm5 (Mine.ar29 (by assumption) hM1 hM2)) | ktr_room) (by first | exact Mine.um 0 hun rfl (by decide) | exact Mine.um 3 hun rfl (by decide) | exact Mine.um 1 hun rfl (by decide) | exact Mine.um 4 hun rfl (by decide) | exact Mine.um 0 hun rfl (Mine.um5 (Mine.ar29 (by assumption) hM1 hM2)) | ktr_units) (by exact hg) ?_
        rintro v nn3 h3 tk3 g3 ⟨e3, t3, rfl⟩ hg3 F3 N3
        rw [e3] at N3
        clear e3
        have hV1 := bitsV_small hb hlen M (Hi - M)
        k_steps
        all_goals try (exfalso; omega)
        refine ⟨?_⟩
        rename Fr g2 _ _ _ => F6
        rename News g2 _ _ _ => N6
        refine Ct.app (ih (M - Lo) (by (first | exact Mine.ar27 (by assumption) hM1 hM2 | omega)) Lo M rfl hM1 (by (first | exact Mine.ar28 hhi hM2 | omega)) nf' _ _ (by rw [hnf]; exact hsub)) rfl B2 F6 X2 N6 T2 rfl (by first | exact Mine.rm 0 hdp rfl (by decide) | exact Mine.rm 1 hdp rfl (by decide) | exact Mine.rm 0 hdp rfl (Mine.rm5 (Mine.ar27 (by assumption) hM1 hM2)) | ktr_room) (by first | exact Mine.um 0 hun rfl (by decide) | exact Mine.um 3 hun rfl (by decide) | exact Mine.um 1 hun rfl (by decide) | exact Mine.um 4 hun rfl (by decide) | exact Mine.um 0 hun rfl (Mine.um5 (Mine.ar27 (by assumption) hM1 hM2)) | ktr_units) (by exact hg3) ?_
        rintro v nn4 h4 tk4 g4 ⟨e4, t4, rfl⟩ hg4 F7 N7
        rw [e4] at N7
        clear e4
        have hV2 := bitsV_small hb hlen Lo (M - Lo)
        k_steps
        have e5 : bitsV ((ds.drop M).take (Hi - M)) * 2 ^ (((M : Int) - (Lo : Int)) * 1).toNat + bitsV ((ds.drop Lo).take (M - Lo)) = bitsV ((ds.drop Lo).take (Hi - Lo)) := by
          rw [bitsV_split (ds := ds) (Lo := Lo) (M := M) (Hi := Hi) (by (first | exact Nat.le_of_lt (hM1) | omega)) (Nat.le_of_lt hM2) hhi, show (((M : Int) - (Lo : Int)) * 1).toNat = M - Lo by (first | exact Mine.ar20 | omega), Int.mul_comm, Int.add_comm]
        rw [e5]
        exact hret _ _ _ _ _ ⟨rfl, _, rfl⟩ hg4 (by assumption) (by assumption)
  rw [← hnf] at NL
  refine Ct.app (key ds.length 0 ds.length rfl hne (Nat.le_refl _) nf _ _ (fun p hp => hp)) rfl B' FL X' NL T' rfl (by first | exact Mine.rm 0 hdp rfl (by decide) | exact Mine.rm 1 hdp rfl (by decide) | exact Mine.rm 0 hdp rfl (Mine.rm60 (by assumption)) | ktr_room) (by first | exact Mine.um 0 hun rfl (by decide) | exact Mine.um 3 hun rfl (by decide) | exact Mine.um 1 hun rfl (by decide) | exact Mine.um 4 hun rfl (by decide) | exact Mine.um 0 hun rfl (Mine.um60 (by assumption)) | ktr_units) (by exact hg) ?_
  rintro v nn3 h3 tk3 g3 ⟨e3, t3, rfl⟩ hg3 F3 N3
  rw [e3] at N3
  clear e3
  have e0 : bitsV ((ds.drop 0).take (ds.length - 0)) = bitsV ds := by rw [List.drop_zero, Nat.sub_zero, List.take_length]
  k_steps
  · refine hret _ _ _ _ _ ⟨c1, oc1, vs1, t1, rfl, d11, d12, hlc.out, _, by rw [e0]⟩ hg3 (by assumption) (cb_drop (by assumption) fun p hp => ?_)
    rw [hnf]
    rcases List.mem_cons.mp hp with rfl | hp
    · exact .tail _ (.tail _ (.tail _ (.tail _ (.tail _ (.head _)))))
    rcases List.mem_cons.mp hp with rfl | hp
    · exact .tail _ (.head _)
    rcases List.mem_cons.mp hp with rfl | hp
    · exact .tail _ (.tail _ (.tail _ (.tail _ (.tail _ (.tail _ (.head _))))))
    · exact .tail _ (.tail _ (.tail _ (.tail _ (.tail _ (.tail _ (.tail _ hp))))))

theorem d2i_hit (w : World) (p : Program) (loose : List Str) (mean : ExcName → Option Value) (mg mb : Str → Option Value) (ds : List Int) (vs : List Value) (hds : IntsAre vs ds) (hb : ∀ d ∈ ds, 0 ≤ d ∧ d ≤ 1) (hlen : ds.length ≤ 60) (hne : 0 < ds.length) (n₀ : Nat) (dl : Addr) (t : Tok) (rest : List (Addr × Obj)) (hP : ∀ p ∈ rest, p.1 ≠ 23) (hdl : dl ≠ 23) (c1 : Addr) (oc1 : Obj) (vs1 : Array Value) (t1 : Tok) (d11 : oc1.data = Data.fields vs1) (d12 : vs1[1]? = some (Value.str qual23 t1)) (hc : c1 ≠ 23) :
  Ct w p loose mean mg mb (.ref 28) [Value.ref dl, Value.int 1 t] 80 400 ((dl, W.listOf vs.toArray n₀) :: (c1, oc1) :: (23, tabObj (tab23 c1)) :: rest) (fun v n => n = (dl, W.listOf vs.toArray n₀) :: (c1, oc1) :: (23, tabObj (tab23 c1)) :: rest ∧ ∃ t, v = .int (bitsV ds) t) := by
  unfold Ct; k_fill
  intro dp un gd cn cs a ccd cl outer A₀ base h₀ L m s Q B F X N T hk hdp hun hg hret
  refine wpAny_call ?_
  refine' code_defC ?k1 ?k2 ?k3 ?k4 ?k5 ?kA ?kF ?kK ?k6 ?k7 ?k8 ?k9 ?kB ?kD ?_ ?c2 ?c3 ?c4
  case kA => exact rfl
  case kF => exact rfl
  case kK => assumption
  case k1 => k_asm
  case k2 => k_asm
  case k3 => k_asm
  case k4 => k_asm
  case k5 => k_asm
  case k6 => k_is
  case k7 => k_is
  case k8 => first | exact Mine.rm 0 hdp rfl (by decide) | exact Mine.rm 1 hdp rfl (by decide) | ktr_room
  case k9 => exact BindsTo.of_eq rfl
  case kB => exact rfl
  case kD => decide +kernel
  case c2 => exact rfl
  case c3 => exact rfl
  case c4 => exact rfl
  intro g' L' h' tk' cells' FG' F' N' Y' B' X' T' l1
  have hR : Under rest L' := fun p hp => l1 p (.tail _ (.tail _ (.tail _ hp)))
  have C23 := code23 X'
  k_lt l1
  obtain ⟨o1, o2, o3, hE', d1, d2, d3⟩ := CellsAre.three Y'
  subst hE'
  clear Y'
  replace d1 : o1.data = Data.cell none := d1
  replace d2 : o2.data = Data.cell (some (Value.int 1 t)) := d2
  replace d3 : o3.data = Data.cell (some (Value.ref dl)) := d3
  simp only [List.cons_append, List.nil_append] at N'
  (try dsimp only); (try k_lift B'); (try k_fold)
  k_steps
  refine ⟨?_⟩
  refine' nestDef_K ?d0 ?k0 ?a0 ?_
  case d0 => exact rfl
  case k0 => exact rfl
  case a0 => exact rfl
  refine' nestHit_K ?nkF ?nkN ?nkT ?nkC ?nkcd ?nkU ?nkt ?nkn ?nkcl ?_
  case nkF => k_asm
  case nkN => k_asm
  case nkT => k_asm
  case nkcd => exact rfl
  case nkC => kn_code
  case nkU => k_mem
  case nkt => kn_triples
  case nkn => kn_hit
  case nkcl => exact rfl
  intro f1 ct1 dc1 h1 tk1 F1 N1 l11
  (try dsimp only at N1); (try k_lt l11)
  k_steps
  all_goals try (exfalso; omega)
  refine ⟨?_⟩
  rename PySem.Obj.data _ = Data.cell (some (Value.ref f1)) => dI
  rename PySem.Obj => oI
  rename News _ _ _ _ => NL
  rename Fr g' L' _ _ => FL
  refine with_news NL fun nf hnf => ?_
  have key : ∀ k Lo Hi : Nat, Hi - Lo = k → Lo < Hi → Hi ≤ ds.length → ∀ (nf' : List (Addr × Obj)) (t u : Tok), (∀ p ∈ nf, p ∈ nf') →
      Ct w p loose mean mg mb (.ref f1) [.int Lo t, .int Hi u] (2 + k) (20 + 5 * k) nf' (fun v n => n = nf' ∧ ∃ t, v = .int (bitsV ((ds.drop Lo).take (Hi - Lo))) t) := by
      clear B N F X T hret NL FL B' FG' X' T' hk hdp hun hg
      intro k
      induction k using Nat.strongRecOn with
      | ind k ih =>
      intro Lo Hi hk hlt hhi nf' t2 u2 hsub
      rw [hnf] at hsub
      have hmF := hsub _ (.head _)
      have hmI := hsub _ (.tail _ (.head _))
      have hmN := hsub _ (.tail _ (.tail _ (.head _)))
      have hmD := hsub _ (.tail _ (.tail _ (.tail _ (.head _))))
      have hmL := hsub _ (.tail _ (.tail _ (.tail _ (.tail _ (.head _)))))
      have hmC := hsub _ (.tail _ (.tail _ (.tail _ (.tail _ (.tail _ (.head _))))))
      unfold Ct
      intro dp un gd cn cs a ccd cl outer A₀ base h₀ L m s Q B F X N T hk hdp hun hg hret
      refine wpAny_call ?_
      refine' code_nest ?k1 ?k2 ?k3 ?k4 ?k5 ?kA ?kF ?kK ?k6 ?k7 ?k8 ?k9 ?kB ?_ ?c2 ?c3 ?c4 ?c5
      case kA => exact rfl
      case kF => exact rfl
      case kK => assumption
      case k1 => k_asm
      case k2 => k_asm
      case k3 => k_asm
      case k4 => k_asm
      case k5 => k_asm
      case k6 => exact hmF
      case k7 => exact codeRec_news (by k_asm) hmC d11 d12
      case k8 => first | exact Mine.rm 0 hdp rfl (by decide) | exact Mine.rm 1 hdp rfl (by decide) | ktr_room
      case k9 => exact BindsTo.of_eq rfl
      case c5 => decide
      case kB => exact locs rfl
      case c2 => exact rfl
      case c3 => exact rfl
      case c4 => exact rfl
      intro g2 L2 h2 FG2 F2 N2 B2 X2 T2
      (try dsimp only); (try k_lift B2); (try k_fold)
      by_cases h1 : (Lo : Int) + 1 = (Hi : Int)
      · k_steps
        all_goals try (exfalso; (first | exact Mine.ar11 h1 (by assumption) | omega))
        refine ⟨?_⟩
        have hlt' : Lo < ds.length := by (first | exact Mine.ar78 hhi (by assumption) | omega)
        obtain ⟨td, hx⟩ := hds.get Lo ds[Lo] (by simp [hlt'])
        have hIL : Heap.IsList _ dl vs.toArray := ⟨_, (News.get (by assumption) hmL), rfl, _, rfl⟩
        refine tail_any hIL.typeIs slot_list_getitem.lookup (wpAny_getItem_list hIL (by (first | exact Mine.ar1 | omega)) (by omega) (by simpa using hx) ?_) rfl
        k_steps
        refine hret _ _ _ _ _ ⟨rfl, td, ?_⟩ hg (by assumption) (by assumption)
        have e1 : Hi - Lo = 1 := by (first | exact Mine.ar80 (by assumption) | omega)
        rw [e1, List.drop_eq_getElem_cons hlt', List.take_succ_cons, List.take_zero]
        simp [bitsV]
      · have hM : ((Lo : Int) + (Hi : Int)).fdiv (2 ^ Int.toNat 1) = (((Lo + Hi) / 2 : Nat) : Int) := by
          have e : ((Lo : Int) + (Hi : Int)).fdiv 2 = (((Lo + Hi) / 2 : Nat) : Int) := by
            rw [Int.fdiv_eq_ediv_of_nonneg _ (by omega)]; (first | exact Mine.ar16 | omega)
          exact e
        k_steps
        all_goals try (exfalso; (first | exact Mine.ar17 h1 (by assumption) | omega))
        refine ⟨?_⟩
        rename Fr g2 _ _ _ => F5
        rename News g2 _ _ _ => N5
        rw [hM] at F5 ⊢
        clear hM
        have hM1 : Lo < (Lo + Hi) / 2 := by (first | exact Mine.ar18 hlt (by assumption) | omega)
        have hM2 : (Lo + Hi) / 2 < Hi := by (first | exact Mine.ar19 hM1 | omega)
        generalize (Lo + Hi) / 2 = M at hM1 hM2 F5 ⊢
        refine Ct.app (ih (Hi - M) (by (first | exact Mine.ar29 (by assumption) hM1 hM2 | omega)) M Hi rfl hM2 hhi nf' _ _ (by rw [hnf]; exact hsub)) rfl B2 F5 X2 N5 T2 rfl (by first | exact Mine.rm 0 hdp rfl (by decide) | exact Mine.rm 1 hdp rfl (by decide) | exact Mine.rm 0 hdp rfl (Mine.rm5 (Mine.ar29 (by assumption) hM1 hM2)) | ktr_room) (by first | exact Mine.um 0 hun rfl (by decide) | exact Mine.um 3 hun rfl (by decide) | exact Mine.um 1 hun rfl (by decide) | exact Mine.um 4 hun rfl (by decide) | exact Mine.um 0 hun rfl (Mine.um5 (Mine.ar29 (by assumption) hM1 hM2)) | ktr_units) (by exact hg) ?_
        rintro v nn3 h3 tk3 g3 ⟨e3, t3, rfl⟩ hg3 F3 N3
        rw [e3] at N3
        clear e3
        have hV1 := bitsV_small hb hlen M (Hi - M)
        k_steps
        all_goals try (exfalso; omega)
        refine ⟨?_⟩
        rename Fr g2 _ _ _ => F6
        rename News g2 _ _ _ => N6
        refine Ct.app (ih (M - Lo) (by (first | exact Mine.ar27 (by assumption) hM1 hM2 | omega)) Lo M rfl hM1 (by (first | exact Mine.ar28 hhi hM2 | omega)) nf' _ _ (by rw [hnf]; exact hsub)) rfl B2 F6 X2 N6 T2 rfl (by first | exact Mine.rm 0 hdp rfl (by decide) | exact Mine.rm 1 hdp rfl (by decide) | exact Mine.rm 0 hdp rfl (Mine.rm5 (Mine.ar27 (by assumption) hM1 hM2)) | ktr_room) (by first | exact Mine.um 0 hun rfl (by decide) | exact Mine.um 3 hun rfl (by decide) | exact Mine.um 1 hun rfl (by decide) | exact Mine.um 4 hun rfl (by decide) | exact Mine.um 0 hun rfl (Mine.um5 (Mine.ar27 (by assumption) hM1 hM2)) | ktr_units) (by exact hg3) ?_
        rintro v nn4 h4 tk4 g4 ⟨e4, t4, rfl⟩ hg4 F7 N7
        rw [e4] at N7
        clear e4
        have hV2 := bitsV_small hb hlen Lo (M - Lo)
        k_steps
        have e5 : bitsV ((ds.drop M).take (Hi - M)) * 2 ^ (((M : Int) - (Lo : Int)) * 1).toNat + bitsV ((ds.drop Lo).take (M - Lo)) = bitsV ((ds.drop Lo).take (Hi - Lo)) := by
          rw [bitsV_split (ds := ds) (Lo := Lo) (M := M) (Hi := Hi) (by (first | exact Nat.le_of_lt (hM1) | omega)) (Nat.le_of_lt hM2) hhi, show (((M : Int) - (Lo : Int)) * 1).toNat = M - Lo by (first | exact Mine.ar20 | omega), Int.mul_comm, Int.add_comm]
        rw [e5]
        exact hret _ _ _ _ _ ⟨rfl, _, rfl⟩ hg4 (by assumption) (by assumption)
  rw [← hnf] at NL
  refine Ct.app (key ds.length 0 ds.length rfl hne (Nat.le_refl _) nf _ _ (fun p hp => hp)) rfl B' FL X' NL T' rfl (by first | exact Mine.rm 0 hdp rfl (by decide) | exact Mine.rm 1 hdp rfl (by decide) | exact Mine.rm 0 hdp rfl (Mine.rm60 (by assumption)) | ktr_room) (by first | exact Mine.um 0 hun rfl (by decide) | exact Mine.um 3 hun rfl (by decide) | exact Mine.um 1 hun rfl (by decide) | exact Mine.um 4 hun rfl (by decide) | exact Mine.um 0 hun rfl (Mine.um60 (by assumption)) | ktr_units) (by exact hg) ?_
  rintro v nn3 h3 tk3 g3 ⟨e3, t3, rfl⟩ hg3 F3 N3
  rw [e3] at N3
  clear e3
  have e0 : bitsV ((ds.drop 0).take (ds.length - 0)) = bitsV ds := by rw [List.drop_zero, Nat.sub_zero, List.take_length]
  k_steps
  · exact hret _ _ _ _ _ ⟨rfl, _, by rw [e0]⟩ hg3 (by assumption) (cb_drop (by assumption) fun p hp => by
      rw [hnf]; exact .tail _ (.tail _ (.tail _ (.tail _ hp))))

end
end Mine
end

-- part F6
section
local macro_rules | `(tactic| walk_at "pad F6") => `(tactic| skip)
open PySem PySem.W PyProof.Rows
set_option maxRecDepth 100000
set_option maxHeartbeats 8000000
namespace Mine

/-- the table behind the first call: the inner def's place and its code -/
abbrev tab16 (c : Addr) : Array Value := #[rawInt 5, rawInt 4, .ref c]
abbrev qual16 : Str := Str.ofString "_int2digits" ++ Str.ofString ".<locals>." ++ Str.ofString "inner"
theorem up_eq (x a : Nat) : (x : Int).fdiv (2 ^ a) = ((x / 2 ^ a : Nat) : Int) := by
  rw [Int.fdiv_eq_ediv_of_nonneg _ (Int.pow_nonneg (by decide))]
  simp
theorem xor_low_all : ∀ x : Nat, x < 128 → ∀ a : Nat, a < 8 → Builtin.bitXor (x : Int) (((x / 2 ^ a : Nat) : Int) * 2 ^ a) = ((x % 2 ^ a : Nat) : Int) := by decide +kernel
theorem xor_low {x a : Nat} (h : x < 128) (ha : a < 8) : Builtin.bitXor (x : Int) (((x / 2 ^ a : Nat) : Int) * 2 ^ a) = ((x % 2 ^ a : Nat) : Int) := xor_low_all x h a ha
theorem mem_swap {p : Addr × Obj} {al : Addr} {o : Obj} {fix : List (Addr × Obj)} (h : p ∈ (al, o) :: fix) (hne : p.1 ≠ al) (o' : Obj) : p ∈ (al, o') :: fix := by
  rcases List.mem_cons.mp h with rfl | h
  · exact absurd rfl hne
  · exact .tail _ h
theorem code16 {w : World} {h : Heap} (X : (Mine.hd.heap_39 w.params).In h) : CodeHd h 20 16 :=
  ⟨_, _, _, _, _, _, _, _, _, X 20 _ rfl, rfl, rfl, rfl, rfl, rfl, rfl, rfl, rfl, by decide⟩
/-- the bits of a number, the least first -/
noncomputable def bitsOf : Nat → Nat → List Int
  | 0, _ => []
  | k + 1, x => ((x % 2 : Nat) : Int) :: bitsOf k (x / 2)
theorem flat_ones (v : Value) : ∀ k : Nat, (List.replicate k [v]).flatten = List.replicate k v
  | 0 => rfl
  | k + 1 => by rw [List.replicate_succ, List.flatten_cons, flat_ones v k, List.replicate_succ]; rfl
theorem zeros_are (t : Tok) : ∀ k : Nat, IntsAre (List.replicate k (Value.int 0 t)) (List.replicate k 0)
  | 0 => .nil
  | k + 1 => .cons _ _ (zeros_are t k)
section
local macro_rules | `(tactic| k_all) => `(tactic| first | assumption | exact Under.ne9)
local macro_rules | `(tactic| walk_at "exec FunctionDef") => `(tactic| refine Hold.out ?_)
local macro_rules | `(tactic| walk_at "call ref") => `(tactic| refine Hold.out ?_)
local macro_rules | `(tactic| walk_at "binaryOp Mult ref int") => `(tactic| refine Hold.out ?_)
local macro_rules | `(tactic| walk_at "setItem ref int int") => `(tactic| refine Hold.out ?_)
theorem IntsAre.set {vs : List Value} {ds : List Int} (h : IntsAre vs ds) : ∀ (i : Nat) (x : Int) (t : Tok), IntsAre (vs.set i (.int x t)) (ds.set i x) := by
  induction h with
  | nil => intro i x t; exact .nil
  | cons n t _ ih =>
    intro i x u
    cases i with
    | zero => exact .cons _ _ (by assumption)
    | succ i => exact .cons _ _ (ih i x u)
theorem set_ints {prog : Program} {w : World} {A : Around} {E : Value → Shared → Prop} {s : Shared} {h₀ : Heap} {L al : Addr} {m : Str → Option Value} {fix : List (Addr × Obj)} {vs : List Value} {n Lo : Nat} {t : Tok} {v : Value} {Q : Unit → Shared → Prop}
    (F : Fr h₀ L s.heap m) (N : News h₀ L s.heap ((al, W.listOf vs.toArray n) :: fix)) (hfix : ∀ p ∈ fix, p.1 ≠ al) (hlt : Lo < vs.length) (hsm : vs.length ≤ 1000)
    (h : ∀ h', Fr h₀ L h' m → News h₀ L h' ((al, W.listOf (vs.set Lo v).toArray n) :: fix) → Q () { s with heap := h' }) :
    wpAny (model prog w) A (setItem (.ref al) (.int (Lo : Int) t) v) Q E s := by
  have z := N (al, W.listOf vs.toArray n) (.head _)
  refine ki_setAt z.1 (by (first | exact Mine.ar1 | omega)) (by omega) (by simp; (first | exact hlt | omega)) (h _ (F.change (Heap.SameBut.update ..) z.2.1 z.2.2) (ki_turn (pre := []) _ N (fun p hp => nomatch hp) hfix ?_ ?_))
  · apply Array.toList_inj.mp
    simp
  · rw [if_pos (by simp)]
theorem bitsOf_one {x : Nat} (h : x < 2) : bitsOf 1 x = [(x : Int)] := by
  simp only [bitsOf]; rw [Nat.mod_eq_of_lt h]
theorem bitsOf_split : ∀ (a b x : Nat), bitsOf (a + b) x = bitsOf a (x % 2 ^ a) ++ bitsOf b (x / 2 ^ a)
  | 0, b, x => by simp [bitsOf]
  | a + 1, b, x => by
    rw [show a + 1 + b = (a + b) + 1 by (first | exact Mine.ar3 | omega)]
    simp only [bitsOf, List.cons_append]
    rw [bitsOf_split a b (x / 2), Nat.div_div_eq_div_mul, show 2 * 2 ^ a = 2 ^ (a + 1) by rw [Nat.pow_succ, Nat.mul_comm]]
    have hd : 2 ∣ 2 ^ (a + 1) := ⟨2 ^ a, by rw [Nat.pow_succ, Nat.mul_comm]⟩
    have h1 : x % 2 ^ (a + 1) % 2 = x % 2 := Nat.mod_mod_of_dvd x hd
    have h2 : x % 2 ^ (a + 1) / 2 = x / 2 % 2 ^ a := by
      rw [Nat.pow_succ, Nat.mul_comm, Nat.mod_mul_right_div_self]
    rw [h1, h2]
theorem bitsOf_length : ∀ k x : Nat, (bitsOf k x).length = k
  | 0, _ => rfl
  | k + 1, x => by rw [bitsOf, List.length_cons, bitsOf_length k]
local macro_rules | `(tactic| walk_at "binaryOp LShift int int") => `(tactic| refine Hold.out ?_)
theorem i2d_miss (w : World) (p : Program) (loose : List Str) (mean : ExcName → Option Value) (mg mb : Str → Option Value) (x k : Nat) (hx : 1 ≤ (x : Int)) (hk1 : 1 ≤ k) (hk7 : k ≤ 7) (hxk : x < 2 ^ k) (hib : Builtin.Int.intBits (x : Int) = k) (t u : Tok) (rest : List (Addr × Obj)) (hP : ∀ p ∈ rest, p.1 ≠ 16) :
  Ct w p loose mean mg mb (.ref 21) [Value.int x t, Value.int 1 u] 80 400 ((16, tabObj #[]) :: rest) (fun v n => ∃ al vs n' c1 oc1 vs1 t1, v = .ref al ∧ n = (al, W.listOf vs.toArray n') :: (c1, oc1) :: (16, tabObj (tab16 c1)) :: rest ∧ IntsAre vs (bitsOf k x) ∧ oc1.data = Data.fields vs1 ∧ vs1[1]? = some (Value.str qual16 t1) ∧ al < c1 ∧ (∀ p ∈ (16, tabObj #[]) :: rest, p.1 < c1) ∧ (∀ p ∈ (16, tabObj #[]) :: rest, p.1 < al)) := by
  unfold Ct; k_fill
  intro dp un gd cn cs a ccd cl outer A₀ base h₀ L m s Q B F X N T hk hdp hun hg hret
  refine wpAny_call ?_
  refine' code_defC ?k1 ?k2 ?k3 ?k4 ?k5 ?kA ?kF ?kK ?k6 ?k7 ?k8 ?k9 ?kB ?kD ?_ ?c2 ?c3 ?c4
  case kA => exact rfl
  case kF => exact rfl
  case kK => assumption
  case k1 => k_asm
  case k2 => k_asm
  case k3 => k_asm
  case k4 => k_asm
  case k5 => k_asm
  case k6 => k_is
  case k7 => k_is
  case k8 => first | exact Mine.rm 0 hdp rfl (by decide) | exact Mine.rm 1 hdp rfl (by decide) | ktr_room
  case k9 => exact BindsTo.of_eq rfl
  case kB => exact rfl
  case kD => decide +kernel
  case c2 => exact rfl
  case c3 => exact rfl
  case c4 => exact rfl
  intro g' L' h' tk' cells' FG' F' N' Y' B' X' T' l1
  have hR : Under rest L' := fun p hp => l1 p (.tail _ hp)
  have C16 := code16 X'
  k_lt l1
  obtain ⟨o1, o2, o3, hE', d1, d2, d3⟩ := CellsAre.three Y'
  subst hE'
  clear Y'
  replace d1 : o1.data = Data.cell none := d1
  replace d2 : o2.data = Data.cell none := d2
  replace d3 : o3.data = Data.cell (some (Value.int 1 u)) := d3
  simp only [List.cons_append, List.nil_append] at N'
  (try dsimp only); (try k_lift B'); (try k_fold)
  have hx127 : (x : Int) < 128 := by
    have : 2 ^ k ≤ 2 ^ 7 := Nat.pow_le_pow_right (by decide) hk7
    omega
  k_steps
  refine ⟨?_⟩
  have hfd : ((Builtin.Int.intBits (x : Int) : Int) + 1 - 1).fdiv 1 = (k : Int) := by rw [hib, Int.fdiv_one]; (first | exact Mine.ar5 | omega)
  rw [hfd]
  rename News _ _ _ _ => N3
  rename Fr g' L' _ _ => F3
  refine KMa.mul (vs := [Value.int 0 tk']) F3 N3 ⟨_, News.get N3 (.head _), rfl, _, rfl⟩ (by omega) (by omega) (by simp; (first | exact Mine.ar8 hk7 | omega)) (flat_ones _ _) ?_
  intro al h4 F4 N4 l4
  have hla : Hold (∀ p ∈ (16, tabObj #[]) :: rest, p.1 < al) := ⟨fun p hp => l4 p (.tail _ (.tail _ (.tail _ (.tail _ hp))))⟩
  have hzs : IntsAre (List.replicate k (Value.int 0 tk')) (List.replicate k 0) := zeros_are _ _
  have hzn : (List.replicate k (Value.int 0 tk')).toArray.size = k := by simp
  rw [show Int.toNat (k : Int) = k from rfl] at N4
  generalize List.replicate k (Value.int 0 tk') = zs at hzs hzn N4
  have N4 := cb_drop (news := (al, W.listOf zs.toArray 0) :: _) N4 (by
    intro p hp
    rcases List.mem_cons.mp hp with rfl | hp
    · exact .head _
    · exact .tail _ (.tail _ hp))
  k_lt l4
  k_steps
  refine ⟨?_⟩
  refine' nestDef_K ?d0 ?k0 ?a0 ?_
  case d0 => exact rfl
  case k0 => exact rfl
  case a0 => exact rfl
  refine' nest_K ?nkF ?nkN ?nkT ?nkC ?nkcd ?nkU ?nkt ?nkn ?nkcl ?_
  case nkF => k_asm
  case nkN => k_asm
  case nkT => k_asm
  case nkcd => exact rfl
  case nkC => kn_code
  case nkU => k_updF
  case nkt => kn_triples
  case nkn => kn_among
  case nkcl => exact rfl
  intro f1 c1 oc1 vs1 t1 ct1 dc1 h1 tk1 F1 N1 d11 d12 l11 l12
  have hlc : Hold (∀ p ∈ (16, tabObj #[]) :: rest, p.1 < c1) := ⟨fun p hp => l11 p (.tail _ (.tail _ (.tail _ (.tail _ hp))))⟩
  (try dsimp only at N1); (try k_lt l11); (try k_lt2 l12)
  k_steps
  all_goals try (exfalso; (first | exact Mine.ar9 hx (by assumption) | omega))
  refine ⟨?_⟩
  rename PySem.Obj.data _ = Data.cell (some (Value.ref f1)) => dI
  rename PySem.Obj.data _ = Data.cell (some (Value.ref al)) => dA
  rename News _ _ _ _ => NL
  rename Fr g' L' _ _ => FL
  refine with_news NL fun nf hnf => ?_
  have key : ∀ j Lo Hi x : Nat, Hi - Lo = j → Lo < Hi → Hi ≤ k → x < 2 ^ j → ∀ (fix : List (Addr × Obj)) (ds : List Int) (vs : List Value) (n₁ : Nat) (t u v : Tok), (∀ p ∈ nf, p.1 ≠ al → p ∈ fix) → (∀ p ∈ fix, p.1 ≠ al) → IntsAre vs ds → ds.length = k →
      Ct w p loose mean mg mb (.ref f1) [.int x v, .int Lo t, .int Hi u] (2 + j) (20 + 5 * j) ((al, W.listOf vs.toArray n₁) :: fix)
        (fun r n => r = .none ∧ ∃ vs' n', n = (al, W.listOf vs'.toArray n') :: fix ∧ IntsAre vs' (ds.take Lo ++ bitsOf j x ++ ds.drop Hi)) := by
      clear B N F X T hret NL FL B' FG' X' T' hk hdp hun hg
      clear hib hx hxk hzs hzn hk1
      intro j
      induction j using Nat.strongRecOn with
      | ind j ih =>
      intro Lo Hi x hj hlt hhi hxj fix ds vs n₁ t2 u2 v2 hsub hfix hvs hds
      have hsub0 := Hold.mk hsub
      rw [hnf] at hsub
      have nf1 : f1 ≠ al := Nat.ne_of_gt (by (first | exact Nat.lt_trans l11.1 l12 | omega))
      have nf2 : c1 ≠ al := Nat.ne_of_gt (by (first | exact l11.1 | omega))
      have nf3 : L' + 1 + 1 + 1 ≠ al := Nat.ne_of_lt (by (first | exact l4.2.1 | omega))
      have nf4 : L' + 1 + 1 ≠ al := Nat.ne_of_lt (by (first | exact l4.2.2.1 | omega))
      have nf5 : L' + 1 ≠ al := Nat.ne_of_lt (by (first | exact l4.2.2.2.1 | omega))
      have hmF := List.mem_cons_of_mem (al, W.listOf vs.toArray n₁) (hsub _ (.head _) nf1)
      have hmC := List.mem_cons_of_mem (al, W.listOf vs.toArray n₁) (hsub _ (.tail _ (.head _)) nf2)
      have hmI := List.mem_cons_of_mem (al, W.listOf vs.toArray n₁) (hsub _ (.tail _ (.tail _ (.tail _ (.head _)))) nf3)
      have hmA := List.mem_cons_of_mem (al, W.listOf vs.toArray n₁) (hsub _ (.tail _ (.tail _ (.tail _ (.tail _ (.head _))))) nf4)
      have hmN := List.mem_cons_of_mem (al, W.listOf vs.toArray n₁) (hsub _ (.tail _ (.tail _ (.tail _ (.tail _ (.tail _ (.head _)))))) nf5)
      have hmL : (al, W.listOf vs.toArray n₁) ∈ (al, W.listOf vs.toArray n₁) :: fix := .head _
      have hxB : x < 128 := Nat.lt_of_lt_of_le hxj (Nat.pow_le_pow_right (n := 2) (by decide) (show j ≤ 7 by (first | exact Mine.ar10 hk7 hj hhi | omega)))
      have hvl : vs.length = k := by rw [hvs.length, hds]
      have hxj' : Hold (x < 2 ^ j) := ⟨hxj⟩
      clear hxj
      clear hfd
      have hxB' : Hold (x < 128) := ⟨hxB⟩
      clear hxB
      have ih' := Hold.mk ih
      clear ih
      clear hsub
      have hfix' := Hold.mk hfix
      clear hfix
      unfold Ct
      intro dp un gd cn cs a ccd cl outer A₀ base h₀ L m s Q B F X N T hk hdp hun hg hret
      refine wpAny_call ?_
      refine' code_nest ?k1 ?k2 ?k3 ?k4 ?k5 ?kA ?kF ?kK ?k6 ?k7 ?k8 ?k9 ?kB ?_ ?c2 ?c3 ?c4 ?c5
      case kA => exact rfl
      case kF => exact rfl
      case kK => assumption
      case k1 => k_asm
      case k2 => k_asm
      case k3 => k_asm
      case k4 => k_asm
      case k5 => k_asm
      case k6 => exact hmF
      case k7 => exact codeRec_news (by k_asm) hmC d11 d12
      case k8 => first | exact Mine.rm 0 hdp rfl (by decide) | exact Mine.rm 1 hdp rfl (by decide) | ktr_room
      case k9 => exact BindsTo.of_eq rfl
      case c5 => decide
      case kB => exact locs rfl
      case c2 => exact rfl
      case c3 => exact rfl
      case c4 => exact rfl
      intro g2 L2 h2 FG2 F2 N2 B2 X2 T2
      (try dsimp only); (try k_lift B2); (try k_fold)
      by_cases h1 : (Lo : Int) + 1 = (Hi : Int)
      · k_steps
        all_goals try (exfalso; (first | exact Mine.ar11 h1 (by assumption) | omega))
        refine ⟨?_⟩
        rename Fr g2 _ _ _ => F5
        rename News g2 _ _ _ => N5
        refine set_ints F5 N5 hfix'.out (by (first | exact Mine.ar12 hhi hvl (by assumption) | omega)) (by (first | exact Mine.ar13 hk7 hvl | omega)) ?_
        intro h5 F5 N5
        k_steps
        refine hret _ _ _ _ _ ⟨rfl, _, _, rfl, ?_⟩ hg (by assumption) (by assumption)
        have ej : j = 1 := by (first | exact Mine.ar14 hj (by assumption) | omega)
        have hx2 : x < 2 := by have := hxj'.out; rw [ej] at this; exact this
        rw [ej, bitsOf_one hx2, show Hi = Lo + 1 by (first | exact Mine.ar15 (by assumption) | omega)]
        have := IntsAre.set hvs Lo x v2
        have e9 : ds.set Lo (x : Int) = ds.take Lo ++ (x : Int) :: ds.drop (Lo + 1) := by
          rw [List.set_eq_take_append_cons_drop, if_pos (by (first | exact Mine.ar12 hhi hds (by assumption) | omega))]
        rw [e9] at this
        simpa using this
      · have hM : ((Lo : Int) + (Hi : Int)).fdiv (2 ^ Int.toNat 1) = (((Lo + Hi) / 2 : Nat) : Int) := by
          have e : ((Lo : Int) + (Hi : Int)).fdiv 2 = (((Lo + Hi) / 2 : Nat) : Int) := by
            rw [Int.fdiv_eq_ediv_of_nonneg _ (by omega)]; (first | exact Mine.ar16 | omega)
          exact e
        k_steps
        all_goals try (exfalso; (first | exact Mine.ar17 h1 (by assumption) | omega))
        refine ⟨?_⟩
        rename Fr g2 _ _ _ => F5
        rename News g2 _ _ _ => N5
        rw [hM] at F5 ⊢
        clear hM
        have hM1 : Lo < (Lo + Hi) / 2 := by (first | exact Mine.ar18 hlt (by assumption) | omega)
        have hM2 : (Lo + Hi) / 2 < Hi := by (first | exact Mine.ar19 hM1 | omega)
        generalize (Lo + Hi) / 2 = M at hM1 hM2 F5 ⊢
        have hsh : (((M : Int) - (Lo : Int)) * 1).toNat = M - Lo := by (first | exact Mine.ar20 | omega)
        have hup := up_eq x (M - Lo)
        have hupB : x / 2 ^ (M - Lo) < 128 := Nat.lt_of_le_of_lt (Nat.div_le_self ..) hxB'.out
        have hxor := xor_low hxB'.out (show M - Lo < 8 by (first | exact Mine.ar21 hk7 hhi hM2 | omega))
        have hlow : x % 2 ^ (M - Lo) < 2 ^ (M - Lo) := Nat.mod_lt _ (Nat.pow_pos (by decide))
        have hupp : x / 2 ^ (M - Lo) < 2 ^ (Hi - M) := by
          have := hxj'.out
          rw [← hj, show Hi - Lo = (M - Lo) + (Hi - M) by (first | exact Mine.ar22 hM1 hM2 | omega), Nat.pow_add] at this
          exact Nat.div_lt_of_lt_mul this
        have hbs : bitsOf j x = bitsOf (M - Lo) (x % 2 ^ (M - Lo)) ++ bitsOf (Hi - M) (x / 2 ^ (M - Lo)) := by
          rw [← bitsOf_split, show M - Lo + (Hi - M) = j by (first | exact Mine.ar23 hj hM1 hM2 | omega)]
        rw [hsh, hup] at F5 ⊢
        generalize x / 2 ^ (M - Lo) = U at F5 hupB hxor hbs hupp ⊢
        generalize x % 2 ^ (M - Lo) = W0 at hxor hbs hlow
        refine lshift_int_small (by (first | exact Mine.ar24 hM1 | omega)) (by (first | exact Mine.ar25 hk7 hhi hM2 | omega)) (by omega) ?_
        k_steps
        all_goals try (exfalso; omega)
        refine ⟨?_⟩
        rename Fr g2 _ _ _ => F6
        rename News g2 _ _ _ => N6
        rw [hsh, hxor] at F6 ⊢
        refine Ct.app (ih'.out (M - Lo) (by (first | exact Mine.ar27 hj hM1 hM2 | omega)) Lo M W0 rfl hM1 (by (first | exact Mine.ar28 hhi hM2 | omega)) hlow fix ds vs n₁ _ _ _ hsub0.out hfix'.out hvs hds) rfl B2 F6 X2 N6 T2 rfl (by first | exact Mine.rm 0 hdp rfl (by decide) | exact Mine.rm 1 hdp rfl (by decide) | exact Mine.rm 0 hdp rfl (Mine.rm5 (Mine.ar27 hj hM1 hM2)) | ktr_room) (by first | exact Mine.um 0 hun rfl (by decide) | exact Mine.um 3 hun rfl (by decide) | exact Mine.um 1 hun rfl (by decide) | exact Mine.um 4 hun rfl (by decide) | exact Mine.um 0 hun rfl (Mine.um5 (Mine.ar27 hj hM1 hM2)) | ktr_units) (by exact hg) ?_
        rintro v nn3 h3 tk3 g3 ⟨rfl, vs3, n3, e3, hv3⟩ hg3 F3 N3
        rw [e3] at N3
        clear e3
        have hmF3 := mem_swap hmF nf1 (W.listOf vs3.toArray n3)
        have hmC3 := mem_swap hmC nf2 (W.listOf vs3.toArray n3)
        have hmI3 := mem_swap hmI nf3 (W.listOf vs3.toArray n3)
        have hmA3 := mem_swap hmA nf4 (W.listOf vs3.toArray n3)
        have hmN3 := mem_swap hmN nf5 (W.listOf vs3.toArray n3)
        have hb3 := bitsOf_length (M - Lo) W0
        k_steps
        all_goals try (exfalso; omega)
        refine ⟨?_⟩
        rename Fr g2 _ _ _ => F7
        rename News g2 _ _ _ => N7
        refine Ct.app (ih'.out (Hi - M) (by (first | exact Mine.ar29 hj hM1 hM2 | omega)) M Hi U rfl hM2 hhi hupp fix _ vs3 n3 _ _ _ hsub0.out hfix'.out hv3 (by simp only [List.length_append, List.length_take, List.length_drop, hb3, hds]; (first | exact Mine.ar30 hhi hM1 hM2 | omega))) rfl B2 F7 X2 N7 T2 rfl (by first | exact Mine.rm 0 hdp rfl (by decide) | exact Mine.rm 1 hdp rfl (by decide) | exact Mine.rm 0 hdp rfl (Mine.rm5 (Mine.ar29 hj hM1 hM2)) | ktr_room) (by first | exact Mine.um 0 hun rfl (by decide) | exact Mine.um 3 hun rfl (by decide) | exact Mine.um 1 hun rfl (by decide) | exact Mine.um 4 hun rfl (by decide) | exact Mine.um 0 hun rfl (Mine.um5 (Mine.ar29 hj hM1 hM2)) | ktr_units) (by exact hg3) ?_
        rintro v nn4 h4 tk4 g4 ⟨rfl, vs4, n4, e4, hv4⟩ hg4 F8 N8
        rw [e4] at N8
        clear e4
        k_steps
        refine hret _ _ _ _ _ ⟨rfl, vs4, n4, rfl, ?_⟩ hg4 (by assumption) (by assumption)
        rw [hbs]
        have hA : (ds.take Lo ++ bitsOf (M - Lo) W0).length = M := by
          rw [List.length_append, List.length_take, hb3, hds]; (first | exact Mine.ar31 hhi hM1 hM2 | omega)
        rw [List.take_append_of_le_length (by (first | exact Mine.ar32 hA | omega)), List.take_of_length_le (by (first | exact Mine.ar33 hA | omega)), List.drop_append, hA, List.drop_eq_nil_of_le (by (first | exact Mine.ar34 hM2 hA | omega)), List.nil_append, List.drop_drop, show M + (Hi - M) = Hi by (first | exact Mine.ar35 hM2 | omega)] at hv4
        rw [← List.append_assoc]
        exact hv4
  have hmem : ∀ p ∈ nf, p.1 ≠ al → p ∈ nf.filter fun p => decide (p.1 ≠ al) := fun p hp hne => List.mem_filter.mpr ⟨hp, decide_eq_true hne⟩
  have hmem2 : ∀ p ∈ nf.filter (fun p => decide (p.1 ≠ al)), p.1 ≠ al := fun p hp => of_decide_eq_true (List.mem_filter.mp hp).2
  have hin : (al, W.listOf zs.toArray 0) ∈ nf := by
    rw [hnf]
    exact .tail _ (.tail _ (.head _))
  have NL2 := cb_drop (news := (al, W.listOf zs.toArray 0) :: nf.filter (fun p => decide (p.1 ≠ al))) (hnf ▸ NL) (by
    intro p hp
    rcases List.mem_cons.mp hp with rfl | hp
    · exact hin
    · exact (List.mem_filter.mp hp).1)
  refine Ct.app (key k 0 k x (by (first | exact Mine.ar36 | omega)) hk1 (Nat.le_refl _) hxk _ _ zs 0 _ _ _ hmem hmem2 hzs (by simp)) rfl B' FL X' NL2 T' rfl (by first | exact Mine.rm 0 hdp rfl (by decide) | exact Mine.rm 1 hdp rfl (by decide) | exact Mine.rm 0 hdp rfl (Mine.rm7 (by assumption)) | ktr_room) (by first | exact Mine.um 0 hun rfl (by decide) | exact Mine.um 3 hun rfl (by decide) | exact Mine.um 1 hun rfl (by decide) | exact Mine.um 4 hun rfl (by decide) | exact Mine.um 0 hun rfl (Mine.um7 (by assumption)) | ktr_units) (by exact hg) ?_
  rintro v nn3 h3 tk3 g3 ⟨rfl, vs3, n3, e3, hv3⟩ hg3 F3 N3
  rw [e3] at N3
  clear e3
  have hv3 : IntsAre vs3 (bitsOf k x) := by simpa using hv3
  have mC : (c1, oc1) ∈ nf := by
    rw [hnf]
    exact .tail _ (.head _)
  have mT : (16, tabObj (tab16 c1)) ∈ nf := by
    rw [hnf]
    exact .tail _ (.tail _ (.tail _ (.tail _ (.tail _ (.tail _ (.head _))))))
  have mR : ∀ p ∈ rest, p ∈ nf := by
    rw [hnf]
    exact fun p hp => .tail _ (.tail _ (.tail _ (.tail _ (.tail _ (.tail _ (.tail _ hp))))))
  obtain ⟨oA, dA2, m3⟩ : ∃ oA, PySem.Obj.data oA = Data.cell (some (Value.ref al)) ∧ (L' + 1 + 1, oA) ∈ nf := ⟨_, dA, by
    rw [hnf]
    exact .tail _ (.tail _ (.tail _ (.tail _ (.head _))))⟩
  have m4 := List.mem_cons_of_mem (al, W.listOf vs3.toArray n3) (hmem _ m3 (Nat.ne_of_lt (by (first | exact l4.2.2.1 | omega))))
  clear m3 dA
  clear hnf
  k_steps
  · refine hret _ _ _ _ _ ⟨al, vs3, n3, c1, oc1, vs1, t1, rfl, rfl, hv3, d11, d12, l11.1, hlc.out, hla.out⟩ hg3 (by assumption) (cb_drop (by assumption) fun p hp => ?_)
    rcases List.mem_cons.mp hp with rfl | hp
    · exact .head _
    rcases List.mem_cons.mp hp with rfl | hp
    · exact .tail _ (hmem _ mC (Nat.ne_of_gt (by (first | exact l11.1 | omega))))
    rcases List.mem_cons.mp hp with rfl | hp
    · exact .tail _ (hmem _ mT (Nat.ne_of_lt (by (first | exact l4.2.2.2.2.1 | omega))))
    · exact .tail _ (hmem _ (mR p hp) (Nat.ne_of_lt (hla.out p (.tail _ hp))))

theorem i2d_hit (w : World) (p : Program) (loose : List Str) (mean : ExcName → Option Value) (mg mb : Str → Option Value) (x k : Nat) (hx : 1 ≤ (x : Int)) (hk1 : 1 ≤ k) (hk7 : k ≤ 7) (hxk : x < 2 ^ k) (hib : Builtin.Int.intBits (x : Int) = k) (t u : Tok) (rest : List (Addr × Obj)) (hP : ∀ p ∈ rest, p.1 ≠ 16) (c1 : Addr) (oc1 : Obj) (vs1 : Array Value) (t1 : Tok) (d11 : oc1.data = Data.fields vs1) (d12 : vs1[1]? = some (Value.str qual16 t1)) (hc : c1 ≠ 16) :
  Ct w p loose mean mg mb (.ref 21) [Value.int x t, Value.int 1 u] 80 400 ((c1, oc1) :: (16, tabObj (tab16 c1)) :: rest) (fun v n => ∃ al vs n', v = .ref al ∧ n = (al, W.listOf vs.toArray n') :: (c1, oc1) :: (16, tabObj (tab16 c1)) :: rest ∧ IntsAre vs (bitsOf k x) ∧ (∀ p ∈ (c1, oc1) :: (16, tabObj (tab16 c1)) :: rest, p.1 < al)) := by
  unfold Ct; k_fill
  intro dp un gd cn cs a ccd cl outer A₀ base h₀ L m s Q B F X N T hk hdp hun hg hret
  refine wpAny_call ?_
  refine' code_defC ?k1 ?k2 ?k3 ?k4 ?k5 ?kA ?kF ?kK ?k6 ?k7 ?k8 ?k9 ?kB ?kD ?_ ?c2 ?c3 ?c4
  case kA => exact rfl
  case kF => exact rfl
  case kK => assumption
  case k1 => k_asm
  case k2 => k_asm
  case k3 => k_asm
  case k4 => k_asm
  case k5 => k_asm
  case k6 => k_is
  case k7 => k_is
  case k8 => first | exact Mine.rm 0 hdp rfl (by decide) | exact Mine.rm 1 hdp rfl (by decide) | ktr_room
  case k9 => exact BindsTo.of_eq rfl
  case kB => exact rfl
  case kD => decide +kernel
  case c2 => exact rfl
  case c3 => exact rfl
  case c4 => exact rfl
  intro g' L' h' tk' cells' FG' F' N' Y' B' X' T' l1
  have hR : Under rest L' := fun p hp => l1 p (.tail _ (.tail _ hp))
  have C16 := code16 X'
  k_lt l1
  obtain ⟨o1, o2, o3, hE', d1, d2, d3⟩ := CellsAre.three Y'
  subst hE'
  clear Y'
  replace d1 : o1.data = Data.cell none := d1
  replace d2 : o2.data = Data.cell none := d2
  replace d3 : o3.data = Data.cell (some (Value.int 1 u)) := d3
  simp only [List.cons_append, List.nil_append] at N'
  (try dsimp only); (try k_lift B'); (try k_fold)
  have hx127 : (x : Int) < 128 := by
    have : 2 ^ k ≤ 2 ^ 7 := Nat.pow_le_pow_right (by decide) hk7
    omega
  k_steps
  refine ⟨?_⟩
  have hfd : ((Builtin.Int.intBits (x : Int) : Int) + 1 - 1).fdiv 1 = (k : Int) := by rw [hib, Int.fdiv_one]; (first | exact Mine.ar5 | omega)
  rw [hfd]
  rename News _ _ _ _ => N3
  rename Fr g' L' _ _ => F3
  refine KMa.mul (vs := [Value.int 0 tk']) F3 N3 ⟨_, News.get N3 (.head _), rfl, _, rfl⟩ (by omega) (by omega) (by simp; (first | exact Mine.ar8 hk7 | omega)) (flat_ones _ _) ?_
  intro al h4 F4 N4 l4
  have hla : Hold (∀ p ∈ (c1, oc1) :: (16, tabObj (tab16 c1)) :: rest, p.1 < al) := ⟨fun p hp => l4 p (.tail _ (.tail _ (.tail _ (.tail _ hp))))⟩
  have hzs : IntsAre (List.replicate k (Value.int 0 tk')) (List.replicate k 0) := zeros_are _ _
  have hzn : (List.replicate k (Value.int 0 tk')).toArray.size = k := by simp
  rw [show Int.toNat (k : Int) = k from rfl] at N4
  generalize List.replicate k (Value.int 0 tk') = zs at hzs hzn N4
  have N4 := cb_drop (news := (al, W.listOf zs.toArray 0) :: _) N4 (by
    intro p hp
    rcases List.mem_cons.mp hp with rfl | hp
    · exact .head _
    · exact .tail _ (.tail _ hp))
  k_lt l4
  k_steps
  refine ⟨?_⟩
  refine' nestDef_K ?d0 ?k0 ?a0 ?_
  case d0 => exact rfl
  case k0 => exact rfl
  case a0 => exact rfl
  refine' nestHit_K ?nkF ?nkN ?nkT ?nkC ?nkcd ?nkU ?nkt ?nkn ?nkcl ?_
  case nkF => k_asm
  case nkN => k_asm
  case nkT => k_asm
  case nkcd => exact rfl
  case nkC => kn_code
  case nkU => k_mem
  case nkt => kn_triples
  case nkn => kn_hit
  case nkcl => exact rfl
  intro f1 ct1 dc1 h1 tk1 F1 N1 l11
  (try dsimp only at N1); (try k_lt l11)
  k_steps
  all_goals try (exfalso; (first | exact Mine.ar9 hx (by assumption) | omega))
  refine ⟨?_⟩
  rename PySem.Obj.data _ = Data.cell (some (Value.ref f1)) => dI
  rename PySem.Obj.data _ = Data.cell (some (Value.ref al)) => dA
  rename News _ _ _ _ => NL
  rename Fr g' L' _ _ => FL
  refine with_news NL fun nf hnf => ?_
  have key : ∀ j Lo Hi x : Nat, Hi - Lo = j → Lo < Hi → Hi ≤ k → x < 2 ^ j → ∀ (fix : List (Addr × Obj)) (ds : List Int) (vs : List Value) (n₁ : Nat) (t u v : Tok), (∀ p ∈ nf, p.1 ≠ al → p ∈ fix) → (∀ p ∈ fix, p.1 ≠ al) → IntsAre vs ds → ds.length = k →
      Ct w p loose mean mg mb (.ref f1) [.int x v, .int Lo t, .int Hi u] (2 + j) (20 + 5 * j) ((al, W.listOf vs.toArray n₁) :: fix)
        (fun r n => r = .none ∧ ∃ vs' n', n = (al, W.listOf vs'.toArray n') :: fix ∧ IntsAre vs' (ds.take Lo ++ bitsOf j x ++ ds.drop Hi)) := by
      clear B N F X T hret NL FL B' FG' X' T' hk hdp hun hg
      clear hib hx hxk hzs hzn hk1
      intro j
      induction j using Nat.strongRecOn with
      | ind j ih =>
      intro Lo Hi x hj hlt hhi hxj fix ds vs n₁ t2 u2 v2 hsub hfix hvs hds
      have hsub0 := Hold.mk hsub
      rw [hnf] at hsub
      have nf1 : f1 ≠ al := Nat.ne_of_gt (by (first | exact l11.1 | omega))
      have nf2 : c1 ≠ al := Nat.ne_of_lt (by (first | exact l4.2.2.2.2.1 | omega))
      have nf3 : L' + 1 + 1 + 1 ≠ al := Nat.ne_of_lt (by (first | exact l4.2.1 | omega))
      have nf4 : L' + 1 + 1 ≠ al := Nat.ne_of_lt (by (first | exact l4.2.2.1 | omega))
      have nf5 : L' + 1 ≠ al := Nat.ne_of_lt (by (first | exact l4.2.2.2.1 | omega))
      have hmF := List.mem_cons_of_mem (al, W.listOf vs.toArray n₁) (hsub _ (.head _) nf1)
      have hmC := List.mem_cons_of_mem (al, W.listOf vs.toArray n₁) (hsub _ (.tail _ (.tail _ (.tail _ (.tail _ (.tail _ (.head _)))))) nf2)
      have hmI := List.mem_cons_of_mem (al, W.listOf vs.toArray n₁) (hsub _ (.tail _ (.tail _ (.head _))) nf3)
      have hmA := List.mem_cons_of_mem (al, W.listOf vs.toArray n₁) (hsub _ (.tail _ (.tail _ (.tail _ (.head _)))) nf4)
      have hmN := List.mem_cons_of_mem (al, W.listOf vs.toArray n₁) (hsub _ (.tail _ (.tail _ (.tail _ (.tail _ (.head _))))) nf5)
      have hmL : (al, W.listOf vs.toArray n₁) ∈ (al, W.listOf vs.toArray n₁) :: fix := .head _
      have hxB : x < 128 := Nat.lt_of_lt_of_le hxj (Nat.pow_le_pow_right (n := 2) (by decide) (show j ≤ 7 by (first | exact Mine.ar10 hk7 hj hhi | omega)))
      have hvl : vs.length = k := by rw [hvs.length, hds]
      have hxj' : Hold (x < 2 ^ j) := ⟨hxj⟩
      clear hxj
      clear hfd
      have hxB' : Hold (x < 128) := ⟨hxB⟩
      clear hxB
      have ih' := Hold.mk ih
      clear ih
      clear hsub
      have hfix' := Hold.mk hfix
      clear hfix
      unfold Ct
      intro dp un gd cn cs a ccd cl outer A₀ base h₀ L m s Q B F X N T hk hdp hun hg hret
      refine wpAny_call ?_
      refine' code_nest ?k1 ?k2 ?k3 ?k4 ?k5 ?kA ?kF ?kK ?k6 ?k7 ?k8 ?k9 ?kB ?_ ?c2 ?c3 ?c4 ?c5
      case kA => exact rfl
      case kF => exact rfl
      case kK => assumption
      case k1 => k_asm
      case k2 => k_asm
      case k3 => k_asm
      case k4 => k_asm
      case k5 => k_asm
      case k6 => exact hmF
      case k7 => exact codeRec_news (by k_asm) hmC d11 d12
      case k8 => first | exact Mine.rm 0 hdp rfl (by decide) | exact Mine.rm 1 hdp rfl (by decide) | ktr_room
      case k9 => exact BindsTo.of_eq rfl
      case c5 => decide
      case kB => exact locs rfl
      case c2 => exact rfl
      case c3 => exact rfl
      case c4 => exact rfl
      intro g2 L2 h2 FG2 F2 N2 B2 X2 T2
      (try dsimp only); (try k_lift B2); (try k_fold)
      by_cases h1 : (Lo : Int) + 1 = (Hi : Int)
      · k_steps
        all_goals try (exfalso; (first | exact Mine.ar11 h1 (by assumption) | omega))
        refine ⟨?_⟩
        rename Fr g2 _ _ _ => F5
        rename News g2 _ _ _ => N5
        refine set_ints F5 N5 hfix'.out (by (first | exact Mine.ar12 hhi hvl (by assumption) | omega)) (by (first | exact Mine.ar13 hk7 hvl | omega)) ?_
        intro h5 F5 N5
        k_steps
        refine hret _ _ _ _ _ ⟨rfl, _, _, rfl, ?_⟩ hg (by assumption) (by assumption)
        have ej : j = 1 := by (first | exact Mine.ar14 hj (by assumption) | omega)
        have hx2 : x < 2 := by have := hxj'.out; rw [ej] at this; exact this
        rw [ej, bitsOf_one hx2, show Hi = Lo + 1 by (first | exact Mine.ar15 (by assumption) | omega)]
        have := IntsAre.set hvs Lo x v2
        have e9 : ds.set Lo (x : Int) = ds.take Lo ++ (x : Int) :: ds.drop (Lo + 1) := by
          rw [List.set_eq_take_append_cons_drop, if_pos (by (first | exact Mine.ar12 hhi hds (by assumption) | omega))]
        rw [e9] at this
        simpa using this
      · have hM : ((Lo : Int) + (Hi : Int)).fdiv (2 ^ Int.toNat 1) = (((Lo + Hi) / 2 : Nat) : Int) := by
          have e : ((Lo : Int) + (Hi : Int)).fdiv 2 = (((Lo + Hi) / 2 : Nat) : Int) := by
            rw [Int.fdiv_eq_ediv_of_nonneg _ (by omega)]; (first | exact Mine.ar16 | omega)
          exact e
        k_steps
        all_goals try (exfalso; (first | exact Mine.ar17 h1 (by assumption) | omega))
        refine ⟨?_⟩
        rename Fr g2 _ _ _ => F5
        rename News g2 _ _ _ => N5
        rw [hM] at F5 ⊢
        clear hM
        have hM1 : Lo < (Lo + Hi) / 2 := by (first | exact Mine.ar18 hlt (by assumption) | omega)
        have hM2 : (Lo + Hi) / 2 < Hi := by (first | exact Mine.ar19 hM1 | omega)
        generalize (Lo + Hi) / 2 = M at hM1 hM2 F5 ⊢
        have hsh : (((M : Int) - (Lo : Int)) * 1).toNat = M - Lo := by (first | exact Mine.ar20 | omega)
        have hup := up_eq x (M - Lo)
        have hupB : x / 2 ^ (M - Lo) < 128 := Nat.lt_of_le_of_lt (Nat.div_le_self ..) hxB'.out
        have hxor := xor_low hxB'.out (show M - Lo < 8 by (first | exact Mine.ar21 hk7 hhi hM2 | omega))
        have hlow : x % 2 ^ (M - Lo) < 2 ^ (M - Lo) := Nat.mod_lt _ (Nat.pow_pos (by decide))
        have hupp : x / 2 ^ (M - Lo) < 2 ^ (Hi - M) := by
          have := hxj'.out
          rw [← hj, show Hi - Lo = (M - Lo) + (Hi - M) by (first | exact Mine.ar22 hM1 hM2 | omega), Nat.pow_add] at this
          exact Nat.div_lt_of_lt_mul this
        have hbs : bitsOf j x = bitsOf (M - Lo) (x % 2 ^ (M - Lo)) ++ bitsOf (Hi - M) (x / 2 ^ (M - Lo)) := by
          rw [← bitsOf_split, show M - Lo + (Hi - M) = j by (first | exact Mine.ar23 hj hM1 hM2 | omega)]
        rw [hsh, hup] at F5 ⊢
        generalize x / 2 ^ (M - Lo) = U at F5 hupB hxor hbs hupp ⊢
        generalize x % 2 ^ (M - Lo) = W0 at hxor hbs hlow
        refine lshift_int_small (by (first | exact Mine.ar24 hM1 | omega)) (by (first | exact Mine.ar25 hk7 hhi hM2 | omega)) (by omega) ?_
        k_steps
        all_goals try (exfalso; omega)
        refine ⟨?_⟩
        rename Fr g2 _ _ _ => F6
        rename News g2 _ _ _ => N6
        rw [hsh, hxor] at F6 ⊢
        refine Ct.app (ih'.out (M - Lo) (by (first | exact Mine.ar27 hj hM1 hM2 | omega)) Lo M W0 rfl hM1 (by (first | exact Mine.ar28 hhi hM2 | omega)) hlow fix ds vs n₁ _ _ _ hsub0.out hfix'.out hvs hds) rfl B2 F6 X2 N6 T2 rfl (by first | exact Mine.rm 0 hdp rfl (by decide) | exact Mine.rm 1 hdp rfl (by decide) | exact Mine.rm 0 hdp rfl (Mine.rm5 (Mine.ar27 hj hM1 hM2)) | ktr_room) (by first | exact Mine.um 0 hun rfl (by decide) | exact Mine.um 3 hun rfl (by decide) | exact Mine.um 1 hun rfl (by decide) | exact Mine.um 4 hun rfl (by decide) | exact Mine.um 0 hun rfl (Mine.um5 (Mine.ar27 hj hM1 hM2)) | ktr_units) (by exact hg) ?_
        rintro v nn3 h3 tk3 g3 ⟨rfl, vs3, n3, e3, hv3⟩ hg3 F3 N3
        rw [e3] at N3
        clear e3
        have hmF3 := mem_swap hmF nf1 (W.listOf vs3.toArray n3)
        have hmC3 := mem_swap hmC nf2 (W.listOf vs3.toArray n3)
        have hmI3 := mem_swap hmI nf3 (W.listOf vs3.toArray n3)
        have hmA3 := mem_swap hmA nf4 (W.listOf vs3.toArray n3)
        have hmN3 := mem_swap hmN nf5 (W.listOf vs3.toArray n3)
        have hb3 := bitsOf_length (M - Lo) W0
        k_steps
        all_goals try (exfalso; omega)
        refine ⟨?_⟩
        rename Fr g2 _ _ _ => F7
        rename News g2 _ _ _ => N7
        refine Ct.app (ih'.out (Hi - M) (by (first | exact Mine.ar29 hj hM1 hM2 | omega)) M Hi U rfl hM2 hhi hupp fix _ vs3 n3 _ _ _ hsub0.out hfix'.out hv3 (by simp only [List.length_append, List.length_take, List.length_drop, hb3, hds]; (first | exact Mine.ar30 hhi hM1 hM2 | omega))) rfl B2 F7 X2 N7 T2 rfl (by first | exact Mine.rm 0 hdp rfl (by decide) | exact Mine.rm 1 hdp rfl (by decide) | exact Mine.rm 0 hdp rfl (Mine.rm5 (Mine.ar29 hj hM1 hM2)) | ktr_room) (by first | exact Mine.um 0 hun rfl (by decide) | exact Mine.um 3 hun rfl (by decide) | exact Mine.um 1 hun rfl (by decide) | exact Mine.um 4 hun rfl (by decide) | exact Mine.um 0 hun rfl (Mine.um5 (Mine.ar29 hj hM1 hM2)) | ktr_units) (by exact hg3) ?_
        rintro v nn4 h4 tk4 g4 ⟨rfl, vs4, n4, e4, hv4⟩ hg4 F8 N8
        rw [e4] at N8
        clear e4
        k_steps
        refine hret _ _ _ _ _ ⟨rfl, vs4, n4, rfl, ?_⟩ hg4 (by assumption) (by assumption)
        rw [hbs]
        have hA : (ds.take Lo ++ bitsOf (M - Lo) W0).length = M := by
          rw [List.length_append, List.length_take, hb3, hds]; (first | exact Mine.ar31 hhi hM1 hM2 | omega)
        rw [List.take_append_of_le_length (by (first | exact Mine.ar32 hA | omega)), List.take_of_length_le (by (first | exact Mine.ar33 hA | omega)), List.drop_append, hA, List.drop_eq_nil_of_le (by (first | exact Mine.ar34 hM2 hA | omega)), List.nil_append, List.drop_drop, show M + (Hi - M) = Hi by (first | exact Mine.ar35 hM2 | omega)] at hv4
        rw [← List.append_assoc]
        exact hv4
  have hmem : ∀ p ∈ nf, p.1 ≠ al → p ∈ nf.filter fun p => decide (p.1 ≠ al) := fun p hp hne => List.mem_filter.mpr ⟨hp, decide_eq_true hne⟩
  have hmem2 : ∀ p ∈ nf.filter (fun p => decide (p.1 ≠ al)), p.1 ≠ al := fun p hp => of_decide_eq_true (List.mem_filter.mp hp).2
  have hin : (al, W.listOf zs.toArray 0) ∈ nf := by
    rw [hnf]
    exact .tail _ (.head _)
  have NL2 := cb_drop (news := (al, W.listOf zs.toArray 0) :: nf.filter (fun p => decide (p.1 ≠ al))) (hnf ▸ NL) (by
    intro p hp
    rcases List.mem_cons.mp hp with rfl | hp
    · exact hin
    · exact (List.mem_filter.mp hp).1)
  refine Ct.app (key k 0 k x (by (first | exact Mine.ar36 | omega)) hk1 (Nat.le_refl _) hxk _ _ zs 0 _ _ _ hmem hmem2 hzs (by simp)) rfl B' FL X' NL2 T' rfl (by first | exact Mine.rm 0 hdp rfl (by decide) | exact Mine.rm 1 hdp rfl (by decide) | exact Mine.rm 0 hdp rfl (Mine.rm7 (by assumption)) | ktr_room) (by first | exact Mine.um 0 hun rfl (by decide) | exact Mine.um 3 hun rfl (by decide) | exact Mine.um 1 hun rfl (by decide) | exact Mine.um 4 hun rfl (by decide) | exact Mine.um 0 hun rfl (Mine.um7 (by assumption)) | ktr_units) (by exact hg) ?_
  rintro v nn3 h3 tk3 g3 ⟨rfl, vs3, n3, e3, hv3⟩ hg3 F3 N3
  rw [e3] at N3
  clear e3
  have hv3 : IntsAre vs3 (bitsOf k x) := by simpa using hv3
  have mC : (c1, oc1) ∈ nf := by
    rw [hnf]
    exact .tail _ (.tail _ (.tail _ (.tail _ (.tail _ (.head _)))))
  have mT : (16, tabObj (tab16 c1)) ∈ nf := by
    rw [hnf]
    exact .tail _ (.tail _ (.tail _ (.tail _ (.tail _ (.tail _ (.head _))))))
  have mR : ∀ p ∈ rest, p ∈ nf := by
    rw [hnf]
    exact fun p hp => .tail _ (.tail _ (.tail _ (.tail _ (.tail _ (.tail _ (.tail _ hp))))))
  obtain ⟨oA, dA2, m3⟩ : ∃ oA, PySem.Obj.data oA = Data.cell (some (Value.ref al)) ∧ (L' + 1 + 1, oA) ∈ nf := ⟨_, dA, by
    rw [hnf]
    exact .tail _ (.tail _ (.tail _ (.head _)))⟩
  have m4 := List.mem_cons_of_mem (al, W.listOf vs3.toArray n3) (hmem _ m3 (Nat.ne_of_lt (by (first | exact l4.2.2.1 | omega))))
  clear m3 dA
  clear hnf
  k_steps
  · refine hret _ _ _ _ _ ⟨al, vs3, n3, rfl, rfl, hv3, hla.out⟩ hg3 (by assumption) (cb_drop (by assumption) fun p hp => ?_)
    rcases List.mem_cons.mp hp with rfl | hp
    · exact .head _
    rcases List.mem_cons.mp hp with rfl | hp
    · exact .tail _ (hmem _ mC (Nat.ne_of_lt (by (first | exact l4.2.2.2.2.1 | omega))))
    rcases List.mem_cons.mp hp with rfl | hp
    · exact .tail _ (hmem _ mT (Nat.ne_of_lt (by (first | exact l4.2.2.2.2.2.1 | omega))))
    · exact .tail _ (hmem _ (mR p hp) (Nat.ne_of_lt (hla.out p (.tail _ (.tail _ hp)))))

end
end Mine
end

-- part G0
section
open PySem PySem.W PyProof.Rows PySem.W.X
set_option maxRecDepth 100000
set_option maxHeartbeats 8000000
namespace Mine

section
variable {prog : Program} {w : World} {A : Around} {c : Code} {fs : List Frame} {s : Shared} {P : End → Shared → Prop} {env : Env}

theorem sx_wrap {α : Type} {m : Sem α} {K : α → Sem Fin} {H : Value → Sem Fin} {gd lv}
    (h : wpAny (model prog w) (A.over c fs) m (fun a s' => SegX (model prog w) A c (K a) fs s' P) (fun x s' => SegX (model prog w) A c (H x) fs s' P) s) :
    SegX (model prog w) A c (m.wrap K H gd lv) fs s P := by
  rintro Γ p rfl hΓ
  obtain ⟨e, s', hr, hq⟩ := runs_wrap_of_wp (Φ := fun e s' => e.quiet = true ∧ P e s') K H gd lv m (h (Γ.over fs) p (hΓ.over fs)) (fun a p' s' h' => h' Γ p' rfl hΓ) (fun x p' s' h' => h' Γ p' rfl hΓ)
  exact ⟨e, s', hr, hq⟩
theorem sx_bind {α β : Type} {m : Sem α} {f : α → Sem β} {K : β → Sem Fin} {H : Value → Sem Fin} {gd lv}
    (h : wpAny (model prog w) (A.over c fs) m (fun a s' => SegX (model prog w) A c ((f a).wrap K H gd lv) fs s' P) (fun x s' => SegX (model prog w) A c (H x) fs s' P) s) :
    SegX (model prog w) A c ((m >>= f).wrap K H gd lv) fs s P := by
  rw [Sem.bind_eq_wrap', Sem.wrap_wrap]; exact sx_wrap h
section
variable {K : Flow → Sem Fin} {H : Value → Sem Fin} {gd : Bool → Bool} {lv : List Value → List Value}
theorem sx_cons {st : Stmt} {rest : List Stmt}
    (h : SegX (model prog w) A c ((exec st env).wrap (fun f => match f with | .next => (execs rest env).wrap K H gd lv | f => K f) H gd lv) fs s P) :
    SegX (model prog w) A c ((execs (st :: rest) env).wrap K H gd lv) fs s P := by rw [execs_cons_wrap]; exact h
theorem sx_nil (h : SegX (model prog w) A c (K .next) fs s P) : SegX (model prog w) A c ((execs [] env).wrap K H gd lv) fs s P := h
/-- a statement without a yield, not the last -/
theorem sx_stmt {st : Stmt} {rest : List Stmt}
    (h : wpAny (model prog w) (A.over c fs) (exec st env) (fun f s' => match f with | .next => SegX (model prog w) A c ((execs rest env).wrap K H gd lv) fs s' P | _ => False) (fun _ _ => False) s) :
    SegX (model prog w) A c ((execs (st :: rest) env).wrap K H gd lv) fs s P := by
  refine sx_cons (sx_wrap (wpAny_mono h (fun f s' h' => ?_) fun _ _ h' => h'.elim))
  cases f with
  | next => exact h'
  | _ => exact h'.elim
theorem sx_If {test : Expr} {body orelse : List Stmt} {pos : Pos}
    (h : wpAny (model prog w) (A.over c fs) (isTrue test env (eval test env)) (fun b s' => SegX (model prog w) A c ((execs (if b = true then body else orelse) env).wrap K H gd lv) fs s' P) (fun _ _ => False) s) :
    SegX (model prog w) A c ((exec (.If test body orelse pos) env).wrap K H gd lv) fs s P := by
  show SegX _ A c ((standAt pos >>= fun _ => isTrue test env (eval test env) >>= fun b => if b = true then execs body env else execs orelse env).wrap K H gd lv) fs s P
  refine sx_bind (wpAny_standAt (sx_bind (wpAny_mono h (fun b s' h' => ?_) fun _ _ h' => h'.elim)))
  cases b with
  | true => exact h'
  | false => exact h'
theorem sx_yield {e : Expr} {ypos pos : Pos} (hfs : splitAtGen fs = none) (hgd : gd false = false) (hfg : fs.any Frame.guarded = false)
    (h : wpAny (model prog w) (A.over c fs) (eval e env) (fun v s' => ∀ k l p, (∀ A' s'' P', SegX (model prog w) A' c (K .next) fs s'' P' → SegX (model prog w) A' c (k (.send .none)) fs s'' P') →
        P (.susp v false l k c p fs) s') (fun _ _ => False) s) (hco : env.scope.isCoroutine = false := by rfl) (hi : interactive env = false := by rfl) :
    SegX (model prog w) A c ((exec (.Expr (.Yield (some e) ypos) pos) env).wrap K H gd lv) fs s P := by
  rw [exec_Expr env _ pos hi rfl]
  have hy : ∀ v, yieldOut env v = yieldValue v := fun v => by simp only [yieldOut, hco, Bool.false_eq_true, if_false]
  show SegX _ A c ((standAt pos >>= fun _ => ((eval e env >>= fun v => (standAt ypos >>= fun _ => yieldOut env v)) >>= fun x =>
    dropValue (.Yield (some e) ypos) pos x)).wrap K H gd lv) fs s P
  simp only [hy]
  refine sx_bind (wpAny_standAt ?_)
  rw [Sem.bind_eq_wrap', Sem.bind_eq_wrap', Sem.wrap_wrap, Sem.wrap_wrap]
  refine sx_wrap (wpAny_mono h (fun v s' h' => ?_) fun _ _ x => x.elim)
  refine s_skim prog w A c fs P s' _ 1 ?_
  show SegX _ A c (.yield v (gd false) _ _) fs s' P
  rw [hgd]
  exact s_yield prog w A c fs P s' v _ _ hfs hfg (fun p => h' _ _ p fun A' s'' P' x => x)
theorem sx_runOwn {cd : Code} (h : ∀ p k, k (.ok .next) = K .next → SegX (model prog w) A cd (denote table cd) (.ret k none (gd false) (lv []) c p [] :: fs) s P) :
    SegX (model prog w) A c ((runOwn cd env).wrap K H gd lv) fs s P :=
  s_call prog w A c fs P s cd none (gd false) (lv []) _ fun p => h p _ rfl
end
theorem sx_forLoop {target it body}
    (h : wpAny (model prog w) (A.over (.forLoop target it body [] env) fs) (pyNext it) (fun r s₁ => match r with
      | none => SegX (model prog w) A (.block [] env) (denote table (.block [] env)) fs s₁ P
      | some v => wpAny (model prog w) (A.over (.forLoop target it body [] env) fs) (letOwnedTupleGo target it v) (fun _ s₂ => wpAny (model prog w) (A.over (.forLoop target it body [] env) fs) (assign target env v) (fun _ s₃ =>
          ∀ H, SegX (model prog w) A (.forLoop target it body [] env) ((execs body env).wrap (fun f => match f with
            | .next | .cont => .pure (.again (.forLoop target it body [] env))
            | .brk => .pure (.done .next)
            | .ret v => .pure (.done (.ret v))) H id id) fs s₃ P) (fun _ _ => False) s₂) (fun _ _ => False) s₁) (fun _ _ => False) s) :
    SegX (model prog w) A (.forLoop target it body [] env) (denote table (.forLoop target it body [] env)) fs s P := by
  show SegX _ A _ ((forTurn target it body [] env).onRaise (fun x => do noteFrame x env; theTreesLotGoes x)) fs s P
  rw [Sem.onRaise_eq_wrap]
  unfold forTurn
  refine sx_bind (wpAny_standAt (sx_bind (wpAny_onRaise (wpAny_mono h (fun r s₁ h₁ => ?_) fun _ _ h' => h'.elim))))
  cases r with
  | none => exact s_again prog w A _ fs P s₁ _ rfl h₁
  | some v =>
    refine sx_bind (wpAny_mono h₁ (fun _ s₂ h₂ => sx_bind (wpAny_mono h₂ (fun _ s₃ h₃ => ?_) fun _ _ h' => h'.elim)) fun _ _ h' => h'.elim)
    rw [Sem.bind_eq_wrap', Sem.wrap_wrap]
    rw [Sem.wrap_congr (execs body env) _ _ (K' := fun f => match f with
            | .next | .cont => .pure (.again (.forLoop target it body [] env))
            | .brk => .pure (.done .next)
            | .ret v => .pure (.done (.ret v))) (fun f => by cases f <;> rfl) (fun e => rfl)]
    exact h₃ _
theorem sx_func {body : List Stmt}
    (h : ∀ H, SegX (model prog w) A (.func body env) ((execs body env).wrap (fun f => .pure (.done (.ret (match f with | .ret v => v | _ => .none)))) H id id) fs s P) :
    SegX (model prog w) A (.func body env) (denote table (.func body env)) fs s P := by
  show SegX _ A (.func body env) (.point [] fun _ => ((execs body env).onRaise (leaving env)) >>= _) fs s P
  refine s_skim prog w A _ fs P s _ 1 ?_
  show SegX _ A (.func body env) (((execs body env).onRaise (leaving env)) >>= _) fs s P
  rw [Sem.onRaise_eq_wrap, Sem.bind_eq_wrap', Sem.wrap_wrap]
  rw [Sem.wrap_congr (execs body env) _ _ (K' := fun f => .pure (.done (.ret (match f with | .ret v => v | _ => .none)))) (fun f => by cases f <;> rfl) (fun e => rfl)]
  exact h _
end

/-- a generator, woken by next -/
noncomputable def Resumes (prog : Program) (w : World) (A : Around) (gs : GenState) (s : Shared) (P : End → Shared → Prop) : Prop :=
  match gs with
  | .fresh c => SegX (model prog w) A c (denote table c) [] s P
  | .suspended k _ c _ fs _ => SegX (model prog w) A c (k (.send .none)) fs s P
  | _ => False

section
variable {prog : Program} {w : World} {A : Around} {E : Value → Shared → Prop} {s : Shared}
theorem wp_resume {g : Nat} {gs : GenState} {P : End → Shared → Prop} {l : List Value} {α : Type} {k : GenResult → Sem α} {Q : α → Shared → Prop} (hg : s.gens[g]? = some gs)
    (hgo : Resumes prog w A gs (s.setGen g .running) P)
    (hP : ∀ e s₁, e.quiet = true → P e s₁ → wpAny (model prog w) A (k e.result) Q E (s₁.setGen g e.genState)) :
    wpAny (model prog w) A (.resume g (.send .none) l k) Q E s := by
  intro Γ p hΓ
  rw [Sem.wp_resume]
  cases gs with
  | fresh c =>
    obtain ⟨e₁, s₁, hr, hq, he⟩ := hgo (Γ.wake c p) p rfl (hΓ.wake c p)
    exact ⟨_, _, by unfold Wakes; rw [hg]; exact ⟨e₁, s₁, hr, hq, rfl, rfl⟩, hP e₁ s₁ hq he Γ p hΓ⟩
  | suspended k₀ l₀ c₀ p₀ fs₀ cl =>
    obtain ⟨e₁, s₁, hr, hq, he⟩ := hgo (Γ.wake c₀ p) p₀ rfl (hΓ.wake c₀ p)
    exact ⟨_, _, by unfold Wakes; rw [hg]; exact ⟨e₁, s₁, hr, hq, rfl, rfl⟩, hP e₁ s₁ hq he Γ p hΓ⟩
  | running => exact hgo.elim
  | finished => exact hgo.elim

theorem next_gen {a : Addr} {g : Nat} {gs : GenState} {P : End → Shared → Prop} {Q : Option Value → Shared → Prop} (hh : A.handled = none)
    (hl : s.heap.NoLimit) (hroom : A.depth < recursionLimit)
    (hg : s.heap.IsGen a g) (hgs : s.gens[g]? = some gs)
    (hgo : Resumes prog w A.in1 gs (s.setGen g .running) P)
    (hP : ∀ e s₁, e.quiet = true → P e s₁ → match e with
      | .susp v _ _ _ _ _ _ => Q (some v) (s₁.setGen g e.genState)
      | .ret r => r = .ok (.ret .none) ∧ ∀ h', (∀ b o, s₁.heap.get? b = some o → h'.get? b = some o) → Q none { s₁.setGen g .finished with heap := h' }) :
    wpAny (model prog w) A (pyNext (.ref a)) Q E s := by
  unfold pyNext
  refine wpAny_bind (wpAny_attempt (wpAny_callSpecial?_slot (name := Str.ofString "__next__") hg.typeIs slot_gen_next
    (wpAny_call_entry slot_gen_next hg.typeIs entry_gen_next ?_ (args_gen_next _))))
  show wpAny _ _ (Builtin.Generator.genWake (.ref a) (.send .none)) _ _ s
  unfold Builtin.Generator.genWake
  refine wpAny_bind (wpAny_holding (wpAny_genNumber hg (wpAny_bind (wpAny_genState hgs ?_))))
  cases gs with
  | running => exact hgo.elim
  | finished => exact hgo.elim
  | _ =>
    refine wpAny_bind (wpAny_roomToWake hl hroom ?_)
    show wpAny _ _ (.resume g (.send .none) [] _) _ _ s
    refine wp_resume hgs hgo fun e s₁ hq hx => ?_
    have hx := hP e s₁ hq hx
    cases e with
    | ret x =>
      obtain ⟨rfl, hp⟩ := hx
      show wpAny _ _ (newExc (.type "StopIteration") [] >>= _) _ _ _
      refine wpAny_bind ?_
      simp only [newExc, newTuple]
      refine wpAny_bind (wpAny_newObj_type ?_ (by size_fits))
      refine wpAny_bind (m := firstArgMember _ _) (wpAny_of_eq (a := Value.none) (by first | rfl | (simp only [firstArgMember]; rfl)) ?_)
      refine wpAny_newObj_type ?_ (by size_fits)
      simp only [raiseNew]
      refine wpAny_bind (wpAny_bind (wpAny_handled ?_))
      rw [show A.in1.handled = none from hh]
      refine wpAny_throw ?_
      refine wpAny_bind (wpAny_isInstance (T := "StopIteration") (b := true) ⟨_, Heap.get?_push_size _ rfl, rfl⟩ isSubtype_stop ?_)
      exact wpAny_pure (hp _ fun b o hb => Heap.get?_push_of_some _ (Heap.get?_push_of_some _ hb))
    | susp v g₀ l₀ k₀ c₀ p₀ fs₀ => exact wpAny_pure ⟨v, rfl, wpAny_pure hx⟩
end
end Mine
end

-- part G1
section
open PySem PySem.W PyProof.Rows PySem.W.X
set_option maxRecDepth 100000
set_option maxHeartbeats 8000000
namespace Mine
theorem news_keep {h₀ h h' : Heap} {C : Addr} {Nw : List (Addr × Obj)} (N : News h₀ C h Nw) (hk : ∀ p ∈ Nw, h.get? p.1 = some p.2 → h'.get? p.1 = some p.2) : News h₀ C h' Nw :=
  fun p hp => ⟨hk p hp (N p hp).1, (N p hp).2⟩
section
variable {prog : Program} {w : World} {A : Around} {fs : List Frame} {s : Shared} {P : End → Shared → Prop}
theorem draws_str (hh : A.handled = none) (it : Addr) (x : Str) (t : Tok) :
    Draws prog w A it [it] x.cps.size (fun i v => ∃ c u, x.cps[i]? = some c ∧ v = .str ⟨#[c]⟩ u) (fun i h => h.IsStrIter it (strIterType x) x t i) := by
  unfold strIterType
  split
  · exact Draws.strAscii hh it x t
  · exact Draws.strWide hh it x t

structure EnumSt (h₀ : Heap) (C en it : Addr) (x : Str) (t : Tok) (i : Nat) (Nw : List (Addr × Obj)) (m : Str → Option Value) (h : Heap) : Prop where
  F : Fr h₀ C h m
  he : ∃ old, IsEnum h en it i old
  hi : h.IsStrIter it (strIterType x) x t i
  N : News h₀ C h Nw
  hen : ∀ p ∈ Nw, p.1 ≠ en
  hit : ∀ p ∈ Nw, p.1 ≠ it
  ne : en ≠ it
  neC : en ≠ C
  niC : it ≠ C
  fe : h₀.get? en = none
  fi : h₀.get? it = none

theorem esc_stop {target : Expr} {body : List Stmt} {env : Env} {h₀ : Heap} {C en it : Addr} {x : Str} {t : Tok} {i : Nat} {Nw : List (Addr × Obj)} {m : Str → Option Value}
    (hh : (A.over (.forLoop target (.ref en) body [] env) fs).handled = none) (S : EnumSt h₀ C en it x t i Nw m s.heap) (hx : i = x.cps.size)
    (k : ∀ h', Fr h₀ C h' m → News h₀ C h' Nw → SegX (model prog w) A (.block [] env) (denote table (.block [] env)) fs { s with heap := h' } P) :
    SegX (model prog w) A (.forLoop target (.ref en) body [] env) (denote table (.forLoop target (.ref en) body [] env)) fs s P := by
  obtain ⟨old, he⟩ := S.he
  refine sx_forLoop (wpAny_pyNext_enum_endD (draws_str (A := (A.over (.forLoop target (.ref en) body [] env) fs).in1) hh it x t) he (hx ▸ S.hi) fun h' hk => ?_)
  refine k h' ⟨S.F.ns.at fun o e => hk _ o (Ne.symm S.niC) e, fun b o e => hk b o (fun hb => ?_) (S.F.keep b o e), S.F.above⟩ (news_keep S.N fun p hp e => hk _ _ (S.hit p hp) e)
  rw [hb, S.fi] at e
  cases e

theorem esc_turn {xi xv : Str} {pi pv pt : Pos} {x1 : Nat} {body : List Stmt} {nm : Str} {sc : Scope} {a : Addr} {ccd : Value} {h₀ : Heap} {C en it : Addr} {x : Str} {t : Tok} {i c : Nat} {Nw : List (Addr × Obj)} {m : Str → Option Value}
    (hh : (A.over (.forLoop (.Tuple [.Name xi pi, .Name xv pv] x1 pt) (.ref en) body [] (envOf nm sc C a ccd)) fs).handled = none) (S : EnumSt h₀ C en it x t i Nw m s.heap) (hx : x.cps[i]? = some c)
    (hk : sc.kind = .function) (hxi : (envOf nm sc C a ccd).kindOf xi = some .local) (hxv : (envOf nm sc C a ccd).kindOf xv = some .local)
    (k : ∀ h' tk t1 t2, EnumSt h₀ C en it x t (i + 1) Nw (fun y => if y = xv then some (.str ⟨#[c]⟩ t2) else if y = xi then some (.int i t1) else m y) h' →
      ∀ H, SegX (model prog w) A (.forLoop (.Tuple [.Name xi pi, .Name xv pv] x1 pt) (.ref en) body [] (envOf nm sc C a ccd)) ((execs body (envOf nm sc C a ccd)).wrap (fun f => match f with
            | .next | .cont => .pure (.again (.forLoop (.Tuple [.Name xi pi, .Name xv pv] x1 pt) (.ref en) body [] (envOf nm sc C a ccd)))
            | .brk => .pure (.done .next)
            | .ret v => .pure (.done (.ret v))) H id id) fs { s with heap := h', toks := tk } P) :
    SegX (model prog w) A (.forLoop (.Tuple [.Name xi pi, .Name xv pv] x1 pt) (.ref en) body [] (envOf nm sc C a ccd)) (denote table (.forLoop (.Tuple [.Name xi pi, .Name xv pv] x1 pt) (.ref en) body [] (envOf nm sc C a ccd))) fs s P := by
  obtain ⟨hp0, g, d, tk, os⟩ := s
  obtain ⟨F, ⟨old, he⟩, hi, N, hen, hit, ne, neC, niC, fe, fi⟩ := S
  have hlt : i < x.cps.size := (Array.getElem?_eq_some_iff.mp hx).1
  have heH : en < hp0.objs.size := Heap.lt_size he
  have hCH : C < hp0.objs.size := F.ns.lt
  have hpos : ((envOf nm sc C a ccd).scope.kind == .class || ((envOf nm sc C a ccd).scope.kind == .module && (envOf nm sc C a ccd).locals != (envOf nm sc C a ccd).globals)) = false := by
    show (sc.kind == .class || (sc.kind == .module && C != mainGlobals)) = false
    rw [hk]; rfl
  refine sx_forLoop (wpAny_pyNext_enum_itemD (draws_str (A := (A.over (.forLoop (.Tuple [.Name xi pi, .Name xv pv] x1 pt) (.ref en) body [] (envOf nm sc C a ccd)) fs).in1) hh it x t) he hi hlt ne (by simpa using ne) fun v h₁ tk₁ hv heo hit₁ ht₁ hz₁ hk₁ => ?_)
  obtain ⟨c', u, hc', rfl⟩ := hv
  rw [hx] at hc'
  cases hc'
  refine wpAny_letOwnedTupleGo_enum heo fun h₂ he₂ hs₂ => ?_
  replace hs₂ : Heap.SameBut en h₁ h₂ := hs₂
  have ht₂ : h₂.IsTuple hp0.objs.size #[.int i tk₁, .str ⟨#[c]⟩ u] := ⟨_, (hs₂.2 _ (Nat.ne_of_gt heH)).trans ht₁, rfl, _, rfl⟩
  have hz₂ : h₂.objs.size = hp0.objs.size + 1 := hs₂.1.trans hz₁
  refine wpAny_assign_Tuple hh ht₂ rfl rfl fun h₃ hx₃ => ?_
  replace hx₃ : Heap.ExtBut h₂.objs.size h₂ h₃ := hx₃
  have old₃ : ∀ b o, b < hp0.objs.size → h₂.get? b = some o → h₃.get? b = some o := fun b o hb e => hx₃ b o (by rw [hz₂]; exact Nat.ne_of_lt (Nat.lt_succ_of_lt hb)) e
  have hn₃ : h₃.Ns C m := (F.ns.at fun o e => hk₁ _ o (Ne.symm neC) (Ne.symm niC) e).sameBut hs₂ (Ne.symm neC) |>.at fun o e => old₃ _ o hCH e
  show wpAny _ _ (do holding [Value.str ⟨#[c]⟩ u] (assign (.Name xi pi) (envOf nm sc C a ccd) (.int i tk₁)); do holding [] (assign (.Name xv pv) (envOf nm sc C a ccd) (.str ⟨#[c]⟩ u)); pure ()) _ _ _
  refine wpAny_bind (wpAny_holding (wpAny_assign_Name (wpAny_storeName_local hxi hn₃ (fun h₄ hn₄ hs₄ => ?_) hpos)))
  replace hs₄ : Heap.SameBut C h₃ h₄ := hs₄
  refine wpAny_bind (wpAny_holding (wpAny_assign_Name (wpAny_storeName_local hxv hn₄ (fun h₅ hn₅ hs₅ => wpAny_pure ?_) hpos)))
  replace hs₅ : Heap.SameBut C h₄ h₅ := hs₅
  have up5 : ∀ b o, b ≠ C → b < hp0.objs.size → h₂.get? b = some o → h₅.get? b = some o := fun b o hb hlt e =>
    hs₅.extBut b o hb (hs₄.extBut b o hb (old₃ b o hlt e))
  have up : ∀ b o, b ≠ C → b ≠ en → b ≠ it → hp0.get? b = some o → h₅.get? b = some o := fun b o h1 h2 h3 e =>
    up5 b o h1 (Heap.lt_size e) (hs₂.extBut b o h2 (hk₁ b o h2 h3 e))
  obtain ⟨oi, hoi, hci, hdi⟩ := hit₁
  have hiH : it < hp0.objs.size := by obtain ⟨oi, hoi, _⟩ := hi; exact Heap.lt_size hoi
  refine k h₅ _ _ _ ⟨⟨hn₅, fun b o e => ?_, F.above⟩, ⟨Value.str ⟨#[c]⟩ u, ?_⟩, ⟨oi, ?_, hci, hdi⟩, news_keep N fun p hp e => up _ _ (N p hp).2.1 (hen p hp) (hit p hp) e, hen, hit, ne, neC, niC, fe, fi⟩
  · refine up b o (fun hb => ?_) (fun hb => ?_) (fun hb => ?_) (F.keep b o e)
    · rw [hb] at e
      exact absurd (Nat.lt_of_lt_of_le (Heap.lt_size e) F.above) (Nat.lt_irrefl _)
    · rw [hb, fe] at e; cases e
    · rw [hb, fi] at e; cases e
  · have : ((i + 1 : Nat) : Int) = (i : Int) + 1 := by push_cast; rfl
    rw [this]
    exact up5 _ _ neC heH he₂
  · exact up5 _ _ niC hiH (hs₂.extBut _ _ (Ne.symm ne) hoi)
end
end Mine
end

-- part G2
section
open PySem PySem.W PyProof.Rows PySem.W.X
set_option maxRecDepth 100000
set_option maxHeartbeats 8000000
namespace Mine

abbrev enO (it : Addr) (i : Int) (old : Value) : Obj := { cls := .type "enumerate", dict := none, data := .fields #[.none, .bool false, .ref it, rawInt i, .none, old], slots := #[] }
abbrev evT (i : Nat) (tk : Tok) (x : Str) (tk' : Tok) : Obj := { cls := .type "tuple", data := .seq #[.int i tk, .str x tk'] }
abbrev genO (g : Nat) (nm qn : Value) : Obj := { cls := .type "generator", data := .fields #[.int g 0, nm, qn] }
/-- what a turn of a generator leaves -/
structure Same (h₀ : Heap) (C : Addr) (s : Shared) (Nw : List (Addr × Obj)) (s₁ : Shared) : Prop where
  gens : s₁.gens = s.gens
  os : s₁.os = s.os
  drawn : s₁.drawn = s.drawn
  keep : ∀ b o, h₀.get? b = some o → s₁.heap.get? b = some o
  news : News h₀ C s₁.heap Nw
structure Mine (h₀ : Heap) (R Nw : List (Addr × Obj)) (h : Heap) : Prop where
  at' : ∀ p ∈ R, h.get? p.1 = some p.2
  none : ∀ p ∈ R, h₀.get? p.1 = none
  ne : ∀ p ∈ Nw, ∀ q ∈ R, p.1 ≠ q.1
/-- what a generator still yields, its own objects being `R` -/
noncomputable def Ready (w : World) (h₀ : Heap) (C : Addr) : List (Nat × Str) → GenState → List (Addr × Obj) → Prop
  | [], gs, R => ∀ (A : Around) (s : Shared) (Nw : List (Addr × Obj)), A.handled = none → Mine h₀ R Nw s.heap → Same h₀ C s Nw s →
      Resumes PySem.Challenge.rw_to0007_01.row.prog w A gs s (fun e s₁ => Same h₀ C s Nw s₁ ∧ e = .ret (.ok (.ret .none)))
  | u :: us, gs, R => ∀ (A : Around) (s : Shared) (Nw : List (Addr × Obj)), A.handled = none → Mine h₀ R Nw s.heap → Same h₀ C s Nw s →
      Resumes PySem.Challenge.rw_to0007_01.row.prog w A gs s (fun e s₁ => ∃ T tk tk' R', Same h₀ C s ((T, evT u.1 tk u.2 tk') :: Nw) s₁ ∧ (∃ l k c p fs, e = .susp (.ref T) false l k c p fs) ∧ (∀ p ∈ Nw, p.1 < T) ∧ Mine h₀ R' ((T, evT u.1 tk u.2 tk') :: Nw) s₁.heap ∧ Ready w h₀ C us e.genState R')
noncomputable def Nxt (w : World) (h₀ : Heap) (C : Addr) (s : Shared) (Nw : List (Addr × Obj)) : List (Nat × Str) → End → Shared → Prop
  | [], e, s₁ => Same h₀ C s Nw s₁ ∧ e = .ret (.ok (.ret .none))
  | u :: us, e, s₁ => ∃ T tk tk' R', Same h₀ C s ((T, evT u.1 tk u.2 tk') :: Nw) s₁ ∧ (∃ l k c p fs, e = .susp (.ref T) false l k c p fs) ∧ (∀ p ∈ Nw, p.1 < T) ∧ Mine h₀ R' ((T, evT u.1 tk u.2 tk') :: Nw) s₁.heap ∧ Ready w h₀ C us e.genState R'
theorem ready_of {w : World} {h₀ : Heap} {C : Addr} {us : List (Nat × Str)} {gs : GenState} {R : List (Addr × Obj)}
    (h : ∀ (A : Around) (s : Shared) (Nw : List (Addr × Obj)), A.handled = none → Mine h₀ R Nw s.heap → Same h₀ C s Nw s → Resumes PySem.Challenge.rw_to0007_01.row.prog w A gs s (Nxt w h₀ C s Nw us)) : Ready w h₀ C us gs R := by
  cases us <;> exact h
/-- the escaped signs of a text, from place `i` on -/
noncomputable def evs : Nat → Bool → List Nat → List (Nat × Str)
  | i, true, [] => [(i - 1, Str.ofString "\\")]
  | _, false, [] => []
  | i, true, c :: r => (i, Str.ofString "\\" ++ ⟨#[c]⟩) :: evs (i + 1) false r
  | i, false, c :: r => if c = 92 then evs (i + 1) true r else (i, ⟨#[c]⟩) :: evs (i + 1) false r

theorem allLt_mem {d : Addr} {l : List (Addr × Obj)} (h : AllLt d l) : ∀ p ∈ l, p.1 < d := by
  induction l with
  | nil => intro p hp; cases hp
  | cons q r ih =>
    intro p hp
    rcases List.mem_cons.mp hp with rfl | hp
    · exact h.1
    · exact ih h.2 p hp
theorem seg_start {w : World} {A : Around} {c : Code} {fs : List Frame} {K : Flow → Sem PySem.Fin} {H : Value → Sem PySem.Fin} {target iter : Expr} {body : List Stmt} {pos : Pos} {env : Env} {s : Shared} {P : End → Shared → Prop}
    (h : wpAny (model PySem.Challenge.rw_to0007_01.row.prog w) (A.over c fs) (eval iter env) (fun x s₁ => wpAny (model PySem.Challenge.rw_to0007_01.row.prog w) (A.over c fs) (pyIter x) (fun it s₂ => ∀ p k, k (.ok .next) = K .next →
      SegX (model PySem.Challenge.rw_to0007_01.row.prog w) A (.forLoop target it body [] env) (denote table (.forLoop target it body [] env)) (.ret k none false [] c p [] :: fs) s₂ P) (fun _ _ => False) s₁) (fun _ _ => False) s)
    (hs : ∀ x, foldedSetIterable iter env x = pure x := by intro _; rfl) :
    SegX (model PySem.Challenge.rw_to0007_01.row.prog w) A c ((exec (.For target iter body [] pos) env).wrap K H id id) fs s P := by
  rw [exec_For]
  refine sx_bind (wpAny_standAt (sx_bind (wpAny_mono h (fun x s₁ h₁ => ?_) fun _ _ h' => h'.elim)))
  refine sx_bind (wpAny_of_eq (hs x) (sx_bind (wpAny_standAt (sx_bind (wpAny_holding (wpAny_mono h₁ (fun it s₂ h₂ => ?_) fun _ _ h' => h'.elim))))))
  exact sx_runOwn fun p k hk => h₂ p k hk

section
local macro_rules | `(tactic| walk_at "call type:enumerate") => `(tactic| refine Hold.out ?_)
local macro_rules | `(tactic| walk_at "call type:enumerate cons nil [str ]") => `(tactic| refine Hold.out ?_)
theorem esc_call (w : World) (p : Program) (loose : List Str) (mean : ExcName → Option Value) (mg mb : Str → Option Value) (x : Str) (t : Tok) (news : List (Addr × Obj)) :
  ∀ (dp un : Nat) (gd : Option (List Code)) (cn : Str) (cs : Scope) (a : Addr) (ccd : Value) (cl : List (Str × Addr)) (outer : List Env) (A₀ : Around) (base h₀ : Heap) (L : Addr) (m : Str → Option Value) (s : Shared) (Q : Value → Shared → Prop),
    Below A₀ base outer h₀ → Fr h₀ L s.heap m → (Mine.hd.heap_39 w.params).In h₀ → News h₀ L s.heap news → Top p loose mean mg mb h₀ → cs.kind = .function →
    dp + 1 < recursionLimit → AllBare s.gens →
    (∀ gn C h' tk' gs nm qn fo, AllBare (s.gens.push gs) → Ready w h₀ C (evs 0 false x.cps.toList) gs [(C, fo)] → (∀ p ∈ news, p.1 < C) → C < gn → Fr h₀ L h' m → News h₀ L h' ((gn, genO s.gens.size nm qn) :: (C, fo) :: news) →
      Q (.ref gn) { heap := h', gens := s.gens.push gs, drawn := s.drawn, toks := tk', os := s.os }) →
      wpAny (model PySem.Challenge.rw_to0007_01.row.prog w) (ktrTop dp un gd cn cs L a ccd cl outer) (call (.ref 42) [.str x t]) Q (fun _ _ => False) s := by
  k_fill
  intro dp un gd cn cs a ccd cl outer A₀ base h₀ L m s Q B F X N T hk hdp hg hret
  refine wpAny_call ?_
  have X1 := X.keeps F.keep
  refine codeAny_call_generator ?k1 (X1 42 _ rfl) rfl rfl rfl rfl (codeRec_of X1 ?k2) ?_
  case k1 => ktr_room
  case k2 => first | exact rfl | (dsimp only; k_is)
  refine (BindsTo.of_eq (binds := [(_, Value.str x t)]) rfl : BindsTo s _ _ _) _ _ _ _ ?_
  refine wpAny_newFunctionEnv ?k3 (locs rfl) (fun h₁ hns hsb => ?_) rfl
  case k3 => decide
  refine ⟨((T.nolimit).keeps F.keep).fresh _ hsb, ?_⟩
  have hLs : L < s.heap.objs.size := F.ns.lt
  have hz1 : h₁.objs.size = s.heap.objs.size + 1 := by rw [hsb.1, Heap.size_push]
  have hz0 : h₀.objs.size ≤ s.heap.objs.size := Nat.le_trans F.above (Nat.le_of_lt hLs)
  have up : ∀ b o, s.heap.get? b = some o → h₁.get? b = some o := fun b o e => hsb.extBut b o (Nat.ne_of_lt (Heap.lt_size e)) (Heap.get?_push_of_some _ e)
  obtain ⟨fo, es, ep, hfo, hfr⟩ := id hns
  have F1 : Fr h₀ s.heap.objs.size h₁ _ := ⟨hns, fun b o e => up b o (F.keep b o e), hz0⟩
  show Q (.ref h₁.objs.size) _
  dsimp only
  refine hret h₁.objs.size s.heap.objs.size _ _ _ (.str (Str.ofString "_iter_escaped_chars") (s.toks + 1)) (.str (Str.ofString "_iter_escaped_chars") (s.toks + 1 + 1)) fo (hg.push rfl) ?rdy (fun p hp => Heap.lt_size (N p hp).1) (by rw [hz1]; exact Nat.lt_succ_self _) ⟨?n1, ?n2, F.above⟩ ?n3
  case n3 =>
    intro q hq
    rcases List.mem_cons.mp hq with rfl | hq
    · exact ⟨Heap.get?_push_size h₁ rfl, Nat.ne_of_gt (by rw [hz1]; exact Nat.lt_succ_of_lt hLs), Heap.get?_none_of_le (by rw [hz1]; exact Nat.le_succ_of_le hz0)⟩
    rcases List.mem_cons.mp hq with rfl | hq
    · exact ⟨Heap.get?_push_of_some _ hfo, Nat.ne_of_gt hLs, Heap.get?_none_of_le hz0⟩
    · exact ⟨Heap.get?_push_of_some _ (up _ _ (N q hq).1), (N q hq).2⟩
  case n1 => exact F.ns.at fun o e => Heap.get?_push_of_some _ (up _ o e)
  case n2 => exact fun b o e => Heap.get?_push_of_some _ (up _ o (F.keep b o e))
  case rdy =>
  generalize s.heap.objs.size = C at *
  have hnsfo : ∀ h : Heap, h.get? C = some fo → h.Ns C (fun y => List.lookup y [(_, Value.str x t)].reverse) := fun h e => ⟨fo, es, ep, e, hfr⟩
  clear up F1 hfr hfo hsb hns hz1 hret hg B F N hLs
  refine ready_of fun A s Nw hh hR hS => ?_
  have F := (⟨hnsfo s.heap (hR.at' _ (.head _)), hS.keep, hz0⟩ : Fr h₀ C s.heap _)
  have N := hS.news
  have hNC : Hold (∀ p ∈ Nw, p.1 ≠ C) := ⟨fun p hp => (hS.news p hp).2.1⟩
  refine sx_func (env := envOf (Str.ofString "_iter_escaped_chars") _ C 42 (.ref 41)) fun H => ?_
  (try dsimp only [FuncData.name])
  refine sx_stmt ?_
  k_steps
  refine sx_stmt ?_
  k_steps
  refine sx_cons ?_
  refine seg_start ?_
  k_steps
  refine ⟨?_⟩
  rename Fr _ _ _ _ => F2
  rename News _ _ _ _ => N2
  refine call_enumerate_str fun h2 he2 hi2 hz2 hk2 => ?_
  refine wpAny_pyIter_enum he2 ?_
  intro p k hk
  have hs2 := Nat.le_trans F2.above (Nat.le_of_lt F2.ns.lt)
  have E0 := (⟨⟨F2.ns.at fun o e => hk2 _ o e, fun b o e => hk2 b o (F2.keep b o e), F2.above⟩, ⟨_, he2⟩, hi2, news_keep N2 fun p _ e => hk2 _ _ e,
    fun p hp => Nat.ne_of_lt (Nat.lt_succ_of_lt (Heap.lt_size (N2 p hp).1)), fun p hp => Nat.ne_of_lt (Heap.lt_size (N2 p hp).1), Nat.succ_ne_self _,
    Nat.ne_of_gt (Nat.lt_succ_of_lt F2.ns.lt), Nat.ne_of_gt F2.ns.lt, Heap.get?_none_of_le (Nat.le_succ_of_le hs2), Heap.get?_none_of_le hs2⟩ : EnumSt h₀ C _ _ x t 0 Nw _ h2)
  have S2 : ∀ (h : Heap) (tk : Nat), (∀ b o, h₀.get? b = some o → h.get? b = some o) → News h₀ C h Nw → Same h₀ C s Nw { heap := h, gens := s.gens, drawn := s.drawn, toks := tk, os := s.os } := fun h tk a b => ⟨rfl, rfl, rfl, a, b⟩
  dsimp only at E0 hk ⊢
  revert E0
  generalize Heap.objs _ = arr
  generalize arr.size = it
  generalize it + 1 = en
  intro E0
  generalize hl : x.cps.toList = l
  generalize hus : evs 0 false l = us
  generalize hst : ({ heap := h2, gens := s.gens, drawn := s.drawn, toks := _, os := s.os } : Shared) = s₂
  have hh2 : h2 = s₂.heap := by rw [← hst]
  have G1 : s₂.gens = s.gens ∧ s₂.os = s.os ∧ s₂.drawn = s.drawn := by rw [← hst]; exact ⟨rfl, rfl, rfl⟩
  rw [hh2] at E0
  obtain ⟨mm, i, esc, hi0, hd, hme, hmp, hus', E2⟩ : ∃ mm i esc, i ≤ x.cps.size ∧ x.cps.toList.drop i = l ∧ mm (Str.ofString "escape") = some (Value.bool esc) ∧ (∃ tkp, mm (Str.ofString "pos") = some (Value.int ((i - 1 : Nat) : Int) tkp)) ∧ us = evs i esc l ∧ EnumSt h₀ C en it x t i Nw mm s₂.heap :=
    ⟨_, 0, false, Nat.zero_le _, by rw [List.drop_zero, hl], rfl, ⟨_, rfl⟩, hus.symm, E0⟩
  clear hh2 E0 hst hus S2 hl hk2 hz2 hi2 he2 hs2 F2 N2 hR hS hnsfo
  induction l generalizing A s s₂ Nw mm i esc us with
  | nil =>
    have hi1 : i = x.cps.size := by
      have := congrArg List.length hd
      simp at this
      omega
    obtain ⟨tkp, hmp⟩ := hmp
    have hmm : mm = fun y => if y = Str.ofString "escape" then some (Value.bool esc) else if y = Str.ofString "pos" then some (Value.int ((i - 1 : Nat) : Int) tkp) else mm y := by
      funext y
      by_cases h1 : y = Str.ofString "escape"
      · rw [if_pos h1, h1]; exact hme
      · rw [if_neg h1]
        by_cases h2 : y = Str.ofString "pos"
        · rw [if_pos h2, h2]; exact hmp
        · rw [if_neg h2]
    refine esc_stop ?hh E2 hi1 fun h' F N => ?_
    case hh => exact hh
    refine s_pop _ w A _ [] _ _ (.ok .next) _ rfl k none false [] _ p [] ?_
    rw [hk]
    rw [hmm] at F
    clear hme hmp hmm E2
    refine sx_cons (sx_If ?_)
    cases esc with
    | false =>
      k_steps
      refine sx_nil (sx_nil (s_end _ w A _ _ _ (.ok (.ret .none)) _ rfl ?_))
      subst hus'
      exact ⟨⟨G1.1, G1.2.1, G1.2.2, Fr.keep (by assumption), by assumption⟩, rfl⟩
    | true =>
      k_steps
      refine sx_cons (sx_yield rfl rfl rfl ?_)
      k_steps
      rename_i D9 h9 F9 N9 l9 k9 ll9 p9 hk9
      subst hus'
      refine ⟨D9, _, _, [], ⟨G1.1, G1.2.1, G1.2.2, F9.keep, N9⟩, ⟨_, _, _, _, _, rfl⟩, l9, ⟨(fun _ h => nomatch h), (fun _ h => nomatch h), (fun _ _ _ h => nomatch h)⟩, ?_⟩
      refine ready_of fun A' s' Nw' hh' _ hS' => ?_
      show SegX _ _ _ (k9 (.send .none)) _ _ _
      refine hk9 _ _ _ ?_
      refine s_end _ w A' _ _ _ (.ok (.ret .none)) _ rfl ?_
      exact ⟨hS', rfl⟩
  | cons c r ih =>
    have hx : x.cps[i]? = some c := by
      have := congrArg (·[0]?) hd
      simpa using this
    have hsz : Hold (i + 1 ≤ x.cps.size) := ⟨(Array.getElem?_eq_some_iff.mp hx).1⟩
    have hdr : x.cps.toList.drop (i + 1) = r := by
      have := congrArg (List.drop 1) hd
      rw [List.drop_drop] at this
      exact this
    refine esc_turn ?hh E2 hx rfl rfl rfl fun h' tk t1 t2 E' H' => ?_
    case hh => exact hh
    have hmm : mm = fun y => if y = Str.ofString "escape" then some (Value.bool esc) else mm y := by
      funext y
      by_cases h1 : y = Str.ofString "escape"
      · rw [if_pos h1, h1]; exact hme
      · rw [if_neg h1]
    obtain ⟨F, ⟨old, he⟩, ⟨oi, hoi, hci, hdi⟩, N, hen, hit, hne, hneC, hniC, hfe, hfi⟩ := E'
    have N : News h₀ C h' ((en, enO it ((i + 1 : Nat) : Int) old) :: (it, oi) :: Nw) := by
      intro q hq
      rcases List.mem_cons.mp hq with rfl | hq
      · exact ⟨he, hneC, hfe⟩
      rcases List.mem_cons.mp hq with rfl | hq
      · exact ⟨hoi, hniC, hfi⟩
      · exact N q hq
    rw [hmm] at F
    clear hme hmm E2 he hoi
    refine sx_cons (sx_If ?_)
    cases esc with
    | true =>
      k_steps
      refine sx_cons (sx_yield rfl rfl rfl ?_)
      k_steps
      rename_i D9 h9 F9 N9 l9 k9 ll9 p9 hk9
      subst hus'
      obtain ⟨oC, esC, epC, hoC, rC⟩ := id F9.ns
      refine ⟨D9, _, _, [(C, oC), (en, enO it ((i + 1 : Nat) : Int) old), (it, oi)], ⟨G1.1, G1.2.1, G1.2.2, F9.keep, fun q hq => N9 q (by
        rcases List.mem_cons.mp hq with rfl | hq
        · exact .head _
        · exact .tail _ (.tail _ (.tail _ hq)))⟩, ⟨_, _, _, _, _, rfl⟩, allLt_mem l9.2.2, ⟨?m1, ?m2, ?m3⟩, ?rdy⟩
      case m1 =>
        intro q hq
        rcases List.mem_cons.mp hq with rfl | hq
        · exact hoC
        rcases List.mem_cons.mp hq with rfl | hq
        · exact (N9 _ (.tail _ (.head _))).1
        rcases List.mem_cons.mp hq with rfl | hq
        · exact (N9 _ (.tail _ (.tail _ (.head _)))).1
        · cases hq
      case m2 =>
        intro q hq
        rcases List.mem_cons.mp hq with rfl | hq
        · exact Heap.get?_none_of_le hz0
        rcases List.mem_cons.mp hq with rfl | hq
        · exact hfe
        rcases List.mem_cons.mp hq with rfl | hq
        · exact hfi
        · cases hq
      case m3 =>
        intro q hq q' hq'
        rcases List.mem_cons.mp hq' with rfl | hq'
        · rcases List.mem_cons.mp hq with rfl | hq
          · exact (N9 _ (.head _)).2.1
          · exact hNC.out q hq
        rcases List.mem_cons.mp hq' with rfl | hq'
        · rcases List.mem_cons.mp hq with rfl | hq
          · exact Nat.ne_of_gt l9.1
          · exact hen q hq
        rcases List.mem_cons.mp hq' with rfl | hq'
        · rcases List.mem_cons.mp hq with rfl | hq
          · exact Nat.ne_of_gt l9.2.1
          · exact hit q hq
        · cases hq'
      case rdy =>
        refine ready_of fun A' s' Nw' hh' hM hS' => ?_
        show SegX _ _ _ (k9 (.send .none)) _ _ _
        refine hk9 _ _ _ ?_
        have hNC' : Hold (∀ p ∈ Nw', p.1 ≠ C) := ⟨fun p hp => (hS'.news p hp).2.1⟩
        have hen' : Hold (∀ p ∈ Nw', p.1 ≠ en) := ⟨fun p hp => hM.ne p hp _ (.tail _ (.head _))⟩
        have hit' : Hold (∀ p ∈ Nw', p.1 ≠ it) := ⟨fun p hp => hM.ne p hp _ (.tail _ (.tail _ (.head _)))⟩
        have hwE := hM.at' _ (.tail _ (.head _))
        have hwI := hM.at' _ (.tail _ (.tail _ (.head _)))
        have F10 := (⟨⟨oC, esC, epC, hM.at' _ (.head _), rC⟩, hS'.keep, F9.above⟩ : Fr h₀ C s'.heap _)
        have N10 : News h₀ C s'.heap ((en, enO it ((i + 1 : Nat) : Int) old) :: (it, oi) :: Nw') := by
          intro q hq
          rcases List.mem_cons.mp hq with rfl | hq
          · exact ⟨hwE, hneC, hfe⟩
          rcases List.mem_cons.mp hq with rfl | hq
          · exact ⟨hwI, hniC, hfi⟩
          · exact hS'.news q hq
        clear F9 N9 hM hS' hmp
        refine sx_stmt ?_
        k_steps
        rename Fr _ _ _ _ => FX
        rename News _ _ _ _ => NX
        refine s_again _ w A' _ _ _ _ _ rfl ?_
        have EX : EnumSt h₀ C en it x t (i + 1) Nw' _ _ := ⟨FX, ⟨old, (NX _ (.head _)).1⟩, ⟨oi, (NX _ (.tail _ (.head _))).1, hci, hdi⟩, fun q hq => NX q (.tail _ (.tail _ hq)), hen'.out, hit'.out, hne, hneC, hniC, hfe, hfi⟩
        exact ih A' s' Nw' hh' hNC' _ _ ⟨rfl, rfl, rfl⟩ _ (i + 1) false hsz.out hdr (by rfl) ⟨_, by rfl⟩ rfl EX
    | false =>
      k_steps
      refine sx_cons (sx_If ?_)
      k_steps
      have hmm9 : (fun y => if y = Str.ofString "ch" then some (Value.str ⟨#[c]⟩ t2) else if y = Str.ofString "pos" then some (Value.int (i : Int) t1) else (fun y => if y = Str.ofString "escape" then some (Value.bool false) else mm y) y) = fun y => if y = Str.ofString "escape" then some (Value.bool false) else if y = Str.ofString "ch" then some (Value.str ⟨#[c]⟩ t2) else if y = Str.ofString "pos" then some (Value.int (i : Int) t1) else mm y := by
        funext y
        by_cases h1 : y = Str.ofString "escape"
        · subst h1; rfl
        · simp only [if_neg h1]
      by_cases hc : c = 92
      · have e : ((⟨#[c]⟩ : Str) == Str.ofString "\\") = true := by rw [hc]; rfl
        rw [e, if_pos rfl]
        clear hmp
        refine sx_stmt ?_
        k_steps
        rename Fr _ _ _ _ => FX
        rename News _ _ _ _ => NX
        have eu : us = evs (i + 1) true r := by rw [hus', evs, if_pos hc]
        refine s_again _ w A _ _ _ _ _ rfl ?_
        have EX : EnumSt h₀ C en it x t (i + 1) Nw _ _ := ⟨FX, ⟨old, (NX _ (.head _)).1⟩, ⟨oi, (NX _ (.tail _ (.head _))).1, hci, hdi⟩, fun q hq => NX q (.tail _ (.tail _ hq)), hen, hit, hne, hneC, hniC, hfe, hfi⟩
        exact ih A s Nw hh hNC us _ ⟨G1.1, G1.2.1, G1.2.2⟩ _ (i + 1) true hsz.out hdr (by rfl) ⟨_, by rfl⟩ eu EX
      · have e : ((⟨#[c]⟩ : Str) == Str.ofString "\\") = false := by
          have : ¬ ((⟨#[c]⟩ : Str) = Str.ofString "\\") := fun h => hc (by
            have := congrArg (fun x : Str => x.cps.toList) h
            exact List.head_eq_of_cons_eq this)
          simpa using this
        rw [e, if_neg (by decide)]
        have eu : us = (i, ⟨#[c]⟩) :: evs (i + 1) false r := by rw [hus', evs, if_neg hc]
        clear hus'
        have hus' := eu
        clear eu
        refine sx_cons (sx_yield rfl rfl rfl ?_)
        k_steps
        rename_i D9 h9 F9 N9 l9 k9 ll9 p9 hk9
        subst hus'
        obtain ⟨oC, esC, epC, hoC, rC⟩ := id F9.ns
        refine ⟨D9, _, _, [(C, oC), (en, enO it ((i + 1 : Nat) : Int) old), (it, oi)], ⟨G1.1, G1.2.1, G1.2.2, F9.keep, fun q hq => N9 q (by
          rcases List.mem_cons.mp hq with rfl | hq
          · exact .head _
          · exact .tail _ (.tail _ (.tail _ hq)))⟩, ⟨_, _, _, _, _, rfl⟩, allLt_mem l9.2.2, ⟨?m1, ?m2, ?m3⟩, ?rdy⟩
        case m1 =>
          intro q hq
          rcases List.mem_cons.mp hq with rfl | hq
          · exact hoC
          rcases List.mem_cons.mp hq with rfl | hq
          · exact (N9 _ (.tail _ (.head _))).1
          rcases List.mem_cons.mp hq with rfl | hq
          · exact (N9 _ (.tail _ (.tail _ (.head _)))).1
          · cases hq
        case m2 =>
          intro q hq
          rcases List.mem_cons.mp hq with rfl | hq
          · exact Heap.get?_none_of_le hz0
          rcases List.mem_cons.mp hq with rfl | hq
          · exact hfe
          rcases List.mem_cons.mp hq with rfl | hq
          · exact hfi
          · cases hq
        case m3 =>
          intro q hq q' hq'
          rcases List.mem_cons.mp hq' with rfl | hq'
          · rcases List.mem_cons.mp hq with rfl | hq
            · exact (N9 _ (.head _)).2.1
            · exact hNC.out q hq
          rcases List.mem_cons.mp hq' with rfl | hq'
          · rcases List.mem_cons.mp hq with rfl | hq
            · exact Nat.ne_of_gt l9.1
            · exact hen q hq
          rcases List.mem_cons.mp hq' with rfl | hq'
          · rcases List.mem_cons.mp hq with rfl | hq
            · exact Nat.ne_of_gt l9.2.1
            · exact hit q hq
          · cases hq'
        case rdy =>
          refine ready_of fun A' s' Nw' hh' hM hS' => ?_
          show SegX _ _ _ (k9 (.send .none)) _ _ _
          refine hk9 _ _ _ ?_
          have hNC' : Hold (∀ p ∈ Nw', p.1 ≠ C) := ⟨fun p hp => (hS'.news p hp).2.1⟩
          have hen' : Hold (∀ p ∈ Nw', p.1 ≠ en) := ⟨fun p hp => hM.ne p hp _ (.tail _ (.head _))⟩
          have hit' : Hold (∀ p ∈ Nw', p.1 ≠ it) := ⟨fun p hp => hM.ne p hp _ (.tail _ (.tail _ (.head _)))⟩
          have hwE := hM.at' _ (.tail _ (.head _))
          have hwI := hM.at' _ (.tail _ (.tail _ (.head _)))
          have F10 := (⟨⟨oC, esC, epC, hM.at' _ (.head _), rC⟩, hS'.keep, F9.above⟩ : Fr h₀ C s'.heap _)
          have N10 : News h₀ C s'.heap ((en, enO it ((i + 1 : Nat) : Int) old) :: (it, oi) :: Nw') := by
            intro q hq
            rcases List.mem_cons.mp hq with rfl | hq
            · exact ⟨hwE, hneC, hfe⟩
            rcases List.mem_cons.mp hq with rfl | hq
            · exact ⟨hwI, hniC, hfi⟩
            · exact hS'.news q hq
          clear F9 N9 hM hS' hmp
          have FX := F10
          have NX := N10
          rw [hmm9] at FX
          refine s_again _ w A' _ _ _ _ _ rfl ?_
          have EX : EnumSt h₀ C en it x t (i + 1) Nw' _ _ := ⟨FX, ⟨old, (NX _ (.head _)).1⟩, ⟨oi, (NX _ (.tail _ (.head _))).1, hci, hdi⟩, fun q hq => NX q (.tail _ (.tail _ hq)), hen'.out, hit'.out, hne, hneC, hniC, hfe, hfi⟩
          exact ih A' s' Nw' hh' hNC' _ _ ⟨rfl, rfl, rfl⟩ _ (i + 1) false hsz.out hdr (by rfl) ⟨_, by rfl⟩ rfl EX
end
end Mine
end

-- part G3
section
open PySem PySem.W PyProof.Rows PySem.W.X
set_option maxRecDepth 100000
set_option maxHeartbeats 8000000
namespace Mine
theorem bare_set {gens : Array GenState} (x : AllBare gens) (g : Nat) {gs : GenState} (h : gs.bare = true) : AllBare (gens.setIfInBounds g gs) := by
  intro y hy
  rcases Array.mem_or_eq_of_mem_setIfInBounds hy with h' | rfl
  · exact x y h'
  · exact h
theorem ready_go {w : World} {h₀ : Heap} {C : Addr} {us : List (Nat × Str)} {gs : GenState} {R : List (Addr × Obj)} (h : Ready w h₀ C us gs R)
    (A : Around) (s : Shared) (Nw : List (Addr × Obj)) (hh : A.handled = none) (hM : Mine h₀ R Nw s.heap) (hS : Same h₀ C s Nw s) : Resumes PySem.Challenge.rw_to0007_01.row.prog w A gs s (Nxt w h₀ C s Nw us) := by
  cases us with
  | nil => exact h A s Nw hh hM hS
  | cons u us => exact h A s Nw hh hM hS
section
variable {w : World} {A : Around} {E : Value → Shared → Prop} {s : Shared} {h₀ : Heap} {L C gna : Addr} {m : Str → Option Value} {g : Nat} {gs : GenState} {R news : List (Addr × Obj)} {nm qn : Value} {us : List (Nat × Str)}
/-- what holds of a generator between two turns -/
structure Gen (w : World) (h₀ : Heap) (L C gna : Addr) (g : Nat) (nm qn : Value) (us : List (Nat × Str)) (gs : GenState) (R news : List (Addr × Obj)) (m : Str → Option Value) (h : Heap) (gens : Array GenState) : Prop where
  F : Fr h₀ L h m
  N : News h₀ L h ((gna, genO g nm qn) :: (R ++ news))
  gat : gens[g]? = some gs
  bare : AllBare gens
  rdy : Ready w h₀ C us gs R
  neL : L ≠ C
  neC : ∀ p ∈ (gna, genO g nm qn) :: news, p.1 ≠ C
  neR : ∀ p ∈ (gna, genO g nm qn) :: news, ∀ q ∈ R, p.1 ≠ q.1
theorem Gen.news' (G : Gen w h₀ L C gna g nm qn us gs R news m s.heap s.gens) : ∃ lo, s.heap.get? L = some lo ∧ (∀ h : Heap, h.get? L = some lo → h.Ns L m) ∧ News h₀ C s.heap ((L, lo) :: (gna, genO g nm qn) :: news) ∧ Mine h₀ R ((L, lo) :: (gna, genO g nm qn) :: news) s.heap := by
  obtain ⟨lo, es, ep, hlo, hr⟩ := G.F.ns
  have hLn : h₀.get? L = none := Heap.get?_none_of_le G.F.above
  refine ⟨lo, hlo, fun h e => ⟨lo, es, ep, e, hr⟩, ?_, ⟨?_, ?_, ?_⟩⟩
  · intro p hp
    rcases List.mem_cons.mp hp with rfl | hp
    · exact ⟨hlo, G.neL, hLn⟩
    rcases List.mem_cons.mp hp with rfl | hp
    · exact ⟨(G.N _ (.head _)).1, G.neC _ (.head _), (G.N _ (.head _)).2.2⟩
    · have z := G.N p (.tail _ (List.mem_append_right _ hp))
      exact ⟨z.1, G.neC _ (.tail _ hp), z.2.2⟩
  · exact fun p hp => (G.N p (.tail _ (List.mem_append_left _ hp))).1
  · exact fun p hp => (G.N p (.tail _ (List.mem_append_left _ hp))).2.2
  · intro p hp q hq
    rcases List.mem_cons.mp hp with rfl | hp
    · exact Ne.symm (G.N q (.tail _ (List.mem_append_left _ hq))).2.1
    · exact G.neR p hp q hq
theorem Gen.isGen (G : Gen w h₀ L C gna g nm qn us gs R news m s.heap s.gens) : s.heap.IsGen gna g := ⟨_, nm, qn, (G.N _ (.head _)).1, rfl, rfl, rfl⟩

theorem next_end {Q : Option Value → Shared → Prop} (hh : A.handled = none) (hl : h₀.NoLimit) (hroom : A.depth < recursionLimit)
    (G : Gen w h₀ L C gna g nm qn [] gs R news m s.heap s.gens)
    (hQ : ∀ h' g' tk, Fr h₀ L h' m → News h₀ L h' news → AllBare g' → Q none { heap := h', gens := g', drawn := s.drawn, toks := tk, os := s.os }) :
    wpAny (model PySem.Challenge.rw_to0007_01.row.prog w) A (pyNext (.ref gna)) Q E s := by
  obtain ⟨lo, hlo, hns, N', M⟩ := G.news'
  refine next_gen hh (hl.keeps G.F.keep) hroom G.isGen G.gat (ready_go G.rdy A.in1 (s.setGen g .running) _ hh M ⟨rfl, rfl, rfl, G.F.keep, N'⟩) fun e s₁ hq hx => ?_
  obtain ⟨S, rfl⟩ := hx
  refine ⟨rfl, fun h' hk => ?_⟩
  have e : ({ s₁.setGen g .finished with heap := h' } : Shared) = { heap := h', gens := (s₁.setGen g .finished).gens, drawn := s.drawn, toks := s₁.toks, os := s.os } := by
    have h1 := S.os
    have h2 := S.drawn
    obtain ⟨a, b, c, d, e⟩ := s₁
    cases h1; cases h2
    rfl
  rw [e]
  have hL1 := hk _ _ (S.news _ (.head _)).1
  refine hQ h' _ _ ⟨hns _ hL1, fun b o e => hk b o (S.keep b o e), G.F.above⟩ (fun p hp => ?_) ?_
  · have z := S.news p (.tail _ (.tail _ hp))
    exact ⟨hk _ _ z.1, (G.N p (.tail _ (List.mem_append_right _ hp))).2.1, z.2.2⟩
  · show AllBare (s₁.gens.setIfInBounds g .finished)
    rw [S.gens]
    exact bare_set (bare_set G.bare g rfl) g rfl
theorem next_item {u : Nat × Str} {Q : Option Value → Shared → Prop} (hh : A.handled = none) (hl : h₀.NoLimit) (hroom : A.depth < recursionLimit)
    (G : Gen w h₀ L C gna g nm qn (u :: us) gs R news m s.heap s.gens)
    (hQ : ∀ T tk1 tk2 R' gs' h' g' tk, Gen w h₀ L C gna g nm qn us gs' R' news m h' g' → News h₀ L h' ((T, evT u.1 tk1 u.2 tk2) :: (gna, genO g nm qn) :: (R' ++ news)) → (∀ q ∈ R', q.1 ≠ T) → (∀ p ∈ (gna, genO g nm qn) :: news, p.1 < T) → L < T →
      Q (some (.ref T)) { heap := h', gens := g', drawn := s.drawn, toks := tk, os := s.os }) :
    wpAny (model PySem.Challenge.rw_to0007_01.row.prog w) A (pyNext (.ref gna)) Q E s := by
  obtain ⟨lo, hlo, hns, N', M⟩ := G.news'
  refine next_gen hh (hl.keeps G.F.keep) hroom G.isGen G.gat (ready_go G.rdy A.in1 (s.setGen g .running) _ hh M ⟨rfl, rfl, rfl, G.F.keep, N'⟩) fun e s₁ hq hx => ?_
  obtain ⟨T, tk1, tk2, R', S, ⟨l, k, c, p, fs, rfl⟩, hT, M', hRd⟩ := hx
  show Q (some (.ref T)) (s₁.setGen g _)
  have e : ∀ x, (s₁.setGen g x : Shared) = { heap := s₁.heap, gens := s₁.gens.setIfInBounds g x, drawn := s.drawn, toks := s₁.toks, os := s.os } := by
    intro x
    have h1 := S.os
    have h2 := S.drawn
    obtain ⟨a, b, c, d, e⟩ := s₁
    cases h1; cases h2
    rfl
  rw [e]
  have hg : g < s.gens.size := (Array.getElem?_eq_some_iff.mp G.gat).1
  have hLT : L < T := hT (L, lo) (.head _)
  have FF : Fr h₀ L s₁.heap m := ⟨hns _ (S.news _ (.tail _ (.head _))).1, S.keep, G.F.above⟩
  have hR' : ∀ q ∈ R', q.1 ≠ L := fun q hq => Ne.symm (M'.ne (L, lo) (.tail _ (.head _)) q hq)
  have NN : News h₀ L s₁.heap ((gna, genO g nm qn) :: (R' ++ news)) := by
    intro q hq
    rcases List.mem_cons.mp hq with rfl | hq
    · have z := S.news _ (.tail _ (.tail _ (.head _)))
      exact ⟨z.1, (G.N _ (.head _)).2.1, z.2.2⟩
    rcases List.mem_append.mp hq with hq | hq
    · exact ⟨M'.at' q hq, hR' q hq, M'.none q hq⟩
    · have z := S.news _ (.tail _ (.tail _ (.tail _ hq)))
      exact ⟨z.1, (G.N _ (.tail _ (List.mem_append_right _ hq))).2.1, z.2.2⟩
  refine hQ T tk1 tk2 R' _ s₁.heap _ _ ⟨FF, NN, ?_, ?_, hRd, G.neL, G.neC, ?_⟩ ?_ ?_ ?_ hLT
  · rw [S.gens]
    show ((s.gens.setIfInBounds g .running).setIfInBounds g _)[g]? = _
    simp [hg]
  · rw [S.gens]
    exact bare_set (bare_set G.bare g rfl) g (End.bare_of_quiet hq)
  · exact fun p hp q hq => M'.ne p (.tail _ (.tail _ hp)) q hq
  · intro q hq
    rcases List.mem_cons.mp hq with rfl | hq
    · have z := S.news _ (.head _)
      exact ⟨z.1, Nat.ne_of_gt hLT, z.2.2⟩
    · exact NN q hq
  · exact fun q hq => Ne.symm (M'.ne _ (.head _) q hq)
  · exact fun p hp => hT p (.tail _ hp)
end
end Mine
end

-- part F7
section
open PySem PySem.W PyProof.Rows PySem.W.X
set_option maxRecDepth 100000
set_option maxHeartbeats 8000000
namespace Mine

/-- the way of the doubled value -/
noncomputable def tw : Nat → Bool → Way → Way → Way
  | 0, _, made, _ => made
  | _ + 1, o, made, [] => made ++ [!o]
  | n + 1, o, made, true :: r => tw n o (made ++ [!o, !o]) r
  | _ + 1, _, made, [false] => made
  | n + 1, o, made, false :: false :: r => tw n o (made ++ [o]) r
  | n + 1, o, made, false :: true :: r => tw n (!o) (made ++ [!o, o]) (r.map (!·))
noncomputable def twice (ws : Way) : Way := tw (ws.length + 1) false [] ws
theorem wayS_append (a b : Way) : wayS a ++ wayS b = wayS (a ++ b) := by
  unfold wayS
  rw [List.map_append]
  apply congrArg Str.mk
  simp
theorem own_s : Str.ofString "\\" = wayS [false] := by decide +kernel
theorem other_s : Str.ofString "/" = wayS [true] := by decide +kernel
theorem unit_bb : Str.ofString "\\" ++ ⟨#[92]⟩ = Str.ofString "\\\\" := by decide +kernel
theorem unit_bs : Str.ofString "\\" ++ ⟨#[47]⟩ = Str.ofString "\\/" := by decide +kernel
theorem empty_s : Str.ofString "" = wayS [] := by decide +kernel
theorem esc_app {w : World} {p : Program} {loose : List Str} {mean : ExcName → Option Value} {mg mb : Str → Option Value} (x : Str) (t : Tok) {news : List (Addr × Obj)} {A : Around} {E : Value → Shared → Prop}
    {dp un : Nat} {gd : Option (List Code)} {cn : Str} {cs : Scope} {a : Addr} {ccd : Value} {cl : List (Str × Addr)} {outer : List Env} {A₀ : Around} {base h₀ : Heap} {L : Addr} {m : Str → Option Value} {s : Shared} {Q : Value → Shared → Prop}
    (hA : A = ktrTop dp un gd cn cs L a ccd cl outer) (B : Below A₀ base outer h₀) (F : Fr h₀ L s.heap m) (X : (Mine.hd.heap_39 w.params).In h₀) (N : News h₀ L s.heap news) (T : Top p loose mean mg mb h₀) (hk : cs.kind = .function)
    (hd : dp + 1 < recursionLimit) (hg : AllBare s.gens)
    (k : ∀ gna C h' tk' gs nm qn fo, Gen w h₀ L C gna s.gens.size nm qn (evs 0 false x.cps.toList) gs [(C, fo)] news m h' (s.gens.push gs) → Q (.ref gna) { heap := h', gens := s.gens.push gs, drawn := s.drawn, toks := tk', os := s.os }) :
    wpAny (model PySem.Challenge.rw_to0007_01.row.prog w) A (call (.ref 42) [.str x t]) Q E s := by
  subst hA
  refine wpAny_mono (esc_call w p loose mean mg mb x t news dp un gd cn cs a ccd cl outer A₀ base h₀ L m s Q B F X N T hk hd hg fun gna C h' tk' gs nm qn fo hb hr hC hCg F' N' => ?_) (fun _ _ h => h) fun _ _ h => h.elim
  have hCL : C ≠ L := (N' _ (.tail _ (.head _))).2.1
  refine k gna C h' tk' gs nm qn fo ⟨F', N', by simp, hb, hr, Ne.symm hCL, ?_, ?_⟩
  · intro p hp
    rcases List.mem_cons.mp hp with rfl | hp
    · exact Nat.ne_of_gt hCg
    · exact Nat.ne_of_lt (hC p hp)
  · intro p hp q hq
    rw [List.mem_singleton.mp hq]
    rcases List.mem_cons.mp hp with rfl | hp
    · exact Nat.ne_of_gt hCg
    · exact Nat.ne_of_lt (hC p hp)
theorem own_gen {M : Model} {A : Around} {E : Value → Shared → Prop} {s : Shared} {elts : List PySem.Expr} {x1 : Nat} {pos : Pos} {gna T : Addr} {g : Nat} {nm qn : Value} {Q : Unit → Shared → Prop} (ho : s.heap.get? gna = some (genO g nm qn)) (h : Q () s) :
    wpAny M A (letOwnedTupleGo (.Tuple elts x1 pos) (.ref gna) (.ref T)) Q E s := by
  unfold letOwnedTupleGo
  refine wpAny_bind (wpAny_load ho ?_)
  show wpAny _ A (if (["enumerate", "zip", "dict_itemiterator", "dict_reverseitemiterator", "odict_iterator", "itertools.zip_longest", "itertools.pairwise"].contains "generator" && _) = true then _ else _) Q E s
  rw [if_neg (by simp)]
  exact wpAny_pure h
theorem slice_way {W : Way} {i : Nat} (h : i + 2 ≤ W.length) : Txt.slice (wayS W) (some (((i + 1 : Nat) : Int) + 1)) none = wayS (W.drop (i + 2)) := by
  rw [slice_from_eq (b := (W.length : Int)) (by (first | exact Mine.ar90 | omega)) (by rw [wayS_length]; (first | exact Mine.ar91 h | omega)) (by rw [wayS_length])]
  have e : (((i + 1 : Nat) : Int) + 1).toNat = i + 2 := by (first | exact Mine.ar92 | omega)
  rw [e]
  unfold wayS
  congr 2
  simp only [List.map_drop]
  rw [List.take_of_length_le]
  simp
  (first | exact Mine.ar93 | omega)
theorem Gen.re {w : World} {h₀ h h' : Heap} {L C gna : Addr} {m m' : Str → Option Value} {g : Nat} {gs : GenState} {R news : List (Addr × Obj)} {nm qn : Value} {us : List (Nat × Str)} {gens : Array GenState}
    (G : Gen w h₀ L C gna g nm qn us gs R news m h gens) (F : Fr h₀ L h' m') (N : News h₀ L h' ((gna, genO g nm qn) :: (R ++ news))) : Gen w h₀ L C gna g nm qn us gs R news m' h' gens :=
  ⟨F, N, G.gat, G.bare, G.rdy, G.neL, G.neC, G.neR⟩
theorem ev_s (i : Nat) (r : Way) : evs i false ((true :: r).map sgn) = (i, Str.ofString "/") :: evs (i + 1) false (r.map sgn) := by
  rw [← way_is]; simp [evs, sgn]
theorem ev_b (i : Nat) : evs i false ([false].map sgn) = [(i, Str.ofString "\\")] := by
  simp [evs, sgn]
theorem ev_bb (i : Nat) (r : Way) : evs i false ((false :: false :: r).map sgn) = (i + 1, Str.ofString "\\\\") :: evs (i + 2) false (r.map sgn) := by
  rw [← unit_bb]; simp [evs, sgn]
theorem ev_bs (i : Nat) (r : Way) : evs i false ((false :: true :: r).map sgn) = (i + 1, Str.ofString "\\/") :: evs (i + 2) false (r.map sgn) := by
  rw [← unit_bs]; simp [evs, sgn]
inductive F7Inv1 (g' : Heap) (L' : Addr) (news : List (Addr × Obj)) (ws : Way) (m₁ : Str → Option Value) (dr : Drawn) (os : OsState) : Nat → Shared → Prop
  | mk (n : Nat) (h : Heap) (gn : Array GenState) (tk : Nat) (t1 : Tok) (t2 : Tok) (t3 : Tok) (t4 : Tok) (va : Option Value) (vu : Option Value) (o : Bool) (b : Bool) (mw : Way) (rw : Way) : (AllBare gn) → (Fr g' L' h (fun y => if y = Str.ofString "more" then some (Value.bool b) else if y = Str.ofString "made" then some (Value.str (wayS mw) t1) else if y = Str.ofString "rest" then some (Value.str (wayS rw) t2) else if y = Str.ofString "own" then some (Value.str (wayS [o]) t3) else if y = Str.ofString "other" then some (Value.str (wayS [!o]) t4) else if y = Str.ofString "at" then va else if y = Str.ofString "unit" then vu else m₁ y)) → (News g' L' h news) → ((b = true → n = rw.length + 1 ∧ (∃ f, rw.length < f ∧ tw f o mw rw = twice ws) ∧ mw.length + 2 * rw.length ≤ 2 * ws.length)) → ((b = false → n = 0 ∧ mw ++ [!o] = twice ws ∧ mw.length ≤ 120)) → F7Inv1 g' L' news ws m₁ dr os n { heap := h, gens := gn, drawn := dr, toks := tk, os := os }
inductive F7Inv2 (w : World) (g' : Heap) (L' : Addr) (C : Addr) (gna : Addr) (gsz : Nat) (t2 : Tok) (t3 : Tok) (t4 : Tok) (news : List (Addr × Obj)) (ws : Way) (rw : Way) (m₁ : Str → Option Value) (nm : Value) (qn : Value) (o : Bool) (dr : Drawn) (os : OsState) : Nat → Shared → Prop
  | mk (n : Nat) (h : Heap) (gn : Array GenState) (tk : Nat) (t1 : Tok) (va : Option Value) (vu : Option Value) (mw : Way) (v : Way) (i : Nat) (gs : GenState) (R : List (Addr × Obj)) : (Gen w g' L' C gna gsz nm qn (evs i false (v.map sgn)) gs R news (fun y => if y = Str.ofString "more" then some (Value.bool false) else if y = Str.ofString "made" then some (Value.str (wayS mw) t1) else if y = Str.ofString "rest" then some (Value.str (wayS rw) t2) else if y = Str.ofString "own" then some (Value.str (wayS [o]) t3) else if y = Str.ofString "other" then some (Value.str (wayS [!o]) t4) else if y = Str.ofString "at" then va else if y = Str.ofString "unit" then vu else m₁ y) h gn) → (rw.drop i = v) → (n = v.length) → ((∃ f, v.length < f ∧ tw f o mw v = twice ws)) → (mw.length + 2 * v.length ≤ 2 * ws.length) → F7Inv2 w g' L' C gna gsz t2 t3 t4 news ws rw m₁ nm qn o dr os n { heap := h, gens := gn, drawn := dr, toks := tk, os := os }
section
local macro_rules | `(tactic| walk_at "exec While") => `(tactic| refine Hold.out ?_)
local macro_rules | `(tactic| walk_at "exec While Name cons nil") => `(tactic| refine Hold.out ?_)
local macro_rules | `(tactic| walk_at "exec For Tuple Call cons nil") => `(tactic| refine Hold.out ?_)
local macro_rules | `(tactic| walk_at "call ref") => `(tactic| refine Hold.out ?_)
theorem twice_ct (w : World) (p : Program) (loose : List Str) (mean : ExcName → Option Value) (mg mb : Str → Option Value) (ws : Way) (hws : ws.length ≤ 60) (t : Tok) (news : List (Addr × Obj)) :
  Ct w p loose mean mg mb (.ref 103) [Value.str (wayS ws) t] 6 30 news (fun v n => n = news ∧ ∃ t, v = .str (wayS (twice ws)) t) := by
  unfold Ct; k_fill
  intro dp un gd cn cs a ccd cl outer A₀ base h₀ L m s Q B F X N T hk hdp hun hg hret
  refine wpAny_call ?_
  refine' code_def ?k1 ?k2 ?k3 ?k4 ?k5 ?kA ?kF ?kK ?k6 ?k7 ?k8 ?k9 ?kB ?_ ?c2 ?c3 ?c4 ?c5
  case kA => exact rfl
  case kF => exact rfl
  case kK => assumption
  case k1 => k_asm
  case k2 => k_asm
  case k3 => k_asm
  case k4 => k_asm
  case k5 => k_asm
  case k6 => k_is
  case k7 => k_is
  case k8 => first | exact Mine.rm 0 hdp rfl (by decide) | exact Mine.rm 1 hdp rfl (by decide) | ktr_room
  case k9 => exact BindsTo.of_eq rfl
  case c5 => decide
  case kB => exact locs rfl
  case c2 => exact rfl
  case c3 => exact rfl
  case c4 => exact rfl
  intro g' L' h' FG' F' N' B' X' T'
  (try dsimp only); (try k_lift B'); (try k_fold)
  k_steps
  refine ⟨?_⟩
  refine wpAny_While ?_
  refine fr_hide (by assumption) fun m₁ hm₁ F₁ => ?_
  have e1 : ∃ t1, m₁ (Str.ofString "made") = some (Value.str (wayS []) t1) := ⟨_, by rw [hm₁, ← empty_s]; rfl⟩
  have e2 : ∃ t2, m₁ (Str.ofString "rest") = some (Value.str (wayS ws) t2) := ⟨_, by rw [hm₁]; rfl⟩
  have e3 : ∃ t3, m₁ (Str.ofString "own") = some (Value.str (wayS [false]) t3) := ⟨_, by rw [hm₁, ← own_s]; rfl⟩
  have e4 : ∃ t4, m₁ (Str.ofString "other") = some (Value.str (wayS [!false]) t4) := ⟨_, by rw [hm₁]; exact congrArg (fun x => some (Value.str x _)) other_s⟩
  have e5 : m₁ (Str.ofString "more") = some (Value.bool true) := by rw [hm₁]; rfl
  obtain ⟨t1, e1⟩ := e1
  obtain ⟨t2, e2⟩ := e2
  obtain ⟨t3, e3⟩ := e3
  obtain ⟨t4, e4⟩ := e4
  clear hm₁
  refine while_loopQ (F7Inv1 g' L' news ws m₁ s.drawn s.os) ?_ (ws.length + 1) ?_
  · rintro n _ QQ1 ⟨h, gn, tk, t1, t2, t3, t4, va, vu, o, b, mw, rw, hgn, F2, N2, hT, hF⟩ KE1
    cases b with
    | false =>
      obtain ⟨-, hres, hml⟩ := hF rfl
      clear hT hF
      have hl1 : (wayS mw).length ≤ 1000 := by rw [wayS_length]; (first | exact Mine.ar94 hml | omega)
      have hl2 : (wayS [!o]).length ≤ 1000 := by rw [wayS_length]; simp
      k_steps
      all_goals try (exfalso; simp_all; done)
      rw [wayS_append, hres]
      exact hret _ _ _ _ _ ⟨rfl, _, rfl⟩ hgn (by assumption) (by assumption)
    | true =>
      obtain ⟨rfl, ⟨f, hf, htw⟩, hml⟩ := hT rfl
      clear hT hF
      k_steps
      refine ⟨?_⟩
      refine wpAny_For ?_
      k_steps
      refine ⟨?_⟩
      rename News _ _ _ _ => N4
      rename Fr g' L' _ _ => F4
      refine esc_app (wayS rw) t2 rfl B' F4 X' N4 T' rfl (by first | exact Mine.rm 0 hdp rfl (by decide) | exact Mine.rm 1 hdp rfl (by decide) | ktr_room) (by exact hgn) ?_
      intro gna C h5 tk5 gs nm qn fo G5
      refine wpAny_pyIter_gen ⟨_, nm, qn, (G5.N _ (.head _)).1, rfl, rfl, rfl⟩ ?_
      have hcp : (wayS rw).cps.toList = rw.map sgn := by simp [wayS]
      rw [hcp] at G5
      dsimp only at G5
      generalize hgsz : gn.size = gsz at G5
      have G6 : Gen w g' L' C gna gsz nm qn (evs 0 false (rw.map sgn)) gs [(C, fo)] news (fun y => if y = Str.ofString "more" then some (Value.bool false) else if y = Str.ofString "made" then some (Value.str (wayS mw) t1) else if y = Str.ofString "rest" then some (Value.str (wayS rw) t2) else if y = Str.ofString "own" then some (Value.str (wayS [o]) t3) else if y = Str.ofString "other" then some (Value.str (wayS [!o]) t4) else if y = Str.ofString "at" then va else if y = Str.ofString "unit" then vu else m₁ y) h5 (gn.push gs) := G5.re (fr_map G5.F ?map0) G5.N
      case map0 =>
          exact chain_eq (m := m₁) (by repeat (first | refine Ag.cons (by first | rfl | assumption) ?_ | exact Ag.nil)) (by repeat (first | refine Ag.cons (by first | rfl | assumption) ?_ | exact Ag.nil))
      clear G5 N4 F4
      refine for_loopQ (F7Inv2 w g' L' C gna gsz t2 t3 t4 news ws rw m₁ nm qn o s.drawn s.os) ?_ rw.length (.mk rw.length (_) (_) (_) (t1) (va) (vu) (mw) (rw) (0) (gs) ([(C, fo)]) (G6) (by simp) (rfl) (⟨f, hf, htw⟩) (hml))
      clear G6 hcp
      have hrl : rw.length ≤ 60 := by (first | exact Mine.ar95 hws hml | omega)
      clear hml htw hf f hgsz hgn
      clear mw va vu t1
      rintro n _ QQ2 ⟨h, gn, tk, t1, va, vu, mw, v, i, gs, R, G, hdv, ev2, ⟨f, hf, htw⟩, hml⟩ KE2
      subst ev2
      have hl1 : (wayS mw).length ≤ 1000 := by rw [wayS_length]; (first | exact Mine.ar96 hws hml | omega)
      have hl2 : (wayS [!o]).length ≤ 1000 := by rw [wayS_length]; simp
      have hl4 : (wayS rw).length ≤ 1000 := by rw [wayS_length]; (first | exact Mine.ar54 hrl | omega)
      have hl3 : (wayS [o]).length ≤ 1000 := by rw [wayS_length]; simp
      cases f with
      | zero => cases hf
      | succ f =>
      match v, hdv, hf, htw, hml, G with
      | [], hdv, hf, htw, hml, G =>
        refine next_end rfl T'.nolimit (by first | exact Mine.rm 0 hdp rfl (by decide) | exact Mine.rm 1 hdp rfl (by decide) | ktr_room) G fun h' g9 tk9 F9 N9 hg9 => ?_
        clear G
        dsimp only
        k_steps
        try dsimp only
        exact KE1.nx (by first | exact .inl rfl | exact .inr rfl) (m := 0) (Nat.succ_pos _) (.mk _ (_) (g9) (_) (t1) (t2) (t3) (t4) (va) (vu) (o) (false) (mw) (rw) (hg9) (F9) (N9) ((fun h => nomatch h)) ((fun _ => ⟨rfl, htw, by simp at hml; (first | exact Mine.ar97 hws hml | omega)⟩)))
      | true :: r, hdv, hf, htw, hml, G =>
        rw [ev_s] at G
        refine next_item rfl T'.nolimit (by first | exact Mine.rm 0 hdp rfl (by decide) | exact Mine.rm 1 hdp rfl (by decide) | ktr_room) G fun T9 tk1 tk2 R9 gs9 h9 g9 tk9 G9 N9 hRT hTT hLT => ?_
        clear G
        dsimp only at N9 ⊢
        refine own_gen (N9 _ (.tail _ (.head _))).1 ?_
        obtain ⟨tl, htl⟩ : ∃ tl, tl = (gna, genO gsz nm qn) :: (R9 ++ news) := ⟨_, rfl⟩
        rw [← htl] at N9
        have F9 := G9.F
        have hg9 := G9.bare
        have G9' := Hold.mk G9
        clear G9
        k_steps
        try dsimp only
        refine KE2.nx (by first | exact .inl rfl | exact .inr rfl) (m := r.length) (by simp <;> omega) (.mk _ (_) (g9) (_) (?tA) (?vaA) (?vuA) (mw ++ [!o, !o]) (r) (i + 1) (gs9) (R9) (G9'.out.re (fr_map (by assumption) ?eA) ?nA) (?dA) (rfl) (⟨f, ?fA, htw⟩) (?mA))
        case nA =>
          rw [← htl]
          exact cb_drop (by assumption) (by simp +contextual)
        case dA =>
          have := congrArg (List.drop 1) hdv
          rw [List.drop_drop] at this
          exact this
        case fA => simp at hf; (first | exact hf | omega)
        case mA => simp at hml ⊢; (first | exact Mine.ar98 hml | omega)
        case eA =>
          rw [show wayS (mw ++ [!o, !o]) = wayS mw ++ (wayS [!o] ++ wayS [!o]) by first | (simp only [wayS_append]; done) | (simp only [wayS_append]; rfl)]
          exact chain_eq (m := m₁) (by repeat (first | refine Ag.cons (by first | rfl | assumption) ?_ | exact Ag.nil)) (by repeat (first | refine Ag.cons (by first | rfl | assumption) ?_ | exact Ag.nil))
      | [false], hdv, hf, htw, hml, G =>
        rw [ev_b] at G
        refine next_item rfl T'.nolimit (by first | exact Mine.rm 0 hdp rfl (by decide) | exact Mine.rm 1 hdp rfl (by decide) | ktr_room) G fun T9 tk1 tk2 R9 gs9 h9 g9 tk9 G9 N9 hRT hTT hLT => ?_
        clear G
        dsimp only at N9 ⊢
        refine own_gen (N9 _ (.tail _ (.head _))).1 ?_
        obtain ⟨tl, htl⟩ : ∃ tl, tl = (gna, genO gsz nm qn) :: (R9 ++ news) := ⟨_, rfl⟩
        rw [← htl] at N9
        have F9 := G9.F
        have hg9 := G9.bare
        have G9' := Hold.mk G9
        clear G9
        k_steps
        refine KE2.rt ?_
        k_steps
        refine KE1.rt ?_
        k_steps
        have hm : mw = twice ws := htw
        refine hret _ _ _ _ _ ⟨rfl, _, by rw [hm]⟩ hg9 (by assumption) (cb_drop (by assumption) fun p hp => ?_)
        exact .tail _ (by rw [htl]; exact .tail _ (List.mem_append_right _ hp))
      | false :: false :: r, hdv, hf, htw, hml, G =>
        rw [ev_bb] at G
        refine next_item rfl T'.nolimit (by first | exact Mine.rm 0 hdp rfl (by decide) | exact Mine.rm 1 hdp rfl (by decide) | ktr_room) G fun T9 tk1 tk2 R9 gs9 h9 g9 tk9 G9 N9 hRT hTT hLT => ?_
        clear G
        dsimp only at N9 ⊢
        refine own_gen (N9 _ (.tail _ (.head _))).1 ?_
        obtain ⟨tl, htl⟩ : ∃ tl, tl = (gna, genO gsz nm qn) :: (R9 ++ news) := ⟨_, rfl⟩
        rw [← htl] at N9
        have F9 := G9.F
        have hg9 := G9.bare
        have G9' := Hold.mk G9
        clear G9
        k_steps
        try dsimp only
        refine KE2.nx (by first | exact .inl rfl | exact .inr rfl) (m := r.length) (by simp <;> (first | exact Nat.lt_trans (Nat.lt_succ_self _) (Nat.lt_succ_self _) | omega)) (.mk _ (_) (g9) (_) (?tB) (?vaB) (?vuB) (mw ++ [o]) (r) (i + 2) (gs9) (R9) (G9'.out.re (fr_map (by assumption) ?eB) ?nB) (?dB) (rfl) (⟨f, ?fB, htw⟩) (?mB))
        case nB =>
          rw [← htl]
          exact cb_drop (by assumption) (by simp +contextual)
        case dB =>
          have := congrArg (List.drop 2) hdv
          rw [List.drop_drop] at this
          exact this
        case fB => simp at hf; (first | exact Nat.lt_trans (Nat.lt_succ_self _) hf | omega)
        case mB => simp at hml ⊢; (first | exact Mine.ar99 hml | omega)
        case eB =>
          rw [show wayS (mw ++ [o]) = wayS mw ++ wayS [o] by first | (simp only [wayS_append]; done) | (simp only [wayS_append]; rfl)]
          exact chain_eq (m := m₁) (by repeat (first | refine Ag.cons (by first | rfl | assumption) ?_ | exact Ag.nil)) (by repeat (first | refine Ag.cons (by first | rfl | assumption) ?_ | exact Ag.nil))
      | false :: true :: r, hdv, hf, htw, hml, G =>
        rw [ev_bs] at G
        refine next_item rfl T'.nolimit (by first | exact Mine.rm 0 hdp rfl (by decide) | exact Mine.rm 1 hdp rfl (by decide) | ktr_room) G fun T9 tk1 tk2 R9 gs9 h9 g9 tk9 G9 N9 hRT hTT hLT => ?_
        clear G
        dsimp only at N9 ⊢
        refine own_gen (N9 _ (.tail _ (.head _))).1 ?_
        obtain ⟨tl, htl⟩ : ∃ tl, tl = (gna, genO gsz nm qn) :: (R9 ++ news) := ⟨_, rfl⟩
        rw [← htl] at N9
        have F9 := G9.F
        have hg9 := G9.bare
        have G9' := Hold.mk G9
        clear G9
        k_steps
        refine ⟨?_⟩
        have hlen : i + 2 + r.length = rw.length := by
          have := congrArg List.length hdv
          simp at this
          (first | exact Mine.ar100 this | omega)
        have hdr : rw.drop (i + 2) = r := by
          have := congrArg (List.drop 2) hdv
          rw [List.drop_drop] at this
          exact this
        rw [slice_way (by (first | exact Mine.ar101 hlen | omega)), hdr]
        rename News _ _ _ _ => N4
        rename Fr g' L' _ _ => F4
        refine Ct.app (turned_ct w p loose mean mg mb r (by (first | exact Mine.ar102 hrl hlen | omega)) _ _) rfl B' F4 X' N4 T' rfl (by first | exact Mine.rm 0 hdp rfl (by decide) | exact Mine.rm 1 hdp rfl (by decide) | ktr_room) (by first | exact Mine.um 0 hun rfl (by decide) | exact Mine.um 3 hun rfl (by decide) | exact Mine.um 1 hun rfl (by decide) | exact Mine.um 4 hun rfl (by decide) | ktr_units) (by exact hg9) ?_
        intro v nn h3 tk3 g3 hRt hg3 F3 N3
        refine hide fun PP hPP => ?_
        obtain ⟨e, t9, ev1⟩ := hRt
        refine hPP ?_
        clear hPP
        subst ev1
        rw [e] at N3
        clear e
        k_steps
        refine KE2.bk ?_
        try dsimp only
        k_steps
        try dsimp only
        refine KE1.nx (by first | exact .inl rfl | exact .inr rfl) (m := r.length + 1) (by (first | exact Mine.ar103 hlen | omega)) (.mk _ (_) (g3) (_) (?t1D) (?t2D) (?t3D) (?t4D) (?vaD) (?vuD) (!o) (true) (mw ++ [!o, o]) (r.map (!·)) (hg3) (fr_map (by assumption) ?eD) (cb_drop (by assumption) ?nD) ((fun _ => ⟨by simp, ⟨f, ?fD, htw⟩, ?mD⟩)) ((fun h => nomatch h)))
        case nD =>
          intro p hp
          have hp' : p ∈ tl := by rw [htl]; exact .tail _ (List.mem_append_right _ hp)
          simp only [List.mem_cons]
          first | exact .inr hp' | exact .inr (.inr hp') | exact .inr (.inr (.inr hp')) | exact .inr (.inr (.inr (.inr hp'))) | exact .inr (.inr (.inr (.inr (.inr hp'))))
        case fD => simp at hf ⊢; (first | exact Nat.lt_trans (Nat.lt_succ_self _) hf | omega)
        case mD => simp at hml ⊢; (first | exact Mine.ar104 hml | omega)
        case eD =>
          rw [show wayS (mw ++ [!o, o]) = wayS mw ++ (wayS [!o] ++ wayS [o]) by first | (simp only [wayS_append]; done) | (simp only [wayS_append]; rfl), Bool.not_not]
          exact chain_eq (m := m₁) (by repeat (first | refine Ag.cons (by first | rfl | assumption) ?_ | exact Ag.nil)) (by repeat (first | refine Ag.cons (by first | rfl | assumption) ?_ | exact Ag.nil))
  · refine .mk _ (_) (_) (_) (t1) (t2) (t3) (t4) (m₁ (Str.ofString "at")) (m₁ (Str.ofString "unit")) (false) (true) ([]) (ws) (hg) (fr_map F₁ ?_) (cb_drop (by assumption) (by simp +contextual)) (fun _ => ⟨rfl, ⟨ws.length + 1, Nat.lt_succ_self _, rfl⟩, by simp⟩) (fun h => by cases h)
    exact chain_eq (m := m₁) (by repeat (first | refine Ag.cons (by first | rfl | assumption) ?_ | exact Ag.nil)) (by repeat (first | refine Ag.cons (by first | rfl | assumption) ?_ | exact Ag.nil))
end
end Mine
end

-- part S0
section
open PySem PySem.W PyProof.Rows
open Builtin Builtin.ObjectAttr
set_option maxRecDepth 100000
set_option maxHeartbeats 8000000
namespace Mine
theorem slot_fn_sa : Slot "function" "__setattr__" "object.__setattr__" :=
  .of (owner := "object") (n := "__setattr__") (by rw [typeLookup_type, builtinLookup_eq_fast]; kernel_rfl) (by decide +kernel) (by decide +kernel) (by decide +kernel)
    (by first | exact .inl (by decide +kernel) | exact .inr (by decide +kernel)) (by rw [isSubtype_type]; kernel_rfl)
theorem args_fn_sa (a b c : Value) : argsOk "object.__setattr__" ⟨[a, b, c], []⟩ := by unfold argsOk; kernel_rfl
theorem mro_fn : mroOf (.type "function") = pure [.type "function", .type "object"] := by kernel_rfl
theorem pass_fn (self : Value) : refuseLoop self "__setattr__" [.type "function", .type "object"] = pure () := by kernel_rfl
section
variable {prog : Program} {w : World} {A : Around} {E : Value → Shared → Prop} {h : Heap} {g : Array GenState} {d : Drawn} {t : Nat} {os : OsState} {name : Str} {v : Value}
theorem fn_store {f : Addr} {o : Obj} {fd : FuncData} {tk : Tok} {Q : PySem.Fin → Shared → Prop} (ho : h.get? f = some o) (hc : o.cls = .type "function") (hd : o.data = .func fd) (hdn : o.dict = none)
    (hB : typeLookup (.type "function") name = pure none)
    (hQ : ∀ h' tk', h'.get? f = some { cls := o.cls, dict := some h.objs.size, data := o.data, slots := o.slots } → h'.Ns1 h.objs.size (fun y => if y = name then some v else none) →
      (∀ b o', b ≠ f → h.get? b = some o' → h'.get? b = some o') → Q (.done (.ret .none)) ⟨h', g, d, tk', os⟩) :
    wpAny (model prog w) A (Builtin.«object.__setattr__» ⟨[.ref f, .str name tk, v], []⟩) Q E ⟨h, g, d, t, os⟩ := by
  unfold Builtin.«object.__setattr__»
  repeat (first | rw [refuse_eq] | rw [mro_fn] | rw [pass_fn] | rw [hB] | (with_reducible refine wpAny_loadPart_at ho ?_; rw [hc]) | wp_step)
  rw [hdn]
  try dsimp only
  rw [if_neg (by first | decide | (simp [typeHasDict]; done) | decide +kernel), hd]
  have hx₁ : (h.push { cls := .type "dict", data := .dict #[] }).get? f = some o := Heap.get?_push_of_some _ ho
  have hxs : f ≠ h.objs.size := Nat.ne_of_lt (Heap.lt_size ho)
  refine wpAny_bind (wpAny_alloc' ?_)
  refine wpAny_bind (wpAny_update' hx₁ ?_)
  refine wpAny_pure ?_
  have hgd : ((h.push { cls := .type "dict", data := .dict #[] }).update f fun o => { cls := o.cls, dict := some h.objs.size, data := o.data, slots := o.slots }).get? h.objs.size
      = some { cls := .type "dict", data := .dict #[] } :=
    (Heap.get?_update_ne _ _ _ _ hxs.symm).trans (Heap.get?_push_at rfl rfl)
  have hnd : ((h.push { cls := .type "dict", data := .dict #[] }).update f fun o => { cls := o.cls, dict := some h.objs.size, data := o.data, slots := o.slots }).Ns h.objs.size (fun _ => none) :=
    ⟨_, #[], _, hgd, rfl, fun e he => absurd he (by simp), fun _ => rfl⟩
  show wpAny _ _ (storeInDict h.objs.size (.str name tk) name v) _ _ _
  unfold storeInDict newKeyGuard
  refine wpAny_bind (wpAny_pure (wpAny_bind (wpAny_nsSet1 (Heap.Ns1.of_empty hnd) fun h' hn' hs => ?_)))
  obtain ⟨oD, esD, epD, hoD, hdD, hcD⟩ := hn'.count (Within.cons name v Within.nil)
  refine wpAny_bind (wpAny_lookBehind hoD (by rw [hdD]; exact pastItsLine_dict (Nat.le_trans hcD (by rw [List.length_cons, List.length_nil, sizeLine_eq]; omega))) ?_)
  wp_walk
  refine hQ h' _ ?_ hn' (fun b ob hbx hb => ?_)
  · refine (hs.2 f hxs).trans ?_
    have hfr := (Heap.get?_some_iff.mp hx₁).2
    rw [Heap.get?_update_self _ hx₁ (by obtain ⟨oc, od, odt, osl⟩ := o; subst hd; rfl), hd]
  · exact (hs.2 b (Nat.ne_of_lt (Heap.lt_size hb))).trans ((Heap.get?_update_ne _ _ _ _ hbx).trans (Heap.get?_push_of_some _ hb))
theorem fn_setattr {f : Addr} {o : Obj} {fd : FuncData} {Q : Unit → Shared → Prop} (ho : h.get? f = some o) (hc : o.cls = .type "function") (hd : o.data = .func fd) (hdn : o.dict = none)
    (hB : typeLookup (.type "function") name = pure none)
    (hQ : ∀ h' tk', h'.get? f = some { cls := o.cls, dict := some h.objs.size, data := o.data, slots := o.slots } → h'.Ns1 h.objs.size (fun y => if y = name then some v else none) →
      (∀ b o', b ≠ f → h.get? b = some o' → h'.get? b = some o') → Q () ⟨h', g, d, tk', os⟩) :
    wpAny (model prog w) A (setAttr (.ref f) name v) Q E ⟨h, g, d, t, os⟩ := by
  have hT : Shared.TypeIs ⟨h, g, d, t + 1, os⟩ (.ref f) "function" := ⟨o, ho, hc⟩
  unfold setAttr
  refine wpAny_bind (wpAny_mkText ?_)
  refine wpAny_bind (wpAny_callSpecial?_slot (name := Str.ofString "__setattr__") hT slot_fn_sa (wpAny_call_entry slot_fn_sa hT F.entry_object_sa ?_ (args_fn_sa _ _ _)))
  refine fn_store ho hc hd hdn hB fun h' tk' a b c => ?_
  exact ⟨_, rfl, wpAny_pure (hQ h' tk' a b c)⟩
/-- in a frame: the function at the ledger's head gets an attribute -/
theorem kfn_setattr {f : Addr} {o : Obj} {fd : FuncData} {Q : Unit → Shared → Prop} {s : Shared} {h₀ : Heap} {L : Addr} {m : Str → Option Value} {news : List (Addr × Obj)}
    (F : Fr h₀ L s.heap m) (N : News h₀ L s.heap ((f, o) :: news)) (hne : ∀ p ∈ news, p.1 ≠ f) (hc : o.cls = .type "function") (hd : o.data = .func fd) (hdn : o.dict = none)
    (hB : typeLookup (.type "function") name = pure none)
    (hQ : ∀ h' tk' D dO, Fr h₀ L h' m → News h₀ L h' ((D, dO) :: (f, { cls := o.cls, dict := some D, data := o.data, slots := o.slots }) :: news) →
      (∀ h : Heap, h.get? D = some dO → h.Ns1 D (fun y => if y = name then some v else none)) → (∀ p ∈ (f, o) :: news, p.1 < D) → Q () { heap := h', gens := s.gens, drawn := s.drawn, toks := tk', os := s.os }) :
    wpAny (model prog w) A (setAttr (.ref f) name v) Q E s := by
  obtain ⟨h, g, d, t, os⟩ := s
  have z := N _ (.head _)
  refine fn_setattr z.1 hc hd hdn hB fun h' tk' a b c => ?_
  obtain ⟨dO, es, ep, hdO, hr⟩ := id b
  have hLs : L < h.objs.size := F.ns.lt
  have hz0 : h₀.objs.size ≤ h.objs.size := Nat.le_trans F.above (Nat.le_of_lt hLs)
  refine hQ h' tk' h.objs.size dO ⟨F.ns.at fun o e => c _ o (Ne.symm z.2.1) e, fun b o e => c b o (fun hb => ?_) (F.keep b o e), F.above⟩ ?_ (fun h e => ⟨dO, es, ep, e, hr⟩) fun p hp => Heap.lt_size (N p hp).1
  · rw [hb, z.2.2] at e; cases e
  · intro p hp
    rcases List.mem_cons.mp hp with rfl | hp
    · exact ⟨hdO, Nat.ne_of_gt hLs, Heap.get?_none_of_le hz0⟩
    rcases List.mem_cons.mp hp with rfl | hp
    · exact ⟨a, z.2⟩
    · exact ⟨c _ _ (hne p hp) (N p (.tail _ hp)).1, (N p (.tail _ hp)).2⟩
theorem fn_no_read : typeLookup (.type "function") (Str.ofString "read") = pure none := by
  rw [typeLookup_type, builtinLookup_eq_fast]; kernel_rfl
end
end Mine
end

-- part S1
section
open PySem PySem.W PyProof.Rows
open Builtin Builtin.ObjectAttr
set_option maxRecDepth 100000
set_option maxHeartbeats 8000000
namespace Mine
section
variable {prog : Program} {w : World} {A : Around} {E : Value → Shared → Prop} {h : Heap} {g : Array GenState} {d : Drawn} {t : Nat} {os : OsState} {v : Value}
theorem tl_fn_ga : typeLookup (.type "function") (Str.ofString "__getattribute__") = pure (some (.builtin "object.__getattribute__")) := by
  rw [typeLookup_type, builtinLookup_eq_fast]; kernel_rfl
theorem tl_fn_gattr : typeLookup (.type "function") (Str.ofString "__getattr__") = pure none := by
  rw [typeLookup_type, builtinLookup_eq_fast]; kernel_rfl
theorem slot_fn_ga : Slot "function" "__getattribute__" "object.__getattribute__" :=
  .of (owner := "object") (n := "__getattribute__") (by rw [typeLookup_type, builtinLookup_eq_fast]; kernel_rfl) (by decide +kernel) (by decide +kernel) (by decide +kernel)
    (by first | exact .inl (by decide +kernel) | exact .inr (by decide +kernel)) (by rw [isSubtype_type]; kernel_rfl)
theorem args_fn_ga (a b : Value) : argsOk "object.__getattribute__" ⟨[a, b], []⟩ := by unfold argsOk; kernel_rfl
theorem entry_object_ga : entryFor table "object.__getattribute__" = some Builtin.«object.__getattribute__» := entryFor_of_tree (by kernel_rfl)
theorem fn_getMethod {f D : Addr} {o : Obj} {fd : FuncData} {m : Str → Option Value} {Q : Value × List Value → Shared → Prop} {pl : Sem Bool} (hpl : pl = pure false) (ho : h.get? f = some o) (hc : o.cls = .type "function") (hd : o.data = .func fd) (hdn : o.dict = some D)
    (hD : h.Ns1 D m) (hv : m (Str.ofString "read") = some v) (hh : handedOut v = pure v)
    (hQ : ∀ tk', Q (v, []) ⟨h, g, d, tk', os⟩) :
    wpAny (model prog w) A (getMethod (.ref f) (Str.ofString "read") pl) Q E ⟨h, g, d, t, os⟩ := by
  subst hpl
  unfold getMethod specialOf getAttr getAttrBy getAttrByItsOwn
  repeat (first | rw [tl_fn_ga] | rw [tl_fn_gattr] | rw [fn_no_read] | (with_reducible refine wpAny_loadPart_at ho ?_; rw [hc]) | wp_step)
  rw [slot_fn_ga.bind]
  refine wpAny_pure ?_
  have hT : Shared.TypeIs ⟨h, g, d, t + 1, os⟩ (.ref f) "function" := ⟨o, ho, hc⟩
  refine wpAny_call_entry slot_fn_ga hT entry_object_ga ?_ (args_fn_ga _ _)
  unfold Builtin.«object.__getattribute__»
  repeat (first | rw [fn_no_read] | (with_reducible refine wpAny_loadPart_at ho ?_; rw [hc]) | wp_step)
  rw [hd]
  dsimp only
  unfold instanceDict
  repeat (first | (with_reducible refine wpAny_loadPart_at ho ?_; rw [hc]) | wp_step)
  rw [hdn]
  repeat (first | (with_reducible refine wpAny_nsGet hD.ns ?_; rw [hv]) | wp_step)
  refine ⟨_, rfl, ?_⟩
  rw [hh]
  exact wpAny_pure (wpAny_pure (hQ _))
end
end Mine
end

-- part S2
section
open PySem PySem.W PyProof.Rows
open Builtin Builtin.ObjectAttr
set_option maxRecDepth 100000
set_option maxHeartbeats 8000000
namespace Mine
abbrev ciO (c : Addr) (t : Tok) : Obj := { cls := .type "callable_iterator", data := .fields #[.ref c, .str (Str.ofString "") t, .bool false] }
theorem slot_ci_next : Slot "callable_iterator" "__next__" "callable_iterator.__next__" :=
  .of (owner := "callable_iterator") (n := "__next__") (by rw [typeLookup_type, builtinLookup_eq_fast]; kernel_rfl) (by decide +kernel) (by decide +kernel) (by decide +kernel)
    (by first | exact .inl (by decide +kernel) | exact .inr (by decide +kernel)) (by rw [isSubtype_type]; kernel_rfl)
theorem slot_ci_iter : Slot "callable_iterator" "__iter__" "callable_iterator.__iter__" :=
  .of (owner := "callable_iterator") (n := "__iter__") (by rw [typeLookup_type, builtinLookup_eq_fast]; kernel_rfl) (by decide +kernel) (by decide +kernel) (by decide +kernel)
    (by first | exact .inl (by decide +kernel) | exact .inr (by decide +kernel)) (by rw [isSubtype_type]; kernel_rfl)
theorem entry_ci_next : entryFor table "callable_iterator.__next__" = some Builtin.«callable_iterator.__next__» := entryFor_of_tree (by kernel_rfl)
theorem args_ci_next (a : Value) : argsOk "callable_iterator.__next__" ⟨[a], []⟩ := by unfold argsOk; kernel_rfl
section
variable {prog : Program} {w : World} {A : Around} {E : Value → Shared → Prop} {s : Shared}
theorem wp_callBorrowed {f : Value} {pos : List Value} {Q : Value → Shared → Prop} (h : wpAny (model prog w) A (call f pos) Q E s) : wpAny (model prog w) A (callBorrowed f pos) Q E s := by
  have e : callBorrowed f pos = Sem.keep [borrowed] (call f pos) := by
    unfold callBorrowed
    show _ = Sem.keep [borrowed] (Sem.call _ _ _ _ _)
    simp only [Sem.keep]
    congr 1
    funext r
    cases r with
    | error e => rfl
    | ok f => cases f <;> rfl
  intro Γ p hΓ
  rw [e, Sem.wp_keep]
  exact h Γ p hΓ
theorem ci_next {ci c : Addr} {t : Tok} {f : Addr} {self : Value} {of : Obj} {fd : FuncData} {Q : Option Value → Shared → Prop} (ho : s.heap.get? ci = some (ciO c t)) (hm : s.heap.get? c = some (methodObj (.ref f) self)) (hf : s.heap.get? f = some of) (hfd : of.data = .func fd)
    (hcall : wpAny (model prog w) A.in1 (call (.ref c) []) (fun r s' => ∃ y u, r = .str y u ∧ y ≠ Str.ofString "" ∧ s'.heap.get? ci = some (ciO c t) ∧ Q (some (.str y u)) s') (fun _ _ => False) s) :
    wpAny (model prog w) A (pyNext (.ref ci)) Q E s := by
  have hT : s.TypeIs (.ref ci) "callable_iterator" := ⟨_, ho, rfl⟩
  unfold pyNext
  refine wpAny_bind (wpAny_attempt (wpAny_callSpecial?_slot (name := Str.ofString "__next__") hT slot_ci_next
    (wpAny_call_entry slot_ci_next hT entry_ci_next ?_ (args_ci_next _))))
  unfold Builtin.«callable_iterator.__next__»
  refine wpAny_bind (wpAny_of_eq (a := (Value.ref ci, [])) rfl ?_)
  try dsimp only
  refine wpAny_bind (wpAny_field ho rfl (x := .bool false) rfl ?_)
  rw [if_neg (by decide)]
  refine wpAny_bind (wpAny_field ho rfl (x := .ref c) rfl ?_)
  refine wpAny_bind (wpAny_attempt ?_)
  unfold callOutOfASlot borrowsExactly
  refine wpAny_bind ?_
  refine wpAny_bind (wpAny_load hm ?_)
  refine wpAny_bind (wpAny_load hf ?_)
  rw [hfd]
  refine wpAny_pure ?_
  rw [if_pos rfl]
  refine wp_callBorrowed (wpAny_mono hcall (fun r s' hr => ?_) fun _ _ h => h.elim)
  obtain ⟨y, u, rfl, hy, ho', hq⟩ := hr
  refine wpAny_bind (wpAny_field ho' rfl (x := .bool false) rfl ?_)
  rw [if_neg (by decide)]
  refine wpAny_bind (wpAny_field ho' rfl (x := .str (Str.ofString "") t) rfl ?_)
  refine wpAny_bind (wpAny_holding (eqBool_str ?_))
  have e : (Str.ofString "" == y) = false := by
    rw [beq_eq_false_iff_ne]
    exact Ne.symm hy
  rw [e, if_pos (show (!false) = true from rfl)]
  exact wpAny_pure ⟨_, rfl, wpAny_pure hq⟩
theorem args_iter2 (a b : Value) : argsOk "iter" ⟨[a, b], []⟩ := by unfold argsOk; kernel_rfl
theorem tl_method_call : typeLookup (.type "method") (Str.ofString "__call__") = pure (some (.builtin "method.__call__")) := by
  rw [typeLookup_type, builtinLookup_eq_fast]; kernel_rfl
theorem call_iter2 {c f : Addr} {self : Value} {t : Tok} {Q : Value → Shared → Prop} (hm : s.heap.get? c = some (methodObj (.ref f) self))
    (h : Q (.ref s.heap.objs.size) { s with heap := s.heap.push (ciO c t) }) : wpAny (model prog w) A (call (.builtin "iter") [.ref c, .str (Str.ofString "") t]) Q E s := by
  have hT : s.TypeIs (.ref c) "method" := ⟨_, hm, rfl⟩
  refine Calls.call_function_entry (by decide +kernel) (by decide +kernel) kdk_entry_iter (args_iter2 _ _) ?_
  unfold Builtin.«iter»
  refine wpAny_bind (m := someArgs "iter" 1 2 _) (wpAny_of_eq (a := [Value.ref c, .str (Str.ofString "") t]) (by first | rfl | kernel_rfl!) ?_)
  try dsimp only
  refine wpAny_bind (wpAny_specialOf hT tl_method_call ?_)
  try dsimp only
  rw [if_neg (by decide)]
  refine wpAny_bind (wpAny_rule ?_)
  simp only [newFields]
  refine wpAny_bind (wpAny_newObj_type ?_ (by size_fits))
  exact wpAny_pure ⟨_, rfl, h⟩
theorem entry_ci_iter : entryFor table "callable_iterator.__iter__" = some Builtin.«dict_keyiterator.__iter__» :=
  entryFor_alias (id' := "dict_keyiterator.__iter__") (by kernel_rfl) (by first | rfl | decide +kernel | (unfold String.splitOn; simp +decide [String.splitOnAux])) (by decide +kernel) (by kernel_rfl)
theorem args_ci_iter (a : Value) : argsOk "callable_iterator.__iter__" ⟨[a], []⟩ := by unfold argsOk; kernel_rfl
theorem ci_iter {ci c : Addr} {t : Tok} {Q : Value → Shared → Prop} (ho : s.heap.get? ci = some (ciO c t)) (h : Q (.ref ci) s) : wpAny (model prog w) A (pyIter (.ref ci)) Q E s := by
  have hT : s.TypeIs (.ref ci) "callable_iterator" := ⟨_, ho, rfl⟩
  refine wpAny_pyIter_slot hT slot_ci_iter (wpAny_call_entry slot_ci_iter hT entry_ci_iter ?_ (args_ci_iter _))
  show wpAny _ _ (ret (.ref ci)) _ _ s
  exact wpAny_pure ⟨_, rfl, "callable_iterator", _, hT, slot_ci_next.lookup, h⟩
end
end Mine
end

-- part F8
section
open PySem PySem.W PyProof.Rows
set_option maxRecDepth 100000
set_option maxHeartbeats 8000000
namespace Mine

/-- the read function's contract: `al` holds the place in the text -/
noncomputable def Rdr (w : World) (p : Program) (loose : List Str) (mean : ExcName → Option Value) (mg mb : Str → Option Value) (x : Str) (f1 al : Addr) (core : List (Addr × Obj)) : Prop :=
  (∃ oc od fd sl, (f1, (⟨oc, od, .func fd, sl⟩ : Obj)) ∈ core) ∧ ∀ (i nl : Nat) (fix : List (Addr × Obj)) (t tk : Tok), i ≤ x.length → (∀ p ∈ core, p ∈ fix) → (∀ p ∈ fix, p.1 ≠ al) →
    Ct w p loose mean mg mb (.ref f1) [.int 1 t] 2 20 ((al, W.listOf #[.int i tk] nl) :: fix)
      (fun r n => ∃ t' tk' nl', r = .str (Txt.slice x (some i) (some (i + 1))) t' ∧ n = (al, W.listOf #[.int (i + (Txt.slice x (some i) (some (i + 1))).length) tk'] nl') :: fix)
/-- the machine's own dict -/
abbrev machD (w : World) (k0 k1 k2 k3 k4 k5 : Tok) (f pl : Addr) : Obj :=
  dictOf [⟨PyData.keyHash w.params (Str.ofString "lineno"), .str (Str.ofString "lineno") k0, .int 1 k1⟩, ⟨PyData.keyHash w.params (Str.ofString "instream"), .str (Str.ofString "instream") k2, .ref f⟩,
    ⟨PyData.keyHash w.params (Str.ofString "whitespace"), .str (Str.ofString "whitespace") k3, .str (Str.ofString "\n\t\r ") k4⟩, ⟨PyData.keyHash w.params (Str.ofString "pushback"), .str (Str.ofString "pushback") k5, .ref pl⟩] 4
theorem code86 {w : World} {h : Heap} (X : (Mine.hd.heap_39 w.params).In h) : CodeHd h 90 86 :=
  ⟨_, _, _, _, _, _, _, _, _, X 90 _ rfl, rfl, rfl, rfl, rfl, rfl, rfl, rfl, rfl, by decide⟩
inductive LexRet (w : World) (p : Program) (loose : List Str) (mean : ExcName → Option Value) (mg mb : Str → Option Value) (x : Str) (rest : List (Addr × Obj)) : Value → List (Addr × Obj) → Prop
  | mk (pl x5 dx5 D4 : Addr) (dO4 : Obj) (f' : Addr) (fo : Obj) (fd : FuncData) (f1 al : Addr) (core : List (Addr × Obj)) (k0 k1 k2 k3 k4 k5 tk0 : Tok) (ps : Array Value)
    (h1 : fo.cls = .type "function") (h2 : fo.dict = some D4) (h3 : fo.data = .func fd) (h4 : ∀ h : Heap, h.get? D4 = some dO4 → h.Ns1 D4 (fun y => if y = Str.ofString "read" then some (.ref f1) else none))
    (h5 : Rdr w p loose mean mg mb x f1 al core) (h6 : al < f') (h7 : f' < D4) (h8 : D4 < dx5) (h9 : dx5 < x5) (h10 : x5 < pl)
    (h11 : ∀ p ∈ core ++ (86, tabObj ps) :: rest, p.1 < D4 ∧ p.1 ≠ al ∧ p.1 ≠ f') (h12 : ∀ q ∈ (86, tabObj ps) :: rest, q.1 < al ∧ ∀ p ∈ core, q.1 < p.1) :
    LexRet w p loose mean mg mb x rest (.ref x5) ((pl, W.listOf #[] 0) :: (x5, instObj 80 dx5) :: (dx5, machD w k0 k1 k2 k3 k4 k5 f' pl) :: (D4, dO4) :: (f', fo) :: (al, W.listOf #[.int 0 tk0] 0) :: (core ++ (86, tabObj ps) :: rest))
section
local macro_rules | `(tactic| k_all) => `(tactic| first | assumption | ((rename Under _ _ => hR9); refine Under.ne hR9 ?_; omega))
local macro_rules | `(tactic| walk_at "exec FunctionDef") => `(tactic| refine Hold.out ?_)
theorem lexer_ct (w : World) (p : Program) (loose : List Str) (mean : ExcName → Option Value) (mg mb : Str → Option Value) (x : Str) (hxl : x.length ≤ 200) (t : Tok) (rest : List (Addr × Obj)) (hP : ∀ p ∈ rest, p.1 ≠ 86) :
  Ct w p loose mean mg mb (.ref 91) [Value.str x t] 6 30 ((86, tabObj #[]) :: rest) (LexRet w p loose mean mg mb x rest) := by
  unfold Ct; k_fill
  intro dp un gd cn cs a ccd cl outer A₀ base h₀ L m s Q B F X N T hk hdp hun hg hret
  refine wpAny_call ?_
  refine' code_defC ?k1 ?k2 ?k3 ?k4 ?k5 ?kA ?kF ?kK ?k6 ?k7 ?k8 ?k9 ?kB ?kD ?_ ?c2 ?c3 ?c4
  case kA => exact rfl
  case kF => exact rfl
  case kK => assumption
  case k1 => k_asm
  case k2 => k_asm
  case k3 => k_asm
  case k4 => k_asm
  case k5 => k_asm
  case k6 => k_is
  case k7 => k_is
  case k8 => ktr_room
  case k9 => exact BindsTo.of_eq rfl
  case kB => exact rfl
  case kD => decide +kernel
  case c2 => exact rfl
  case c3 => exact rfl
  case c4 => exact rfl
  intro g' L' h' tk' cells' FG' F' N' Y' B' X' T' l1
  have hR : Under rest L' := fun p hp => l1 p (.tail _ hp)
  have C86 := code86 X'
  k_lt l1
  obtain ⟨o1, o2, hE', d1, d2⟩ := CellsAre.two Y'
  subst hE'
  clear Y'
  replace d1 : o1.data = Data.cell none := d1
  replace d2 : o2.data = Data.cell (some (Value.str x t)) := d2
  simp only [List.cons_append, List.nil_append] at N'
  (try dsimp only); (try k_lift B'); (try k_fold)
  k_steps
  refine ⟨?_⟩
  rename_i al hx1 lx1 hx2 oA FA NA dA
  have dA' := Hold.mk dA
  refine' nestDef_K ?d0 ?k0 ?a0 ?_
  case d0 => exact rfl
  case k0 => exact rfl
  case a0 => exact rfl
  refine' nest_K ?nkF ?nkN ?nkT ?nkC ?nkcd ?nkU ?nkt ?nkn ?nkcl ?_
  case nkF => k_asm
  case nkN => k_asm
  case nkT => k_asm
  case nkcd => exact rfl
  case nkC => kn_code
  case nkU => k_updF
  case nkt => kn_triples
  case nkn => kn_among
  case nkcl => exact rfl
  intro f1 c1 oc1 vs1 t1 ct1 dc1 h1 tk1 F1 N1 d11 d12 l11 l12
  (try dsimp only at N1); (try k_lt l11); (try k_lt2 l12)
  k_steps
  rename News _ _ _ _ => N3
  rename Fr g' L' _ _ => F3
  refine kfn_setattr F3 N3 (by k_all) rfl rfl rfl fn_no_read ?_
  intro h4 tk4 D4 dO4 F4 N4 hD4 l4
  k_lt l4
  k_steps
  refine' call_cls ?k1 ?k2 ?k3 ?k4 ?k5 ?k6 ?_
  case k1 => k_asm
  case k2 => k_asm
  case k3 => k_asm
  case k4 => k_is
  case k5 => k_is
  case k6 => k_is
  intro x5 dx5 h5 F5 N5 l5 l6
  (try k_lt l5); (try k_lt2 l6)
  refine' code_def ?k1 ?k2 ?k3 ?k4 ?k5 ?kA ?kF ?kK ?k6 ?k7 ?k8 ?k9 ?kB ?_ ?c2 ?c3 ?c4 ?c5
  case kA => exact rfl
  case kF => exact rfl
  case kK => exact rfl
  case k1 => k_asm
  case k2 => k_asm
  case k3 => k_asm
  case k4 => k_asm
  case k5 => k_asm
  case k6 => k_is
  case k7 => k_is
  case k8 => ktr_room
  case k9 => exact BindsTo.of_eq rfl
  case c5 => decide
  case kB => exact locs rfl
  case c2 => exact rfl
  case c3 => exact rfl
  case c4 => exact rfl
  intro g6 L6 h6 FG6 F6 N6 B6 X6 T6
  (try dsimp only); (try k_lift B6); (try k_fold)
  k_steps
  rename News _ _ _ _ => NL
  rename Fr h₀ L _ _ => FL
  have dA := dA'.out
  refine with_news NL fun nf hnf => ?_
  have key : ∀ (i nl : Nat) (fix : List (Addr × Obj)) (t tk : Tok), i ≤ x.length → (∀ p ∈ nf, (p.1 = f1 ∨ p.1 = c1 ∨ p.1 = L' + 1 + 1 ∨ p.1 = L' + 1) → p ∈ fix) → (∀ p ∈ fix, p.1 ≠ al) →
      Ct w p loose mean mg mb (.ref f1) [.int 1 t] 2 20 ((al, W.listOf #[.int i tk] nl) :: fix)
        (fun r n => ∃ t' tk' nl', r = .str (Txt.slice x (some i) (some (i + 1))) t' ∧ n = (al, W.listOf #[.int (i + (Txt.slice x (some i) (some (i + 1))).length) tk'] nl') :: fix) := by
      intro i nl fix t2 tk2 hi hsub hfix
      rw [hnf] at hsub
      have nf1 : f1 ≠ al := Nat.ne_of_gt (by (first | exact Nat.lt_trans l11.1 l12 | omega))
      have nf2 : c1 ≠ al := Nat.ne_of_gt (by (first | exact l11.1 | omega))
      have nf4 : L' + 1 + 1 ≠ al := Nat.ne_of_lt (by (first | exact lx1.1 | omega))
      have nf5 : L' + 1 ≠ al := Nat.ne_of_lt (by (first | exact lx1.2.1 | omega))
      have hmF := List.mem_cons_of_mem (al, W.listOf #[.int i tk2] nl) (hsub (f1, _) (by first | exact .tail _ (.tail _ (.tail _ (.tail _ (.tail _ (.tail _ (.head _))))))) (.inl rfl))
      have hmC := List.mem_cons_of_mem (al, W.listOf #[.int i tk2] nl) (hsub (c1, _) (by first | exact .tail _ (.tail _ (.tail _ (.tail _ (.tail _ (.tail _ (.tail _ (.head _)))))))) (.inr (.inl rfl)))
      have hmA := List.mem_cons_of_mem (al, W.listOf #[.int i tk2] nl) (hsub (L' + 1 + 1, _) (by first | exact .tail _ (.tail _ (.tail _ (.tail _ (.tail _ (.tail _ (.tail _ (.tail _ (.tail _ (.head _)))))))))) (.inr (.inr (.inl rfl))))
      have hmT := List.mem_cons_of_mem (al, W.listOf #[.int i tk2] nl) (hsub (L' + 1, _) (by first | exact .tail _ (.tail _ (.tail _ (.tail _ (.tail _ (.tail _ (.tail _ (.tail _ (.tail _ (.tail _ (.head _))))))))))) (.inr (.inr (.inr rfl))))
      have hsub' := Hold.mk hsub
      clear hsub
      have hfix' := Hold.mk hfix
      clear hfix
      have hi' := Hold.mk hi
      clear hi
      clear B N F X T hret NL FL B' FG' X' T' hk hdp hun hg
      unfold Ct
      intro dp un gd cn cs a ccd cl outer A₀ base h₀ L m s Q B F X N T hk hdp hun hg hret
      refine wpAny_call ?_
      refine' code_nest ?k1 ?k2 ?k3 ?k4 ?k5 ?kA ?kF ?kK ?k6 ?k7 ?k8 ?k9 ?kB ?_ ?c2 ?c3 ?c4 ?c5
      case kA => exact rfl
      case kF => exact rfl
      case kK => assumption
      case k1 => k_asm
      case k2 => k_asm
      case k3 => k_asm
      case k4 => k_asm
      case k5 => k_asm
      case k6 => exact hmF
      case k7 => exact codeRec_news (by k_asm) hmC d11 d12
      case k8 => ktr_room
      case k9 => exact BindsTo.of_eq rfl
      case c5 => decide
      case kB => exact locs rfl
      case c2 => exact rfl
      case c3 => exact rfl
      case c4 => exact rfl
      intro g2 L2 h2 FG2 F2 N2 B2 X2 T2
      (try dsimp only); (try k_lift B2); (try k_fold)
      k_steps
      rename Fr g2 _ _ _ => F5
      rename News g2 _ _ _ => N5
      refine set_ints (vs := [.int (i : Int) _]) (Lo := 0) F5 N5 hfix'.out (by simp) (by simp) ?_
      intro h5 F5 N5
      k_steps
      exact hret _ _ _ _ _ ⟨_, _, _, rfl, rfl⟩ hg (by assumption) (by assumption)
  obtain ⟨pl, k0, k1, k2, k3, k4, k5, f', fo, fd, hm1, hm2, hm3, hm4, hfo1, hfo2, hfo3, hm5, ho1, ho2, ho3, ho4, ho5⟩ : ∃ pl k0 k1 k2 k3 k4 k5 f' fo fd, (pl, W.listOf #[] 0) ∈ nf ∧ (x5, instObj 80 dx5) ∈ nf ∧ (dx5, machD w k0 k1 k2 k3 k4 k5 f' pl) ∈ nf ∧ (f', fo) ∈ nf ∧
      fo.cls = .type "function" ∧ fo.dict = some D4 ∧ fo.data = .func fd ∧ (D4, dO4) ∈ nf ∧ @LT.lt Nat _ al f' ∧ @LT.lt Nat _ f' D4 ∧ @LT.lt Nat _ x5 pl ∧ @LT.lt Nat _ f1 f' ∧ @LT.lt Nat _ c1 f' := by
    rw [hnf]
    refine ⟨_, _, _, _, _, _, _, _, _, _, .head _, .tail _ (.head _), .tail _ (.tail _ (.head _)), .tail _ (.tail _ (.tail _ (.tail _ (.head _)))), rfl, rfl, rfl, .tail _ (.tail _ (.tail _ (.head _))), ?_, ?_, ?_, ?_, ?_⟩
    · (first | exact Mine.ar86 (by assumption) (by assumption) | omega)
    · (first | exact l4.1 | omega)
    · (first | exact Mine.ar87 (by assumption) | omega)
    · (first | exact Mine.ar88 (by assumption) (by assumption) | omega)
    · (first | exact Mine.ar89 (by assumption) (by assumption) | omega)
  have hmal : (al, W.listOf #[.int 0 tk'] 0) ∈ nf := by
    rw [hnf]
    exact .tail _ (.tail _ (.tail _ (.tail _ (.tail _ (.tail _ (.tail _ (.tail _ (.head _))))))))
  have hmf : ∃ oc od fd sl, (f1, (⟨oc, od, .func fd, sl⟩ : Obj)) ∈ nf := by
    rw [hnf]
    exact ⟨_, _, _, _, .tail _ (.tail _ (.tail _ (.tail _ (.tail _ (.tail _ (.head _))))))⟩
  obtain ⟨ps, hm86⟩ : ∃ ps, (86, tabObj ps) ∈ nf := by
    rw [hnf]
    exact ⟨_, .tail _ (.tail _ (.tail _ (.tail _ (.tail _ (.tail _ (.tail _ (.tail _ (.tail _ (.tail _ (.tail _ (.head _)))))))))))⟩
  have hmr : ∀ p ∈ rest, p ∈ nf := by
    rw [hnf]
    exact fun p hp => .tail _ (.tail _ (.tail _ (.tail _ (.tail _ (.tail _ (.tail _ (.tail _ (.tail _ (.tail _ (.tail _ (.tail _ hp)))))))))))
  rw [← hnf] at NL
  clear hnf
  refine hret _ _ _ _ _ (.mk pl x5 dx5 D4 dO4 f' fo fd f1 al (nf.filter (fun p => decide (p.1 = f1 ∨ p.1 = c1 ∨ p.1 = L' + 1 + 1 ∨ p.1 = L' + 1))) k0 k1 k2 k3 k4 k5 tk' ps hfo1 hfo2 hfo3 hD4 ?rd ho1 ho2 ?o3 ?o4 ho3 ?o6 ?o7) hg FL ?nn
  case rd => exact ⟨hmf.imp fun _ => .imp fun _ => .imp fun _ => .imp fun _ h => List.mem_filter.mpr ⟨h, decide_eq_true (.inl rfl)⟩, fun i nl fix t tk hi hc hf => key i nl fix t tk hi (fun p hp hq => hc p (List.mem_filter.mpr ⟨hp, decide_eq_true hq⟩)) hf⟩
  case nn =>
    refine cb_drop NL fun p hp => ?_
    rcases List.mem_cons.mp hp with rfl | hp
    · exact hm1
    rcases List.mem_cons.mp hp with rfl | hp
    · exact hm2
    rcases List.mem_cons.mp hp with rfl | hp
    · exact hm3
    rcases List.mem_cons.mp hp with rfl | hp
    · exact hm5
    rcases List.mem_cons.mp hp with rfl | hp
    · exact hm4
    rcases List.mem_cons.mp hp with rfl | hp
    · exact hmal
    rcases List.mem_append.mp hp with hp | hp
    · exact (List.mem_filter.mp hp).1
    rcases List.mem_cons.mp hp with rfl | hp
    · exact hm86
    · exact hmr p hp
  case o3 =>
    have q : @LT.lt Nat _ D4 dx5 := by (first | exact l5.1 | omega)
    exact q
  case o4 => exact l6
  case o7 =>
    intro q hq
    have q0 : @LT.lt Nat _ q.1 L' := by
      rcases List.mem_cons.mp hq with rfl | hq
      · have q1 : @LT.lt Nat _ 86 L' := by (first | exact l1.1 | omega)
        exact q1
      · exact hR q hq
    refine ⟨?_, fun p hp => ?_⟩
    · have q1 : @LT.lt Nat _ q.1 al := by (first | exact Nat.lt_trans q0 (Nat.lt_trans (Nat.lt_succ_self _) lx1.2.1) | omega)
      exact q1
    · have e := of_decide_eq_true (List.mem_filter.mp hp).2
      rcases e with e | e | e | e
      · rw [e]
        have q1 : @LT.lt Nat _ q.1 f1 := by (first | exact Nat.lt_trans q0 (Nat.lt_trans (Nat.lt_succ_self _) (Nat.lt_trans l11.2.2.1 l12)) | omega)
        exact q1
      · rw [e]
        have q1 : @LT.lt Nat _ q.1 c1 := by (first | exact Nat.lt_trans q0 (Nat.lt_trans (Nat.lt_succ_self _) l11.2.2.1) | omega)
        exact q1
      · rw [e]
        have q1 : @LT.lt Nat _ q.1 (L' + 1 + 1) := by (first | exact Nat.lt_trans q0 (Nat.lt_trans (Nat.lt_succ_self _) (Nat.lt_succ_self _)) | omega)
        exact q1
      · rw [e]
        have q1 : @LT.lt Nat _ q.1 (L' + 1) := by (first | exact Nat.lt_trans q0 (Nat.lt_succ_self _) | omega)
        exact q1
  case o6 =>
    intro p hp
    rcases List.mem_append.mp hp with hp | hp
    · have e := of_decide_eq_true (List.mem_filter.mp hp).2
      rcases e with e | e | e | e
      · rw [e]
        have q1 : @LT.lt Nat _ f1 D4 := by (first | exact Nat.lt_trans ho4 ho2 | omega)
        exact ⟨q1, Nat.ne_of_gt (by (first | exact Nat.lt_trans l11.1 l12 | omega)), Nat.ne_of_lt ho4⟩
      · rw [e]
        have q1 : @LT.lt Nat _ c1 D4 := by (first | exact Nat.lt_trans ho5 ho2 | omega)
        exact ⟨q1, Nat.ne_of_gt (by (first | exact l11.1 | omega)), Nat.ne_of_lt ho5⟩
      · rw [e]
        have q1 : @LT.lt Nat _ (L' + 1 + 1) D4 := by (first | exact l4.2.2.2.2.2.1 | omega)
        have q2 : @LT.lt Nat _ (L' + 1 + 1) al := by (first | exact lx1.1 | omega)
        exact ⟨q1, Nat.ne_of_lt q2, Nat.ne_of_lt (Nat.lt_trans q2 ho1)⟩
      · rw [e]
        have q1 : @LT.lt Nat _ (L' + 1) D4 := by (first | exact l4.2.2.2.2.2.2.1 | omega)
        have q2 : @LT.lt Nat _ (L' + 1) al := by (first | exact lx1.2.1 | omega)
        exact ⟨q1, Nat.ne_of_lt q2, Nat.ne_of_lt (Nat.lt_trans q2 ho1)⟩
    rcases List.mem_cons.mp hp with rfl | hp
    · have q1 : @LT.lt Nat _ 86 D4 := by (first | exact l4.2.2.2.2.2.2.2.1 | omega)
      have q2 : @LT.lt Nat _ 86 al := by (first | exact lx1.2.2.1 | omega)
      exact ⟨q1, Nat.ne_of_lt q2, Nat.ne_of_lt (Nat.lt_trans q2 ho1)⟩
    · have q0 : @LT.lt Nat _ p.1 L' := hR p hp
      have q1 : @LT.lt Nat _ p.1 D4 := by (first | exact Nat.lt_trans q0 (Nat.lt_trans (Nat.lt_succ_self _) l4.2.2.2.2.2.2.1) | omega)
      have q2 : @LT.lt Nat _ p.1 al := by (first | exact Nat.lt_trans q0 (Nat.lt_trans (Nat.lt_succ_self _) lx1.2.1) | omega)
      exact ⟨q1, Nat.ne_of_lt q2, Nat.ne_of_lt (Nat.lt_trans q2 ho1)⟩
end
end Mine
end

-- part F9
section
local macro_rules | `(tactic| walk_at "pad F9") => `(tactic| skip)
open PySem PySem.W PyProof.Rows
set_option maxRecDepth 100000
set_option maxHeartbeats 8000000
namespace Mine

section
local macro_rules | `(tactic| walk_at "call builtin:list.append") => `(tactic| refine Hold.out ?_)
theorem push_ct (w : World) (p : Program) (loose : List Str) (mean : ExcName → Option Value) (mg mb : Str → Option Value) (y : Str) (t : Tok) (vs : List Value) (nl : Nat) (hvs : vs.length ≤ 100) (x5 dx5 pl f' : Addr) (k0 k1 k2 k3 k4 k5 : Tok) (rest : List (Addr × Obj)) (o1 : @LT.lt Nat _ dx5 x5) (o2 : @LT.lt Nat _ x5 pl) (hP : ∀ p ∈ rest, p.1 ≠ pl) :
  Ct w p loose mean mg mb (.ref 77) [.ref x5, .str y t] 2 12 ((pl, W.listOf vs.toArray nl) :: (x5, instObj 80 dx5) :: (dx5, machD w k0 k1 k2 k3 k4 k5 f' pl) :: rest)
    (fun v n => ∃ t' nl', v = .none ∧ n = (pl, W.listOf (vs ++ [Value.str y t']).toArray nl') :: (x5, instObj 80 dx5) :: (dx5, machD w k0 k1 k2 k3 k4 k5 f' pl) :: rest) := by
  unfold Ct; k_fill
  intro dp un gd cn cs a ccd cl outer A₀ base h₀ L m s Q B F X N T hk hdp hun hg hret
  refine wpAny_call ?_
  refine' code_def ?k1 ?k2 ?k3 ?k4 ?k5 ?kA ?kF ?kK ?k6 ?k7 ?k8 ?k9 ?kB ?_ ?c2 ?c3 ?c4 ?c5
  case kA => exact rfl
  case kF => exact rfl
  case kK => assumption
  case k1 => k_asm
  case k2 => k_asm
  case k3 => k_asm
  case k4 => k_asm
  case k5 => k_asm
  case k6 => k_is
  case k7 => k_is
  case k8 => ktr_room
  case k9 => exact BindsTo.of_eq rfl
  case c5 => decide
  case kB => exact locs rfl
  case c2 => exact rfl
  case c3 => exact rfl
  case c4 => exact rfl
  intro g' L' h' FG' F' N' B' X' T'
  (try dsimp only); (try k_lift B'); (try k_fold)

  have q1 : x5 ≠ pl := Nat.ne_of_lt (by (first | exact o2 | omega))
  have q2 : dx5 ≠ pl := Nat.ne_of_lt (by (first | exact Nat.lt_trans o1 o2 | omega))
  have hP' := Hold.mk hP
  clear hP
  k_steps
  refine ⟨?_⟩
  refine append_head F' N' ?_ (fun h4 F4 N4 => ?_) (Nat.le_trans (by simpa using hvs) (show 100 ≤ sizeLine by decide +kernel))
  · intro p hp
    rcases List.mem_cons.mp hp with rfl | hp
    · exact q1
    rcases List.mem_cons.mp hp with rfl | hp
    · exact q2
    exact hP'.out p hp
  k_steps
  refine hret _ _ _ _ _ ⟨t, nl + 1, rfl, ?_⟩ hg (by assumption) (by assumption)
  simp
end
end Mine
end

-- part F10
section
open PySem PySem.W PyProof.Rows
set_option maxRecDepth 100000
set_option maxHeartbeats 8000000
namespace Mine

section
local macro_rules | `(tactic| walk_at "call builtin:list.pop") => `(tactic| refine Hold.out ?_)
theorem pop_ct (w : World) (p : Program) (loose : List Str) (mean : ExcName → Option Value) (mg mb : Str → Option Value) (y : Str) (t : Tok) (vs : List Value) (nl : Nat) (hvs : vs.length ≤ 100) (x5 dx5 pl f' : Addr) (k0 k1 k2 k3 k4 k5 : Tok) (rest : List (Addr × Obj)) (o1 : @LT.lt Nat _ dx5 x5) (o2 : @LT.lt Nat _ x5 pl) (hP : ∀ p ∈ rest, p.1 ≠ pl) :
  Ct w p loose mean mg mb (.ref 70) [.ref x5] 2 12 ((pl, W.listOf (Value.str y t :: vs).toArray nl) :: (x5, instObj 80 dx5) :: (dx5, machD w k0 k1 k2 k3 k4 k5 f' pl) :: rest)
    (fun v n => ∃ nl', v = .str y t ∧ n = (pl, W.listOf vs.toArray nl') :: (x5, instObj 80 dx5) :: (dx5, machD w k0 k1 k2 k3 k4 k5 f' pl) :: rest) := by
  unfold Ct; k_fill
  intro dp un gd cn cs a ccd cl outer A₀ base h₀ L m s Q B F X N T hk hdp hun hg hret
  refine wpAny_call ?_
  refine' code_def ?k1 ?k2 ?k3 ?k4 ?k5 ?kA ?kF ?kK ?k6 ?k7 ?k8 ?k9 ?kB ?_ ?c2 ?c3 ?c4 ?c5
  case kA => exact rfl
  case kF => exact rfl
  case kK => assumption
  case k1 => k_asm
  case k2 => k_asm
  case k3 => k_asm
  case k4 => k_asm
  case k5 => k_asm
  case k6 => k_is
  case k7 => k_is
  case k8 => ktr_room
  case k9 => exact BindsTo.of_eq rfl
  case c5 => decide
  case kB => exact locs rfl
  case c2 => exact rfl
  case c3 => exact rfl
  case c4 => exact rfl
  intro g' L' h' FG' F' N' B' X' T'
  (try dsimp only); (try k_lift B'); (try k_fold)

  have q1 : x5 ≠ pl := Nat.ne_of_lt (by (first | exact o2 | omega))
  have q2 : dx5 ≠ pl := Nat.ne_of_lt (by (first | exact Nat.lt_trans o1 o2 | omega))
  have hP' := Hold.mk hP
  clear hP
  k_steps
  refine ⟨?_⟩
  rename News _ _ _ _ => N4
  rename Fr g' L' _ _ => F4
  refine kl_popAt (k := 0) (p := []) (q := vs) (y := Value.str y t) F4 N4 rfl ?sk rfl (.head ?_) ?_ fun h5 F5 N5 => ?_
  case sk => simp [seqIndex?]
  · intro p hp
    rcases List.mem_cons.mp hp with rfl | hp
    · exact q1
    rcases List.mem_cons.mp hp with rfl | hp
    · exact q2
    exact hP'.out p hp
  · exact Nat.le_trans (show (Value.str y t :: vs).length ≤ 101 by simpa using hvs) (show 101 ≤ sizeLine by decide +kernel)
  k_steps
  refine hret _ _ _ _ _ ⟨nl + 1, rfl, rfl⟩ hg (by assumption) (by assumption)
end
end Mine
end

-- part F11
section
open PySem PySem.W PyProof.Rows
set_option maxRecDepth 100000
set_option maxHeartbeats 8000000
namespace Mine

theorem slice_at {x : Str} {i c : Nat} (hc : x.cps[i]? = some c) : Txt.slice x (some (i : Int)) (some ((i : Int) + 1)) = ⟨#[c]⟩ := by
  have hi : i < x.length := (Array.getElem?_eq_some_iff.mp hc).1
  have h := slice_one_closes (x := x) (n := (i : Int)) (by (first | exact Mine.ar1 | omega)) (by (first | exact Mine.ar173 hi | omega))
  have e := eq_of_beq h
  rw [e]
  have : x.cps.getD (i : Int).toNat 0 = c := by
    rw [Int.toNat_natCast]
    simp [Array.getD_eq_getD_getElem?, hc]
  rw [this]
theorem one_ne {c d : Nat} (h : c ≠ d) : (Str.mk #[c] == Str.mk #[d]) = false := by
  rw [beq_eq_false_iff_ne]
  intro e
  injection e with e
  simp at e
  exact h e
theorem nl_is : Str.ofString "
" = Str.mk #[10] := by decide +kernel
theorem nl_ne {c : Nat} (h : c ≠ 10) : (Str.mk #[c] == Str.ofString "
") = false := by rw [nl_is]; exact one_ne h
section
local macro_rules | `(tactic| walk_at "call ref") => `(tactic| refine Hold.out ?_)
local macro_rules | `(tactic| walk_at "getMethod ref") => `(tactic| refine Hold.out ?_)
theorem rc_code (w : World) (p : Program) (loose : List Str) (mean : ExcName → Option Value) (mg mb : Str → Option Value)(x : Str) (f1 al : Addr) (core : List (Addr × Obj)) (R : Rdr w p loose mean mg mb x f1 al core)
  (i nl : Nat) (tka : Tok) (fix : List (Addr × Obj)) (x5 dx5 pl f' D4 : Addr) (fo dO4 : Obj) (fd : FuncData) (k0 k1 k2 k3 k4 k5 : Tok)
  (hfo1 : fo.cls = .type "function") (hfo2 : fo.dict = some D4) (hfo3 : fo.data = .func fd) (hD4 : ∀ h : Heap, h.get? D4 = some dO4 → h.Ns1 D4 (fun y => if y = Str.ofString "read" then some (.ref f1) else none))
  (hcore : ∀ p ∈ core, p ∈ fix) (hfix : ∀ p ∈ fix, p.1 ≠ al) (m1 : (x5, instObj 80 dx5) ∈ fix) (m2 : (dx5, machD w k0 k1 k2 k3 k4 k5 f' pl) ∈ fix) (m3 : (f', fo) ∈ fix) (m4 : (D4, dO4) ∈ fix)
  (c : Nat) (hx : x.length ≤ 200) (hi : i < x.length) (hc : x.cps[i]? = some c) (hc10 : c ≠ 10) (dp un : Nat) (gd : Option (List PySem.Code)) (cn : Str) (cs : Scope) (a : Addr) (ccd : Value) (cl : List (Str × Addr)) (outer : List Env) (A₀ : Around) (base h₀ : Heap) (L : Addr) (m : Str → Option Value) (s : Shared) (Q : Value → Shared → Prop)
    (B : Below A₀ base outer h₀) (F : Fr h₀ L s.heap m) (X : (Mine.hd.heap_39 w.params).In h₀) (N : News h₀ L s.heap ((al, W.listOf #[.int i tka] nl) :: fix)) (T : Top p loose mean mg mb h₀) (hk : cs.kind = .function)
    (hdp : dp + 6 < recursionLimit) (hun : un + 40 < cLine) (hg : AllBare s.gens)
    (hret : ∀ t' nl' tk' h' tk2 g', AllBare g' → Fr h₀ L h' m → News h₀ L h' ((al, W.listOf #[.int (i + 1 : Nat) tk'] nl') :: fix) → Q (.str ⟨#[c]⟩ t') { heap := h', gens := g', drawn := s.drawn, toks := tk2, os := s.os }) :
      codeAny (model PySem.Challenge.rw_to0007_01.row.prog w) (ktrTop dp un gd cn cs L a ccd cl outer) (.call (.ref 63) ⟨[.ref x5], []⟩) (fun r s' => match r with | .ok (.ret v) => Q v s' | .ok _ => False | .error e => False) s := by
  revert X; k_fill; intro X
  obtain ⟨⟨qoc, qod, qfd, qsl, mf⟩, R⟩ := R
  replace mf := hcore _ mf
  have N0 : News h₀ L s.heap ((f1, (⟨qoc, qod, .func qfd, qsl⟩ : Obj)) :: (x5, instObj 80 dx5) :: (dx5, machD w k0 k1 k2 k3 k4 k5 f' pl) :: (f', fo) :: (D4, dO4) :: (al, W.listOf #[.int i tka] nl) :: fix) := by
    refine cb_drop N fun p hp => ?_
    rcases List.mem_cons.mp hp with rfl | hp
    · exact .tail _ mf
    rcases List.mem_cons.mp hp with rfl | hp
    · exact .tail _ m1
    rcases List.mem_cons.mp hp with rfl | hp
    · exact .tail _ m2
    rcases List.mem_cons.mp hp with rfl | hp
    · exact .tail _ m3
    rcases List.mem_cons.mp hp with rfl | hp
    · exact .tail _ m4
    · exact hp
  replace N := N0
  clear N0
  have hcore' := Hold.mk hcore
  have hfix' := Hold.mk hfix
  have hx' := Hold.mk hx
  have hi' := Hold.mk hi
  have R' := Hold.mk R
  clear hcore hfix hx hi m1 m2 m3 m4 mf R
  refine' code_def ?k1 ?k2 ?k3 ?k4 ?k5 ?kA ?kF ?kK ?k6 ?k7 ?k8 ?k9 ?kB ?_ ?c2 ?c3 ?c4 ?c5
  case kA => exact rfl
  case kF => exact rfl
  case kK => assumption
  case k1 => k_asm
  case k2 => k_asm
  case k3 => k_asm
  case k4 => k_asm
  case k5 => k_asm
  case k6 => k_is
  case k7 => k_is
  case k8 => first | exact Mine.rm 0 hdp rfl (by decide) | exact Mine.rm 1 hdp rfl (by decide) | ktr_room
  case k9 => exact BindsTo.of_eq rfl
  case c5 => decide
  case kB => exact locs rfl
  case c2 => exact rfl
  case c3 => exact rfl
  case c4 => exact rfl
  intro g' L' h' FG' F' N' B' X' T'
  (try dsimp only); (try k_lift B'); (try k_fold)

  k_steps
  refine ⟨?_⟩
  rename News _ _ _ _ => N4
  rename Fr g' L' _ _ => F4
  refine fn_getMethod ?pl (N4 _ (.tail _ (.tail _ (.tail _ (.head _))))).1 hfo1 hfo3 hfo2 (hD4 _ (N4 _ (.tail _ (.tail _ (.tail _ (.tail _ (.head _)))))).1) (v := .ref f1) ?v rfl fun tk6 => ?_
  case pl => rfl
  case v => rfl
  dsimp only
  refine callWith_F (q := f1) (FnAt.of N4 (.head _)) ?_
  k_steps
  refine ⟨?_⟩
  rename News _ _ _ _ => N5
  rename Fr g' L' _ _ => F5
  have N6 := cb_drop (news := (al, W.listOf #[.int i tka] nl) :: fix) N5 (fun p hp => .tail _ (.tail _ (.tail _ (.tail _ (.tail _ hp)))))
  refine Ct.app (R'.out i nl fix _ _ (Nat.le_of_lt hi'.out) hcore'.out hfix'.out) rfl B' F5 X' N6 T' rfl (by first | exact Mine.rm 0 hdp rfl (by decide) | exact Mine.rm 1 hdp rfl (by decide) | ktr_room) (by first | exact Mine.um 0 hun rfl (by decide) | exact Mine.um 3 hun rfl (by decide) | exact Mine.um 1 hun rfl (by decide) | exact Mine.um 4 hun rfl (by decide) | ktr_units) (by exact hg) ?_
  rintro v nn h3 tk3 g3 ⟨t9, tk9, nl9, rfl, e⟩ hg3 F3 N3
  rw [e] at N3
  clear e
  rw [slice_at hc] at N3 ⊢
  clear N5 N6 F5
  have hnl := nl_ne hc10
  k_steps
  exact hret _ _ _ _ _ _ (by assumption) (by assumption) (by assumption)
end
end Mine
end

-- part F12
section
open PySem PySem.W PyProof.Rows
set_option maxRecDepth 100000
set_option maxHeartbeats 8000000
namespace Mine

/-- what the lexer needs of the ledger behind the reader's list -/
structure Lx (w : World) (p : Program) (loose : List Str) (mean : ExcName → Option Value) (mg mb : Str → Option Value) (x : Str) (x5 dx5 pl : Addr) (k0 k1 k2 k3 k4 k5 : Tok) (f' al : Addr) (fix : List (Addr × Obj)) : Prop where
  ex : ∃ f1 core D4 fo dO4 fd, Rdr w p loose mean mg mb x f1 al core ∧ fo.cls = .type "function" ∧ fo.dict = some D4 ∧ fo.data = .func fd ∧
    (∀ h : Heap, h.get? D4 = some dO4 → h.Ns1 D4 (fun y => if y = Str.ofString "read" then some (.ref f1) else none)) ∧ (∀ p ∈ core, p ∈ fix) ∧ (f', fo) ∈ fix ∧ (D4, dO4) ∈ fix
  m1 : (x5, instObj 80 dx5) ∈ fix
  m2 : (dx5, machD w k0 k1 k2 k3 k4 k5 f' pl) ∈ fix
  ne : ∀ p ∈ fix, p.1 ≠ al
  small : x.length ≤ 200
theorem Lx.more {w : World} {p : Program} {loose : List Str} {mean : ExcName → Option Value} {mg mb : Str → Option Value} {x : Str} {x5 dx5 pl : Addr} {k0 k1 k2 k3 k4 k5 : Tok} {f' al : Addr} {fix fix' : List (Addr × Obj)}
    (X : Lx w p loose mean mg mb x x5 dx5 pl k0 k1 k2 k3 k4 k5 f' al fix) (hs : ∀ p ∈ fix, p ∈ fix') (hn : ∀ p ∈ fix', p.1 ≠ al) : Lx w p loose mean mg mb x x5 dx5 pl k0 k1 k2 k3 k4 k5 f' al fix' := by
  obtain ⟨⟨f1, core, D4, fo, dO4, fd, R, a1, a2, a3, a4, a5, a6, a7⟩, m1, m2, ne, sm⟩ := X
  exact ⟨⟨f1, core, D4, fo, dO4, fd, R, a1, a2, a3, a4, fun p hp => hs p (a5 p hp), hs _ a6, hs _ a7⟩, hs _ m1, hs _ m2, hn, sm⟩
theorem rc_ct (w : World) (p : Program) (loose : List Str) (mean : ExcName → Option Value) (mg mb : Str → Option Value) (x : Str) (x5 dx5 pl : Addr) (k0 k1 k2 k3 k4 k5 : Tok) (f' al : Addr) (fix : List (Addr × Obj)) (X : Lx w p loose mean mg mb x x5 dx5 pl k0 k1 k2 k3 k4 k5 f' al fix)
    (i nl : Nat) (tka : Tok) (c : Nat) (cs : List Nat) (hc : x.cps.toList.drop i = c :: cs) (hc10 : c ≠ 10) :
    Ct w p loose mean mg mb (.ref 63) [.ref x5] 6 40 ((al, W.listOf #[.int i tka] nl) :: fix) (fun r n => ∃ t' nl' tk', r = .str ⟨#[c]⟩ t' ∧ n = (al, W.listOf #[.int (i + 1 : Nat) tk'] nl') :: fix) := by
  obtain ⟨⟨f1, core, D4, fo, dO4, fd, R, a1, a2, a3, a4, a5, a6, a7⟩, m1, m2, ne, sm⟩ := X
  have hc' : x.cps[i]? = some c := by
    have := congrArg (fun l => l[0]?) hc
    simpa using this
  have hi : i < x.length := (Array.getElem?_eq_some_iff.mp hc').1
  unfold Ct
  intro dp un gd cn cs a ccd cl outer A₀ base h₀ L m s Q B F X N T hk hdp hun hg hret
  exact wpAny_call (rc_code w p loose mean mg mb x f1 al core R i nl tka fix x5 dx5 pl f' D4 fo dO4 fd k0 k1 k2 k3 k4 k5 a1 a2 a3 a4 a5 ne m1 m2 a6 a7 c sm hi hc' hc10 dp un gd cn cs a ccd cl outer A₀ base h₀ L m s Q B F X N T hk hdp hun hg
    fun t' nl' tk' h' tk2 g' hg' F' N' => hret _ _ _ _ _ ⟨t', nl', tk', rfl, rfl⟩ hg' F' N')
theorem rcm_ct (w : World) (p : Program) (loose : List Str) (mean : ExcName → Option Value) (mg mb : Str → Option Value) (x : Str) (x5 dx5 pl : Addr) (k0 k1 k2 k3 k4 k5 : Tok) (f' al : Addr) (fix : List (Addr × Obj)) (X : Lx w p loose mean mg mb x x5 dx5 pl k0 k1 k2 k3 k4 k5 f' al fix)
    (i nl : Nat) (tka : Tok) (c : Nat) (cs : List Nat) (hc : x.cps.toList.drop i = c :: cs) (hc10 : c ≠ 10) (q : Addr) (hq : (q, methodObj (.ref 63) (.ref x5)) ∈ fix) :
    Ct w p loose mean mg mb (.ref q) [] 6 40 ((al, W.listOf #[.int i tka] nl) :: fix) (fun r n => ∃ t' nl' tk', r = .str ⟨#[c]⟩ t' ∧ n = (al, W.listOf #[.int (i + 1 : Nat) tk'] nl') :: fix) := by
  obtain ⟨⟨f1, core, D4, fo, dO4, fd, R, a1, a2, a3, a4, a5, a6, a7⟩, m1, m2, ne, sm⟩ := X
  have hc' : x.cps[i]? = some c := by
    have := congrArg (fun l => l[0]?) hc
    simpa using this
  have hi : i < x.length := (Array.getElem?_eq_some_iff.mp hc').1
  unfold Ct
  intro dp un gd cn cs a ccd cl outer A₀ base h₀ L m s Q B F X N T hk hdp hun hg hret
  exact call_meth N (.tail _ hq) (rc_code w p loose mean mg mb x f1 al core R i nl tka fix x5 dx5 pl f' D4 fo dO4 fd k0 k1 k2 k3 k4 k5 a1 a2 a3 a4 a5 ne m1 m2 a6 a7 c sm hi hc' hc10 dp un gd cn cs a ccd cl outer A₀ base h₀ L m s Q B F X N T hk hdp hun hg
    fun t' nl' tk' h' tk2 g' hg' F' N' => hret _ _ _ _ _ ⟨t', nl', tk', rfl, rfl⟩ hg' F' N')
/-- a way, written with its backslashes doubled -/
noncomputable def enc : Way → List Nat
  | [] => []
  | true :: r => 47 :: enc r
  | false :: r => 92 :: 92 :: enc r
end Mine
end

-- part F13
section
open PySem PySem.W PyProof.Rows
set_option maxRecDepth 100000
set_option maxHeartbeats 8000000
namespace Mine

theorem one_ne_nil (c : Nat) : Str.mk #[c] ≠ Str.ofString "" := by
  intro e
  have h : (Str.mk #[c]).cps.size = (Str.ofString "").cps.size := by rw [e]
  have h2 : (Str.ofString "").cps.size = 0 := by decide +kernel
  rw [h2] at h
  cases h
theorem drop_next {l : List Nat} {j c : Nat} {r : List Nat} (h : l.drop j = c :: r) : l.drop (j + 1) = r := by
  have := congrArg (List.drop 1) h
  rw [List.drop_drop] at this
  exact this
theorem iter2_K {prog : Program} {w : World} {A : Around} {E : Value → Shared → Prop} {s : Shared} {h₀ : Heap} {L : Addr} {m : Str → Option Value} {news : List (Addr × Obj)} {c f : Addr} {self : Value} {t : Tok} {Q : Value → Shared → Prop}
    (F : Fr h₀ L s.heap m) (N : News h₀ L s.heap news) (hm : (c, methodObj (.ref f) self) ∈ news)
    (h : ∀ ci h' tc, Fr h₀ L h' m → News h₀ L h' ((ci, ciO c tc) :: news) → (∀ p ∈ news, p.1 < ci) → Q (.ref ci) { s with heap := h' }) : wpAny (model prog w) A (call (.builtin "iter") [.ref c, .str (Str.ofString "") t]) Q E s :=
  call_iter2 (N _ hm).1 (h _ _ t (F.push _) (N.push F _) fun p hp => Heap.lt_size (N p hp).1)
theorem lex_next {w : World} {p : Program} {loose : List Str} {mean : ExcName → Option Value} {mg mb : Str → Option Value} {x : Str} {x5 dx5 pl : Addr} {k0 k1 k2 k3 k4 k5 : Tok} {f' al : Addr} {fix : List (Addr × Obj)} (Y : Lx w p loose mean mg mb x x5 dx5 pl k0 k1 k2 k3 k4 k5 f' al fix)
    {ci q : Addr} {tc : Tok} (mci : (ci, ciO q tc) ∈ fix) (mq : (q, methodObj (.ref 63) (.ref x5)) ∈ fix) {i nl : Nat} {tka : Tok} {c : Nat} {cr : List Nat} (hc : x.cps.toList.drop i = c :: cr) (hc10 : c ≠ 10)
    {A : Around} {dp un : Nat} {gd : Option (List PySem.Code)} {cn : Str} {cs : Scope} {a : Addr} {ccd : Value} {cl : List (Str × Addr)} {outer : List Env} {A₀ : Around} {base h₀ : Heap} {L : Addr} {m : Str → Option Value} {s : Shared} {Q : Option Value → Shared → Prop} {E : Value → Shared → Prop}
    (hA : A.in1 = ktrTop dp un gd cn cs L a ccd cl outer) (B : Below A₀ base outer h₀) (F : Fr h₀ L s.heap m) (X : (Mine.hd.heap_39 w.params).In h₀) (N : News h₀ L s.heap ((al, W.listOf #[.int i tka] nl) :: fix)) (T : Top p loose mean mg mb h₀) (hk : cs.kind = .function)
    (hd : dp + 6 < recursionLimit) (hu : un + 40 < cLine) (hg : AllBare s.gens)
    (k : ∀ t' nl' tk' h' tk2 g', AllBare g' → Fr h₀ L h' m → News h₀ L h' ((al, W.listOf #[.int (i + 1 : Nat) tk'] nl') :: fix) → Q (some (.str ⟨#[c]⟩ t')) { heap := h', gens := g', drawn := s.drawn, toks := tk2, os := s.os }) :
    wpAny (model PySem.Challenge.rw_to0007_01.row.prog w) A (pyNext (.ref ci)) Q E s := by
  refine ci_next (N _ (.tail _ mci)).1 (N _ (.tail _ mq)).1 ((X.keeps F.keep) 63 _ rfl) rfl ?_
  refine Ct.app (rcm_ct w p loose mean mg mb x x5 dx5 pl k0 k1 k2 k3 k4 k5 f' al fix Y i nl tka c cr hc hc10 q mq) hA B F X N T hk hd hu hg ?_
  intro v nn h3 tk3 g3 hRt hg3 F3 N3
  refine hide fun PP hPP => ?_
  obtain ⟨t', nl', tk', ev1, e⟩ := hRt
  refine hPP ?_
  clear hPP
  subst ev1
  rw [e] at N3
  exact ⟨_, t', rfl, one_ne_nil c, (N3 _ (.tail _ mci)).1, k _ _ _ _ _ _ hg3 F3 N3⟩
theorem o32 : (Builtin.Str.occurrences (Str.ofString "\n\t\r ") ⟨#[32]⟩ 0 (Str.ofString "\n\t\r ").length 1).isEmpty = false := by decide +kernel
theorem o34 : (Builtin.Str.occurrences (Str.ofString "\n\t\r ") ⟨#[34]⟩ 0 (Str.ofString "\n\t\r ").length 1).isEmpty = true := by decide +kernel
theorem own_name {M : Model} {A : Around} {E : Value → Shared → Prop} {s : Shared} {x : Str} {pos : Pos} {it v : Value} {Q : Unit → Shared → Prop} (h : Q () s) : wpAny M A (letOwnedTupleGo (.Name x pos) it v) Q E s := wpAny_pure h
inductive F1Inv1 (g' : Heap) (L' : Addr) (x5 : Addr) (ci : Addr) (al : Addr) (t20 : Tok) (x : Str) (fix2 : List (Addr × Obj)) (ws : Way) (tail : List Nat) (m₁ : Str → Option Value) (dr : Drawn) (os : OsState) : Nat → Shared → Prop
  | mk (n : Nat) (h : Heap) (gn : Array GenState) (tk : Nat) (j : Nat) (tkj : Tok) (nlj : Nat) (vch : Option Value) : (AllBare gn) → (Fr g' L' h (fun y => if y = Str.ofString "ch" then vch else if y = Str.ofString "token" then some (Value.str (wayS []) t20) else if y = Str.ofString "fiter" then some (Value.ref ci) else if y = Str.ofString "self" then some (Value.ref x5) else m₁ y)) → (News g' L' h ((al, W.listOf #[.int (j : Nat) tkj] nlj) :: fix2)) → (x.cps.toList.drop j = List.replicate n 32 ++ 34 :: (enc ws ++ 34 :: tail)) → F1Inv1 g' L' x5 ci al t20 x fix2 ws tail m₁ dr os n { heap := h, gens := gn, drawn := dr, toks := tk, os := os }
inductive F1Inv2 (g' : Heap) (L' : Addr) (x5 : Addr) (ci : Addr) (al : Addr) (x : Str) (fix2 : List (Addr × Obj)) (ws : Way) (tail : List Nat) (m₁ : Str → Option Value) (dr : Drawn) (os : OsState) : Nat → Shared → Prop
  | mk (n : Nat) (h : Heap) (gn : Array GenState) (tk : Nat) (t2 : Tok) (j : Nat) (tkj : Tok) (nlj : Nat) (vch : Option Value) (dn : Way) (v : Way) : (AllBare gn) → (Fr g' L' h (fun y => if y = Str.ofString "ch" then vch else if y = Str.ofString "token" then some (Value.str (wayS dn) t2) else if y = Str.ofString "fiter" then some (Value.ref ci) else if y = Str.ofString "self" then some (Value.ref x5) else m₁ y)) → (News g' L' h ((al, W.listOf #[.int (j : Nat) tkj] nlj) :: fix2)) → (x.cps.toList.drop j = enc v ++ 34 :: tail) → (dn ++ v = ws) → (n = v.length) → F1Inv2 g' L' x5 ci al x fix2 ws tail m₁ dr os n { heap := h, gens := gn, drawn := dr, toks := tk, os := os }
section
local macro_rules | `(tactic| walk_at "call ref") => `(tactic| refine Hold.out ?_)
local macro_rules | `(tactic| walk_at "call builtin:iter") => `(tactic| refine Hold.out ?_)
local macro_rules | `(tactic| walk_at "exec For") => `(tactic| refine Hold.out ?_)
local macro_rules | `(tactic| walk_at "exec For Name Name") => `(tactic| refine Hold.out ?_)
local macro_rules | `(tactic| walk_at "exec For Name Name cons nil") => `(tactic| refine Hold.out ?_)
local macro_rules | `(tactic| walk_at "pyIter ref") => `(tactic| refine Hold.out ?_)
theorem lex_ct (w : World) (p : Program) (loose : List Str) (mean : ExcName → Option Value) (mg mb : Str → Option Value) (x : Str) (x5 dx5 pl : Addr) (k0 k1 k2 k3 k4 k5 : Tok) (f' al : Addr) (fix : List (Addr × Obj)) (Y : Lx w p loose mean mg mb x x5 dx5 pl k0 k1 k2 k3 k4 k5 f' al fix) (np : Nat) (hpl : (pl, W.listOf #[] np) ∈ fix)
    (i nl : Nat) (tka : Tok) (n0 : Nat) (ws : Way) (tail : List Nat) (hws : ws.length ≤ 60) (hc : x.cps.toList.drop i = List.replicate n0 32 ++ 34 :: (enc ws ++ 34 :: tail)) :
    Ct w p loose mean mg mb (.ref 70) [.ref x5] 12 80 ((al, W.listOf #[.int i tka] nl) :: fix) (fun r n => ∃ t' nl' tk' i', r = .str (wayS ws) t' ∧ x.cps.toList.drop i' = tail ∧ n = (al, W.listOf #[.int (i' : Nat) tk'] nl') :: fix) := by
  unfold Ct; k_fill
  intro dp un gd cn cs a ccd cl outer A₀ base h₀ L m s Q B F X N T hk hdp hun hg hret
  have m1 := Y.m1
  have m2 := Y.m2
  have N0 : News h₀ L s.heap ((pl, W.listOf #[] np) :: (x5, instObj 80 dx5) :: (dx5, machD w k0 k1 k2 k3 k4 k5 f' pl) :: (al, W.listOf #[.int i tka] nl) :: fix) := by
    refine cb_drop N fun p hp => ?_
    rcases List.mem_cons.mp hp with rfl | hp
    · exact .tail _ hpl
    rcases List.mem_cons.mp hp with rfl | hp
    · exact .tail _ m1
    rcases List.mem_cons.mp hp with rfl | hp
    · exact .tail _ m2
    · exact hp
  replace N := N0
  clear N0 hpl m1 m2
  have Y' := Hold.mk Y
  have hc' := Hold.mk hc
  have hws' := Hold.mk hws
  clear Y hc hws
  refine wpAny_call ?_
  refine' code_def ?k1 ?k2 ?k3 ?k4 ?k5 ?kA ?kF ?kK ?k6 ?k7 ?k8 ?k9 ?kB ?_ ?c2 ?c3 ?c4 ?c5
  case kA => exact rfl
  case kF => exact rfl
  case kK => assumption
  case k1 => k_asm
  case k2 => k_asm
  case k3 => k_asm
  case k4 => k_asm
  case k5 => k_asm
  case k6 => k_is
  case k7 => k_is
  case k8 => first | exact Mine.rm 0 hdp rfl (by decide) | exact Mine.rm 1 hdp rfl (by decide) | ktr_room
  case k9 => exact BindsTo.of_eq rfl
  case c5 => decide
  case kB => exact locs rfl
  case c2 => exact rfl
  case c3 => exact rfl
  case c4 => exact rfl
  intro g' L' h' FG' F' N' B' X' T'
  (try dsimp only); (try k_lift B'); (try k_fold)

  k_steps
  refine ⟨?_⟩
  rename_i q h3 F5 N5 lq
  refine iter2_K F5 N5 (.head _) ?_
  intro ci h5 tc F6 N6 l6
  clear F5 N5
  obtain ⟨fix2, hf2⟩ : ∃ fix2, fix2 = (ci, ciO q tc) :: (q, methodObj (.ref 63) (.ref x5)) :: fix := ⟨_, rfl⟩
  have mci : (ci, ciO q tc) ∈ fix2 := by rw [hf2]; exact .head _
  have mq : (q, methodObj (.ref 63) (.ref x5)) ∈ fix2 := by rw [hf2]; exact .tail _ (.head _)
  have hsub : ∀ p ∈ fix, p ∈ fix2 := by rw [hf2]; exact fun p hp => .tail _ (.tail _ hp)
  have hqa : q ≠ al := Nat.ne_of_gt (by (first | exact lq.2.2.2.1 | omega))
  have hca : ci ≠ al := Nat.ne_of_gt (l6 _ (.tail _ (.tail _ (.tail _ (.tail _ (.head _))))))
  have Y2 : Lx w p loose mean mg mb x x5 dx5 pl k0 k1 k2 k3 k4 k5 f' al fix2 := by
    refine Y'.out.more hsub ?_
    rw [hf2]
    intro p hp
    rcases List.mem_cons.mp hp with rfl | hp
    · exact hca
    rcases List.mem_cons.mp hp with rfl | hp
    · exact hqa
    · exact Y'.out.ne p hp
  have NC : ∀ h j t n, News g' L' h ((al, W.listOf #[.int j t] n) :: fix2) → News g' L' h ((x5, instObj 80 dx5) :: (dx5, machD w k0 k1 k2 k3 k4 k5 f' pl) :: (al, W.listOf #[.int j t] n) :: fix2) := by
    intro h j t n N
    refine cb_drop N fun p hp => ?_
    rcases List.mem_cons.mp hp with rfl | hp
    · exact .tail _ Y2.m1
    rcases List.mem_cons.mp hp with rfl | hp
    · exact .tail _ Y2.m2
    · exact hp
  have N7 : News g' L' h5 ((al, W.listOf #[.int i tka] nl) :: fix2) := by
    rw [hf2]
    refine cb_drop N6 fun p hp => ?_
    rcases List.mem_cons.mp hp with rfl | hp
    · exact .tail _ (.tail _ (.tail _ (.tail _ (.tail _ (.head _)))))
    rcases List.mem_cons.mp hp with rfl | hp
    · exact .head _
    rcases List.mem_cons.mp hp with rfl | hp
    · exact .tail _ (.head _)
    · exact .tail _ (.tail _ (.tail _ (.tail _ (.tail _ (.tail _ hp)))))
  clear N6 l6 lq hqa hca hf2
  have Y3 := Hold.mk Y2
  have NC' := Hold.mk NC
  have hsub' := Hold.mk hsub
  clear Y2 NC hsub
  k_steps
  refine ⟨?_⟩
  refine wpAny_For ?_
  k_steps
  refine ⟨?_⟩
  rename News _ _ _ _ => N5
  refine ci_iter (N5 _ (.tail _ mci)).1 ?_
  refine fr_hide (by assumption) fun m₁ hm₁ F₁ => ?_
  have e1 : m₁ (Str.ofString "self") = some (.ref x5) := by rw [hm₁]; rfl
  have e2 : ∃ t2, m₁ (Str.ofString "token") = some (Value.str (wayS []) t2) := ⟨_, by rw [hm₁, ← empty_s]; rfl⟩
  have e3 : m₁ (Str.ofString "fiter") = some (.ref ci) := by rw [hm₁]; rfl
  obtain ⟨t20, e2⟩ := e2
  clear hm₁
  refine for_loopQ (F1Inv1 g' L' x5 ci al t20 x fix2 ws tail m₁ s.drawn s.os) ?_ n0 (.mk n0 (_) (_) (_) (i) (tka) (nl) (m₁ (Str.ofString "ch")) (hg) (fr_map F₁ ?_) (N5) (hc'.out))
  rotate_left
  · exact chain_eq (m := m₁) (by repeat (first | refine Ag.cons (by first | rfl | assumption) ?_ | exact Ag.nil)) (by repeat (first | refine Ag.cons (by first | rfl | assumption) ?_ | exact Ag.nil))
  clear N5 F₁ hc'
  rintro n _ QQ1 ⟨h, gn, tk, j, tkj, nlj, vch, hgn, F8, N8, hc⟩ KE1
  cases n with
  | succ n =>
    refine lex_next Y3.out mci mq (c := 32) hc (by decide) rfl B' F8 X' N8 T' rfl (by first | exact Mine.rm 0 hdp rfl (by decide) | exact Mine.rm 1 hdp rfl (by decide) | ktr_room) (by first | exact Mine.um 0 hun rfl (by decide) | exact Mine.um 3 hun rfl (by decide) | exact Mine.um 1 hun rfl (by decide) | exact Mine.um 4 hun rfl (by decide) | ktr_units) (by exact hgn) ?_
    intro t9 nl9 tk9 h9 tk2 g9 hg9 F9 N9
    dsimp only
    have N10 := NC'.out _ _ _ _ N9
    clear F8 N8
    have hd9 := Hold.mk (drop_next hc)
    clear hc
    refine own_name ?_
    k_steps
    · exfalso
      rename List.isEmpty _ = true => q1
      exact Bool.noConfusion (q1.symm.trans o32)
    dsimp only
    rename News g' L' _ _ => N10
    have N9 := cb_drop (news := (al, W.listOf #[.int (j + 1 : Nat) tk9] nl9) :: fix2) N10 (fun p hp => .tail _ (.tail _ hp))
    clear N10
    refine KE1.nx (by first | exact .inl rfl | exact .inr rfl) (m := n) (Nat.lt_succ_self _) (.mk _ (_) (g9) (_) (j + 1) (tk9) (nl9) (?va) (hg9) (fr_map (by assumption) ?eA) (N9) (hd9.out))
    case eA =>
      exact chain_eq (m := m₁) (by repeat (first | refine Ag.cons (by first | rfl | assumption) ?_ | exact Ag.nil)) (by repeat (first | refine Ag.cons (by first | rfl | assumption) ?_ | exact Ag.nil))
  | zero =>
    refine lex_next Y3.out mci mq (c := 34) hc (by decide) rfl B' F8 X' N8 T' rfl (by first | exact Mine.rm 0 hdp rfl (by decide) | exact Mine.rm 1 hdp rfl (by decide) | ktr_room) (by first | exact Mine.um 0 hun rfl (by decide) | exact Mine.um 3 hun rfl (by decide) | exact Mine.um 1 hun rfl (by decide) | exact Mine.um 4 hun rfl (by decide) | ktr_units) (by exact hgn) ?_
    intro t9 nl9 tk9 h9 tk2 g9 hg9 F9 N9
    dsimp only
    have N10 := NC'.out _ _ _ _ N9
    clear F8 N8
    have hd9 := Hold.mk (drop_next hc)
    clear hc
    refine own_name ?_
    k_steps
    rotate_left
    · exfalso
      rename List.isEmpty _ = false => q1
      exact Bool.noConfusion (q1.symm.trans o34)
    refine ⟨?_⟩
    refine wpAny_For ?_
    k_steps
    refine ⟨?_⟩
    rename News g' L' _ _ => N10
    have N9 := cb_drop (news := (al, W.listOf #[.int (j + 1 : Nat) tk9] nl9) :: fix2) N10 (fun p hp => .tail _ (.tail _ hp))
    clear N10
    refine ci_iter (N9 _ (.tail _ mci)).1 ?_
    refine for_loopQ (F1Inv2 g' L' x5 ci al x fix2 ws tail m₁ s.drawn s.os) ?_ ws.length (.mk ws.length (_) (g9) (_) (t20) (j + 1) (tk9) (nl9) (some (.str ⟨#[34]⟩ t9)) ([]) (ws) (hg9) (fr_map (by assumption) ?eB) (N9) (hd9.out) (rfl) (rfl))
    rotate_left
    case eB =>
      exact chain_eq (m := m₁) (by repeat (first | refine Ag.cons (by first | rfl | assumption) ?_ | exact Ag.nil)) (by repeat (first | refine Ag.cons (by first | rfl | assumption) ?_ | exact Ag.nil))
    clear hd9 N9
    rintro n _ QQ2 ⟨h, gn, tk, t2, j, tkj, nlj, vch, dn, v, hgn, F8, N8, hc, hdn, ev2⟩ KE2
    subst ev2
    cases v with
    | nil =>
      simp only [enc, List.nil_append] at hc
      refine lex_next Y3.out mci mq (c := 34) hc (by decide) rfl B' F8 X' N8 T' rfl (by first | exact Mine.rm 0 hdp rfl (by decide) | exact Mine.rm 1 hdp rfl (by decide) | ktr_room) (by first | exact Mine.um 0 hun rfl (by decide) | exact Mine.um 3 hun rfl (by decide) | exact Mine.um 1 hun rfl (by decide) | exact Mine.um 4 hun rfl (by decide) | ktr_units) (by exact hgn) ?_
      intro t9 nl9 tk9 h9 tk2 g9 hg9 F9 N9
      dsimp only
      have N10 := NC'.out _ _ _ _ N9
      clear F8 N8
      have hd9 := Hold.mk (drop_next hc)
      clear hc
      refine own_name ?_
      k_steps
      refine KE2.rt ?_
      try dsimp only
      k_steps
      refine KE1.rt ?_
      try dsimp only
      k_steps
      rename News g' L' _ _ => N11
      have N9 := cb_drop (news := (al, W.listOf #[.int (j + 1 : Nat) tk9] nl9) :: fix2) N11 (fun p hp => .tail _ (.tail _ hp))
      clear N11
      have hdn' : dn = ws := by rw [← hdn, List.append_nil]
      rw [hdn']
      rename News h₀ L _ _ => N12
      exact hret _ _ _ _ _ ⟨_, _, _, j + 1, rfl, hd9.out, rfl⟩ hg9 (by assumption) (cb_drop N12 (fun p hp => .tail _ (.tail _ ((List.cons_subset_cons _ hsub'.out) hp))))
    | cons b r =>
      have hln : (wayS dn).length ≤ 1000 := by
        have h1 := hws'.out
        rw [← hdn, List.length_append] at h1
        rw [wayS_length]
        (first | exact Mine.ar175 h1 | omega)
      cases b with
      | true =>
        simp only [enc, List.cons_append] at hc
        refine lex_next Y3.out mci mq (c := 47) hc (by decide) rfl B' F8 X' N8 T' rfl (by first | exact Mine.rm 0 hdp rfl (by decide) | exact Mine.rm 1 hdp rfl (by decide) | ktr_room) (by first | exact Mine.um 0 hun rfl (by decide) | exact Mine.um 3 hun rfl (by decide) | exact Mine.um 1 hun rfl (by decide) | exact Mine.um 4 hun rfl (by decide) | ktr_units) (by exact hgn) ?_
        intro t9 nl9 tk9 h9 tk2 g9 hg9 F9 N9
        dsimp only
        have N10 := NC'.out _ _ _ _ N9
        clear F8 N8
        have hd9 := Hold.mk (drop_next hc)
        clear hc
        refine own_name ?_
        k_steps
        rename News g' L' _ _ => N11
        have N9 := cb_drop (news := (al, W.listOf #[.int (j + 1 : Nat) tk9] nl9) :: fix2) N11 (fun p hp => .tail _ (.tail _ hp))
        clear N11
        have ew : wayS dn ++ Str.mk #[47] = wayS (dn ++ [true]) := by rw [way_is, other_s, wayS_append]
        refine KE2.nx (by first | exact .inl rfl | exact .inr rfl) (m := r.length) (Nat.lt_succ_self _) (.mk _ (_) (g9) (_) (?t2C) (j + 1) (tk9) (nl9) (?vaC) (dn ++ [true]) (r) (hg9) (fr_map (by assumption) ?eC) (N9) (hd9.out) (by rw [List.append_assoc]; exact hdn) (rfl))
        case eC =>
          rw [← ew]
          exact chain_eq (m := m₁) (by repeat (first | refine Ag.cons (by first | rfl | assumption) ?_ | exact Ag.nil)) (by repeat (first | refine Ag.cons (by first | rfl | assumption) ?_ | exact Ag.nil))
      | false =>
        simp only [enc, List.cons_append] at hc
        refine lex_next Y3.out mci mq (c := 92) hc (by decide) rfl B' F8 X' N8 T' rfl (by first | exact Mine.rm 0 hdp rfl (by decide) | exact Mine.rm 1 hdp rfl (by decide) | ktr_room) (by first | exact Mine.um 0 hun rfl (by decide) | exact Mine.um 3 hun rfl (by decide) | exact Mine.um 1 hun rfl (by decide) | exact Mine.um 4 hun rfl (by decide) | ktr_units) (by exact hgn) ?_
        intro t9 nl9 tk9 h9 tk2 g9 hg9 F9 N9
        dsimp only
        have N10 := NC'.out _ _ _ _ N9
        clear F8 N8
        have hd9 := Hold.mk (drop_next hc)
        clear hc
        refine own_name ?_
        k_steps
        refine ⟨?_⟩
        rename News g' L' _ _ => N11
        rename Fr g' L' _ _ => F11
        have N9 := cb_drop (news := (al, W.listOf #[.int (j + 1 : Nat) tk9] nl9) :: fix2) N11 (fun p hp => .tail _ (.tail _ hp))
        clear N11
        refine Ct.app (rc_ct w p loose mean mg mb x x5 dx5 pl k0 k1 k2 k3 k4 k5 f' al fix2 Y3.out (j + 1) nl9 tk9 92 _ hd9.out (by decide)) rfl B' F11 X' N9 T' rfl (by first | exact Mine.rm 0 hdp rfl (by decide) | exact Mine.rm 1 hdp rfl (by decide) | ktr_room) (by first | exact Mine.um 0 hun rfl (by decide) | exact Mine.um 3 hun rfl (by decide) | exact Mine.um 1 hun rfl (by decide) | exact Mine.um 4 hun rfl (by decide) | ktr_units) (by exact hg9) ?_
        clear N9 F11
        intro v nn h3 tk3 g3 hRt hg3 F3 N3
        refine hide fun PP hPP => ?_
        obtain ⟨t6, nl6, tk6, ev1, e⟩ := hRt
        refine hPP ?_
        clear hPP
        subst ev1
        rw [e] at N3
        clear e
        have hd3 := Hold.mk (drop_next hd9.out)
        have N10 := NC'.out _ _ _ _ N3
        clear N3
        k_steps
        rename News g' L' _ _ => N11
        have N9 := cb_drop (news := (al, W.listOf #[.int (j + 1 + 1 : Nat) tk6] nl6) :: fix2) N11 (fun p hp => .tail _ (.tail _ hp))
        have ew : wayS dn ++ Str.mk #[92] = wayS (dn ++ [false]) := by rw [way_is', own_s, wayS_append]
        refine KE2.nx (by first | exact .inl rfl | exact .inr rfl) (m := r.length) (Nat.lt_succ_self _) (.mk _ (_) (g3) (_) (?t2D) (j + 1 + 1) (tk6) (nl6) (?vaD) (dn ++ [false]) (r) (hg3) (fr_map (by assumption) ?eD) (N9) (hd3.out) (by rw [List.append_assoc]; exact hdn) (rfl))
        case eD =>
          rw [← ew]
          exact chain_eq (m := m₁) (by repeat (first | refine Ag.cons (by first | rfl | assumption) ?_ | exact Ag.nil)) (by repeat (first | refine Ag.cons (by first | rfl | assumption) ?_ | exact Ag.nil))
end
end Mine
end

-- part T1
section
open PySem PySem.W PyProof.Rows PySem.W.X
open AutoSeq1 (wpAny_loadPart')
set_option maxRecDepth 100000
set_option maxHeartbeats 8000000
namespace Mine
section
variable {prog : Program} {w : World} {A : Around} {E : Value → Shared → Prop} {s : Shared}
theorem tup_item {it t : Addr} {i : Nat} {items : Array Value} {x : Value} {Q : Value → Shared → Prop} (hit : s.heap.IsTupleIter it t i) (ht : s.heap.IsTuple t items) (hx : items[i]? = some x)
    (hQ : ∀ h', h'.IsTupleIter it t (i + 1) → Heap.SameBut it s.heap h' → Q x { s with heap := h' }) : wpAny (model prog w) A (Builtin.SmallTypes.nextOf (.ref it)) Q E s := by
  obtain ⟨o, ho, hc, hd⟩ := id hit
  obtain ⟨ol, hol, _, nl, hdl⟩ := ht
  unfold Builtin.SmallTypes.nextOf
  refine wpAny_bind (wpAny_callSpecial?_slot (name := Str.ofString "__next__") hit.typeIs F.slot_tuple_iterator_next
    (wpAny_call_entry F.slot_tuple_iterator_next hit.typeIs F.entry_tuple_iterator_next ?_ (F.args_tuple_iterator_next_1 _)))
  show wpAny _ _ (field (.ref it) 0 >>= _) _ _ s
  refine wpAny_bind (wpAny_field ho hd (x := .ref t) rfl ?_)
  show wpAny _ _ (if (Value.ref t == Value.none) = true then _ else _) _ _ s
  rw [if_neg (show ¬ ((Value.ref t == Value.none) = true) from Bool.false_ne_true)]
  show wpAny _ _ (field (.ref it) 1 >>= _) _ _ s
  refine wpAny_bind (wpAny_field ho hd (x := .int i 0) rfl ?_)
  show wpAny _ _ (seqItems? (.ref t) >>= _) _ _ s
  refine wpAny_bind (wpAny_seqItems hol hdl ?_)
  simp only [Int.toNat_natCast, hx]
  refine wpAny_bind (wpAny_setField ho hd (by simp) (wpAny_pure ⟨x, rfl, wpAny_pure (hQ _ ?_ (Heap.SameBut.update ..))⟩))
  exact ⟨_, Heap.get?_update_self _ ho (Obj.isFreed_of_fields (Obj.data_mapFields hd _)), (Obj.cls_mapFields ..).trans hc, by
    rw [Obj.data_mapFields hd]; simp [rawInt]⟩
theorem tup_end {it t : Addr} {i : Nat} {items : Array Value} {Q : Value → Shared → Prop} (hh : A.handled = none) (hit : s.heap.IsTupleIter it t i) (ht : s.heap.IsTuple t items) (hx : items[i]? = none)
    (hE : ∀ h' e, Heap.ExtBut it s.heap h' → (∃ o, h'.get? e = some o ∧ o.cls = .type "StopIteration") → E (.ref e) { s with heap := h' }) :
    wpAny (model prog w) A (Builtin.SmallTypes.nextOf (.ref it)) Q E s := by
  obtain ⟨o, ho, hc, hd⟩ := id hit
  obtain ⟨ol, hol, _, nl, hdl⟩ := ht
  unfold Builtin.SmallTypes.nextOf
  refine wpAny_bind (wpAny_callSpecial?_slot (name := Str.ofString "__next__") hit.typeIs F.slot_tuple_iterator_next
    (wpAny_call_entry F.slot_tuple_iterator_next hit.typeIs F.entry_tuple_iterator_next ?_ (F.args_tuple_iterator_next_1 _)))
  show wpAny _ _ (field (.ref it) 0 >>= _) _ _ s
  refine wpAny_bind (wpAny_field ho hd (x := .ref t) rfl ?_)
  show wpAny _ _ (if (Value.ref t == Value.none) = true then _ else _) _ _ s
  rw [if_neg (show ¬ ((Value.ref t == Value.none) = true) from Bool.false_ne_true)]
  show wpAny _ _ (field (.ref it) 1 >>= _) _ _ s
  refine wpAny_bind (wpAny_field ho hd (x := .int i 0) rfl ?_)
  show wpAny _ _ (seqItems? (.ref t) >>= _) _ _ s
  refine wpAny_bind (wpAny_seqItems hol hdl ?_)
  simp only [Int.toNat_natCast, hx]
  refine wpAny_bind (wpAny_rule (wpAny_bind (wpAny_setField ho hd (by simp) ?_)))
  show wpAny _ _ (newExc (.type "StopIteration") [] >>= _) _ _ _
  refine wpAny_bind ?_
  simp only [newExc, newTuple]
  refine wpAny_bind (wpAny_newObj_type ?_ (by size_fits))
  refine wpAny_bind (m := firstArgMember _ _) (wpAny_of_eq (a := Value.none) (by first | rfl | (simp only [firstArgMember]; rfl)) ?_)
  refine wpAny_newObj_type ?_ (by size_fits)
  simp only [raiseNew]
  refine wpAny_bind (wpAny_handled ?_)
  first | rw [show A.in1.handled = none from hh] | rw [hh]
  refine wpAny_bind (wpAny_pure (wpAny_throw ?_))
  exact hE _ _ (((Heap.SameBut.update ..).extBut.push _).push _) ⟨_, Heap.get?_push_size _ rfl, rfl⟩
end
theorem draws_tup {prog : Program} {w : World} {A : Around} (hh : A.handled = none) (it l : Addr) (hne : l ≠ it) (items : Array Value) :
    Draws prog w A it [it, l] items.size (fun i v => items[i]? = some v) (fun i h => h.IsTupleIter it l i ∧ h.IsTuple l items) where
  live := fun _ _ st => let ⟨o, ho, _⟩ := st.1; ⟨o, ho⟩
  frame := fun _ _ _ st hk => ⟨st.1.at fun o e => hk it (by simp) o e, let ⟨o, ho, r⟩ := st.2; ⟨o, hk l (by simp) o ho, r⟩⟩
  item := fun i s Q E hi st hQ => by
    refine tup_item st.1 st.2 (x := items[i]) (by simp [hi]) fun h' hit' hs' => ?_
    exact hQ _ h' s.toks (by simp [hi]) ⟨hit', st.2.extBut hs'.extBut hne⟩ hs'
  done := fun s Q E st hE => tup_end hh st.1 st.2 (by simp) hE

theorem meets_enum_tup (l : Addr) (o : Obj) (items : Array Value) (n : Nat) (hc : o.cls = .type "tuple") (hd : o.data = .seq items n) :
    Meets (Builtin.«enumerate.__new__» ⟨[.type "enumerate", .ref l], []⟩) (fun _ R s => s.heap.get? l = some o ∧
      R (.ok (.ret (.ref (s.heap.push { cls := .type "tuple_iterator", data := .fields #[.ref l, .int 0 0] }).objs.size)))
        { s with heap := (s.heap.push { cls := .type "tuple_iterator", data := .fields #[.ref l, .int 0 0] }).push { cls := .type "enumerate", data := .fields #[.none, .bool false, .ref s.heap.objs.size, rawInt 0, .none, .none] } }) :=
  .of_wp fun prog w A R s h => by
    obtain ⟨hp, g, d, tk, os⟩ := s; obtain ⟨hl, h⟩ := h
    have hsub := sub_enumerate
    have hL : Heap.IsTuple (Shared.heap ⟨hp, g, d, tk, os⟩) l items := ⟨_, hl, hc, n, hd⟩
    obtain ⟨c, dct, dt, sl⟩ := o
    replace hc : c = .type "tuple" := hc
    replace hd : dt = .seq items n := hd
    subst hc hd
    wp_walk using wpAny_loadPart' hl
    refine wpAny_stack_any fun st => wpAny_pure ?_
    split
    · rename_i c _ _ _ _ _
      cases (c == Value.type "enumerate")
      · wp_walk using wpAny_loadPart' hl, wpAny_pyIter_tuple hL
        exact ⟨_, rfl, h⟩
      · wp_walk using wpAny_loadPart' hl, wpAny_pyIter_tuple hL
        exact ⟨_, rfl, h⟩
    · wp_walk using wpAny_loadPart' hl, wpAny_pyIter_tuple hL
      exact ⟨_, rfl, h⟩
abbrev etO (it : Addr) (i : Int) (old : Value) : Obj := { cls := .type "enumerate", dict := none, data := .fields #[.none, .bool false, .ref it, rawInt i, .none, old], slots := #[] }
abbrev etOut (it : Addr) (i : Int) (item : Value) (a : Addr) : Obj := { cls := .type "enumerate", dict := none, data := .fields #[rawInt a, .bool false, .ref it, rawInt i, .none, item], slots := #[] }
abbrev etP (i : Nat) (tk : Tok) (x : Value) : Obj := { cls := .type "tuple", data := .seq #[.int i tk, x] }
section
variable {prog : Program} {w : World} {A : Around} {E : Value → Shared → Prop} {s : Shared} {h₀ : Heap} {L : Addr} {m : Str → Option Value} {news : List (Addr × Obj)}
theorem enum_call {l : Addr} {o : Obj} {items : Array Value} {n : Nat} {Q : Value → Shared → Prop} (F : Fr h₀ L s.heap m) (N : News h₀ L s.heap news) (hm : (l, o) ∈ news) (hc : o.cls = .type "tuple") (hd : o.data = .seq items n)
    (h : ∀ en it h' oi, Fr h₀ L h' m → News h₀ L h' ((en, etO it 0 .none) :: (it, oi) :: news) → oi.cls = .type "tuple_iterator" → oi.data = .fields #[.ref l, .int 0 0] → it < en → (∀ p ∈ news, p.1 < it) → Q (.ref en) { s with heap := h' }) :
    wpAny (model prog w) A (call (.type "enumerate") [.ref l]) Q E s := by
  have hl := (N _ hm).1
  refine callType_new PySem.F.called_enumerate (by decide) (PySem.F.typeCall_enumerate_1 _) (PySem.F.newCall_enumerate_1 _) (fun obj => PySem.F.args_object_init_2 obj _) PySem.F.entry_enumerate_new
    (meets_enum_tup l o items n hc hd) ⟨hl, ?_⟩
  have hz : (s.heap.push { cls := .type "tuple_iterator", data := .fields #[.ref l, .int 0 0] }).objs.size = s.heap.objs.size + 1 := Heap.size_push ..
  have F1 := F.push { cls := .type "tuple_iterator", data := .fields #[.ref l, .int 0 0] }
  have N1 := N.push F { cls := .type "tuple_iterator", data := .fields #[.ref l, .int 0 0] }
  have F2 := F1.push (etO s.heap.objs.size 0 .none)
  have N2 := N1.push F1 (etO s.heap.objs.size 0 .none)
  refine ⟨⟨_, (N2 _ (.head _)).1, rfl⟩, ?_⟩
  refine h _ s.heap.objs.size _ _ F2 N2 rfl rfl ?_ fun p hp => Heap.lt_size (N p hp).1
  rw [hz]; exact Nat.lt_succ_self _
theorem enum_next {en it tp : Addr} {i : Nat} {old x : Value} {oi ot : Obj} {items : Array Value} {n : Nat} {Q : Option Value → Shared → Prop} (hh : A.handled = none) (F : Fr h₀ L s.heap m) (N : News h₀ L s.heap ((en, etO it i old) :: (it, oi) :: (tp, ot) :: news))
    (ci : oi.cls = .type "tuple_iterator") (di : oi.data = .fields #[.ref tp, .int i 0]) (ct : ot.cls = .type "tuple") (dt : ot.data = .seq items n) (hx : items[i]? = some x)
    (h1 : en ≠ it) (h2 : tp ≠ it) (h3 : tp ≠ en) (h4 : ∀ p ∈ news, p.1 ≠ en) (h5 : ∀ p ∈ news, p.1 ≠ it)
    (k : ∀ T h' tk oi' tk', oi'.cls = .type "tuple_iterator" → oi'.data = .fields #[.ref tp, .int ((i + 1 : Nat) : Int) 0] → Fr h₀ L h' m → News h₀ L h' ((T, etP i tk x) :: (en, etOut it ((i + 1 : Nat) : Int) x T) :: (it, oi') :: (tp, ot) :: news) →
      (∀ p ∈ (en, etO it i old) :: (it, oi) :: (tp, ot) :: news, p.1 < T) → L < T → Q (some (.ref T)) { s with heap := h', toks := tk' }) :
    wpAny (model prog w) A (pyNext (.ref en)) Q E s := by
  have hlt : i < items.size := (Array.getElem?_eq_some_iff.mp hx).1
  have q1 := N _ (.head _)
  have q2 := N _ (.tail _ (.head _))
  have q3 := N _ (.tail _ (.tail _ (.head _)))
  refine wpAny_pyNext_enum_itemD (draws_tup (A := A.in1) hh it tp h2 items) q1.1 ⟨⟨oi, q2.1, ci, di⟩, ⟨ot, q3.1, ct, n, dt⟩⟩ hlt h1 (by simp; exact ⟨h1, Ne.symm h3⟩) fun v h' tk hv he hst hT hz hk => ?_
  rw [hx] at hv
  cases hv
  obtain ⟨oi', ho', ci', di'⟩ := hst.1
  have hL : L < s.heap.objs.size := F.ns.lt
  have hT0 : h₀.get? s.heap.objs.size = none := Heap.get?_none_of_le (Nat.le_trans F.above (Nat.le_of_lt hL))
  have hc1 : ((i + 1 : Nat) : Int) = (i : Int) + 1 := by push_cast; rfl
  refine k s.heap.objs.size h' tk oi' _ ci' di' ⟨F.ns.at fun o e => hk _ o (Ne.symm q1.2.1) (Ne.symm q2.2.1) e, fun b o e => hk b o (fun hb => ?_) (fun hb => ?_) (F.keep b o e), F.above⟩ (fun p hp => ?_) (fun p hp => Heap.lt_size (N p hp).1) hL
  · rw [hb, q1.2.2] at e; cases e
  · rw [hb, q2.2.2] at e; cases e
  · rcases List.mem_cons.mp hp with rfl | hp
    · exact ⟨hT, Nat.ne_of_gt hL, hT0⟩
    rcases List.mem_cons.mp hp with rfl | hp
    · refine ⟨?_, q1.2⟩
      rw [hc1]
      exact he
    rcases List.mem_cons.mp hp with rfl | hp
    · exact ⟨ho', q2.2⟩
    rcases List.mem_cons.mp hp with rfl | hp
    · exact ⟨hk _ _ h3 h2 q3.1, q3.2⟩
    · have z := N p (.tail _ (.tail _ (.tail _ hp)))
      exact ⟨hk _ _ (h4 p hp) (h5 p hp) z.1, z.2⟩
theorem enum_own {elts : List PySem.Expr} {x1 : Nat} {pos : Pos} {en it T : Addr} {i : Int} {item : Value} {Q : Unit → Shared → Prop} {pre : List (Addr × Obj)} (F : Fr h₀ L s.heap m) (N : News h₀ L s.heap (pre ++ (en, etOut it i item T) :: news)) (h1 : ∀ p ∈ pre, p.1 ≠ en) (h2 : ∀ p ∈ news, p.1 ≠ en)
    (k : ∀ h', Fr h₀ L h' m → News h₀ L h' (pre ++ (en, etO it i item) :: news) → Q () { s with heap := h' }) : wpAny (model prog w) A (letOwnedTupleGo (.Tuple elts x1 pos) (.ref en) (.ref T)) Q E s := by
  have z := N (en, etOut it i item T) (List.mem_append_right _ (.head _))
  refine wpAny_letOwnedTupleGo_enum z.1 fun h' he hs => ?_
  exact k h' (F.change hs z.2.1 z.2.2) (news_set N h1 h2 hs he)
theorem enum_end {en it tp : Addr} {i : Int} {j : Nat} {old : Value} {oi ot : Obj} {items : Array Value} {n : Nat} {Q : Option Value → Shared → Prop} (hh : A.handled = none) (F : Fr h₀ L s.heap m) (N : News h₀ L s.heap ((en, etO it i old) :: (it, oi) :: (tp, ot) :: news))
    (ci : oi.cls = .type "tuple_iterator") (di : oi.data = .fields #[.ref tp, .int j 0]) (ct : ot.cls = .type "tuple") (dt : ot.data = .seq items n) (hx : j = items.size) (h2 : tp ≠ it) (h5 : ∀ p ∈ news, p.1 ≠ it)
    (k : ∀ h', Fr h₀ L h' m → News h₀ L h' news → Q none { s with heap := h' }) : wpAny (model prog w) A (pyNext (.ref en)) Q E s := by
  have q1 := N _ (.head _)
  have q2 := N _ (.tail _ (.head _))
  have q3 := N _ (.tail _ (.tail _ (.head _)))
  subst hx
  refine wpAny_pyNext_enum_endD (draws_tup (A := A.in1) hh it tp h2 items) q1.1 ⟨⟨oi, q2.1, ci, di⟩, ⟨ot, q3.1, ct, n, dt⟩⟩ fun h' hk => ?_
  refine k h' ⟨F.ns.at fun o e => hk _ o (Ne.symm q2.2.1) e, fun b o e => hk b o (fun hb => ?_) (F.keep b o e), F.above⟩ fun p hp => ?_
  · rw [hb, q2.2.2] at e; cases e
  · have z := N p (.tail _ (.tail _ (.tail _ hp)))
    exact ⟨hk _ _ (h5 p hp) z.1, z.2⟩
end
end Mine
end

-- part T2
section
open PySem PySem.W PyProof.Rows PyProof.Rows.LCg
set_option maxRecDepth 100000
set_option maxHeartbeats 8000000
namespace Mine
theorem walks_revS {prog : Program} {w : World} {A : Around} (hh : A.handled = none) (I : Addr) (x : Str) (t : Tok) (hx : x.length ≤ 1000) :
    Walks prog w A I [I] [I] x.length (fun i v => ∃ c u, x.cps[x.length - 1 - i]? = some c ∧ v = .str ⟨#[c]⟩ u) (fun i h => i ≤ x.length ∧ h.get? I = some (revS x t ((x.length : Int) - 1 - (i : Int)))) where
  sub := fun b hb => hb
  frame := fun _ _ _ y hk => ⟨y.1, hk I (by simp) _ y.2⟩
  item := fun i s Q E hi y hQ => by
    have e : (x.length : Int) - 1 - (i : Int) = ((x.length - 1 - i : Nat) : Int) := by (first | exact Mine.ar155 hi | omega)
    have hit := y.2
    rw [e] at hit
    have hlt : x.length - 1 - i < x.cps.size := by show x.length - 1 - i < x.length; (first | exact Mine.ar156 e | omega)
    have hc : x.cps[x.length - 1 - i]? = some (x.cps[x.length - 1 - i]'hlt) := Array.getElem?_eq_getElem hlt
    refine next_rev_item hit hx hc fun h' tk tk' hit' hs' => ?_
    have e2 : ((x.length - 1 - i : Nat) : Int) - 1 = (x.length : Int) - 1 - ((i + 1 : Nat) : Int) := by (first | exact Mine.ar157 e | omega)
    rw [e2] at hit'
    exact hQ _ h' tk' ⟨_, tk, hc, rfl⟩ ⟨hi, hit'⟩ fun b o hb eo => hs'.extBut b o (fun h => hb (by simp [h])) eo
  done := fun s Q E y hQ => by
    have e : (x.length : Int) - 1 - (x.length : Int) = -1 := by omega
    have hit := y.2
    rw [e] at hit
    exact next_rev_end hh hit fun h' he' => hQ h' s.toks fun b o hb eo => he' b o (fun h => hb (by simp [h])) eo
  self := fun _ _ _ _ y hQ => iter_rev y.2 hQ
section
variable {prog : Program} {w : World} {A : Around} {E : Value → Shared → Prop} {s : Shared} {h₀ : Heap} {L : Addr} {m : Str → Option Value} {env : Env}
/-- a source of a comprehension -/
noncomputable def SrcW (prog : Program) (w : World) (A : Around) (h₀ : Heap) (L : Addr) (m : Str → Option Value) (env : Env) (elt : PySem.Expr) (x : Str) (scope : Scope) (cl : List (Str × Addr)) (Q : Value → Shared → Prop) (xv : Value) (s₁ : Shared) : Prop :=
  ∃ (I : Addr) (fp : List Addr) (n : Nat) (P : Nat → Value → Prop) (St : Nat → Heap → Prop) (S : List (Addr × Obj) → Prop) (news : List (Addr × Obj)), xv = .ref I ∧ Walks prog w A I fp [I] n P St ∧ n ≤ sizeLine ∧ (∀ i h, St i h → ∃ o, h.get? I = some o) ∧
    (∀ i h h' o nw, St i h → h.get? I = some o → h'.get? I = some o → (∀ b o, h₀.get? b = some o → h'.get? b = some o) → News h₀ L h' nw → S nw → St i h') ∧ St 0 s₁.heap ∧ (∀ b ∈ fp, b < s₁.heap.objs.size) ∧
    Fr h₀ L s₁.heap m ∧ News h₀ L s₁.heap news ∧ L ≠ I ∧ h₀.get? I = none ∧ (∀ p ∈ news, p.1 ≠ I) ∧ S news ∧ CompRest prog w A h₀ L m env elt x scope cl s₁ S P (FinE h₀ L m s₁ Q) n 0 [] news
theorem comp_W {elt iter : PySem.Expr} {x : Str} {px : Pos} {scope : Scope} {cl : List (Str × Addr)} {pos : Pos} {Q : Value → Shared → Prop} (_F₀ : Fr h₀ L s.heap m)
    (hclos : closureFor scope env = pure cl) (hcell : ∀ y ∈ scope.names, y.2 ≠ .cell) (hkind : scope.kind = .function)
    (hnames : ∀ y ∈ scope.names, y.2 = .local → scope.names.lookup y.1 = some .local) (hx : scope.names.lookup x = some .local)
    (h : wpAny (model prog w) A (eval iter env) (SrcW prog w A h₀ L m env elt x scope cl Q) E s)
    (hs : ∀ x, foldedSetIterable iter env x = pure x := by intro _; rfl) :
    wpAny (model prog w) A (eval (.ListComp elt [⟨.Name x px, iter, [], 0⟩] scope pos) env) Q E s := by
  rw [eval_ListComp]
  refine wpAny_comprehension_free (use := none) rfl hs hclos hkind hnames (wpAny_mono h (fun xv s₁ h₁ => ?_) fun _ _ e => e)
  obtain ⟨I, fp, n, P, St, S, news, rfl, W, hsz, hIo, hSt, hst, hfp, F, N, hIL, hI₀, off, hS, R⟩ := h₁
  refine W.self 0 _ _ _ hst ?_
  refine block_U W hsz hIo hSt hcell hkind hx hst hfp F N hIL hI₀ off hS R ?_
  intro D C h tk m' ys news' F' N' o1 hn hC₀ hD₀ hCL hDL hCD offC fin
  refine ⟨m', hn, fun h'' hs'' => fin D h'' tk (F'.change hs'' hCL hC₀) (fun p hp => ?_) o1⟩
  refine ⟨hs''.extBut _ _ ?_ (N' p hp).1, (N' p hp).2⟩
  rcases List.mem_cons.mp hp with rfl | hp
  · exact Ne.symm hCD
  · exact offC p hp
theorem rest_ind {elt : PySem.Expr} {x : Str} {scope : Scope} {cl : List (Str × Addr)} {S : List (Addr × Obj) → Prop} {P : Nat → Value → Prop} {Fin : List Value → List (Addr × Obj) → Prop} {n : Nat} {news : List (Addr × Obj)} (R : Nat → Value → Prop) (hS : S news)
    (turn : ∀ i ys v I oI C oC D m₂ h tk (E' : Value → Shared → Prop), i < n → P i v → NsObj oC m₂ → m₂ x = some v → Fr h₀ L h m → News h₀ L h ((I, oI) :: (C, oC) :: (D, lst ys) :: news) →
      wpAny (model prog w) A (eval elt (compEnvC scope cl C env)) (fun y s₂ => ∃ tk', s₂ = { s with heap := h, toks := tk' } ∧ R i y) E' { s with heap := h, toks := tk })
    (fin : ∀ ys, ys.length = n → (∀ i y, ys[i]? = some y → R i y) → Fin ys news) : CompRest prog w A h₀ L m env elt x scope cl s S P Fin n 0 [] news := by
  have key : ∀ k i ys, i + k = n → ys.length = i → (∀ j y, ys[j]? = some y → R j y) → CompRest prog w A h₀ L m env elt x scope cl s S P Fin k i ys news := by
    intro k
    induction k with
    | zero =>
      intro i ys hi hl hR
      exact fin ys (by (first | exact Mine.ar159 hi hl | omega)) hR
    | succ k ih =>
      intro i ys hi hl hR
      refine CompRest.succ ?_
      intro v I oI C oC D m₂ h tk E' hP hC hx F N off ne
      refine wpAny_mono (turn i ys v I oI C oC D m₂ h tk E' (by (first | exact Mine.ar160 hi | omega)) hP hC hx F N) (fun y s₂ h₂ => ?_) fun _ _ e => e
      obtain ⟨tk', rfl, hy⟩ := h₂
      refine CompEnd.intro F N news (fun p hp => hp) off hS (ih (i + 1) (ys ++ [y]) (by (first | exact Mine.ar161 hi | omega)) (by simp [hl]) ?_)
      intro j z hz
      rcases Nat.lt_or_ge j i with hj | hj
      · rw [List.getElem?_append_left (by (first | exact Mine.ar162 hl hj | omega))] at hz
        exact hR j z hz
      · rw [List.getElem?_append_right (by (first | exact Mine.ar163 hl hj | omega))] at hz
        have : j - ys.length = 0 := by
          rcases Nat.eq_zero_or_pos (j - ys.length) with h | h
          · exact h
          · rw [List.getElem?_eq_none (by simp; (first | exact Mine.ar164 h | omega))] at hz; cases hz
        rw [this] at hz
        simp at hz
        subst hz
        rw [show j = i by (first | exact Mine.ar165 hl hj this | omega)]
        exact hy
  exact key n 0 [] (by (first | exact Mine.ar166 | omega)) rfl (by simp)
theorem srcW_rev {elt : PySem.Expr} {x : Str} {scope : Scope} {cl : List (Str × Addr)} {Q : Value → Shared → Prop} {s₁ : Shared} {D l : Addr} {vs : List Value} {k : Nat} {news : List (Addr × Obj)} (hh : A.handled = none) (F : Fr h₀ L s₁.heap m) (N : News h₀ L s₁.heap ((D, revObj l ((vs.length : Int) - 1)) :: news))
    (hD : ∀ p ∈ news, p.1 < D) (hl : (l, W.listOf vs.toArray k) ∈ news) (hsz : vs.length ≤ 1000)
    (h : CompRest prog w A h₀ L m env elt x scope cl s₁ (SrcAt h₀ l vs.toArray) (fun i v => vs.toArray[vs.toArray.size - 1 - i]? = some v) (FinE h₀ L m s₁ Q) vs.toArray.size 0 [] news) : SrcW prog w A h₀ L m env elt x scope cl Q (.ref D) s₁ := by
  have zD := N _ (.head _)
  have hlD : l ≠ D := Nat.ne_of_lt (hD _ hl)
  have hN : News h₀ L s₁.heap news := fun p hp => N p (.tail _ hp)
  have hL : s₁.heap.IsList l vs.toArray := ⟨_, (hN _ hl).1, rfl, _, rfl⟩
  have e0 : ((vs.toArray.size : Nat) : Int) - 1 - ((0 : Nat) : Int) = (vs.length : Int) - 1 := by simp
  refine ⟨D, [D, l], vs.toArray.size, _, _, SrcAt h₀ l vs.toArray, news, rfl, Walks.listRev hh D l hlD vs.toArray, ?_, ?_, ?_, ⟨Nat.zero_le _, ⟨_, zD.1, rfl, ?_⟩, hL⟩, ?_, F, hN, Ne.symm zD.2.1, zD.2.2, fun p hp => Nat.ne_of_lt (hD p hp), .inr ⟨_, hl, rfl, _, rfl⟩, h⟩
  · exact Nat.le_trans (show vs.toArray.size ≤ 1000 by simpa using hsz) (show 1000 ≤ sizeLine by decide +kernel)
  · rintro i h ⟨-, ⟨o, e, -⟩, -⟩; exact ⟨o, e⟩
  · rintro i h h' o nw ⟨h1, ⟨o', e', r⟩, -⟩ e1 e2 hk hn hS
    rw [e'] at e1
    cases e1
    exact ⟨h1, ⟨_, e2, r⟩, hS.list hk hn⟩
  · rw [e0]; rfl
  · intro b hb
    rcases List.mem_cons.mp hb with rfl | hb
    · exact Heap.lt_size zD.1
    · rw [List.mem_singleton.mp hb]; exact Heap.lt_size (hN _ hl).1
theorem srcW_revS {elt : PySem.Expr} {x : Str} {scope : Scope} {cl : List (Str × Addr)} {Q : Value → Shared → Prop} {s₁ : Shared} {D : Addr} {z : Str} {t : Tok} {news : List (Addr × Obj)} (hh : A.handled = none) (F : Fr h₀ L s₁.heap m) (N : News h₀ L s₁.heap ((D, revS z t ((z.length : Int) - 1)) :: news))
    (hD : ∀ p ∈ news, p.1 < D) (hsz : z.length ≤ 1000)
    (h : CompRest prog w A h₀ L m env elt x scope cl s₁ (fun _ => True) (fun i v => ∃ c u, z.cps[z.length - 1 - i]? = some c ∧ v = .str ⟨#[c]⟩ u) (FinE h₀ L m s₁ Q) z.length 0 [] news) : SrcW prog w A h₀ L m env elt x scope cl Q (.ref D) s₁ := by
  have zD := N _ (.head _)
  have hN : News h₀ L s₁.heap news := fun p hp => N p (.tail _ hp)
  have e0 : (z.length : Int) - 1 - ((0 : Nat) : Int) = (z.length : Int) - 1 := by simp
  refine ⟨D, [D], z.length, _, _, fun _ => True, news, rfl, walks_revS hh D z t hsz, ?_, ?_, ?_, ⟨Nat.zero_le _, ?_⟩, ?_, F, hN, Ne.symm zD.2.1, zD.2.2, fun p hp => Nat.ne_of_lt (hD p hp), trivial, h⟩
  · exact Nat.le_trans hsz (show 1000 ≤ sizeLine by decide +kernel)
  · rintro i h ⟨-, e⟩; exact ⟨_, e⟩
  · rintro i h h' o nw ⟨h1, e'⟩ e1 e2 hk hn hS
    rw [e'] at e1
    cases e1
    exact ⟨h1, e2⟩
  · rw [e0]; exact zD.1
  · intro b hb
    rw [List.mem_singleton.mp hb]; exact Heap.lt_size zD.1
end
end Mine
end

-- part T3
section
open PySem PySem.W PyProof.Rows PyProof.Rows.LCg
set_option maxRecDepth 100000
set_option maxHeartbeats 8000000
namespace Mine
/-- the turns of a comprehension that calls: generators may be made on the way -/
noncomputable def RestG (prog : Program) (w : World) (A : Around) (h₀ : Heap) (L : Addr) (m : Str → Option Value) (env : Env) (elt : PySem.Expr) (x : Str) (scope : Scope) (cl : List (Str × Addr)) (dr : Drawn) (os : OsState) (its : Array Value) (ax : Addr) (lo : Obj)
    (Fin : List Value → List (Addr × Obj) → Prop) : Nat → Nat → List Value → List (Addr × Obj) → Prop
  | 0, _, ys, news => Fin ys news
  | k + 1, i, ys, news => ∀ v I oI C oC D m₂ h gn tk (E' : Value → Shared → Prop), its[i]? = some v → NsObj oC m₂ → m₂ x = some v → AllBare gn → Fr h₀ L h m → News h₀ L h ((I, oI) :: (C, oC) :: (D, lst ys) :: news) → (∀ p ∈ news, p.1 ≠ I ∧ p.1 ≠ C ∧ p.1 ≠ D) → (I ≠ C ∧ I ≠ D ∧ C ≠ D) →
      wpAny (model prog w) A (eval elt (compEnvC scope cl C env)) (fun y s₂ => ∃ h' gn' tk' news', s₂ = { heap := h', gens := gn', drawn := dr, toks := tk', os := os } ∧ AllBare gn' ∧ Fr h₀ L h' m ∧ News h₀ L h' ((I, oI) :: (C, oC) :: (D, lst ys) :: news') ∧ (∀ p ∈ news', p.1 ≠ I ∧ p.1 ≠ C ∧ p.1 ≠ D) ∧ (ax, lo) ∈ news' ∧
        RestG prog w A h₀ L m env elt x scope cl dr os its ax lo Fin k (i + 1) (ys ++ [y]) news') E' { heap := h, gens := gn, drawn := dr, toks := tk, os := os }
section
variable {prog : Program} {w : World} {A : Around} {E : Value → Shared → Prop} {s : Shared} {h₀ : Heap} {L : Addr} {m : Str → Option Value} {env : Env}
/-- a list of the ledger as the source of such a comprehension -/
noncomputable def SrcG (prog : Program) (w : World) (A : Around) (h₀ : Heap) (L : Addr) (m : Str → Option Value) (env : Env) (elt : PySem.Expr) (x : Str) (scope : Scope) (cl : List (Str × Addr)) (Q : Value → Shared → Prop) (xv : Value) (s₁ : Shared) : Prop :=
  ∃ (ax : Addr) (its : Array Value) (k : Nat) (news : List (Addr × Obj)), xv = .ref ax ∧ A.handled = none ∧ its.size ≤ sizeLine ∧ AllBare s₁.gens ∧ Fr h₀ L s₁.heap m ∧ News h₀ L s₁.heap news ∧ (ax, ({ cls := .type "list", data := .seq its k } : Obj)) ∈ news ∧
    RestG prog w A h₀ L m env elt x scope cl s₁.drawn s₁.os its ax { cls := .type "list", data := .seq its k } (fun ys news' => ∀ D h' g' tk', AllBare g' → Fr h₀ L h' m → News h₀ L h' ((D, lst ys) :: news') → (∀ p ∈ news', p.1 ≠ D) → Q (.ref D) { heap := h', gens := g', drawn := s₁.drawn, toks := tk', os := s₁.os }) its.size 0 [] news
/-- where the turns stand -/
inductive TInv (h₀ : Heap) (L : Addr) (m : Str → Option Value) (I ax : Addr) (its : Array Value) (lo : Obj) (RR : Nat → Nat → List Value → List (Addr × Obj) → Prop) (dr : Drawn) (os : OsState) : Nat → Shared → Prop
  | mk (h' : Heap) (gn : Array GenState) (tk i : Nat) (ys : List Value) (m' : Str → Option Value) (oI : Obj) (news' : List (Addr × Obj)) (a1 : AllBare gn) (a2 : i ≤ its.size) (a3 : ys.length = i) (a4 : h'.IsListIter I ax i) (a5 : Fr h₀ L h' m) (a6 : h'.Ns (I + 2) m')
    (a7 : News h₀ L h' ((I + 1, lst ys) :: (I, oI) :: news')) (a8 : ∀ p ∈ news', p.1 ≠ I ∧ p.1 ≠ I + 2 ∧ p.1 ≠ I + 1) (a9 : (ax, lo) ∈ news') (a10 : RR (its.size - i) i ys news') :
    TInv h₀ L m I ax its lo RR dr os (its.size + 1 - i) { heap := h', gens := gn, drawn := dr, toks := tk, os := os }
theorem comp_G {elt iter : PySem.Expr} {x : Str} {px : Pos} {scope : Scope} {cl : List (Str × Addr)} {pos : Pos} {Q : Value → Shared → Prop} (_F₀ : Fr h₀ L s.heap m)
    (hclos : closureFor scope env = pure cl) (hcell : ∀ y ∈ scope.names, y.2 ≠ .cell) (hkind : scope.kind = .function)
    (hnames : ∀ y ∈ scope.names, y.2 = .local → scope.names.lookup y.1 = some .local) (hx : scope.names.lookup x = some .local)
    (h : wpAny (model prog w) A (eval iter env) (SrcG prog w A h₀ L m env elt x scope cl Q) E s)
    (hs : ∀ x, foldedSetIterable iter env x = pure x := by intro _; rfl) :
    wpAny (model prog w) A (eval (.ListComp elt [⟨.Name x px, iter, [], 0⟩] scope pos) env) Q E s := by
  rw [eval_ListComp]
  refine wpAny_comprehension_free (use := none) rfl hs hclos hkind hnames (wpAny_mono h (fun xv s₁ h₁ => ?_) fun _ _ e => e)
  obtain ⟨ax, its, kk, news, rfl, hh, hsz, hg0, F, N, hax, R⟩ := h₁
  obtain ⟨hp, gn0, dr, tk0, os⟩ := s₁
  have zl := (N _ hax).1
  have hl : hp.IsList ax its := ⟨_, zl, rfl, kk, rfl⟩
  refine wpAny_pyIter_list hl ?_
  refine wpAny_newObj_type (wpAny_newFunctionEnv hcell (by intro y hy; simp at hy) (fun h₁ hns₁ hsb₁ => ?_) hkind)
  dsimp only at hns₁ hsb₁ F N zl R hg0 ⊢
  have F1 := F.push { cls := .type "list_iterator", data := .fields #[.ref ax, .int 0 0] }
  have N1 := N.push F { cls := .type "list_iterator", data := .fields #[.ref ax, .int 0 0] }
  have sz1 : (hp.push { cls := .type "list_iterator", data := .fields #[.ref ax, .int 0 0] }).objs.size = hp.objs.size + 1 := Heap.size_push ..
  generalize hH1 : hp.push { cls := .type "list_iterator", data := .fields #[.ref ax, .int 0 0] } = H1 at hns₁ hsb₁ F1 N1 sz1 ⊢
  have F2 := F1.push (lst [])
  have N2 := N1.push F1 (lst [])
  have sz2 : (H1.push (lst [])).objs.size = H1.objs.size + 1 := Heap.size_push ..
  generalize hH2 : H1.push (lst []) = H2 at F2 N2 sz2
  have hH2' : H1.push { cls := .type "list", dict := none, data := .seq ([] : List Value).toArray } = H2 := hH2
  (try rw [hH2'] at hns₁); (try rw [hH2'] at hsb₁); (try rw [hH2'])
  have ltN : ∀ p ∈ news, p.1 < hp.objs.size := fun p hp' => Heap.lt_size (N p hp').1
  have hLs : L < hp.objs.size := F.ns.lt
  generalize hI : hp.objs.size = I at *
  have eD : H1.objs.size = I + 1 := sz1
  have eC : H2.objs.size = I + 2 := by rw [sz2, eD]
  rw [eD] at N2 ⊢
  rw [eC] at hns₁ hsb₁ ⊢
  have nCI : I ≠ I + 2 := Nat.ne_of_lt (Nat.lt_succ_of_lt (Nat.lt_succ_self _))
  have nDI : I ≠ I + 1 := Nat.ne_of_lt (Nat.lt_succ_self _)
  have nDC : I + 2 ≠ I + 1 := Nat.ne_of_gt (Nat.lt_succ_self _)
  have hC₀ : h₀.get? (I + 2) = none := Heap.get?_none_of_le (Nat.le_trans F.above (Nat.le_of_lt (Nat.lt_of_lt_of_le hLs (Nat.le_add_right _ _))))
  have hLC : L ≠ I + 2 := Nat.ne_of_lt (Nat.lt_of_lt_of_le hLs (Nat.le_add_right _ _))
  have zI := N2 (I, _) (.tail _ (.head _))
  have zD := N2 (I + 1, _) (.head _)
  have old : ∀ b o, b ≠ I + 2 → H2.get? b = some o → h₁.get? b = some o := fun b o hb e => hsb₁.extBut b o hb (Heap.get?_push_of_some _ e)
  have F3 : Fr h₀ L h₁ m := ⟨F2.ns.at' fun o e => old _ o hLC e, fun b o e => old b o (fun q => by rw [q, hC₀] at e; cases e) (F2.keep b o e), F2.above⟩
  have N3 : News h₀ L h₁ ((I + 1, lst []) :: (I, { cls := .type "list_iterator", data := .fields #[.ref ax, .int 0 0] }) :: news) := fun p hp' => by
    have z := N2 p hp'
    refine ⟨old _ _ ?_ z.1, z.2⟩
    rcases List.mem_cons.mp hp' with rfl | hp'
    · exact Ne.symm nDC
    rcases List.mem_cons.mp hp' with rfl | hp'
    · exact nCI
    · exact Nat.ne_of_lt (Nat.lt_of_lt_of_le (ltN p hp') (Nat.le_add_right _ _))
  have hne : ax ≠ I := Nat.ne_of_lt (ltN _ hax)
  have W := Walks.list (prog := prog) (w := w) hh I ax hne its
  have off0 : ∀ p ∈ news, p.1 ≠ I ∧ p.1 ≠ I + 2 ∧ p.1 ≠ I + 1 := fun p hp' => ⟨Nat.ne_of_lt (ltN p hp'), Nat.ne_of_lt (Nat.lt_of_lt_of_le (ltN p hp') (Nat.le_add_right _ _)), Nat.ne_of_lt (Nat.lt_of_lt_of_le (ltN p hp') (Nat.le_add_right _ _))⟩
  clear old hsb₁ F2 N2 hH1 hH2 hH2' F1 N1 sz1 sz2 eD eC hI
  obtain ⟨RR, hRR⟩ : ∃ RR : Nat → Nat → List Value → List (Addr × Obj) → Prop, RR = RestG prog w A h₀ L m env elt x scope cl dr os its ax { cls := .type "list", data := .seq its kk } (fun ys news' => ∀ D h' g' tk', AllBare g' → Fr h₀ L h' m → News h₀ L h' ((D, lst ys) :: news') → (∀ p ∈ news', p.1 ≠ D) → Q (.ref D) { heap := h', gens := g', drawn := dr, toks := tk', os := os }) := ⟨_, rfl⟩
  have R : RR its.size 0 [] news := by rw [hRR]; exact R
  have loop : codeAny (model prog w) A (.compLoop (.ListComp elt [⟨.Name x px, iter, [], 0⟩] scope pos) 0 (.ref I) (.ref (I + 1)) (compEnvC scope cl (I + 2) env))
      (compPost (model prog w) A E none Q (.ref (I + 1)) (I + 2)) { heap := h₁, gens := gn0, drawn := dr, toks := tk0 + ([] : List (Str × Value)).length, os := os } := by
    refine codeAny_compLoop_tests
      (TInv h₀ L m I ax its { cls := .type "list", data := .seq its kk } RR dr os) ?_ (its.size + 1)
      (.mk h₁ gn0 _ 0 [] _ _ news hg0 (Nat.zero_le _) rfl ⟨_, (N3 _ (.tail _ (.head _))).1, rfl, rfl⟩ F3 hns₁ N3 off0 hax R)
    clear F3 N3 R off0 hax hns₁ zI zD hg0
    rintro _ _ ⟨h', gn, tk, i, ys, m', oI, news', hgn, hi, hyl, hit, F', hn', N', off', hax', R'⟩
    have hls : h'.IsList ax its := ⟨_, (N' _ (.tail _ (.tail _ hax'))).1, rfl, kk, rfl⟩
    have yI := N' (I, oI) (.tail _ (.head _))
    have yD := N' (I + 1, lst ys) (.head _)
    by_cases hlt : i < its.size
    · obtain ⟨j, hj⟩ : ∃ j, its.size - i = j + 1 := ⟨its.size - i - 1, by (first | exact Mine.ar167 hlt | omega)⟩
      rw [hj, hRR] at R'
      refine W.item i _ _ _ hlt ⟨hit, hls⟩ fun v h₂ tk₂ hPv hst₂ hk₂ => ?_
      have up2 : ∀ b o, b ≠ I → h'.get? b = some o → h₂.get? b = some o := fun b o hb e => hk₂ b o (by simpa using hb) e
      refine wpAny_assign_Name (wpAny_storeName_local (lookup_relabel_local hx) (hn'.at' fun o e => up2 _ o (Ne.symm nCI) e) (fun h₃ hn₃ hs₃ => ?_) (by simp [compEnvC, relabel, hkind]))
      refine wpAny_tests_nil ?_
      simp only [if_true]
      have hs₃' : Heap.SameBut (I + 2) h₂ h₃ := hs₃
      obtain ⟨oI', eI', cI', dI'⟩ := hst₂.1
      have eI3 := hs₃'.extBut I oI' nCI eI'
      obtain ⟨oC, heC, hoC⟩ := ns_obj hn₃
      have heC' : h₃.get? (I + 2) = some oC := heC
      have F₃ : Fr h₀ L h₃ m := ⟨(F'.ns.at' fun o e => up2 _ o (fun q => yI.2.1 q.symm) e).sameBut hs₃' hLC, fun b o e => hs₃'.extBut b o (fun q => by rw [q, hC₀] at e; cases e) (up2 b o (fun q => by rw [q, yI.2.2] at e; cases e) (F'.keep b o e)), F'.above⟩
      have N₃ : News h₀ L h₃ ((I, oI') :: (I + 2, oC) :: (I + 1, lst ys) :: news') := fun p hp' => by
        rcases List.mem_cons.mp hp' with rfl | hp'
        · exact ⟨eI3, yI.2⟩
        rcases List.mem_cons.mp hp' with rfl | hp'
        · exact ⟨heC', Ne.symm hLC, hC₀⟩
        rcases List.mem_cons.mp hp' with rfl | hp'
        · exact ⟨hs₃'.extBut _ _ (Ne.symm nDC) (up2 _ _ (Ne.symm nDI) yD.1), yD.2⟩
        · have z := N' p (.tail _ (.tail _ hp'))
          exact ⟨hs₃'.extBut _ _ (off' p hp').2.1 (up2 _ _ (off' p hp').1 z.1), z.2⟩
      refine wpAny_mono (R' v I oI' (I + 2) oC (I + 1) _ h₃ gn _ _ hPv hoC (by simp) hgn F₃ N₃ off' ⟨nCI, nDI, nDC⟩) (fun y s₄ h₄ => ?_) fun _ _ e => e
      obtain ⟨h₄, gn₄, tk₄, news₄, rfl, hg₄, F₄, N₄, off₄, hax₄, R₄⟩ := h₄
      have xI := N₄ (I, oI') (.head _)
      have xC := N₄ (I + 2, oC) (.tail _ (.head _))
      have xD := N₄ (I + 1, lst ys) (.tail _ (.tail _ (.head _)))
      refine append_at (hsz := by show ys.toArray.size ≤ sizeLine; rw [List.size_toArray, hyl]; exact Nat.le_trans hi hsz) xD.1 fun h₅ hs₅ hD₅ => ?_
      have hs₅' : Heap.SameBut (I + 1) h₄ h₅ := hs₅
      refine ⟨its.size + 1 - (i + 1), by (first | exact Mine.ar168 hj | omega), .mk h₅ gn₄ tk₄ (i + 1) (ys ++ [y]) _ oI' news₄ hg₄ hlt (by rw [List.length_append, List.length_singleton, hyl]) ⟨oI', hs₅'.extBut _ _ nDI xI.1, cI', dI'⟩ (F₄.change hs₅' xD.2.1 xD.2.2)
        ((hoC.ns xC.1).sameBut hs₅' nDC) (fun p hp' => ?_) off₄ hax₄ ?_⟩
      · rcases List.mem_cons.mp hp' with rfl | hp'
        · exact ⟨hD₅.trans (congrArg some (lst_snoc ys y)), xD.2⟩
        rcases List.mem_cons.mp hp' with rfl | hp'
        · exact ⟨hs₅'.extBut _ _ nDI xI.1, xI.2⟩
        · have z := N₄ p (.tail _ (.tail _ (.tail _ hp')))
          exact ⟨hs₅'.extBut _ _ (off₄ p hp').2.2 z.1, z.2⟩
      · rw [show its.size - (i + 1) = j by (first | exact Mine.ar169 hj | omega), hRR]
        exact R₄
    · obtain rfl : i = its.size := Nat.le_antisymm hi (Nat.not_lt.mp hlt)
      rw [Nat.sub_self, hRR] at R'
      refine W.done _ _ _ ⟨hit, hls⟩ fun h₂ tk₂ hk₂ => ?_
      have up2 : ∀ b o, b ≠ I → h'.get? b = some o → h₂.get? b = some o := fun b o hb e => hk₂ b o (by simpa using hb) e
      have F₂ : Fr h₀ L h₂ m := ⟨F'.ns.at' fun o e => up2 _ o (fun q => yI.2.1 q.symm) e, fun b o e => up2 b o (fun q => by rw [q, yI.2.2] at e; cases e) (F'.keep b o e), F'.above⟩
      refine ⟨m', hn'.at' fun o e => up2 _ o (Ne.symm nCI) e, fun h'' hs'' => R' (I + 1) h'' gn tk₂ hgn (F₂.change hs'' (Ne.symm hLC) hC₀) (fun p hp' => ?_) fun p hp' => (off' p hp').2.2⟩
      rcases List.mem_cons.mp hp' with rfl | hp'
      · exact ⟨hs''.extBut _ _ (Ne.symm nDC) (up2 _ _ (Ne.symm nDI) yD.1), yD.2⟩
      · have z := N' p (.tail _ (.tail _ hp'))
        exact ⟨hs''.extBut _ _ (off' p hp').2.1 (up2 _ _ (off' p hp').1 z.1), z.2⟩
  exact codeAny_compStart_list loop (W.self 0 _ _ _ ⟨⟨_, (N3 _ (.tail _ (.head _))).1, rfl, rfl⟩, ⟨_, (N3 _ (.tail _ (.tail _ hax))).1, rfl, kk, rfl⟩⟩ loop)
end
end Mine
end

-- part T5
section
open PySem PySem.W PyProof.Rows
set_option maxRecDepth 100000
set_option maxHeartbeats 8000000
namespace Mine
section
variable {prog : Program} {w : World} {A : Around} {E : Value → Shared → Prop} {s : Shared} {h₀ : Heap} {L : Addr} {m : Str → Option Value} {news : List (Addr × Obj)}
theorem list_iter {wl : Addr} {vs : Array Value} {k : Nat} {Q : Value → Shared → Prop} (F : Fr h₀ L s.heap m) (N : News h₀ L s.heap news) (hm : (wl, W.listOf vs k) ∈ news)
    (h : ∀ it h' oi, oi.cls = .type "list_iterator" → oi.data = .fields #[.ref wl, .int ((0 : Nat) : Int) 0] → Fr h₀ L h' m → News h₀ L h' ((it, oi) :: news) → (∀ p ∈ news, p.1 < it) → Q (.ref it) { s with heap := h' }) :
    wpAny (model prog w) A (pyIter (.ref wl)) Q E s := by
  refine wpAny_pyIter_list ⟨_, (N _ hm).1, rfl, _, rfl⟩ ?_
  exact h _ _ { cls := .type "list_iterator", data := .fields #[.ref wl, .int 0 0] } rfl rfl (F.push _) (N.push F _) fun p hp => Heap.lt_size (N p hp).1
theorem list_next {it wl : Addr} {oi : Obj} {vs : Array Value} {k i : Nat} {x : Value} {Q : Option Value → Shared → Prop} (F : Fr h₀ L s.heap m) (N : News h₀ L s.heap ((it, oi) :: news)) (hm : (wl, W.listOf vs k) ∈ news) (ci : oi.cls = .type "list_iterator") (di : oi.data = .fields #[.ref wl, .int (i : Int) 0])
    (hx : vs[i]? = some x) (hoff : ∀ p ∈ news, p.1 ≠ it)
    (h : ∀ h' oi', oi'.cls = .type "list_iterator" → oi'.data = .fields #[.ref wl, .int ((i + 1 : Nat) : Int) 0] → Fr h₀ L h' m → News h₀ L h' ((it, oi') :: news) → Q (some x) { s with heap := h' }) :
    wpAny (model prog w) A (pyNext (.ref it)) Q E s := by
  have z := N _ (.head _)
  have zw := N _ (.tail _ hm)
  refine wpAny_pyNext_list_item ⟨oi, z.1, ci, di⟩ ⟨_, zw.1, rfl, _, rfl⟩ hx fun h' hit hs => ?_
  obtain ⟨oi', e', ci', di'⟩ := hit
  refine h h' oi' ci' di' (F.change hs z.2.1 z.2.2) fun p hp => ?_
  rcases List.mem_cons.mp hp with rfl | hp
  · exact ⟨e', z.2⟩
  · have y := N p (.tail _ hp)
    exact ⟨hs.extBut _ _ (hoff p hp) y.1, y.2⟩
theorem list_end {it wl : Addr} {oi : Obj} {vs : Array Value} {k i : Nat} {Q : Option Value → Shared → Prop} (hh : A.handled = none) (F : Fr h₀ L s.heap m) (N : News h₀ L s.heap ((it, oi) :: news)) (hm : (wl, W.listOf vs k) ∈ news) (ci : oi.cls = .type "list_iterator") (di : oi.data = .fields #[.ref wl, .int (i : Int) 0])
    (hx : vs[i]? = none) (hoff : ∀ p ∈ news, p.1 ≠ it) (h : ∀ h', Fr h₀ L h' m → News h₀ L h' news → Q none { s with heap := h' }) :
    wpAny (model prog w) A (pyNext (.ref it)) Q E s := by
  have z := N _ (.head _)
  have zw := N _ (.tail _ hm)
  refine wpAny_pyNext_list_end hh ⟨oi, z.1, ci, di⟩ ⟨_, zw.1, rfl, _, rfl⟩ hx fun h' hs => ?_
  refine h h' ⟨F.ns.at fun o e => hs _ o (Ne.symm z.2.1) e, fun b o e => hs b o (fun hb => ?_) (F.keep b o e), F.above⟩ fun p hp => ?_
  · rw [hb, z.2.2] at e; cases e
  · have y := N p (.tail _ hp)
    exact ⟨hs _ _ (hoff p hp) y.1, y.2⟩
end
end Mine
end

-- part L0
section
open PySem PySem.W PyProof.Rows
set_option maxRecDepth 100000
set_option maxHeartbeats 8000000
namespace Mine
/-- the ways' strings, in a list -/
noncomputable def WaysAre : List Value → List Way → Prop
  | [], [] => True
  | v :: vs, u :: us => (∃ t, v = .str (wayS u) t) ∧ WaysAre vs us
  | _, _ => False
theorem WaysAre.snoc : ∀ {vs : List Value} {us : List Way} {u : Way} {t : Tok}, WaysAre vs us → WaysAre (vs ++ [.str (wayS u) t]) (us ++ [u])
  | [], [], _, t, _ => ⟨⟨t, rfl⟩, trivial⟩
  | _ :: _, _ :: _, _, _, h => ⟨h.1, WaysAre.snoc h.2⟩
  | [], _ :: _, _, _, h => h.elim
  | _ :: _, [], _, _, h => h.elim
/-- the table of _int2digits, before or behind its first call -/
noncomputable def T16 (tl : List (Addr × Obj)) (B : Addr) : Prop := tl = [(16, tabObj #[])] ∨ ∃ c1 oc1 vs1 t1, tl = [(c1, oc1), (16, tabObj (tab16 c1))] ∧ oc1.data = Data.fields vs1 ∧ vs1[1]? = some (.str qual16 t1) ∧ @LT.lt Nat _ B c1
theorem T16.grown {tl : List (Addr × Obj)} {B : Addr} (h : T16 tl B) : ∃ ps, (16, tabObj ps) ∈ tl := by
  rcases h with rfl | ⟨c1, oc1, vs1, t1, rfl, -⟩
  · exact ⟨_, .head _⟩
  · exact ⟨_, .tail _ (.head _)⟩
theorem T16.ne {tl : List (Addr × Obj)} {B a : Addr} (h : T16 tl B) (h16 : @LT.lt Nat _ 16 a) (ha : @LE.le Nat _ a B) : ∀ p ∈ tl, p.1 ≠ a := by
  rcases h with rfl | ⟨c1, oc1, vs1, t1, rfl, -, -, hc⟩
  · intro p hp
    rw [List.mem_singleton.mp hp]
    exact Nat.ne_of_lt h16
  · intro p hp
    rcases List.mem_cons.mp hp with rfl | hp
    · exact Nat.ne_of_gt (Nat.lt_of_le_of_lt ha hc)
    · rw [List.mem_singleton.mp hp]
      exact Nat.ne_of_lt h16
theorem i2d_any (w : World) (p : Program) (loose : List Str) (mean : ExcName → Option Value) (mg mb : Str → Option Value) (x k : Nat) (hx : 1 ≤ (x : Int)) (hk1 : 1 ≤ k) (hk7 : k ≤ 7) (hxk : x < 2 ^ k) (hib : Builtin.Int.intBits (x : Int) = k) (t u : Tok) (rest tl : List (Addr × Obj)) (hP : ∀ p ∈ rest, p.1 ≠ 16) (B : Addr) (oB : Obj) (hB : (B, oB) ∈ rest) (hB16 : @LT.lt Nat _ 16 B) (hT : T16 tl B) :
  Ct w p loose mean mg mb (.ref 21) [Value.int x t, Value.int 1 u] 80 400 (tl ++ rest) (fun v n => ∃ al vs n' tl', v = .ref al ∧ n = (al, W.listOf vs.toArray n') :: (tl' ++ rest) ∧ IntsAre vs (bitsOf k x) ∧ T16 tl' B ∧ (∀ p ∈ tl', p.1 ≠ al) ∧ (∀ p ∈ rest, p.1 < al)) := by
  rcases hT with rfl | ⟨c1, oc1, vs1, t1, rfl, d1, d2, hc⟩
  · intro dp un gd cn cs a ccd cl outer A₀ base h₀ L m s Q Bl F X N T hk hdp hun hg hret
    refine i2d_miss w p loose mean mg mb x k hx hk1 hk7 hxk hib t u rest hP dp un gd cn cs a ccd cl outer A₀ base h₀ L m s Q Bl F X N T hk hdp hun hg ?_
    rintro v n h' tk' g' ⟨al, vs, n', c1, oc1, vs1, t1, rfl, rfl, hI, d1, d2, l1, l2, l3⟩ hg' F' N'
    refine hret _ _ _ _ _ ⟨al, vs, n', [(c1, oc1), (16, tabObj (tab16 c1))], rfl, rfl, hI, .inr ⟨c1, oc1, vs1, t1, rfl, d1, d2, l2 _ (.tail _ hB)⟩, ?_, fun p hp => l3 p (.tail _ hp)⟩ hg' F' N'
    intro p hp
    rcases List.mem_cons.mp hp with rfl | hp
    · exact Nat.ne_of_gt l1
    · rw [List.mem_singleton.mp hp]
      exact Nat.ne_of_lt (l3 (16, tabObj #[]) (.head _))
  · intro dp un gd cn cs a ccd cl outer A₀ base h₀ L m s Q Bl F X N T hk hdp hun hg hret
    refine i2d_hit w p loose mean mg mb x k hx hk1 hk7 hxk hib t u rest hP c1 oc1 vs1 t1 d1 d2 (Nat.ne_of_gt (Nat.lt_trans hB16 hc)) dp un gd cn cs a ccd cl outer A₀ base h₀ L m s Q Bl F X N T hk hdp hun hg ?_
    rintro v n h' tk' g' ⟨al, vs, n', rfl, rfl, hI, l3⟩ hg' F' N'
    refine hret _ _ _ _ _ ⟨al, vs, n', [(c1, oc1), (16, tabObj (tab16 c1))], rfl, rfl, hI, .inr ⟨c1, oc1, vs1, t1, rfl, d1, d2, hc⟩, ?_, fun p hp => l3 p (.tail _ (.tail _ hp))⟩ hg' F' N'
    intro p hp
    rcases List.mem_cons.mp hp with rfl | hp
    · exact Nat.ne_of_lt (l3 _ (.head _))
    · rw [List.mem_singleton.mp hp]
      exact Nat.ne_of_lt (l3 (16, _) (.tail _ (.head _)))
/-- the way down to a place -/
noncomputable def blen (x : Nat) : Nat := x.log2 + 1
noncomputable def wayOf (x : Nat) : Way := ((bitsOf (blen x) x).dropLast.reverse).map (fun d => d == 1)
theorem blen_ok : ∀ x, x < 128 → 1 ≤ x → 1 ≤ blen x ∧ blen x ≤ 7 ∧ x < 2 ^ blen x ∧ Builtin.Int.intBits (x : Int) = blen x ∧ (wayOf x).length ≤ 6 := by decide +kernel
theorem bits_mem : ∀ (k x : Nat) (d : Int), d ∈ bitsOf k x → d = 0 ∨ d = 1
  | 0, _, _, h => by simp [bitsOf] at h
  | k + 1, x, d, h => by
    rw [bitsOf] at h
    rcases List.mem_cons.mp h with rfl | h
    · have := Nat.mod_lt x (show 0 < 2 by decide)
      omega
    · exact bits_mem k _ d h
theorem way_get {x i : Nat} {d : Int} (hi : i < (List.take ((bitsOf (blen x) x).length - 1) (bitsOf (blen x) x)).length)
    (h : (List.take ((bitsOf (blen x) x).length - 1) (bitsOf (blen x) x))[(List.take ((bitsOf (blen x) x).length - 1) (bitsOf (blen x) x)).length - 1 - i]? = some d) : (wayOf x)[i]? = some (d == 1) ∧ (d = 0 ∨ d = 1) := by
  constructor
  · unfold wayOf
    rw [List.getElem?_map, List.dropLast_eq_take, List.getElem?_reverse hi, h]
    rfl
  · exact bits_mem _ _ _ (List.mem_of_mem_take (List.mem_of_getElem? h))
theorem way_len (x : Nat) : (wayOf x).length = (List.take ((bitsOf (blen x) x).length - 1) (bitsOf (blen x) x)).length := by
  unfold wayOf
  rw [List.length_map, List.length_reverse, List.dropLast_eq_take]
theorem carried_of : ∀ {ys : List Value} {ws : Way}, ys.length = ws.length → (∀ (i : Nat) (y : Value), ys[i]? = some y → ∃ b t, ws[i]? = some b ∧ y = Value.str ⟨#[sgn b]⟩ t) → CarriedAll ys (ws.map fun b => PyData.str ⟨#[sgn b]⟩)
  | [], [], _, _ => .nil
  | y :: ys, b :: ws, hl, h => by
    obtain ⟨b', t, hb, rfl⟩ := h 0 y rfl
    simp at hb
    subst hb
    exact .cons (.str _ t) (carried_of (by simpa using hl) fun i z hz => h (i + 1) z (by simpa using hz))
  | [], _ :: _, hl, _ => by simp at hl
  | _ :: _, [], hl, _ => by simp at hl
theorem enc_ok : ∀ x, x < 128 → 1 ≤ x → Txt.replace (wayS (wayOf x)) (Str.ofString "\\") (Str.ofString "\\\\") = ⟨(enc (wayOf x)).toArray⟩ ∧ (enc (wayOf x)).length ≤ 12 := by decide +kernel
theorem text_join (a b : Str) : Txt.join (Str.ofString " ") [a, b] = a ++ Str.ofString " " ++ b := by
  show Str.mk (a.cps ++ (Str.ofString " ").cps ++ b.cps) = _
  rfl
theorem quote_is : Str.ofString "\"" = ⟨#[34]⟩ := by decide +kernel
theorem blank_is : Str.ofString " " = ⟨#[32]⟩ := by decide +kernel
theorem cat_list (a b : Str) : (a ++ b).cps.toList = a.cps.toList ++ b.cps.toList := by
  show (a.cps ++ b.cps).toList = _
  simp
theorem text_list (E1 E2 : List Nat) : (Txt.join (Str.ofString " ") [(Str.ofString "\"" ++ Str.mk E1.toArray) ++ Str.ofString "\"", (Str.ofString "\"" ++ Str.mk E2.toArray) ++ Str.ofString "\""]).cps.toList = 34 :: (E1 ++ 34 :: 32 :: 34 :: (E2 ++ [34])) := by
  rw [text_join, quote_is, blank_is]
  simp only [cat_list]
  simp
theorem rep_len (x : Nat) (h1 : 1 ≤ x) (h2 : x < 128) : (Txt.replace (wayS (wayOf x)) (Str.ofString "\\") (Str.ofString "\\\\")).length ≤ 12 := by
  have h := enc_ok x h2 h1
  rw [h.1]
  simpa [Str.length] using h.2
end Mine
end

-- part T4
section
open PySem PySem.W PyProof.Rows PyProof.V PySem.Spec PySem.Calls
set_option maxRecDepth 100000
set_option maxHeartbeats 8000000
namespace Mine
theorem st_canLayAll0 : ∀ ns : List Str, (∀ u ∈ ns, PyData.strOk u = true) → PyData.canLayAll0 (ns.map PyData.str) = true
  | [], _ => rfl
  | a :: r, h => by simp [PyData.canLayAll0, PyData.canLay0, st_canLayAll0 r fun u hu => h u (.tail _ hu), h a (.head _)]
theorem st_depthAll : ∀ ns : List Str, PyData.depthAll (ns.map PyData.str) = 0
  | [] => rfl
  | _ :: r => by simp [PyData.depthAll, PyData.depth, st_depthAll r]
theorem st_shaped (ns : List Str) (h : ∀ u ∈ ns, PyData.strOk u = true) : SeqAt.shaped (.list (ns.map PyData.str)) = true := by
  simp [SeqAt.shaped, PyData.canLay0, PyData.depth, st_canLayAll0 ns h, st_depthAll]
theorem st_sameAll : ∀ ns : List Str, PySem.Spec.sameAll (ns.map PyData.str) (ns.map PyData.str) = true
  | [] => by simp [PySem.Spec.sameAll]
  | a :: r => by
    simp only [List.map_cons, PySem.Spec.sameAll, PySem.Spec.same, st_sameAll r]
    simp
theorem st_same (ns : List Str) : PySem.Spec.same (.list (ns.map PyData.str)) (.list (ns.map PyData.str)) = true := by
  simp only [PySem.Spec.same]; exact st_sameAll ns
theorem ne_strs {prog : Program} {w : World} {A : Around} {E : Value → Shared → Prop} {s : Shared} {a b : Addr} {xs ys : List Value} {ns : List Str} {Q : Value → Shared → Prop} (ha : s.heap.IsList a xs.toArray) (hb : s.heap.IsList b ys.toArray) (hi : CarriedAll xs (ns.map PyData.str)) (hj : CarriedAll ys (ns.map PyData.str)) (hk : ∀ u ∈ ns, PyData.strOk u = true) (hu : A.units + 64 < cLine) (h : Q (.bool false) s) :
    wpAny (model prog w) A (compareOp .NotEq (.ref a) (.ref b)) Q E s :=
  ne_dataH_same (reads_newData ha hi) (reads_newData hb hj) (st_shaped _ hk) (st_shaped _ hk) hu (SeqAt.noMix_of_shape (.list .str) rfl _ _ (list_map_has fun _ => rfl) (list_map_has fun _ => rfl)) (by rw [st_same]; exact h)
theorem way_ok : ∀ x, x < 128 → 1 ≤ x → PyData.strOk (wayS (wayOf x)) = true := by decide +kernel
end Mine
end

-- part L5
section
open PySem PySem.W PyProof.Rows
set_option maxRecDepth 100000
set_option maxHeartbeats 8000000
namespace Mine

abbrev kbase (dp un : Nat) (gd : Option (List PySem.Code)) (outer : List Env) : Around := { handled := none, depth := dp, frames := some outer, guards := gd, units := un }
theorem lit_sub {a : Option Obj} {x y : Obj} {P : Prop} (h : a = some x) (e : a = some y) (k : x = y → P) : P := k (Option.some.inj (h.symm.trans e))
theorem WaysAre.length : ∀ {vs : List Value} {us : List Way}, WaysAre vs us → vs.length = us.length
  | [], [], _ => rfl
  | _ :: _, _ :: _, h => by rw [List.length_cons, List.length_cons, WaysAre.length h.2]
  | [], _ :: _, h => h.elim
  | _ :: _, [], h => h.elim
theorem own_nm {M : Model} {A : Around} {E : Value → Shared → Prop} {s : Shared} {x : Str} {pos : Pos} {it v : Value} {Q : Unit → Shared → Prop} (h : Q () s) : wpAny M A (letOwnedTupleGo (.Name x pos) it v) Q E s := wpAny_pure h
theorem ints_of : ∀ {ys : List Value} {l : List Bool}, ys.length = l.length → (∀ (i : Nat) (y : Value), ys[i]? = some y → ∃ b t, l[i]? = some b ∧ y = Value.int (if b then 1 else 0) t) → IntsAre ys (l.map fun b => if b then (1 : Int) else 0)
  | [], [], _, _ => .nil
  | y :: ys, b :: l, hl, h => by
    have hz1 := h 0 y rfl
    obtain ⟨b', t, hb, rfl⟩ := hz1
    simp at hb
    subst hb
    exact .cons _ t (ints_of (by simpa using hl) fun i z hz => h (i + 1) z (by simpa using hz))
  | [], _ :: _, hl, _ => by simp at hl
  | _ :: _, [], hl, _ => by simp at hl
/-- one round's change of a way -/
noncomputable def stepW (j : Nat) (u : Way) : Way := if j < 2 then twice u else (twice (u.map (!·))).map (!·)
theorem stepW_len {j : Nat} {u : Way} (h : (stepW j u).length ≤ 50) : j < 2 ∨ (twice (u.map (!·))).length ≤ 60 := by
  by_cases hj : j < 2
  · exact .inl hj
  · unfold stepW at h
    rw [if_neg hj, List.length_map] at h
    exact .inr (by (first | exact Mine.ar37 h | omega))
/-- the table of _digits2int -/
noncomputable def S23 (tl : List (Addr × Obj)) : Prop := tl = [(23, tabObj #[])] ∨ ∃ c1 oc1 vs1 t1, tl = [(c1, oc1), (23, tabObj (tab23 c1))] ∧ oc1.data = Data.fields vs1 ∧ vs1[1]? = some (.str qual23 t1) ∧ c1 ≠ 23
theorem S23.grown {tl : List (Addr × Obj)} (h : S23 tl) : ∃ ps, (23, tabObj ps) ∈ tl := by
  rcases h with rfl | ⟨c1, oc1, vs1, t1, rfl, -⟩
  · exact ⟨_, .head _⟩
  · exact ⟨_, .tail _ (.head _)⟩
theorem d2i_all (w : World) (p : Program) (loose : List Str) (mean : ExcName → Option Value) (mg mb : Str → Option Value) (ds : List Int) (vs : List Value) (hds : IntsAre vs ds) (hb : ∀ d ∈ ds, 0 ≤ d ∧ d ≤ 1) (hlen : ds.length ≤ 60) (hne : 0 < ds.length) (n₀ : Nat) (dl : Addr) (t : Tok) (rest tl : List (Addr × Obj)) (hP : ∀ p ∈ rest, p.1 ≠ 23) (hdl : dl ≠ 23) (hT : S23 tl) :
  Ct w p loose mean mg mb (.ref 28) [Value.ref dl, Value.int 1 t] 80 400 ((dl, W.listOf vs.toArray n₀) :: (tl ++ rest)) (fun v n => ∃ tl', n = (dl, W.listOf vs.toArray n₀) :: (tl' ++ rest) ∧ S23 tl' ∧ (∀ a oa, (a, oa) ∈ rest → (∀ p ∈ tl, p.1 ≠ a) → ∀ p ∈ tl', p.1 ≠ a) ∧ ∃ t, v = .int (bitsV ds) t) := by
  rcases hT with rfl | ⟨c1, oc1, vs1, t1, rfl, d1, d2, hc⟩
  · intro dp un gd cn cs a ccd cl outer A₀ base h₀ L m s Q Bl F X N T hk hdp hun hg hret
    refine d2i_miss w p loose mean mg mb ds vs hds hb hlen hne n₀ dl t rest hP hdl dp un gd cn cs a ccd cl outer A₀ base h₀ L m s Q Bl F X N T hk hdp hun hg ?_
    intro v n h' tk' g' hRt hg' F' N'
    refine hide fun PP hPP => ?_
    obtain ⟨c1, oc1, vs1, t1, ev1, d1, d2, l2, t', ev2⟩ := hRt
    refine hPP ?_
    clear hPP
    subst ev1
    subst ev2
    refine hret _ _ _ _ _ ⟨[(c1, oc1), (23, tabObj (tab23 c1))], rfl, .inr ⟨c1, oc1, vs1, t1, rfl, d1, d2, Nat.ne_of_gt (l2 (23, tabObj #[]) (.tail _ (.head _)))⟩, fun a oa ha hq p hp => ?_, t', rfl⟩ hg' F' N'
    rcases List.mem_cons.mp hp with rfl | hp
    · exact Nat.ne_of_gt (l2 (a, oa) (.tail _ (.tail _ ha)))
    · rw [List.mem_singleton.mp hp]
      exact hq (23, tabObj #[]) (.head _)
  · intro dp un gd cn cs a ccd cl outer A₀ base h₀ L m s Q Bl F X N T hk hdp hun hg hret
    refine d2i_hit w p loose mean mg mb ds vs hds hb hlen hne n₀ dl t rest hP hdl c1 oc1 vs1 t1 d1 d2 hc dp un gd cn cs a ccd cl outer A₀ base h₀ L m s Q Bl F X N T hk hdp hun hg ?_
    intro v n h' tk' g' hRt hg' F' N'
    refine hide fun PP hPP => ?_
    obtain ⟨ev1, t', ev2⟩ := hRt
    refine hPP ?_
    clear hPP
    subst ev1
    subst ev2
    exact hret _ _ _ _ _ ⟨[(c1, oc1), (23, tabObj (tab23 c1))], rfl, .inr ⟨c1, oc1, vs1, t1, rfl, d1, d2, hc⟩, fun a oa ha hq => hq, t', rfl⟩ hg' F' N'
/-- the digits of a way, the lowest first -/
noncomputable def digs (u : Way) : List Int := (u.reverse.map fun b => if b then (1 : Int) else 0) ++ [1]
noncomputable def Good (ok : Nat → Nat → Bool) (v : Way) (x up dn : Nat) : Prop := ∃ r g : Nat, (shareW (wayOf x)).1 * (up : Int) = r ∧ (shareW (wayOf x)).2 * (dn : Int) = g ∧ okRun ok 40 r g = true ∧ bitsV (digs v) = placeN 40 r g 1
noncomputable def forBody : PySem.Stmt → List PySem.Stmt
  | .For _ _ b _ _ => b
  | _ => []
inductive I51 (w : World) (h₀ : Heap) (L wl pl x5 dx5 f' lit : Addr) (nw : Nat) (t1 t2 : Tok) (x1 x2 : Nat) (om : Obj) (k0 k1 k2 k3 k4 k5 : Tok) (fixA : List (Addr × Obj)) (j up dn : Nat) (tj tu td : Tok) (a b fa fb : Way) (m₁ : Str → Option Value) (dr : Drawn) (os : OsState) : Nat → Shared → Prop
  | mk (n : Nat) (h : Heap) (gn : Array GenState) (tk : Nat) (loi : Obj) (vw : Option Value) (vt : Option Value) (vr : Option Value) (vg : Option Value) (vd : Option Value) (pv : List Value) (pu : List Way) (np : Nat) (i : Nat) : (AllBare gn) →
    (Fr h₀ L h (fun y => if y = Str.ofString "words" then some (Value.ref wl) else if y = Str.ofString "k" then some (Value.int (j : Nat) tj) else if y = Str.ofString "up" then some (Value.int (up : Nat) tu) else if y = Str.ofString "down" then some (Value.int (dn : Nat) td) else if y = Str.ofString "word" then vw else if y = Str.ofString "told" then vt else if y = Str.ofString "red" then vr else if y = Str.ofString "green" then vg else if y = Str.ofString "digits" then vd else m₁ y)) →
    (News h₀ L h ((lit, loi) :: (pl, W.listOf (List.toArray pv) np) :: (x5, instObj 80 dx5) :: (dx5, machD w k0 k1 k2 k3 k4 k5 f' pl) :: (wl, W.listOf #[.str (wayS (wayOf x1)) t1, .str (wayS (wayOf x2)) t2] nw) :: (L + 1, om) :: fixA)) →
    (loi.cls = .type "list_iterator") →
    (loi.data = .fields #[.ref wl, .int (i : Nat) 0]) →
    (i + n = 2) →
    (WaysAre pv pu) →
    (pu = [a, b].drop i ++ [fa, fb].take i) → I51 w h₀ L wl pl x5 dx5 f' lit nw t1 t2 x1 x2 om k0 k1 k2 k3 k4 k5 fixA j up dn tj tu td a b fa fb m₁ dr os n { heap := h, gens := gn, drawn := dr, toks := tk, os := os }
inductive I52 (w : World) (h₀ : Heap) (L wl pl x5 dx5 f' lit : Addr) (nw : Nat) (t1 t2 : Tok) (x1 x2 : Nat) (om : Obj) (k0 k1 k2 k3 k4 k5 : Tok) (fixA : List (Addr × Obj)) (j up dn : Nat) (tj tu td : Tok) (a b fa fb : Way) (m₁ : Str → Option Value) (dr : Drawn) (os : OsState) (tl : List (Addr × Obj)) : Nat → Shared → Prop
  | mk (n : Nat) (h : Heap) (gn : Array GenState) (tk : Nat) (loi : Obj) (vw : Option Value) (vt : Option Value) (vr : Option Value) (vg : Option Value) (vd : Option Value) (pv : List Value) (pu : List Way) (np : Nat) (i : Nat) (tl2 : List (Addr × Obj)) : (AllBare gn) →
    (Fr h₀ L h (fun y => if y = Str.ofString "words" then some (Value.ref wl) else if y = Str.ofString "k" then some (Value.int (j : Nat) tj) else if y = Str.ofString "up" then some (Value.int (up : Nat) tu) else if y = Str.ofString "down" then some (Value.int (dn : Nat) td) else if y = Str.ofString "word" then vw else if y = Str.ofString "told" then vt else if y = Str.ofString "red" then vr else if y = Str.ofString "green" then vg else if y = Str.ofString "digits" then vd else m₁ y)) →
    (News h₀ L h ((lit, loi) :: (pl, W.listOf (List.toArray pv) np) :: (x5, instObj 80 dx5) :: (dx5, machD w k0 k1 k2 k3 k4 k5 f' pl) :: (wl, W.listOf #[.str (wayS (wayOf x1)) t1, .str (wayS (wayOf x2)) t2] nw) :: (L + 1, om) :: (fixA ++ tl2))) →
    (loi.cls = .type "list_iterator") →
    (loi.data = .fields #[.ref wl, .int (i : Nat) 0]) →
    (i + n = 2) →
    (WaysAre pv pu) →
    (pu = [fa, fb].drop i ++ [fa, fb].take i) →
    (S23 tl2) →
    ((∀ p ∈ tl2, p.1 ≠ lit ∧ p.1 ≠ pl)) →
    ((∀ a oa, (a, oa) ∈ fixA → (∀ p ∈ tl, p.1 ≠ a) → ∀ p ∈ tl2, p.1 ≠ a)) → I52 w h₀ L wl pl x5 dx5 f' lit nw t1 t2 x1 x2 om k0 k1 k2 k3 k4 k5 fixA j up dn tj tu td a b fa fb m₁ dr os tl n { heap := h, gens := gn, drawn := dr, toks := tk, os := os }
section
local macro_rules | `(tactic| walk_at "call ref") => `(tactic| refine Hold.out ?_)
local macro_rules | `(tactic| walk_at "exec For Name Name cons nil") => `(tactic| refine Hold.out ?_)
local macro_rules | `(tactic| walk_at "eval ListComp") => `(tactic| refine Hold.out ?_)
local macro_rules | `(tactic| walk_at "call type:reversed") => `(tactic| refine Hold.out ?_)
local macro_rules | `(tactic| mul_fits) => `(tactic| assumption)
local macro_rules | `(tactic| walk_at "pyIter ref") => `(tactic| refine Hold.out ?_)
theorem law_turn (w : World) (p : Program) (loose : List Str) (mean : ExcName → Option Value) (mg mb : Str → Option Value) (oc : Value) (od : Option Addr) (name qual : Str) (params : Arguments) (body : List PySem.Stmt) (scope : Scope) (dV kV doc pm : Value) (an : Option Addr) (cdv ct : Value) (osl : Array (Option Value))
    (ho : (Mine.hd.heap_39 w.params).lookup 122 = some ⟨oc, od, .func (fnOf name qual params body scope dV kV doc pm an cdv ct), osl⟩)
    (dp un : Nat) (gd : Option (List PySem.Code)) (base h₀ : Heap) (outer : List Env) (L : Addr) (wl : Addr) (nw : Nat) (t1 t2 : Tok) (x1 x2 : Nat) (om : Obj)
    (pl x5 dx5 f' : Addr) (k0 k1 k2 k3 k4 k5 : Tok) (s : Shared) (Q : Flow → Shared → Prop) (m₁ : Str → Option Value)
    (vw vt vr vg vd : Option Value) (j up dn : Nat) (hj : j < 5) (hud : up ≤ 4 ∧ dn ≤ 4) (tj tu td : Tok) (a b : Way) (ta tb : Tok) (np : Nat) (fixC tl : List (Addr × Obj)) (ok : Nat → Nat → Bool) (hokp : ∀ r g, ok r g = true → okPair r g = true)
    (B : Below (kbase dp un gd outer) base outer h₀) (F : Fr h₀ L s.heap (fun y => if y = Str.ofString "words" then some (Value.ref wl) else if y = Str.ofString "k" then some (Value.int (j : Nat) tj) else if y = Str.ofString "up" then some (Value.int (up : Nat) tu) else if y = Str.ofString "down" then some (Value.int (dn : Nat) td) else if y = Str.ofString "word" then vw else if y = Str.ofString "told" then vt else if y = Str.ofString "red" then vr else if y = Str.ofString "green" then vg else if y = Str.ofString "digits" then vd else m₁ y)) (X : (Mine.hd.heap_39 w.params).In h₀)
    (N : News h₀ L s.heap ((pl, W.listOf (List.toArray [.str (wayS a) ta, .str (wayS b) tb]) np) :: (x5, instObj 80 dx5) :: (dx5, machD w k0 k1 k2 k3 k4 k5 f' pl) :: (wl, W.listOf #[.str (wayS (wayOf x1)) t1, .str (wayS (wayOf x2)) t2] nw) :: (L + 1, om) :: (fixC ++ tl)))
    (hom : om.data = .cell (some (.ref x5))) (T0 : Top p loose mean mg mb h₀) (hdp : dp + 100 < recursionLimit) (hun : un + 600 < cLine) (hg : AllBare s.gens) (hlt : @LT.lt Nat _ 86 L) (hwl : @LT.lt Nat _ (L + 1) wl)
    (r1 : @LT.lt Nat _ wl dx5) (r2 : @LT.lt Nat _ dx5 x5) (r3 : @LT.lt Nat _ x5 pl)
    (hC : ∀ p ∈ fixC, p.1 ≠ pl ∧ p.1 ≠ 23) (hT : S23 tl) (hTp : ∀ p ∈ tl, p.1 ≠ pl) (hx1 : 1 ≤ x1 ∧ x1 < 128) (hx2 : 1 ≤ x2 ∧ x2 < 128)
    (hla : a.length ≤ 60) (hlb : b.length ≤ 60) (hlfa : (stepW j a).length ≤ 50) (hlfb : (stepW j b).length ≤ 50)
    (hk3 : j = 3 → stepW j a = wayOf x1 ∧ stepW j b = wayOf x2) (hk1 : j % 3 = 1 → Good ok (stepW j a) x1 up dn ∧ Good ok (stepW j b) x2 up dn)
    (hnext : ∀ h' g' tk' vw vt vr vg vd ta' tb' np' tl', AllBare g' → Fr h₀ L h' (fun y => if y = Str.ofString "words" then some (Value.ref wl) else if y = Str.ofString "k" then some (Value.int (j : Nat) tj) else if y = Str.ofString "up" then some (Value.int (up : Nat) tu) else if y = Str.ofString "down" then some (Value.int (dn : Nat) td) else if y = Str.ofString "word" then vw else if y = Str.ofString "told" then vt else if y = Str.ofString "red" then vr else if y = Str.ofString "green" then vg else if y = Str.ofString "digits" then vd else m₁ y) → News h₀ L h' ((pl, W.listOf (List.toArray [.str (wayS (stepW j a)) ta', .str (wayS (stepW j b)) tb']) np') :: (x5, instObj 80 dx5) :: (dx5, machD w k0 k1 k2 k3 k4 k5 f' pl) :: (wl, W.listOf #[.str (wayS (wayOf x1)) t1, .str (wayS (wayOf x2)) t2] nw) :: (L + 1, om) :: (fixC ++ tl')) → S23 tl' → (∀ p ∈ tl', p.1 ≠ pl) →
      (∀ a oa, (a, oa) ∈ fixC → (∀ p ∈ tl, p.1 ≠ a) → ∀ p ∈ tl', p.1 ≠ a) → Q .next { heap := h', gens := g', drawn := s.drawn, toks := tk', os := s.os }) :
    wpAny (model PySem.Challenge.rw_to0007_01.row.prog w) ((kbase dp un gd outer).deeper (envOfC qual scope L 122 cdv)) (execs ((body.drop 5).head?.elim [] forBody) (envOfC qual scope L 122 cdv)) Q (fun _ _ => False) s := by
  revert X ho; k_fill; intro ho X
  refine' lit_sub ho ?e ?_
  case e => k_is
  intro h
  injection h with h1 h2 h3 h4
  injection h3 with h3
  injection h3 with i1 i2 i3 i4 i5 i6 i7 i8 i9 i10 i11 i12 i13 i14
  injection i4 with i4
  clear ho
  subst i1 i2 i3 i4 i5 i13
  clear i6 i7 i8 i9 i10 i11 i12 i14 h1 h2 h4
  rename builtinsNs = 0 => i15
  clear i15
  have C86 := code86 X
  simp only [List.drop_succ_cons, List.drop_zero, List.head?_cons, Option.elim_some]
  delta forBody
  dsimp only
  have HC := Hold.mk hC
  have HTP := Hold.mk hTp
  have HK3 := Hold.mk hk3
  have HK1 := Hold.mk hk1
  have HT := Hold.mk hT
  have HLA := Hold.mk hlfa
  have HLB := Hold.mk hlfb
  clear hC hTp hk3 hk1 hT hlfa hlfb
  k_steps
  refine ⟨?_⟩
  refine wpAny_For ?_
  k_steps
  refine ⟨?_⟩
  rename News _ _ _ _ => Nq
  rename Fr h₀ L _ _ => Fq
  have hz2 : ∃ fixA, fixA = fixC ++ tl := ⟨_, rfl⟩
  obtain ⟨fixA, hfA⟩ := hz2
  rw [← hfA] at Nq
  refine list_iter Fq Nq (.tail _ (.tail _ (.tail _ (.head _)))) ?_
  intro lit h5 loi ci di Fi Ni li
  have olit : @LT.lt Nat _ pl lit := li _ (.head _)
  have hfl : ∀ p ∈ fixA, p.1 ≠ lit ∧ p.1 ≠ pl := fun p hp => ⟨Nat.ne_of_lt (li p (.tail _ (.tail _ (.tail _ (.tail _ (.tail _ hp)))))), by
    rw [hfA] at hp
    rcases List.mem_append.mp hp with hp | hp
    · exact (HC.out p hp).1
    · exact HTP.out p hp⟩
  have HFL := Hold.mk hfl
  clear Fq Nq li hfl
  have hz3 : ∃ fa, fa = stepW j a := ⟨_, rfl⟩
  obtain ⟨fa, hfa⟩ := hz3
  have hz4 : ∃ fb, fb = stepW j b := ⟨_, rfl⟩
  obtain ⟨fb, hfb⟩ := hz4
  refine for_loopQ (I51 w h₀ L wl pl x5 dx5 f' lit nw t1 t2 x1 x2 om k0 k1 k2 k3 k4 k5 fixA j up dn tj tu td a b fa fb m₁ s.drawn s.os) ?_ 2 (.mk 2 (_) (_) (_) (loi) (vw) (vt) (vr) (vg) (vd) (_) ([a, b]) (np) (0) (hg) (fr_map Fi ?_) (Ni) (ci) (di) (rfl) (⟨⟨ta, rfl⟩, ⟨tb, rfl⟩, trivial⟩) (rfl))
  rotate_left
  · exact chain_eq (m := m₁) (by repeat (first | refine Ag.cons (by first | rfl | assumption) ?_ | exact Ag.nil)) (by repeat (first | refine Ag.cons (by first | rfl | assumption) ?_ | exact Ag.nil))
  clear Fi Ni ci di vw vt vr vg vd
  rintro n _ QQ1 ⟨h, gn, tk, loi, vw, vt, vr, vg, vd, pv, pu, np, i, hgn, F8, N8, ci, di, hin, hpv, hpu⟩ KE1
  have hoff : ∀ p ∈ (pl, W.listOf (List.toArray pv) np) :: (x5, instObj 80 dx5) :: (dx5, machD w k0 k1 k2 k3 k4 k5 f' pl) :: (wl, W.listOf #[.str (wayS (wayOf x1)) t1, .str (wayS (wayOf x2)) t2] nw) :: (L + 1, om) :: fixA, p.1 ≠ lit := by
    refine List.forall_mem_cons.mpr ⟨Nat.ne_of_lt (by (first | exact olit | omega)), ?_⟩
    refine List.forall_mem_cons.mpr ⟨Nat.ne_of_lt (by (first | exact Nat.lt_trans r3 olit | omega)), ?_⟩
    refine List.forall_mem_cons.mpr ⟨Nat.ne_of_lt (by (first | exact Nat.lt_trans r2 (Nat.lt_trans r3 olit) | omega)), ?_⟩
    refine List.forall_mem_cons.mpr ⟨Nat.ne_of_lt (by (first | exact Nat.lt_trans r1 (Nat.lt_trans r2 (Nat.lt_trans r3 olit)) | omega)), ?_⟩
    refine List.forall_mem_cons.mpr ⟨Nat.ne_of_lt (by (first | exact Nat.lt_trans hwl (Nat.lt_trans r1 (Nat.lt_trans r2 (Nat.lt_trans r3 olit))) | omega)), ?_⟩
    exact fun p h => (HFL.out p h).1
  cases n with
  | zero =>
    have hi2 : i = 2 := by (first | exact Mine.ar38 hin | omega)
    subst hi2
    refine list_end rfl F8 N8 (.tail _ (.tail _ (.tail _ (.head _)))) ci di rfl hoff ?_
    intro h6 F6 N6
    dsimp only
    clear hoff N8 F8 ci di
    rw [hfA] at N6
    have hpu2 : pu = [fa, fb] := hpu
    clear HFL hpu
    k_steps
    refine ⟨?_⟩
    refine wpAny_For ?_
    k_steps
    refine ⟨?_⟩
    rename News _ _ _ _ => Nq
    rename Fr h₀ L _ _ => Fq
    refine list_iter Fq Nq (.tail _ (.tail _ (.tail _ (.head _)))) ?_
    intro li2 h7 loi2 ci di Fi Ni li
    have oli2 : @LT.lt Nat _ pl li2 := li _ (.head _)
    have hC2 : ∀ p ∈ fixC, p.1 ≠ li2 := fun p hp => Nat.ne_of_lt (li p (.tail _ (.tail _ (.tail _ (.tail _ (.tail _ (List.mem_append_left _ hp)))))))
    have hT2 : ∀ p ∈ tl, p.1 ≠ li2 ∧ p.1 ≠ pl := fun p hp => ⟨Nat.ne_of_lt (li p (.tail _ (.tail _ (.tail _ (.tail _ (.tail _ (List.mem_append_right _ hp))))))), HTP.out p hp⟩
    have HC2 := Hold.mk hC2
    clear Fq Nq li hC2
    refine for_loopQ (I52 w h₀ L wl pl x5 dx5 f' li2 nw t1 t2 x1 x2 om k0 k1 k2 k3 k4 k5 fixC j up dn tj tu td a b fa fb m₁ s.drawn s.os tl) ?_ 2 (.mk 2 (_) (_) (_) (loi2) (vw) (vt) (vr) (vg) (vd) (pv) (pu) (np) (0) (tl) (hgn) (fr_map Fi ?_) (Ni) (ci) (di) (rfl) (hpv) (hpu2) (HT.out) (hT2) (fun a oa _ h => h))
    rotate_left
    · exact chain_eq (m := m₁) (by repeat (first | refine Ag.cons (by first | rfl | assumption) ?_ | exact Ag.nil)) (by repeat (first | refine Ag.cons (by first | rfl | assumption) ?_ | exact Ag.nil))
    clear Fi Ni ci di vw vt vr vg vd hpv hpu2 hT2 pv pu np hgn
    rintro n _ QQ2 ⟨h, gn, tk, loi, vw, vt, vr, vg, vd, pv, pu, np, i, tl2, hgn, F8, N8, ci, di, hin, hpv, hpu, hS, hT2, hkp⟩ KE2
    have hoff : ∀ p ∈ (pl, W.listOf (List.toArray pv) np) :: (x5, instObj 80 dx5) :: (dx5, machD w k0 k1 k2 k3 k4 k5 f' pl) :: (wl, W.listOf #[.str (wayS (wayOf x1)) t1, .str (wayS (wayOf x2)) t2] nw) :: (L + 1, om) :: (fixC ++ tl2), p.1 ≠ li2 := by
      refine List.forall_mem_cons.mpr ⟨Nat.ne_of_lt (by (first | exact oli2 | omega)), ?_⟩
      refine List.forall_mem_cons.mpr ⟨Nat.ne_of_lt (by (first | exact Nat.lt_trans r3 oli2 | omega)), ?_⟩
      refine List.forall_mem_cons.mpr ⟨Nat.ne_of_lt (by (first | exact Nat.lt_trans r2 (Nat.lt_trans r3 oli2) | omega)), ?_⟩
      refine List.forall_mem_cons.mpr ⟨Nat.ne_of_lt (by (first | exact Nat.lt_trans r1 (Nat.lt_trans r2 (Nat.lt_trans r3 oli2)) | omega)), ?_⟩
      refine List.forall_mem_cons.mpr ⟨Nat.ne_of_lt (by (first | exact Nat.lt_trans hwl (Nat.lt_trans r1 (Nat.lt_trans r2 (Nat.lt_trans r3 oli2))) | omega)), ?_⟩
      exact fun p hp => (List.mem_append.mp hp).elim (fun h => HC2.out p h) (fun h => (hT2 p h).1)
    cases n with
    | zero =>
      have hi2 : i = 2 := by (first | exact Mine.ar38 hin | omega)
      subst hi2
      refine list_end rfl F8 N8 (.tail _ (.tail _ (.tail _ (.head _)))) ci di rfl hoff ?_
      intro h6 F6 N6
      dsimp only
      clear hoff N8 F8 ci di
      have hpu2 : pu = [fa, fb] := hpu
      subst hpu2
      have hz5 : ∃ ta' tb', pv = [.str (wayS fa) ta', .str (wayS fb) tb'] := by
        match pv, hpv with
        | [v1, v2], hpv =>
          obtain ⟨⟨t1, rfl⟩, ⟨t2, rfl⟩, -⟩ := hpv
          exact ⟨t1, t2, rfl⟩
        | [], hpv => exact hpv.elim
        | [_], hpv => exact hpv.2.elim
        | _ :: _ :: _ :: _, hpv => exact hpv.2.2.elim
      obtain ⟨ta', tb', rfl⟩ := hz5
      subst hfa hfb
      k_steps
      exact hnext _ _ _ _ _ _ _ _ _ _ _ _ hgn F6 N6 hS (fun p hp => (hT2 p hp).2) hkp
    | succ n =>
      have hz6 : ∃ xx t, (#[Value.str (wayS (wayOf x1)) t1, .str (wayS (wayOf x2)) t2] : Array Value)[i]? = some (.str (wayS (wayOf xx)) t) ∧ (1 ≤ xx ∧ xx < 128) ∧
          ∃ u ur, pu = u :: ur ∧ u.length ≤ 50 ∧ (j = 3 → u = wayOf xx) ∧ (j % 3 = 1 → Good ok u xx up dn) ∧ ur ++ [u] = [fa, fb].drop (i + 1) ++ [fa, fb].take (i + 1) := by
        rcases (show i = 0 ∨ i = 1 by (first | exact Mine.ar39 hin | omega)) with rfl | rfl
        · exact ⟨x1, t1, rfl, hx1, fa, [fb], hpu, by rw [hfa]; exact HLA.out, fun h => by rw [hfa]; exact (HK3.out h).1, fun h => by rw [hfa]; exact (HK1.out h).1, rfl⟩
        · exact ⟨x2, t2, rfl, hx2, fb, [fa], hpu, by rw [hfb]; exact HLB.out, fun h => by rw [hfb]; exact (HK3.out h).2, fun h => by rw [hfb]; exact (HK1.out h).2, rfl⟩
      obtain ⟨xx, wt, hx, hxx, u, ur, hpu2, hlu, hu3, hu1, hnx⟩ := hz6
      have hz7 : ∃ t pr, pv = .str (wayS u) t :: pr ∧ WaysAre pr ur := by
        rw [hpu2] at hpv
        match pv, hpv with
        | v :: pr, hpv => obtain ⟨⟨t, rfl⟩, h2⟩ := hpv; exact ⟨t, pr, rfl, h2⟩
        | [], hpv => exact hpv.elim
      obtain ⟨t, pr, rfl, hpr⟩ := hz7
      have hprl : pr.length ≤ 2 := by
        have e1 := hpr.length
        have e2 := congrArg List.length hnx
        simp at e2
        (first | exact Mine.ar40 e1 e2 | omega)
      refine list_next F8 N8 (.tail _ (.tail _ (.tail _ (.head _)))) ci di hx hoff ?_
      intro h9 loi9 ci9 di9 F9 N9
      clear F8 N8 ci di hx hoff hpv hpu hpu2
      dsimp only
      refine own_nm ?_
      have HU := Hold.mk hlu
      have HPR := Hold.mk hprl
      have HXX := Hold.mk hxx
      have HU3 := Hold.mk hu3
      have HU1 := Hold.mk hu1
      have HT2 := Hold.mk hT2
      have HKP := Hold.mk hkp
      have HS := Hold.mk hS
      have HNX := Hold.mk hnx
      clear hlu hprl hxx hu3 hu1 hT2 hkp hS hnx hfa hfb HK3 HK1
      k_steps
      refine ⟨?_⟩
      rename News _ _ _ _ => Nq
      rename Fr h₀ L _ _ => Fq
      have hz8 : ∃ fixB, fixB = (li2, loi9) :: (wl, W.listOf #[.str (wayS (wayOf x1)) t1, .str (wayS (wayOf x2)) t2] nw) :: (L + 1, om) :: (fixC ++ tl2) := ⟨_, rfl⟩
      obtain ⟨fixB, hfB⟩ := hz8
      have hBp : ∀ p ∈ fixB, p.1 ≠ pl := by
        rw [hfB]
        refine List.forall_mem_cons.mpr ⟨Nat.ne_of_gt (by (first | exact oli2 | omega)), ?_⟩
        refine List.forall_mem_cons.mpr ⟨Nat.ne_of_lt (by (first | exact Nat.lt_trans r1 (Nat.lt_trans r2 r3) | omega)), ?_⟩
        refine List.forall_mem_cons.mpr ⟨Nat.ne_of_lt (by (first | exact Nat.lt_trans hwl (Nat.lt_trans r1 (Nat.lt_trans r2 r3)) | omega)), ?_⟩
        exact fun p hp => (List.mem_append.mp hp).elim (fun h => (HC.out p h).1) (fun h => (HT2.out p h).2)
      have HBP := Hold.mk hBp
      clear hBp
      have Nr := cb_drop (news := (pl, W.listOf (List.toArray (Value.str (wayS u) t :: pr)) np) :: (x5, instObj 80 dx5) :: (dx5, machD w k0 k1 k2 k3 k4 k5 f' pl) :: fixB) Nq (by
        rw [hfB]
        repeat (first | exact List.forall_mem_nil _ | refine List.forall_mem_cons.mpr ⟨by k_mem, ?_⟩)
        all_goals (first | exact fun p hp => hp | (intro p hp; repeat (first | exact hp | refine List.mem_cons_of_mem _ ?_))))
      refine Ct.app (pop_ct w p loose mean mg mb (wayS u) t pr np (by have := HPR.out; (first | exact Mine.ar41 this | omega)) x5 dx5 pl f' k0 k1 k2 k3 k4 k5 fixB r2 r3 HBP.out) rfl B Fq X Nr T0 rfl (by first | exact Mine.rm 0 hdp rfl (by decide) | exact Mine.rm 1 hdp rfl (by decide) | ktr_room) (by first | exact Mine.um 0 hun rfl (by decide) | exact Mine.um 3 hun rfl (by decide) | exact Mine.um 1 hun rfl (by decide) | exact Mine.um 4 hun rfl (by decide) | ktr_units) (by exact hgn) ?_
      intro v nn h6 tk6 g6 hRt hg6 F6 N6
      refine hide fun PP hPP => ?_
      obtain ⟨nl7, ev1, e⟩ := hRt
      refine hPP ?_
      clear hPP
      subst ev1
      rw [e] at N6
      clear e Nr Nq Fq
      have N6' := cb_drop (news := (L + 1, om) :: (pl, W.listOf (List.toArray pr) nl7) :: (x5, instObj 80 dx5) :: (dx5, machD w k0 k1 k2 k3 k4 k5 f' pl) :: fixB) N6 (by
        rw [hfB]
        repeat (first | exact List.forall_mem_nil _ | refine List.forall_mem_cons.mpr ⟨by k_mem, ?_⟩)
        all_goals (first | exact fun p hp => hp | (intro p hp; repeat (first | exact hp | refine List.mem_cons_of_mem _ ?_))))
      clear N6
      k_steps
      refine ⟨?_⟩
      rename News _ _ _ _ => Nq
      rename Fr h₀ L _ _ => Fq
      have Nr := cb_drop (news := (pl, W.listOf (List.toArray pr) nl7) :: (x5, instObj 80 dx5) :: (dx5, machD w k0 k1 k2 k3 k4 k5 f' pl) :: fixB) Nq (fun p hp => .tail _ hp)
      refine Ct.app (push_ct w p loose mean mg mb (wayS u) _ pr nl7 (by have := HPR.out; (first | exact Mine.ar41 this | omega)) x5 dx5 pl f' k0 k1 k2 k3 k4 k5 fixB r2 r3 HBP.out) rfl B Fq X Nr T0 rfl (by first | exact Mine.rm 0 hdp rfl (by decide) | exact Mine.rm 1 hdp rfl (by decide) | ktr_room) (by first | exact Mine.um 0 hun rfl (by decide) | exact Mine.um 3 hun rfl (by decide) | exact Mine.um 1 hun rfl (by decide) | exact Mine.um 4 hun rfl (by decide) | ktr_units) (by exact hg6) ?_
      intro v nn h8 tk8 g8 hRt hg8 F8 N8
      refine hide fun PP hPP => ?_
      obtain ⟨t8, nl8, ev1, e⟩ := hRt
      refine hPP ?_
      clear hPP
      subst ev1
      rw [e] at N8
      clear e Nr Nq Fq
      k_steps
      refine ⟨?_⟩
      rename News _ _ _ _ => Nq
      rename Fr h₀ L _ _ => Fq
      refine Ct.app (share_ct w p loose mean mg mb (wayOf xx) (by have := (blen_ok xx HXX.out.2 HXX.out.1).2.2.2.2; (first | exact Mine.ar42 this | omega)) _ _) rfl B Fq X Nq T0 rfl (by first | exact Mine.rm 0 hdp rfl (by decide) | exact Mine.rm 1 hdp rfl (by decide) | ktr_room) (by first | exact Mine.um 0 hun rfl (by decide) | exact Mine.um 3 hun rfl (by decide) | exact Mine.um 1 hun rfl (by decide) | exact Mine.um 4 hun rfl (by decide) | ktr_units) (by exact hg8) ?_
      intro v nn ha tka ga hRt hga Fa Na
      refine hide fun PP hPP => ?_
      obtain ⟨DS, ts1, ts2, ev1, e, -⟩ := hRt
      refine hPP ?_
      clear hPP
      subst ev1
      rw [e] at Na
      clear e Nq Fq
      have hwu : (wayS u).length ≤ 1000 := by rw [wayS_length]; have := HU.out; (first | exact Mine.ar43 this | omega)
      k_steps
      · exfalso
        rename (wayS u != wayS (wayOf xx)) = true => z1
        rename ((j : Nat) : Int) = 3 => z2
        rw [HU3.out (by (first | exact Mine.ar44 z2 | omega))] at z1
        simp at z1
      · exfalso
        rename Int.fmod _ 3 = 1 => z1
        rename ((j : Nat) : Int) = 3 => z2
        rw [z2] at z1
        exact absurd z1 (by decide)
      · dsimp only
        rename News h₀ L _ _ => Nz
        rename Fr h₀ L _ _ => Fz
        refine KE2.nx (by first | exact .inl rfl | exact .inr rfl) (m := n) (Nat.lt_succ_self _) (.mk n (_) (ga) (_) (loi9) (?vwu) (?vtu) (?vru) (?vgu) (?vdu) (pr ++ [.str (wayS u) t8]) (ur ++ [u]) (nl8) (i + 1) (tl2) (hga) (fr_map Fz ?eMu) (cb_drop Nz ?nMu) (ci9) (di9) (by (first | exact Mine.ar45 hin | omega)) (hpr.snoc) (HNX.out) (HS.out) (HT2.out) (HKP.out))
        case nMu =>
          rw [hfB]
          repeat (first | exact List.forall_mem_nil _ | refine List.forall_mem_cons.mpr ⟨by k_mem, ?_⟩)
          all_goals (first | exact fun p hp => hp | (intro p hp; repeat (first | exact hp | refine List.mem_cons_of_mem _ ?_)))
        case eMu =>
          exact chain_eq (m := m₁) (by repeat (first | refine Ag.cons (by first | rfl | assumption) ?_ | exact Ag.nil)) (by repeat (first | refine Ag.cons (by first | rfl | assumption) ?_ | exact Ag.nil))
      · rename Int.fmod _ 3 = 1 => z1
        rw [Int.fmod_eq_emod_of_nonneg _ (by decide)] at z1
        have hj1 : j % 3 = 1 := by (first | exact Mine.ar46 z1 | omega)
        clear z1
        have hz9 := HU1.out hj1
        obtain ⟨rr, gg, hr, hgr, hok, hbv⟩ := hz9
        have hm1 : IntMulOk (shareW (wayOf xx)).1 (up : Int) := IntMulOk.of_right (intBits_le_64 (by omega) (by omega))
        have hm2 : IntMulOk (shareW (wayOf xx)).2 (dn : Int) := IntMulOk.of_right (intBits_le_64 (by omega) (by omega))
        refine ⟨?_⟩
        k_dflt (refine comp_W (by k_asm) (by with_unfolding_all rfl) (by decide) (by rfl) (by decide) (by rfl) ?_)
        k_steps
        refine ⟨?_⟩
        rename News _ _ _ _ => Nq
        rename Fr h₀ L _ _ => Fq
        refine krev_str Fq Nq hwu ?_
        intro DR hR tkR FR NR lR
        clear Fq Nq
        have hwl : (wayS u).length = u.length := wayS_length u
        refine srcW_revS rfl FR NR lR hwu ?_
        refine rest_ind (fun i y => ∃ b t, u.reverse[i]? = some b ∧ y = Value.int (if b then 1 else 0) t) trivial ?turn ?fin
        case turn =>
          intro q ys v I oI C oC D m₂ h' tk' E' hq hP hC hxv F6 N6
          obtain ⟨c, t9, hc, rfl⟩ := hP
          have hz10 : ∃ b, u.reverse[q]? = some b ∧ c = sgn b := by
            rw [hwl] at hq hc
            have e1 : (wayS u).cps[u.length - 1 - q]? = (u[u.length - 1 - q]?).map sgn := by simp [wayS]
            rw [e1, ← List.getElem?_reverse hq] at hc
            cases hz : u.reverse[q]? with
            | none => rw [hz] at hc; cases hc
            | some b => rw [hz] at hc; cases hc; exact ⟨b, rfl, rfl⟩
          obtain ⟨b, hb1, hb2⟩ := hz10
          subst hb2
          clear NR FR lR hc
          cases b
          · have hsg : sgn false = 92 := rfl
            rw [hsg] at hxv
            k_steps
          · have hsg : sgn true = 47 := rfl
            rw [hsg] at hxv
            k_steps
        case fin =>
          intro ys hyl hyR
          have hia := ints_of (ys := ys) (l := u.reverse) (by rw [hyl, hwl, List.length_reverse]) hyR
          have hyl2 : ys.length = u.length := by rw [hyl, hwl]
          intro DD hD tkD FD ND oD
          clear NR FR lR hyR
          k_steps
          refine ⟨?_⟩
          rename_i DL wsL hL1 hI9 lL hL2 Fq Nq
          have hz11 : ∃ rest, rest = (pl, W.listOf (List.toArray (pr ++ [Value.str (wayS u) t8])) nl8) :: (x5, instObj 80 dx5) :: (dx5, machD w k0 k1 k2 k3 k4 k5 f' pl) :: (li2, loi9) :: (wl, W.listOf #[.str (wayS (wayOf x1)) t1, .str (wayS (wayOf x2)) t2] nw) :: (L + 1, om) :: fixC := ⟨_, rfl⟩
          obtain ⟨rest, hrest⟩ := hz11
          have Nr := cb_drop (news := (DL, W.listOf (List.toArray wsL) 0) :: (tl2 ++ rest)) Nq (by
            rw [hrest, hfB]
            refine List.forall_mem_cons.mpr ⟨by k_mem, List.forall_mem_append.mpr ⟨?tA, ?_⟩⟩
            case tA => exact fun p hp => (by repeat (first | exact List.mem_append_right _ hp | refine List.Mem.tail _ ?_))
            refine List.forall_mem_cons.mpr ⟨by k_mem, List.forall_mem_cons.mpr ⟨by k_mem, List.forall_mem_cons.mpr ⟨by k_mem, List.forall_mem_cons.mpr ⟨by k_mem, List.forall_mem_cons.mpr ⟨by k_mem, List.forall_mem_cons.mpr ⟨by k_mem, ?_⟩⟩⟩⟩⟩⟩
            exact fun p hp => (by repeat (first | exact List.mem_append_left _ hp | refine List.Mem.tail _ ?_)))
          have hP : ∀ p ∈ rest, p.1 ≠ 23 := by
            rw [hrest]
            refine List.forall_mem_cons.mpr ⟨Nat.ne_of_gt (by (first | exact Nat.lt_trans Mine.lit23_86 (Nat.lt_trans hlt (Nat.lt_trans (Nat.lt_succ_self _) (Nat.lt_trans (by assumption) (Nat.lt_trans r1 (Nat.lt_trans r2 r3))))) | omega)), ?_⟩
            refine List.forall_mem_cons.mpr ⟨Nat.ne_of_gt (by (first | exact Nat.lt_trans Mine.lit23_86 (Nat.lt_trans hlt (Nat.lt_trans (Nat.lt_succ_self _) (Nat.lt_trans (by assumption) (Nat.lt_trans r1 r2)))) | omega)), ?_⟩
            refine List.forall_mem_cons.mpr ⟨Nat.ne_of_gt (by (first | exact Nat.lt_trans Mine.lit23_86 (Nat.lt_trans hlt (Nat.lt_trans (Nat.lt_succ_self _) (Nat.lt_trans (by assumption) r1))) | omega)), ?_⟩
            refine List.forall_mem_cons.mpr ⟨Nat.ne_of_gt (by (first | exact Nat.lt_trans Mine.lit23_86 (Nat.lt_trans hlt (Nat.lt_trans (Nat.lt_succ_self _) (Nat.lt_trans (by assumption) (Nat.lt_trans r1 (Nat.lt_trans r2 (Nat.lt_trans r3 oli2)))))) | omega)), ?_⟩
            refine List.forall_mem_cons.mpr ⟨Nat.ne_of_gt (by (first | exact Nat.lt_trans Mine.lit23_86 (Nat.lt_trans hlt (Nat.lt_trans (Nat.lt_succ_self _) (by assumption))) | omega)), ?_⟩
            refine List.forall_mem_cons.mpr ⟨Nat.ne_of_gt (by (first | exact Nat.lt_trans Mine.lit23_86 (Nat.lt_trans hlt (Nat.lt_succ_self _)) | omega)), ?_⟩
            exact fun p h => (HC.out p h).2
          have hbit : ∀ d ∈ digs u, 0 ≤ d ∧ d ≤ 1 := by
            intro d hd
            rcases List.mem_append.mp hd with hd | hd
            · have hz12 := List.mem_map.mp hd
              obtain ⟨b, -, rfl⟩ := hz12
              cases b <;> decide
            · rw [List.mem_singleton.mp hd]; decide
          have hdl : (digs u).length = u.length + 1 := by simp [digs]
          refine Ct.app (d2i_all w p loose mean mg mb (digs u) wsL hI9 hbit (by have := HU.out; (first | exact Mine.ar50 hdl this | omega)) (by (first | exact Mine.ar51 hdl | omega)) 0 DL _ rest tl2 hP (Nat.ne_of_gt (by (first | exact Nat.lt_trans Mine.lit23_86 (Nat.lt_trans hlt (Nat.lt_trans (Nat.lt_succ_self _) (Nat.lt_trans (by assumption) (Nat.lt_trans r1 lL.2.2.2.2.2.1)))) | omega))) HS.out) rfl B Fq X Nr T0 rfl (by first | exact Mine.rm 0 hdp rfl (by decide) | exact Mine.rm 1 hdp rfl (by decide) | ktr_room) (by first | exact Mine.um 0 hun rfl (by decide) | exact Mine.um 3 hun rfl (by decide) | exact Mine.um 1 hun rfl (by decide) | exact Mine.um 4 hun rfl (by decide) | ktr_units) (by exact hga) ?_
          clear Nq Nr Fq hbit hP
          intro v nn hb9 tkb gb hRt hgb Fb Nb
          refine hide fun PP hPP => ?_
          obtain ⟨tl3, e, hS3, hq3, tv, ev1⟩ := hRt
          refine hPP ?_
          clear hPP
          subst ev1
          rw [e] at Nb
          clear e
          have HS3 := Hold.mk hS3
          have HQ3 := Hold.mk hq3
          clear hS3 hq3
          k_steps
          refine ⟨?_⟩
          rename News _ _ _ _ => Nq
          rename Fr h₀ L _ _ => Fq
          rw [hr, hgr]
          refine Ct.app (place_ct w p loose mean mg mb ok hokp 40 rr gg (Nat.le_refl _) hok _ _ _) rfl B Fq X Nq T0 rfl (by first | exact Mine.rm 0 hdp rfl (by decide) | exact Mine.rm 1 hdp rfl (by decide) | ktr_room) (by first | exact Mine.um 0 hun rfl (by decide) | exact Mine.um 3 hun rfl (by decide) | exact Mine.um 1 hun rfl (by decide) | exact Mine.um 4 hun rfl (by decide) | ktr_units) (by exact hgb) ?_
          intro v nn hc9 tkc gc hRt hgc Fc Nc
          refine hide fun PP hPP => ?_
          obtain ⟨e, tw, ev1⟩ := hRt
          refine hPP ?_
          clear hPP
          subst ev1
          rw [e] at Nc
          clear e Nq Fq
          rw [hbv]
          k_steps
          · exfalso
            rename ((placeN 40 rr gg 1 : Nat) : Int) ≠ _ => z1
            exact z1 rfl
          · dsimp only
            rename News h₀ L _ _ => Nz
            rename Fr h₀ L _ _ => Fz
            have m1 : (li2, loi9) ∈ rest := by rw [hrest]; exact .tail _ (.tail _ (.tail _ (.head _)))
            have m2 : (pl, W.listOf (List.toArray (pr ++ [Value.str (wayS u) t8])) nl8) ∈ rest := by rw [hrest]; exact .head _
            have m3 : ∀ p ∈ fixC, p ∈ rest := by rw [hrest]; exact fun p hp => .tail _ (.tail _ (.tail _ (.tail _ (.tail _ (.tail _ hp)))))
            refine KE2.nx (by first | exact .inl rfl | exact .inr rfl) (m := n) (Nat.lt_succ_self _) (.mk n (_) (gc) (_) (loi9) (?vww) (?vtw) (?vrw) (?vgw) (?vdw) (pr ++ [.str (wayS u) t8]) (ur ++ [u]) (nl8) (i + 1) (tl3) (hgc) (fr_map Fz ?eMw) (cb_drop Nz ?nMw) (ci9) (di9) (by (first | exact Mine.ar45 hin | omega)) (hpr.snoc) (HNX.out) (HS3.out) (fun p hp => ⟨HQ3.out li2 loi9 m1 (fun p hp => (HT2.out p hp).1) p hp, HQ3.out pl _ m2 (fun p hp => (HT2.out p hp).2) p hp⟩) (fun a oa ha hh => HQ3.out a oa (m3 _ ha) (HKP.out a oa ha hh)))
            case nMw =>
              intro p hp
              rw [hrest]
              simp only [List.mem_cons, List.mem_append] at hp ⊢
              rcases hp with h | h | h | h | h | h | h | h <;> simp only [h, true_or, or_true]
            case eMw =>
              exact chain_eq (m := m₁) (by repeat (first | refine Ag.cons (by first | rfl | assumption) ?_ | exact Ag.nil)) (by repeat (first | refine Ag.cons (by first | rfl | assumption) ?_ | exact Ag.nil))
      · dsimp only
        rename News h₀ L _ _ => Nz
        rename Fr h₀ L _ _ => Fz
        refine KE2.nx (by first | exact .inl rfl | exact .inr rfl) (m := n) (Nat.lt_succ_self _) (.mk n (_) (ga) (_) (loi9) (?vwv) (?vtv) (?vrv) (?vgv) (?vdv) (pr ++ [.str (wayS u) t8]) (ur ++ [u]) (nl8) (i + 1) (tl2) (hga) (fr_map Fz ?eMv) (cb_drop Nz ?nMv) (ci9) (di9) (by (first | exact Mine.ar45 hin | omega)) (hpr.snoc) (HNX.out) (HS.out) (HT2.out) (HKP.out))
        case nMv =>
          rw [hfB]
          repeat (first | exact List.forall_mem_nil _ | refine List.forall_mem_cons.mpr ⟨by k_mem, ?_⟩)
          all_goals (first | exact fun p hp => hp | (intro p hp; repeat (first | exact hp | refine List.mem_cons_of_mem _ ?_)))
        case eMv =>
          exact chain_eq (m := m₁) (by repeat (first | refine Ag.cons (by first | rfl | assumption) ?_ | exact Ag.nil)) (by repeat (first | refine Ag.cons (by first | rfl | assumption) ?_ | exact Ag.nil))
  | succ n =>
    have hz13 : ∃ u t, (#[Value.str (wayS (wayOf x1)) t1, .str (wayS (wayOf x2)) t2] : Array Value)[i]? = some (.str (wayS u) t) := by
      rcases (show i = 0 ∨ i = 1 by (first | exact Mine.ar39 hin | omega)) with rfl | rfl
      · exact ⟨_, _, rfl⟩
      · exact ⟨_, _, rfl⟩
    obtain ⟨wx, wt, hx⟩ := hz13
    have hz14 : ∃ u ur, pu = u :: ur ∧ u.length ≤ 60 ∧ (j < 2 ∨ (twice (u.map (!·))).length ≤ 60) ∧ ur ++ [stepW j u] = [a, b].drop (i + 1) ++ [fa, fb].take (i + 1) := by
      rw [hfa, hfb]
      rcases (show i = 0 ∨ i = 1 by (first | exact Mine.ar39 hin | omega)) with rfl | rfl
      · exact ⟨a, [b], hpu, hla, stepW_len HLA.out, rfl⟩
      · exact ⟨b, [fa], hpu, hlb, stepW_len HLB.out, by rw [hfa]; rfl⟩
    obtain ⟨u, ur, hpu2, hul, hlu, hnx⟩ := hz14
    have hz15 : ∃ t pr, pv = .str (wayS u) t :: pr ∧ WaysAre pr ur := by
      rw [hpu2] at hpv
      match pv, hpv with
      | v :: pr, hpv => obtain ⟨⟨t, rfl⟩, h2⟩ := hpv; exact ⟨t, pr, rfl, h2⟩
      | [], hpv => exact hpv.elim
    obtain ⟨t, pr, rfl, hpr⟩ := hz15
    have hprl : pr.length ≤ 2 := by
      have e1 := hpr.length
      have e2 := congrArg List.length hnx
      simp at e2
      (first | exact Mine.ar40 e1 e2 | omega)
    refine list_next F8 N8 (.tail _ (.tail _ (.tail _ (.head _)))) ci di hx hoff ?_
    intro h9 loi9 ci9 di9 F9 N9
    clear F8 N8 ci di hx hoff hpv hpu hpu2
    dsimp only
    refine own_nm ?_
    have HU := Hold.mk hul
    have HLU0 := Hold.mk hlu
    clear hlu
    have HPR := Hold.mk hprl
    clear hul hprl
    k_steps
    refine ⟨?_⟩
    rename News _ _ _ _ => Nq
    rename Fr h₀ L _ _ => Fq
    have hz16 : ∃ fixB, fixB = (lit, loi9) :: (wl, W.listOf #[.str (wayS (wayOf x1)) t1, .str (wayS (wayOf x2)) t2] nw) :: (L + 1, om) :: fixA := ⟨_, rfl⟩
    obtain ⟨fixB, hfB⟩ := hz16
    have hBp : ∀ p ∈ fixB, p.1 ≠ pl := by
      rw [hfB]
      refine List.forall_mem_cons.mpr ⟨Nat.ne_of_gt (by (first | exact olit | omega)), ?_⟩
      refine List.forall_mem_cons.mpr ⟨Nat.ne_of_lt (by (first | exact Nat.lt_trans r1 (Nat.lt_trans r2 r3) | omega)), ?_⟩
      refine List.forall_mem_cons.mpr ⟨Nat.ne_of_lt (by (first | exact Nat.lt_trans hwl (Nat.lt_trans r1 (Nat.lt_trans r2 r3)) | omega)), ?_⟩
      exact fun p h => (HFL.out p h).2
    have HBP := Hold.mk hBp
    clear hBp
    have Nr := cb_drop (news := (pl, W.listOf (List.toArray (Value.str (wayS u) t :: pr)) np) :: (x5, instObj 80 dx5) :: (dx5, machD w k0 k1 k2 k3 k4 k5 f' pl) :: fixB) Nq (by
      rw [hfB]
      repeat (first | exact List.forall_mem_nil _ | refine List.forall_mem_cons.mpr ⟨by k_mem, ?_⟩)
      all_goals (first | exact fun p hp => hp | (intro p hp; repeat (first | exact hp | refine List.mem_cons_of_mem _ ?_))))
    refine Ct.app (pop_ct w p loose mean mg mb (wayS u) t pr np (by have := HPR.out; (first | exact Mine.ar41 this | omega)) x5 dx5 pl f' k0 k1 k2 k3 k4 k5 fixB r2 r3 HBP.out) rfl B Fq X Nr T0 rfl (by first | exact Mine.rm 0 hdp rfl (by decide) | exact Mine.rm 1 hdp rfl (by decide) | ktr_room) (by first | exact Mine.um 0 hun rfl (by decide) | exact Mine.um 3 hun rfl (by decide) | exact Mine.um 1 hun rfl (by decide) | exact Mine.um 4 hun rfl (by decide) | ktr_units) (by exact hgn) ?_
    intro v nn h6 tk6 g6 hRt hg6 F6 N6
    refine hide fun PP hPP => ?_
    obtain ⟨nl7, ev1, e⟩ := hRt
    refine hPP ?_
    clear hPP
    subst ev1
    rw [e, hfB] at N6
    clear e Nr Nq Fq
    have N7 := cb_drop (news := (lit, loi9) :: (pl, W.listOf (List.toArray pr) nl7) :: (x5, instObj 80 dx5) :: (dx5, machD w k0 k1 k2 k3 k4 k5 f' pl) :: (wl, W.listOf #[.str (wayS (wayOf x1)) t1, .str (wayS (wayOf x2)) t2] nw) :: (L + 1, om) :: fixA) N6 (by
      repeat (first | exact List.forall_mem_nil _ | refine List.forall_mem_cons.mpr ⟨by k_mem, ?_⟩)
      all_goals (first | exact fun p hp => hp | (intro p hp; repeat (first | exact hp | refine List.mem_cons_of_mem _ ?_))))
    clear N6
    k_steps
    · have hj2 : j < 2 := by (first | exact Mine.ar52 (by assumption) | omega)
      have hst : stepW j u = twice u := if_pos hj2
      refine ⟨?_⟩
      rename News _ _ _ _ => Nq
      rename Fr h₀ L _ _ => Fq
      refine Ct.app (twice_ct w p loose mean mg mb u HU.out _ _) rfl B Fq X Nq T0 rfl (by first | exact Mine.rm 0 hdp rfl (by decide) | exact Mine.rm 1 hdp rfl (by decide) | ktr_room) (by first | exact Mine.um 0 hun rfl (by decide) | exact Mine.um 3 hun rfl (by decide) | exact Mine.um 1 hun rfl (by decide) | exact Mine.um 4 hun rfl (by decide) | ktr_units) (by exact hg6) ?_
      intro v nn h8 tk8 g8 hRt hg8 F8 N8
      refine hide fun PP hPP => ?_
      obtain ⟨e, t8, ev1⟩ := hRt
      refine hPP ?_
      clear hPP
      subst ev1
      rw [e] at N8
      clear e Nq Fq
      k_steps
      refine ⟨?_⟩
      rename News _ _ _ _ => Nq
      rename Fr h₀ L _ _ => Fq
      have Nr := cb_drop (news := (pl, W.listOf (List.toArray pr) nl7) :: (x5, instObj 80 dx5) :: (dx5, machD w k0 k1 k2 k3 k4 k5 f' pl) :: fixB) Nq (by
        rw [hfB]
        repeat (first | exact List.forall_mem_nil _ | refine List.forall_mem_cons.mpr ⟨by k_mem, ?_⟩)
        all_goals (first | exact fun p hp => hp | (intro p hp; repeat (first | exact hp | refine List.mem_cons_of_mem _ ?_))))
      refine Ct.app (push_ct w p loose mean mg mb (wayS (twice u)) _ pr nl7 (by have := HPR.out; (first | exact Mine.ar41 this | omega)) x5 dx5 pl f' k0 k1 k2 k3 k4 k5 fixB r2 r3 HBP.out) rfl B Fq X Nr T0 rfl (by first | exact Mine.rm 0 hdp rfl (by decide) | exact Mine.rm 1 hdp rfl (by decide) | ktr_room) (by first | exact Mine.um 0 hun rfl (by decide) | exact Mine.um 3 hun rfl (by decide) | exact Mine.um 1 hun rfl (by decide) | exact Mine.um 4 hun rfl (by decide) | ktr_units) (by exact hg8) ?_
      intro v nn h9 tk9 g9 hRt hg9 F9 N9
      refine hide fun PP hPP => ?_
      obtain ⟨t9, nl9, ev1, e⟩ := hRt
      refine hPP ?_
      clear hPP
      subst ev1
      rw [e, hfB] at N9
      clear e Nr Nq Fq
      k_steps
      try dsimp only
      rename News h₀ L _ _ => Nz
      rename Fr h₀ L _ _ => Fz
      refine KE1.nx (by first | exact .inl rfl | exact .inr rfl) (m := n) (Nat.lt_succ_self _) (.mk n (_) (g9) (_) (loi9) (?vw9) (?vt9) (?vr9) (?vg9) (?vd9) (pr ++ [.str (wayS (twice u)) t9]) (ur ++ [(twice u)]) (nl9) (i + 1) (hg9) (fr_map Fz ?eM9) (cb_drop Nz ?nM9) (ci9) (di9) (by (first | exact Mine.ar45 hin | omega)) (hpr.snoc) (by rw [← hst]; exact hnx))
      case nM9 =>
        repeat (first | exact List.forall_mem_nil _ | refine List.forall_mem_cons.mpr ⟨by k_mem, ?_⟩)
        all_goals (first | exact fun p hp => hp | (intro p hp; repeat (first | exact hp | refine List.mem_cons_of_mem _ ?_)))
      case eM9 =>
        exact chain_eq (m := m₁) (by repeat (first | refine Ag.cons (by first | rfl | assumption) ?_ | exact Ag.nil)) (by repeat (first | refine Ag.cons (by first | rfl | assumption) ?_ | exact Ag.nil))
    · have hj2 : ¬ j < 2 := by (first | exact Mine.ar53 (by assumption) | omega)
      have HLU : Hold ((twice (u.map (!·))).length ≤ 60) := ⟨HLU0.out.resolve_left hj2⟩
      have hst : stepW j u = (twice (u.map (!·))).map (!·) := if_neg hj2
      refine ⟨?_⟩
      rename News _ _ _ _ => Nq
      rename Fr h₀ L _ _ => Fq
      refine Ct.app (turned_ct w p loose mean mg mb u (by have := HU.out; (first | exact Mine.ar54 this | omega)) _ _) rfl B Fq X Nq T0 rfl (by first | exact Mine.rm 0 hdp rfl (by decide) | exact Mine.rm 1 hdp rfl (by decide) | ktr_room) (by first | exact Mine.um 0 hun rfl (by decide) | exact Mine.um 3 hun rfl (by decide) | exact Mine.um 1 hun rfl (by decide) | exact Mine.um 4 hun rfl (by decide) | ktr_units) (by exact hg6) ?_
      intro v nn ha tka ga hRt hga Fa Na
      refine hide fun PP hPP => ?_
      obtain ⟨e, ta, ev1⟩ := hRt
      refine hPP ?_
      clear hPP
      subst ev1
      rw [e] at Na
      clear e Nq Fq
      k_steps
      refine ⟨?_⟩
      rename News _ _ _ _ => Nq
      rename Fr h₀ L _ _ => Fq
      refine Ct.app (twice_ct w p loose mean mg mb (u.map (!·)) (by rw [List.length_map]; exact HU.out) _ _) rfl B Fq X Nq T0 rfl (by first | exact Mine.rm 0 hdp rfl (by decide) | exact Mine.rm 1 hdp rfl (by decide) | ktr_room) (by first | exact Mine.um 0 hun rfl (by decide) | exact Mine.um 3 hun rfl (by decide) | exact Mine.um 1 hun rfl (by decide) | exact Mine.um 4 hun rfl (by decide) | ktr_units) (by exact hga) ?_
      intro v nn hb tkb gb hRt hgb Fb Nb
      refine hide fun PP hPP => ?_
      obtain ⟨e, tb, ev1⟩ := hRt
      refine hPP ?_
      clear hPP
      subst ev1
      rw [e] at Nb
      clear e Nq Fq
      k_steps
      refine ⟨?_⟩
      rename News _ _ _ _ => Nq
      rename Fr h₀ L _ _ => Fq
      refine Ct.app (turned_ct w p loose mean mg mb (twice (u.map (!·))) (by have := HLU.out; (first | exact Mine.ar54 this | omega)) _ _) rfl B Fq X Nq T0 rfl (by first | exact Mine.rm 0 hdp rfl (by decide) | exact Mine.rm 1 hdp rfl (by decide) | ktr_room) (by first | exact Mine.um 0 hun rfl (by decide) | exact Mine.um 3 hun rfl (by decide) | exact Mine.um 1 hun rfl (by decide) | exact Mine.um 4 hun rfl (by decide) | ktr_units) (by exact hgb) ?_
      intro v nn hc tkc gc hRt hgc Fc Nc
      refine hide fun PP hPP => ?_
      obtain ⟨e, tc, ev1⟩ := hRt
      refine hPP ?_
      clear hPP
      subst ev1
      rw [e] at Nc
      clear e Nq Fq
      k_steps
      refine ⟨?_⟩
      rename News _ _ _ _ => Nq
      rename Fr h₀ L _ _ => Fq
      have Nr := cb_drop (news := (pl, W.listOf (List.toArray pr) nl7) :: (x5, instObj 80 dx5) :: (dx5, machD w k0 k1 k2 k3 k4 k5 f' pl) :: fixB) Nq (by
        rw [hfB]
        repeat (first | exact List.forall_mem_nil _ | refine List.forall_mem_cons.mpr ⟨by k_mem, ?_⟩)
        all_goals (first | exact fun p hp => hp | (intro p hp; repeat (first | exact hp | refine List.mem_cons_of_mem _ ?_))))
      refine Ct.app (push_ct w p loose mean mg mb (wayS ((twice (u.map (!·))).map (!·))) _ pr nl7 (by have := HPR.out; (first | exact Mine.ar41 this | omega)) x5 dx5 pl f' k0 k1 k2 k3 k4 k5 fixB r2 r3 HBP.out) rfl B Fq X Nr T0 rfl (by first | exact Mine.rm 0 hdp rfl (by decide) | exact Mine.rm 1 hdp rfl (by decide) | ktr_room) (by first | exact Mine.um 0 hun rfl (by decide) | exact Mine.um 3 hun rfl (by decide) | exact Mine.um 1 hun rfl (by decide) | exact Mine.um 4 hun rfl (by decide) | ktr_units) (by exact hgc) ?_
      intro v nn hd tkd gd hRt hgd Fd Nd
      refine hide fun PP hPP => ?_
      obtain ⟨td, nld, ev1, e⟩ := hRt
      refine hPP ?_
      clear hPP
      subst ev1
      rw [e, hfB] at Nd
      clear e Nr Nq Fq
      k_steps
      try dsimp only
      rename News h₀ L _ _ => Nz
      rename Fr h₀ L _ _ => Fz
      refine KE1.nx (by first | exact .inl rfl | exact .inr rfl) (m := n) (Nat.lt_succ_self _) (.mk n (_) (gd) (_) (loi9) (?vwd) (?vtd) (?vrd) (?vgd) (?vdd) (pr ++ [.str (wayS ((twice (u.map (!·))).map (!·))) td]) (ur ++ [((twice (u.map (!·))).map (!·))]) (nld) (i + 1) (hgd) (fr_map Fz ?eMd) (cb_drop Nz ?nMd) (ci9) (di9) (by (first | exact Mine.ar45 hin | omega)) (hpr.snoc) (by rw [← hst]; exact hnx))
      case nMd =>
        repeat (first | exact List.forall_mem_nil _ | refine List.forall_mem_cons.mpr ⟨by k_mem, ?_⟩)
        all_goals (first | exact fun p hp => hp | (intro p hp; repeat (first | exact hp | refine List.mem_cons_of_mem _ ?_)))
      case eMd =>
        exact chain_eq (m := m₁) (by repeat (first | refine Ag.cons (by first | rfl | assumption) ?_ | exact Ag.nil)) (by repeat (first | refine Ag.cons (by first | rfl | assumption) ?_ | exact Ag.nil))
end
end Mine
end

-- part P0
section
open PySem PySem.W PyProof.Rows
set_option maxRecDepth 100000
set_option maxHeartbeats 8000000
namespace Mine
/-- the pairs that the place's runs reach, one bit each -/
noncomputable def okMask : Nat := 3992705557808371213018849770724023180738665425436627376306373788104606149745794420749788990863412288879313005375470852043521609074687660513588978095762818991026612671651029415130168122370673257749193441026594672619026874334958743855996749681139497594853631454007611272906893384597846541864255194277982602839992224516798387271022407686740165291344300737249583739415321511155967982373096750439150478168461175784977847497468429341259419513297638537106898847721427080919556484899463101240019904664802580648004554941337002673324505907771697298745814832691620546417736854366519495048208642677878564193321741475535478948306089896939246423505164145425154838050606350078833630253606614286881219665344193743362724002927437004118234871898705574868618825883763310301521624689575322525572969733115003613342259076181558309499592962045329699043140187456921312360590614392969894313486334223863038184806510233605000788281714280369047508743531057520683066598240096235227666008681750346730832944660213538974168935884918684193674190378050566994669206414993370137486034232792489415140454611274084555058793918184073445008266033783372449396234888861865948018390868541600119511824275746656190432139332832878550126387021294254435723259684885351818340059732698131355406971528240401482915854507291100826374017910072167741003825897649859416086253893719083992157483270955201882317751844451015923566918564961078759308157241959820317786778524132673616493793981419186980553067701109228005216216333960077642972738328426610397416754744931944774081769960766370597505238433564190084946770063733084437988507980521493339095821115681211783687208311114009229915518773179257239085992459173073173251322666668692499070548990006725927085885639251487864985183825938070618647131948554195620556290125061708570157670682612338229952274503134461232083783918003735107612129275910991486946472941699830737603354702928850566098353348500692234306709775367737494031014416495676469048524157837361156257295446264699011765891974990414477879651371128327291410721241384288488016320388819852825432111368711961979926862687179858073443284097451359371957694321168466188496468490304292520965308626270053830386194404012468671903984636583774964113491023774839295256824831254158050282300036696522327113127234960490687301724263936061186651250613885993386762806184091818459012490236833464101349729245722915353476345911816733701009584079186612268351094754858955185008660982263239111213628984326674149335765506165368143392597817202726709745337218219052761123694602080029490939108254269578631790308550279120278869367136687050630485732110782420309528050794287179586417099682388294556874668280362215825073569912970947321525113842429639196433968390100698966920242420314215280637841933745054565136348691863095084370758342494952325982992770501154412960361097753303680496190919954476173951234045598509487278357121900619172315347882733376146813743209059799999419684201939983809280089576042958134933611523922846891216670845037155965690488386857302324421654927573749574051784573638064612839874222629011119229257115631111348620400598009411467829122475072338998704497328547771545249950841147547965996605015173615245896300277779602834529660177935996178151827150748860953106004042880224253153507852156546578034776591631271329792
noncomputable def okT (r g : Nat) : Bool := decide (r < 128) && decide (g < 128) && Nat.testBit okMask (r * 128 + g)
noncomputable def okFrom (lo : Nat) : Nat → Bool
  | 0 => true
  | n + 1 => (!okT ((lo + n) / 128) ((lo + n) % 128) || okPair ((lo + n) / 128) ((lo + n) % 128)) && okFrom lo n
theorem okFrom_get {lo : Nat} : ∀ {n i : Nat}, okFrom lo n = true → lo ≤ i → i < lo + n → okT (i / 128) (i % 128) = true → okPair (i / 128) (i % 128) = true
  | 0, i, _, h1, h2, _ => by (first | exact Mine.ar105 h1 h2 | omega)
  | n + 1, i, h, h1, h2, h3 => by
    unfold okFrom at h
    rw [Bool.and_eq_true] at h
    by_cases e : i = lo + n
    · subst e
      have h4 := h.1
      rw [h3] at h4
      simpa using h4
    · exact okFrom_get h.2 h1 (by (first | exact Mine.ar106 h2 e | omega)) h3
theorem okc0 : okFrom 0 1024 = true := by decide +kernel
theorem okc1 : okFrom 1024 1024 = true := by decide +kernel
theorem okc2 : okFrom 2048 1024 = true := by decide +kernel
theorem okc3 : okFrom 3072 1024 = true := by decide +kernel
theorem okc4 : okFrom 4096 1024 = true := by decide +kernel
theorem okc5 : okFrom 5120 1024 = true := by decide +kernel
theorem okc6 : okFrom 6144 1024 = true := by decide +kernel
theorem okc7 : okFrom 7168 1024 = true := by decide +kernel
theorem okc8 : okFrom 8192 1024 = true := by decide +kernel
theorem okc9 : okFrom 9216 1024 = true := by decide +kernel
theorem okc10 : okFrom 10240 1024 = true := by decide +kernel
theorem okc11 : okFrom 11264 1024 = true := by decide +kernel
theorem okc12 : okFrom 12288 1024 = true := by decide +kernel
theorem okc13 : okFrom 13312 1024 = true := by decide +kernel
theorem okc14 : okFrom 14336 1024 = true := by decide +kernel
theorem okc15 : okFrom 15360 1024 = true := by decide +kernel
theorem hokT (r g : Nat) (h : okT r g = true) : okPair r g = true := by
  have hr : r < 128 := by
    unfold okT at h
    simp only [Bool.and_eq_true, decide_eq_true_eq] at h
    exact h.1.1
  have hg : g < 128 := by
    unfold okT at h
    simp only [Bool.and_eq_true, decide_eq_true_eq] at h
    exact h.1.2
  have e1 : (r * 128 + g) / 128 = r := by (first | exact Mine.ar107 hg | omega)
  have e2 : (r * 128 + g) % 128 = g := by (first | exact Mine.ar108 e1 | omega)
  have key : okT ((r * 128 + g) / 128) ((r * 128 + g) % 128) = true → okPair ((r * 128 + g) / 128) ((r * 128 + g) % 128) = true := by
    intro h3
    have hlt : r * 128 + g < 16384 := by (first | exact Mine.ar109 hr e2 | omega)
    generalize r * 128 + g = i at h3 hlt
    by_cases c0 : i < 1024
    · exact okFrom_get okc0 (by (first | exact Mine.ar110 | omega)) (by (first | exact Mine.ar111 c0 | omega)) h3
    by_cases c1 : i < 2048
    · exact okFrom_get okc1 (by (first | exact Mine.ar112 c0 | omega)) (by (first | exact Mine.ar113 c1 | omega)) h3
    by_cases c2 : i < 3072
    · exact okFrom_get okc2 (by (first | exact Mine.ar114 c1 | omega)) (by (first | exact Mine.ar115 c2 | omega)) h3
    by_cases c3 : i < 4096
    · exact okFrom_get okc3 (by (first | exact Mine.ar116 c2 | omega)) (by (first | exact Mine.ar117 c3 | omega)) h3
    by_cases c4 : i < 5120
    · exact okFrom_get okc4 (by (first | exact Mine.ar118 c3 | omega)) (by (first | exact Mine.ar119 c4 | omega)) h3
    by_cases c5 : i < 6144
    · exact okFrom_get okc5 (by (first | exact Mine.ar120 c4 | omega)) (by (first | exact Mine.ar121 c5 | omega)) h3
    by_cases c6 : i < 7168
    · exact okFrom_get okc6 (by (first | exact Mine.ar122 c5 | omega)) (by (first | exact Mine.ar123 c6 | omega)) h3
    by_cases c7 : i < 8192
    · exact okFrom_get okc7 (by (first | exact Mine.ar124 c6 | omega)) (by (first | exact Mine.ar125 c7 | omega)) h3
    by_cases c8 : i < 9216
    · exact okFrom_get okc8 (by (first | exact Mine.ar126 c7 | omega)) (by (first | exact Mine.ar127 c8 | omega)) h3
    by_cases c9 : i < 10240
    · exact okFrom_get okc9 (by (first | exact Mine.ar128 c8 | omega)) (by (first | exact Mine.ar129 c9 | omega)) h3
    by_cases c10 : i < 11264
    · exact okFrom_get okc10 (by (first | exact Mine.ar130 c9 | omega)) (by (first | exact Mine.ar131 c10 | omega)) h3
    by_cases c11 : i < 12288
    · exact okFrom_get okc11 (by (first | exact Mine.ar132 c10 | omega)) (by (first | exact Mine.ar133 c11 | omega)) h3
    by_cases c12 : i < 13312
    · exact okFrom_get okc12 (by (first | exact Mine.ar134 c11 | omega)) (by (first | exact Mine.ar135 c12 | omega)) h3
    by_cases c13 : i < 14336
    · exact okFrom_get okc13 (by (first | exact Mine.ar136 c12 | omega)) (by (first | exact Mine.ar137 c13 | omega)) h3
    by_cases c14 : i < 15360
    · exact okFrom_get okc14 (by (first | exact Mine.ar138 c13 | omega)) (by (first | exact Mine.ar139 c14 | omega)) h3
    by_cases c15 : i < 16384
    · exact okFrom_get okc15 (by (first | exact Mine.ar140 c14 | omega)) (by (first | exact Mine.ar141 c15 | omega)) h3
    (first | exact Mine.ar142 hlt c15 | omega)
  rw [e1, e2] at key
  exact key h
noncomputable def stW : Nat → Way → Way
  | 0, w => w
  | j + 1, w => stepW j (stW j w)
theorem plain_len : ∀ x, x < 128 → ∀ j, j < 6 → (stW j (wayOf x)).length ≤ 50 := by decide +kernel
theorem plain_three : ∀ x, x < 128 → 1 ≤ x → stW 4 (wayOf x) = wayOf x := by decide +kernel
noncomputable def goodB (v : Way) (x up dn : Nat) : Bool :=
  let r := ((shareW (wayOf x)).1 * (up : Int)).toNat
  let g := ((shareW (wayOf x)).2 * (dn : Int)).toNat
  decide ((shareW (wayOf x)).1 * (up : Int) = r) && decide ((shareW (wayOf x)).2 * (dn : Int) = g) && okRun okT 40 r g && decide (bitsV (digs v) = placeN 40 r g 1)
theorem good_of {v : Way} {x up dn : Nat} (h : goodB v x up dn = true) : Good okT v x up dn := by
  simp only [goodB, Bool.and_eq_true, decide_eq_true_eq] at h
  exact ⟨_, _, h.1.1.1, h.1.1.2, h.1.2, h.2⟩
theorem plain_two : ∀ x, x < 128 → 1 ≤ x → goodB (stW 2 (wayOf x)) x 4 1 = true := by decide +kernel
theorem plain_five : ∀ x, x < 128 → 1 ≤ x → goodB (stW 5 (wayOf x)) x 1 2 = true := by decide +kernel
end Mine
end

-- part L4
section
local macro_rules | `(tactic| walk_at "pad L4") => `(tactic| skip)
open PySem PySem.W PyProof.Rows
set_option maxRecDepth 100000
set_option maxHeartbeats 8000000
namespace Mine

inductive L4Inv1 (w : World) (h₀ : Heap) (L : Addr) (wl : Addr) (pl : Addr) (x5 : Addr) (dx5 : Addr) (f' : Addr) (it : Addr) (en : Addr) (tp : Addr) (q1 : Addr) (q2 : Addr) (q3 : Addr) (q4 : Addr) (q5 : Addr) (nw : Nat) (t1 : Tok) (t2 : Tok) (k0 : Tok) (k1 : Tok) (k2 : Tok) (k3 : Tok) (k4 : Tok) (k5 : Tok) (x1 : Nat) (x2 : Nat) (om : Obj) (b1 : Obj) (b2 : Obj) (b3 : Obj) (b4 : Obj) (b5 : Obj) (ps : Array Value) (ps16 : Array Value) (m₁ : Str → Option Value) (dr : Drawn) (os : OsState) : Nat → Shared → Prop
  | mk (n : Nat) (h : Heap) (gn : Array GenState) (tk' : Nat) (old : Value) (oi : Obj) (vk : Option Value) (vup : Option Value) (vdn : Option Value) (vw : Option Value) (vt : Option Value) (vr : Option Value) (vg : Option Value) (vd : Option Value) (ta : Tok) (tb : Tok) (np : Nat) (tl : List (Addr × Obj)) (j : Nat) : (AllBare gn) → (Fr h₀ L h (fun y => if y = Str.ofString "words" then some (Value.ref wl) else if y = Str.ofString "k" then vk else if y = Str.ofString "up" then vup else if y = Str.ofString "down" then vdn else if y = Str.ofString "word" then vw else if y = Str.ofString "told" then vt else if y = Str.ofString "red" then vr else if y = Str.ofString "green" then vg else if y = Str.ofString "digits" then vd else m₁ y)) → (News h₀ L h ((en, etO it (j : Nat) old) :: (it, oi) :: (tp, ({ cls := .type "tuple", data := .seq #[.ref q1, .ref q2, .ref q3, .ref q4, .ref q5] } : Obj)) :: (q5, b5) :: (q4, b4) :: (q3, b3) :: (q2, b2) :: (q1, b1) :: (wl, W.listOf #[.str (wayS (wayOf x1)) t1, .str (wayS (wayOf x2)) t2] nw) :: (L + 1, om) :: (pl, W.listOf (List.toArray [.str (wayS (stW j (wayOf x1))) ta, .str (wayS (stW j (wayOf x2))) tb]) np) :: (x5, instObj 80 dx5) :: (dx5, machD w k0 k1 k2 k3 k4 k5 f' pl) :: (86, tabObj ps) :: (16, tabObj ps16) :: tl)) → (oi.cls = .type "tuple_iterator") → (oi.data = .fields #[.ref tp, .int (j : Nat) 0]) → (S23 tl) → ((∀ p ∈ tl, p.1 ≠ en ∧ p.1 ≠ it ∧ p.1 ≠ pl)) → (j + n = 5) → L4Inv1 w h₀ L wl pl x5 dx5 f' it en tp q1 q2 q3 q4 q5 nw t1 t2 k0 k1 k2 k3 k4 k5 x1 x2 om b1 b2 b3 b4 b5 ps ps16 m₁ dr os n { heap := h, gens := gn, drawn := dr, toks := tk', os := os }
section
local macro_rules | `(tactic| walk_at "call ref") => `(tactic| refine Hold.out ?_)
local macro_rules | `(tactic| walk_at "call type:enumerate") => `(tactic| refine Hold.out ?_)
local macro_rules | `(tactic| walk_at "exec For Tuple Call cons nil") => `(tactic| refine Hold.out ?_)
local macro_rules | `(tactic| walk_at "exec For Name Name cons nil") => `(tactic| refine Hold.out ?_)
local macro_rules | `(tactic| walk_at "pyIter ref") => `(tactic| refine Hold.out ?_)
theorem law_rounds (w : World) (p : Program) (loose : List Str) (mean : ExcName → Option Value) (mg mb : Str → Option Value) (oc : Value) (od : Option Addr) (name qual : Str) (params : Arguments) (body : List PySem.Stmt) (scope : Scope) (dV kV doc pm : Value) (an : Option Addr) (cdv ct : Value) (osl : Array (Option Value))
    (ho : (Mine.hd.heap_39 w.params).lookup 122 = some ⟨oc, od, .func (fnOf name qual params body scope dV kV doc pm an cdv ct), osl⟩)
    (dp un : Nat) (gd : Option (List PySem.Code)) (base h₀ : Heap) (outer : List Env) (L : Addr) (wl : Addr) (nw : Nat) (t1 t2 : Tok) (x1 x2 : Nat) (om : Obj)
    (tp1 tp2 : Tok) (np : Nat) (pl x5 dx5 f' : Addr) (k0 k1 k2 k3 k4 k5 : Tok) (ps ps16 : Array Value) (s : Shared) (Q : Flow → Shared → Prop) (E : Value → Shared → Prop) (m : Str → Option Value)
    (B : Below (kbase dp un gd outer) base outer h₀) (F : Fr h₀ L s.heap m) (X : (Mine.hd.heap_39 w.params).In h₀)
    (N : News h₀ L s.heap [(wl, W.listOf #[.str (wayS (wayOf x1)) t1, .str (wayS (wayOf x2)) t2] nw), (L + 1, om), (pl, W.listOf #[.str (wayS (wayOf x1)) tp1, .str (wayS (wayOf x2)) tp2] np), (x5, instObj 80 dx5), (dx5, machD w k0 k1 k2 k3 k4 k5 f' pl), (86, tabObj ps), (16, tabObj ps16), (23, tabObj #[])])
    (hom : om.data = .cell (some (.ref x5)))
    (T0 : Top p loose mean mg mb h₀) (hm : m (Str.ofString "words") = some (.ref wl)) (hdp : dp + 100 < recursionLimit) (hun : un + 600 < cLine) (hg : AllBare s.gens) (hlt : @LT.lt Nat _ 86 L) (hwl : @LT.lt Nat _ (L + 1) wl)
    (r1 : @LT.lt Nat _ wl dx5) (r2 : @LT.lt Nat _ dx5 x5) (r3 : @LT.lt Nat _ x5 pl)
    (hx1 : 1 ≤ x1 ∧ x1 < 128) (hx2 : 1 ≤ x2 ∧ x2 < 128)
    (hret : ∀ h' g' tk' m' ps1 ps2 ps3, AllBare g' → Fr h₀ L h' m' → News h₀ L h' [(86, tabObj ps1), (23, tabObj ps2), (16, tabObj ps3)] → Q (.ret (.bool true)) { heap := h', gens := g', drawn := s.drawn, toks := tk', os := s.os }) :
    wpAny (model PySem.Challenge.rw_to0007_01.row.prog w) ((kbase dp un gd outer).deeper (envOfC qual scope L 122 cdv)) (execs (body.drop 5) (envOfC qual scope L 122 cdv)) Q E s := by
  revert X ho; k_fill; intro ho X
  refine' lit_sub ho ?e ?_
  case e => k_is
  intro h
  injection h with h1 h2 h3 h4
  injection h3 with h3
  injection h3 with i1 i2 i3 i4 i5 i6 i7 i8 i9 i10 i11 i12 i13 i14
  injection i4 with i4
  clear ho
  subst i1 i2 i3 i4 i5 i13
  clear i6 i7 i8 i9 i10 i11 i12 i14 h1 h2 h4
  rename builtinsNs = 0 => i15
  clear i15
  have C86 := code86 X
  simp only [List.drop_succ_cons, List.drop_zero]
  refine fr_hide F fun m₁ hm₁ F₁ => ?_
  clear F
  have e1 : m₁ (Str.ofString "words") = some (.ref wl) := by rw [hm₁]; exact hm
  clear hm₁ hm
  have F₂ : Fr h₀ L s.heap (fun y => if y = Str.ofString "words" then some (Value.ref wl) else m₁ y) := fr_map F₁ (by
    exact chain_eq (m := m₁) (by repeat (first | refine Ag.cons (by first | rfl | assumption) ?_ | exact Ag.nil)) (by repeat (first | refine Ag.cons (by first | rfl | assumption) ?_ | exact Ag.nil)))
  clear F₁ e1
  k_steps
  refine ⟨?_⟩
  refine wpAny_For ?_
  k_steps
  refine ⟨?_⟩
  rename_i q1 g1 a1 q2 g2 a2 q3 g3 a3 q4 g4 a4 q5 g5 a5 tp g6 F3 N3 a6
  refine enum_call F3 N3 (.head _) rfl rfl ?_
  intro en it h4 oi F4 N4 ci di l1 l2
  refine wpAny_pyIter_enum (N4 _ (.head _)).1 ?_
  have o2 : @LT.lt Nat _ tp it := l2 _ (.head _)
  have o3 : @LT.lt Nat _ it en := l1
  have hz1 : ∃ b1 b2 b3 b4 b5 : Obj, (∃ u v, b1 = { cls := .type "tuple", data := .seq #[.int 2 u, .int 1 v] }) ∧ (∃ u v, b2 = { cls := .type "tuple", data := .seq #[.int 4 u, .int 1 v] }) ∧ (∃ u v, b3 = { cls := .type "tuple", data := .seq #[.int 2 u, .int 1 v] }) ∧ (∃ u v, b4 = { cls := .type "tuple", data := .seq #[.int 1 u, .int 1 v] }) ∧ (∃ u v, b5 = { cls := .type "tuple", data := .seq #[.int 1 u, .int 2 v] }) ∧
      News h₀ L h4 [(en, etO it 0 .none), (it, oi), (tp, ({ cls := .type "tuple", data := .seq #[.ref q1, .ref q2, .ref q3, .ref q4, .ref q5] } : Obj)), (q5, b5), (q4, b4), (q3, b3), (q2, b2), (q1, b1), (wl, W.listOf #[.str (wayS (wayOf x1)) t1, .str (wayS (wayOf x2)) t2] nw), (L + 1, om), (pl, W.listOf #[.str (wayS (wayOf x1)) tp1, .str (wayS (wayOf x2)) tp2] np), (x5, instObj 80 dx5), (dx5, machD w k0 k1 k2 k3 k4 k5 f' pl), (86, tabObj ps), (16, tabObj ps16), (23, tabObj #[])] :=
    ⟨_, _, _, _, _, ⟨_, _, rfl⟩, ⟨_, _, rfl⟩, ⟨_, _, rfl⟩, ⟨_, _, rfl⟩, ⟨_, _, rfl⟩, N4⟩
  obtain ⟨b1, b2, b3, b4, b5, hb1, hb2, hb3, hb4, hb5, NB⟩ := hz1
  have c1 : @LT.lt Nat _ pl q1 := by (first | exact a1.2.2.1 | omega)
  have c2 : @LT.lt Nat _ q1 q2 := by (first | exact a2.1 | omega)
  have c3 : @LT.lt Nat _ q2 q3 := by (first | exact a3.1 | omega)
  have c4 : @LT.lt Nat _ q3 q4 := by (first | exact a4.1 | omega)
  have c5 : @LT.lt Nat _ q4 q5 := by (first | exact a5.1 | omega)
  have c6 : @LT.lt Nat _ q5 tp := by (first | exact a6.1 | omega)
  clear a1 a2 a3 a4 a5 a6 F3 N3 l1 l2 N4
  have N4 := NB
  clear NB
  refine for_loopQ (L4Inv1 w h₀ L wl pl x5 dx5 f' it en tp q1 q2 q3 q4 q5 nw t1 t2 k0 k1 k2 k3 k4 k5 x1 x2 om b1 b2 b3 b4 b5 ps ps16 m₁ s.drawn s.os) ?_ 5 (.mk 5 (_) (_) (_) (_) (oi) (m₁ (Str.ofString "k")) (m₁ (Str.ofString "up")) (m₁ (Str.ofString "down")) (m₁ (Str.ofString "word")) (m₁ (Str.ofString "told")) (m₁ (Str.ofString "red")) (m₁ (Str.ofString "green")) (m₁ (Str.ofString "digits")) (tp1) (tp2) (np) ([(23, tabObj #[])]) (0) (hg) (fr_map F4 ?_) (N4) (ci) (di) (.inl rfl) (?_) (rfl))
  rotate_left
  · exact chain_eq (m := m₁) (by repeat (first | refine Ag.cons (by first | rfl | assumption) ?_ | exact Ag.nil)) (by repeat (first | refine Ag.cons (by first | rfl | assumption) ?_ | exact Ag.nil))
  · intro p hp
    rw [List.mem_singleton.mp hp]
    exact ⟨Nat.ne_of_lt (by (first | exact Nat.lt_trans Mine.lit23_86 (Nat.lt_trans hlt (Nat.lt_trans (Nat.lt_succ_self _) (Nat.lt_trans hwl (Nat.lt_trans r1 (Nat.lt_trans r2 (Nat.lt_trans r3 (Nat.lt_trans c1 (Nat.lt_trans c2 (Nat.lt_trans c3 (Nat.lt_trans c4 (Nat.lt_trans c5 (Nat.lt_trans c6 (Nat.lt_trans o2 o3))))))))))))) | omega)), Nat.ne_of_lt (by (first | exact Nat.lt_trans Mine.lit23_86 (Nat.lt_trans hlt (Nat.lt_trans (Nat.lt_succ_self _) (Nat.lt_trans hwl (Nat.lt_trans r1 (Nat.lt_trans r2 (Nat.lt_trans r3 (Nat.lt_trans c1 (Nat.lt_trans c2 (Nat.lt_trans c3 (Nat.lt_trans c4 (Nat.lt_trans c5 (Nat.lt_trans c6 o2)))))))))))) | omega)), Nat.ne_of_lt (by (first | exact Nat.lt_trans Mine.lit23_86 (Nat.lt_trans hlt (Nat.lt_trans (Nat.lt_succ_self _) (Nat.lt_trans hwl (Nat.lt_trans r1 (Nat.lt_trans r2 r3))))) | omega))⟩
  clear F4 N4 ci di
  rintro n _ QQ1 ⟨h, gn, tk', old, oi, vk, vup, vdn, vw, vt, vr, vg, vd, ta, tb, np, tl, j, hgn, F5, N5, ci, di, hS, hT, hjn⟩ KE1
  have hnews : ∀ p ∈ (q5, b5) :: (q4, b4) :: (q3, b3) :: (q2, b2) :: (q1, b1) :: (wl, W.listOf #[.str (wayS (wayOf x1)) t1, .str (wayS (wayOf x2)) t2] nw) :: (L + 1, om) :: (pl, W.listOf (List.toArray [.str (wayS (stW j (wayOf x1))) ta, .str (wayS (stW j (wayOf x2))) tb]) np) :: (x5, instObj 80 dx5) :: (dx5, machD w k0 k1 k2 k3 k4 k5 f' pl) :: (86, tabObj ps) :: (16, tabObj ps16) :: tl, p.1 ≠ en ∧ p.1 ≠ it := by
    refine List.forall_mem_cons.mpr ⟨⟨Nat.ne_of_lt (by (first | exact Nat.lt_trans c6 (Nat.lt_trans o2 o3) | omega)), Nat.ne_of_lt (by (first | exact Nat.lt_trans c6 o2 | omega))⟩, ?_⟩
    refine List.forall_mem_cons.mpr ⟨⟨Nat.ne_of_lt (by (first | exact Nat.lt_trans c5 (Nat.lt_trans c6 (Nat.lt_trans o2 o3)) | omega)), Nat.ne_of_lt (by (first | exact Nat.lt_trans c5 (Nat.lt_trans c6 o2) | omega))⟩, ?_⟩
    refine List.forall_mem_cons.mpr ⟨⟨Nat.ne_of_lt (by (first | exact Nat.lt_trans c4 (Nat.lt_trans c5 (Nat.lt_trans c6 (Nat.lt_trans o2 o3))) | omega)), Nat.ne_of_lt (by (first | exact Nat.lt_trans c4 (Nat.lt_trans c5 (Nat.lt_trans c6 o2)) | omega))⟩, ?_⟩
    refine List.forall_mem_cons.mpr ⟨⟨Nat.ne_of_lt (by (first | exact Nat.lt_trans c3 (Nat.lt_trans c4 (Nat.lt_trans c5 (Nat.lt_trans c6 (Nat.lt_trans o2 o3)))) | omega)), Nat.ne_of_lt (by (first | exact Nat.lt_trans c3 (Nat.lt_trans c4 (Nat.lt_trans c5 (Nat.lt_trans c6 o2))) | omega))⟩, ?_⟩
    refine List.forall_mem_cons.mpr ⟨⟨Nat.ne_of_lt (by (first | exact Nat.lt_trans c2 (Nat.lt_trans c3 (Nat.lt_trans c4 (Nat.lt_trans c5 (Nat.lt_trans c6 (Nat.lt_trans o2 o3))))) | omega)), Nat.ne_of_lt (by (first | exact Nat.lt_trans c2 (Nat.lt_trans c3 (Nat.lt_trans c4 (Nat.lt_trans c5 (Nat.lt_trans c6 o2)))) | omega))⟩, ?_⟩
    refine List.forall_mem_cons.mpr ⟨⟨Nat.ne_of_lt (by (first | exact Nat.lt_trans r1 (Nat.lt_trans r2 (Nat.lt_trans r3 (Nat.lt_trans c1 (Nat.lt_trans c2 (Nat.lt_trans c3 (Nat.lt_trans c4 (Nat.lt_trans c5 (Nat.lt_trans c6 (Nat.lt_trans o2 o3))))))))) | omega)), Nat.ne_of_lt (by (first | exact Nat.lt_trans r1 (Nat.lt_trans r2 (Nat.lt_trans r3 (Nat.lt_trans c1 (Nat.lt_trans c2 (Nat.lt_trans c3 (Nat.lt_trans c4 (Nat.lt_trans c5 (Nat.lt_trans c6 o2)))))))) | omega))⟩, ?_⟩
    refine List.forall_mem_cons.mpr ⟨⟨Nat.ne_of_lt (by (first | exact Nat.lt_trans hwl (Nat.lt_trans r1 (Nat.lt_trans r2 (Nat.lt_trans r3 (Nat.lt_trans c1 (Nat.lt_trans c2 (Nat.lt_trans c3 (Nat.lt_trans c4 (Nat.lt_trans c5 (Nat.lt_trans c6 (Nat.lt_trans o2 o3)))))))))) | omega)), Nat.ne_of_lt (by (first | exact Nat.lt_trans hwl (Nat.lt_trans r1 (Nat.lt_trans r2 (Nat.lt_trans r3 (Nat.lt_trans c1 (Nat.lt_trans c2 (Nat.lt_trans c3 (Nat.lt_trans c4 (Nat.lt_trans c5 (Nat.lt_trans c6 o2))))))))) | omega))⟩, ?_⟩
    refine List.forall_mem_cons.mpr ⟨⟨Nat.ne_of_lt (by (first | exact Nat.lt_trans c1 (Nat.lt_trans c2 (Nat.lt_trans c3 (Nat.lt_trans c4 (Nat.lt_trans c5 (Nat.lt_trans c6 (Nat.lt_trans o2 o3)))))) | omega)), Nat.ne_of_lt (by (first | exact Nat.lt_trans c1 (Nat.lt_trans c2 (Nat.lt_trans c3 (Nat.lt_trans c4 (Nat.lt_trans c5 (Nat.lt_trans c6 o2))))) | omega))⟩, ?_⟩
    refine List.forall_mem_cons.mpr ⟨⟨Nat.ne_of_lt (by (first | exact Nat.lt_trans r3 (Nat.lt_trans c1 (Nat.lt_trans c2 (Nat.lt_trans c3 (Nat.lt_trans c4 (Nat.lt_trans c5 (Nat.lt_trans c6 (Nat.lt_trans o2 o3))))))) | omega)), Nat.ne_of_lt (by (first | exact Nat.lt_trans r3 (Nat.lt_trans c1 (Nat.lt_trans c2 (Nat.lt_trans c3 (Nat.lt_trans c4 (Nat.lt_trans c5 (Nat.lt_trans c6 o2)))))) | omega))⟩, ?_⟩
    refine List.forall_mem_cons.mpr ⟨⟨Nat.ne_of_lt (by (first | exact Nat.lt_trans r2 (Nat.lt_trans r3 (Nat.lt_trans c1 (Nat.lt_trans c2 (Nat.lt_trans c3 (Nat.lt_trans c4 (Nat.lt_trans c5 (Nat.lt_trans c6 (Nat.lt_trans o2 o3)))))))) | omega)), Nat.ne_of_lt (by (first | exact Nat.lt_trans r2 (Nat.lt_trans r3 (Nat.lt_trans c1 (Nat.lt_trans c2 (Nat.lt_trans c3 (Nat.lt_trans c4 (Nat.lt_trans c5 (Nat.lt_trans c6 o2))))))) | omega))⟩, ?_⟩
    refine List.forall_mem_cons.mpr ⟨⟨Nat.ne_of_lt (by (first | exact Nat.lt_trans hlt (Nat.lt_trans (Nat.lt_succ_self _) (Nat.lt_trans hwl (Nat.lt_trans r1 (Nat.lt_trans r2 (Nat.lt_trans r3 (Nat.lt_trans c1 (Nat.lt_trans c2 (Nat.lt_trans c3 (Nat.lt_trans c4 (Nat.lt_trans c5 (Nat.lt_trans c6 (Nat.lt_trans o2 o3)))))))))))) | omega)), Nat.ne_of_lt (by (first | exact Nat.lt_trans hlt (Nat.lt_trans (Nat.lt_succ_self _) (Nat.lt_trans hwl (Nat.lt_trans r1 (Nat.lt_trans r2 (Nat.lt_trans r3 (Nat.lt_trans c1 (Nat.lt_trans c2 (Nat.lt_trans c3 (Nat.lt_trans c4 (Nat.lt_trans c5 (Nat.lt_trans c6 o2))))))))))) | omega))⟩, ?_⟩
    refine List.forall_mem_cons.mpr ⟨⟨Nat.ne_of_lt (by (first | exact Nat.lt_trans Mine.lit16_86 (Nat.lt_trans hlt (Nat.lt_trans (Nat.lt_succ_self _) (Nat.lt_trans hwl (Nat.lt_trans r1 (Nat.lt_trans r2 (Nat.lt_trans r3 (Nat.lt_trans c1 (Nat.lt_trans c2 (Nat.lt_trans c3 (Nat.lt_trans c4 (Nat.lt_trans c5 (Nat.lt_trans c6 (Nat.lt_trans o2 o3))))))))))))) | omega)), Nat.ne_of_lt (by (first | exact Nat.lt_trans Mine.lit16_86 (Nat.lt_trans hlt (Nat.lt_trans (Nat.lt_succ_self _) (Nat.lt_trans hwl (Nat.lt_trans r1 (Nat.lt_trans r2 (Nat.lt_trans r3 (Nat.lt_trans c1 (Nat.lt_trans c2 (Nat.lt_trans c3 (Nat.lt_trans c4 (Nat.lt_trans c5 (Nat.lt_trans c6 o2)))))))))))) | omega))⟩, ?_⟩
    exact fun p h => ⟨(hT p h).1, (hT p h).2.1⟩
  cases n with
  | zero =>
    refine enum_end rfl F5 N5 ci di rfl rfl (by simpa using hjn) (Nat.ne_of_lt o2) (fun p hp => (hnews p hp).2) ?_
    intro h6 F6 N6
    dsimp only
    have hz2 := hS.grown
    obtain ⟨ps23, h23⟩ := hz2
    have N7 := cb_drop (news := [(86, tabObj ps), (23, tabObj ps23), (16, tabObj ps16)]) N6 (by
      refine List.forall_mem_cons.mpr ⟨by first | k_mem | (repeat (first | exact List.Mem.head _ | refine List.Mem.tail _ ?_)), List.forall_mem_cons.mpr ⟨?m23, List.forall_mem_cons.mpr ⟨by first | k_mem | (repeat (first | exact List.Mem.head _ | refine List.Mem.tail _ ?_)), List.forall_mem_nil _⟩⟩⟩
      case m23 => repeat (first | exact h23 | refine List.Mem.tail _ ?_))
    clear N6 hnews
    k_steps
    exact hret _ _ _ _ _ _ _ hgn (by assumption) (by assumption)
  | succ n =>
    have hz3 : ∃ q bq, ∃ up dn : Nat, ∃ tu td, (#[Value.ref q1, .ref q2, .ref q3, .ref q4, .ref q5] : Array Value)[j]? = some (.ref q) ∧ (q, bq) ∈ (q5, b5) :: (q4, b4) :: (q3, b3) :: (q2, b2) :: (q1, b1) :: [] ∧ bq = { cls := .type "tuple", data := .seq #[.int (up : Nat) tu, .int (dn : Nat) td] } ∧ (up ≤ 4 ∧ dn ≤ 4) ∧
        (j % 3 = 1 → ∀ x, 1 ≤ x → x < 128 → Good okT (stW (j + 1) (wayOf x)) x up dn) := by
      obtain ⟨u1, v1, e1⟩ := hb1
      obtain ⟨u2, v2, e2⟩ := hb2
      obtain ⟨u3, v3, e3⟩ := hb3
      obtain ⟨u4, v4, e4⟩ := hb4
      obtain ⟨u5, v5, e5⟩ := hb5
      rcases (show j = 0 ∨ j = 1 ∨ j = 2 ∨ j = 3 ∨ j = 4 by (first | exact Mine.ar55 hjn | omega)) with rfl | rfl | rfl | rfl | rfl
      · exact ⟨q1, b1, 2, 1, u1, v1, rfl, .tail _ (.tail _ (.tail _ (.tail _ (.head _)))), e1, by decide, fun h => absurd h (by decide)⟩
      · exact ⟨q2, b2, 4, 1, u2, v2, rfl, .tail _ (.tail _ (.tail _ (.head _))), e2, by decide, fun _ x h1 h2 => good_of (plain_two x h2 h1)⟩
      · exact ⟨q3, b3, 2, 1, u3, v3, rfl, .tail _ (.tail _ (.head _)), e3, by decide, fun h => absurd h (by decide)⟩
      · exact ⟨q4, b4, 1, 1, u4, v4, rfl, .tail _ (.head _), e4, by decide, fun h => absurd h (by decide)⟩
      · exact ⟨q5, b5, 1, 2, u5, v5, rfl, .head _, e5, by decide, fun _ x h1 h2 => good_of (plain_five x h2 h1)⟩
    obtain ⟨q, bq, up, dn, tu, td, hx, hmq, hbq, hud, hgd⟩ := hz3
    refine enum_next rfl F5 N5 ci di rfl rfl hx (Nat.ne_of_gt o3) (Nat.ne_of_lt o2) (Nat.ne_of_lt (by (first | exact Nat.lt_trans o2 o3 | omega))) (fun p hp => (hnews p hp).1) (fun p hp => (hnews p hp).2) ?_
    intro T h6 tk6 oi6 tk7 ci6 di6 F6 N6 lT lL
    dsimp only
    refine enum_own (pre := [(T, etP j tk6 (.ref q))]) F6 N6 ?p1 ?p2 ?_
    case p1 =>
      intro p hp
      rw [List.mem_singleton.mp hp]
      exact Nat.ne_of_gt (lT _ (.head _))
    case p2 =>
      intro p hp
      rcases List.mem_cons.mp hp with h | hp
      · rw [h]; exact Nat.ne_of_lt (by (first | exact o3 | omega))
      rcases List.mem_cons.mp hp with h | hp
      · rw [h]; exact Nat.ne_of_lt (by (first | exact Nat.lt_trans o2 o3 | omega))
      · exact (hnews p hp).1
    intro h7 F7 N7
    clear F5 N5 F6 N6 ci di hnews lT
    have hz4 : ∃ fixC, fixC = (en, etO it ((j + 1 : Nat) : Int) (.ref q)) :: (it, oi6) :: (tp, ({ cls := .type "tuple", data := .seq #[.ref q1, .ref q2, .ref q3, .ref q4, .ref q5] } : Obj)) :: (q5, b5) :: (q4, b4) :: (q3, b3) :: (q2, b2) :: (q1, b1) :: [(86, tabObj ps), (16, tabObj ps16)] := ⟨_, rfl⟩
    obtain ⟨fixC, hfC⟩ := hz4
    simp only [List.cons_append, List.nil_append] at N7
    have NK := cb_drop (news := (T, etP j tk6 (.ref q)) :: (q, bq) :: (pl, W.listOf (List.toArray [.str (wayS (stW j (wayOf x1))) ta, .str (wayS (stW j (wayOf x2))) tb]) np) :: (x5, instObj 80 dx5) :: (dx5, machD w k0 k1 k2 k3 k4 k5 f' pl) :: (wl, W.listOf #[.str (wayS (wayOf x1)) t1, .str (wayS (wayOf x2)) t2] nw) :: (L + 1, om) :: (fixC ++ tl)) N7 (by
      rw [hfC]
      refine List.forall_mem_cons.mpr ⟨List.Mem.head _, List.forall_mem_cons.mpr ⟨?mq, ?_⟩⟩
      case mq => exact .tail _ (.tail _ (.tail _ (.tail _ (List.mem_append_left _ hmq))))
      repeat' (first | exact List.forall_mem_nil _ | refine List.forall_mem_cons.mpr ⟨by first | k_mem | (repeat (first | exact List.Mem.head _ | refine List.Mem.tail _ ?_)), ?_⟩)
      all_goals (first | exact fun p hp => hp | (intro p hp; repeat (first | exact hp | refine List.mem_cons_of_mem _ ?_))))
    clear N7
    rw [hbq] at NK
    have HM := Hold.mk hmq
    clear hmq
    refine wpAny_mono (Q := fun _ s₂ => Hold (∃ h tk9, s₂ = { heap := h, gens := gn, drawn := s.drawn, toks := tk9, os := s.os } ∧ Fr h₀ L h (fun y => if y = Str.ofString "words" then some (Value.ref wl) else if y = Str.ofString "k" then some (Value.int (j : Nat) tk6) else if y = Str.ofString "up" then some (Value.int (up : Nat) tu) else if y = Str.ofString "down" then some (Value.int (dn : Nat) td) else if y = Str.ofString "word" then vw else if y = Str.ofString "told" then vt else if y = Str.ofString "red" then vr else if y = Str.ofString "green" then vg else if y = Str.ofString "digits" then vd else m₁ y) ∧ News h₀ L h ((pl, W.listOf (List.toArray [.str (wayS (stW j (wayOf x1))) ta, .str (wayS (stW j (wayOf x2))) tb]) np) :: (x5, instObj 80 dx5) :: (dx5, machD w k0 k1 k2 k3 k4 k5 f' pl) :: (wl, W.listOf #[.str (wayS (wayOf x1)) t1, .str (wayS (wayOf x2)) t2] nw) :: (L + 1, om) :: (fixC ++ tl)))) (E := fun _ _ => False) ?as (fun _ s₂ hs₂ => ?_) (fun _ _ e => e)
    case as =>
      k_steps
      (try dsimp only)
      rename News h₀ L _ _ => Nz
      rename Fr h₀ L _ _ => Fz
      refine ⟨⟨_, _, rfl, fr_map Fz ?eF, cb_drop Nz (fun p hp => .tail _ (.tail _ hp))⟩⟩
      case eF =>
        exact chain_eq (m := m₁) (by repeat (first | refine Ag.cons (by first | rfl | assumption) ?_ | exact Ag.nil)) (by repeat (first | refine Ag.cons (by first | rfl | assumption) ?_ | exact Ag.nil))
    have hz5 := hs₂.out
    obtain ⟨h8, tk8, rfl, F8, N8⟩ := hz5
    clear F7 NK hs₂
    (try dsimp only)
    have hC : ∀ p ∈ fixC, p.1 ≠ pl ∧ p.1 ≠ 23 := by
      rw [hfC]
      refine List.forall_mem_cons.mpr ⟨⟨Nat.ne_of_gt (by (first | exact Nat.lt_trans c1 (Nat.lt_trans c2 (Nat.lt_trans c3 (Nat.lt_trans c4 (Nat.lt_trans c5 (Nat.lt_trans c6 (Nat.lt_trans o2 o3)))))) | omega)), Nat.ne_of_gt (by (first | exact Nat.lt_trans Mine.lit23_86 (Nat.lt_trans hlt (Nat.lt_trans (Nat.lt_succ_self _) (Nat.lt_trans hwl (Nat.lt_trans r1 (Nat.lt_trans r2 (Nat.lt_trans r3 (Nat.lt_trans c1 (Nat.lt_trans c2 (Nat.lt_trans c3 (Nat.lt_trans c4 (Nat.lt_trans c5 (Nat.lt_trans c6 (Nat.lt_trans o2 o3))))))))))))) | omega))⟩, ?_⟩
      refine List.forall_mem_cons.mpr ⟨⟨Nat.ne_of_gt (by (first | exact Nat.lt_trans c1 (Nat.lt_trans c2 (Nat.lt_trans c3 (Nat.lt_trans c4 (Nat.lt_trans c5 (Nat.lt_trans c6 o2))))) | omega)), Nat.ne_of_gt (by (first | exact Nat.lt_trans Mine.lit23_86 (Nat.lt_trans hlt (Nat.lt_trans (Nat.lt_succ_self _) (Nat.lt_trans hwl (Nat.lt_trans r1 (Nat.lt_trans r2 (Nat.lt_trans r3 (Nat.lt_trans c1 (Nat.lt_trans c2 (Nat.lt_trans c3 (Nat.lt_trans c4 (Nat.lt_trans c5 (Nat.lt_trans c6 o2)))))))))))) | omega))⟩, ?_⟩
      refine List.forall_mem_cons.mpr ⟨⟨Nat.ne_of_gt (by (first | exact Nat.lt_trans c1 (Nat.lt_trans c2 (Nat.lt_trans c3 (Nat.lt_trans c4 (Nat.lt_trans c5 c6)))) | omega)), Nat.ne_of_gt (by (first | exact Nat.lt_trans Mine.lit23_86 (Nat.lt_trans hlt (Nat.lt_trans (Nat.lt_succ_self _) (Nat.lt_trans hwl (Nat.lt_trans r1 (Nat.lt_trans r2 (Nat.lt_trans r3 (Nat.lt_trans c1 (Nat.lt_trans c2 (Nat.lt_trans c3 (Nat.lt_trans c4 (Nat.lt_trans c5 c6))))))))))) | omega))⟩, ?_⟩
      refine List.forall_mem_cons.mpr ⟨⟨Nat.ne_of_gt (by (first | exact Nat.lt_trans c1 (Nat.lt_trans c2 (Nat.lt_trans c3 (Nat.lt_trans c4 c5))) | omega)), Nat.ne_of_gt (by (first | exact Nat.lt_trans Mine.lit23_86 (Nat.lt_trans hlt (Nat.lt_trans (Nat.lt_succ_self _) (Nat.lt_trans hwl (Nat.lt_trans r1 (Nat.lt_trans r2 (Nat.lt_trans r3 (Nat.lt_trans c1 (Nat.lt_trans c2 (Nat.lt_trans c3 (Nat.lt_trans c4 c5)))))))))) | omega))⟩, ?_⟩
      refine List.forall_mem_cons.mpr ⟨⟨Nat.ne_of_gt (by (first | exact Nat.lt_trans c1 (Nat.lt_trans c2 (Nat.lt_trans c3 c4)) | omega)), Nat.ne_of_gt (by (first | exact Nat.lt_trans Mine.lit23_86 (Nat.lt_trans hlt (Nat.lt_trans (Nat.lt_succ_self _) (Nat.lt_trans hwl (Nat.lt_trans r1 (Nat.lt_trans r2 (Nat.lt_trans r3 (Nat.lt_trans c1 (Nat.lt_trans c2 (Nat.lt_trans c3 c4))))))))) | omega))⟩, ?_⟩
      refine List.forall_mem_cons.mpr ⟨⟨Nat.ne_of_gt (by (first | exact Nat.lt_trans c1 (Nat.lt_trans c2 c3) | omega)), Nat.ne_of_gt (by (first | exact Nat.lt_trans Mine.lit23_86 (Nat.lt_trans hlt (Nat.lt_trans (Nat.lt_succ_self _) (Nat.lt_trans hwl (Nat.lt_trans r1 (Nat.lt_trans r2 (Nat.lt_trans r3 (Nat.lt_trans c1 (Nat.lt_trans c2 c3)))))))) | omega))⟩, ?_⟩
      refine List.forall_mem_cons.mpr ⟨⟨Nat.ne_of_gt (by (first | exact Nat.lt_trans c1 c2 | omega)), Nat.ne_of_gt (by (first | exact Nat.lt_trans Mine.lit23_86 (Nat.lt_trans hlt (Nat.lt_trans (Nat.lt_succ_self _) (Nat.lt_trans hwl (Nat.lt_trans r1 (Nat.lt_trans r2 (Nat.lt_trans r3 (Nat.lt_trans c1 c2))))))) | omega))⟩, ?_⟩
      refine List.forall_mem_cons.mpr ⟨⟨Nat.ne_of_gt (by (first | exact c1 | omega)), Nat.ne_of_gt (by (first | exact Nat.lt_trans Mine.lit23_86 (Nat.lt_trans hlt (Nat.lt_trans (Nat.lt_succ_self _) (Nat.lt_trans hwl (Nat.lt_trans r1 (Nat.lt_trans r2 (Nat.lt_trans r3 c1)))))) | omega))⟩, ?_⟩
      refine List.forall_mem_cons.mpr ⟨⟨Nat.ne_of_lt (by (first | exact Nat.lt_trans hlt (Nat.lt_trans (Nat.lt_succ_self _) (Nat.lt_trans hwl (Nat.lt_trans r1 (Nat.lt_trans r2 r3)))) | omega)), Nat.ne_of_gt (show (23 : Nat) < 86 by decide)⟩, ?_⟩
      refine List.forall_mem_cons.mpr ⟨⟨Nat.ne_of_lt (by (first | exact Nat.lt_trans Mine.lit16_86 (Nat.lt_trans hlt (Nat.lt_trans (Nat.lt_succ_self _) (Nat.lt_trans hwl (Nat.lt_trans r1 (Nat.lt_trans r2 r3))))) | omega)), Nat.ne_of_lt (show (16 : Nat) < 23 by decide)⟩, ?_⟩
      exact List.forall_mem_nil _
    have men : (en, etO it ((j + 1 : Nat) : Int) (.ref q)) ∈ fixC := by rw [hfC]; exact .head _
    have mit : (it, oi6) ∈ fixC := by rw [hfC]; exact .tail _ (.head _)
    have z1 := plain_len x1 hx1.2
    have z2 := plain_len x2 hx2.2
    have z11 := z1 j (by (first | exact Mine.ar56 hjn | omega))
    have z21 := z2 j (by (first | exact Mine.ar56 hjn | omega))
    refine law_turn w p loose mean mg mb _ _ _ _ _ _ _ _ _ _ _ _ _ _ _ (by k_is) dp un gd base h₀ outer L wl nw t1 t2 x1 x2 om pl x5 dx5 f' k0 k1 k2 k3 k4 k5 { heap := h8, gens := gn, drawn := s.drawn, toks := tk8, os := s.os } _ m₁ vw vt vr vg vd j up dn (by (first | exact Mine.ar57 hjn | omega)) hud tk6 tu td (stW j (wayOf x1)) (stW j (wayOf x2)) ta tb np fixC tl okT hokT B F8 X N8 hom T0 hdp hun hgn hlt hwl r1 r2 r3 hC hS (fun p hp => (hT p hp).2.2) hx1 hx2 (by (first | exact Mine.ar37 z11 | omega)) (by (first | exact Mine.ar37 z21 | omega)) (z1 (j + 1) (by (first | exact Mine.ar58 hjn | omega))) (z2 (j + 1) (by (first | exact Mine.ar58 hjn | omega))) ?k3 ?k1 ?nx
    case k3 =>
      intro hj3
      subst hj3
      exact ⟨plain_three x1 hx1.2 hx1.1, plain_three x2 hx2.2 hx2.1⟩
    case k1 =>
      intro hj1
      exact ⟨hgd hj1 x1 hx1.1 hx1.2, hgd hj1 x2 hx2.1 hx2.2⟩
    case nx =>
      intro h' g' tk' vw vt vr vg vd ta' tb' np' tl' hg' F' N' hS' hp' hk'
      refine KE1.nx (by first | exact .inl rfl | exact .inr rfl) (m := n) (Nat.lt_succ_self _) (.mk _ (h') (g') (tk') (.ref q) (oi6) (_) (_) (_) (vw) (vt) (vr) (vg) (vd) (ta') (tb') (np') (tl') (j + 1) (hg') (F') (cb_drop N' ?nn) (ci6) (di6) (hS') (fun p hp => ⟨hk' _ _ men (fun p hp => (hT p hp).1) p hp, hk' _ _ mit (fun p hp => (hT p hp).2.1) p hp, hp' p hp⟩) (by (first | exact Mine.ar59 hjn | omega)))
      case nn =>
        rw [hfC]
        repeat' (first | exact List.forall_mem_nil _ | refine List.forall_mem_cons.mpr ⟨by k_mem, ?_⟩ | refine List.forall_mem_append.mpr ⟨?_, ?_⟩)
        all_goals (first | exact fun p hp => hp | (intro p hp; repeat (first | exact hp | exact List.mem_append_left _ hp | exact List.mem_append_right _ hp | refine List.mem_cons_of_mem _ ?_)))
end
end Mine
end

-- part L3
section
open PySem PySem.W PyProof.Rows
set_option maxRecDepth 100000
set_option maxHeartbeats 8000000
namespace Mine

inductive L3Inv1 (w : World) (h₀ : Heap) (L : Addr) (wl : Addr) (pl : Addr) (x5 : Addr) (dx5 : Addr) (f' : Addr) (it : Addr) (nw : Nat) (t1 : Tok) (t2 : Tok) (k0 : Tok) (k1 : Tok) (k2 : Tok) (k3 : Tok) (k4 : Tok) (k5 : Tok) (x1 : Nat) (x2 : Nat) (om : Obj) (ps : Array Value) (ps16 : Array Value) (m₁ : Str → Option Value) (dr : Drawn) (os : OsState) : Nat → Shared → Prop
  | mk (n : Nat) (h : Heap) (gn : Array GenState) (tk : Nat) (oi : Obj) (vw : Option Value) (vs : List Value) (np : Nat) (j : Nat) : (AllBare gn) → (Fr h₀ L h (fun y => if y = Str.ofString "word" then vw else if y = Str.ofString "words" then some (Value.ref wl) else m₁ y)) → (News h₀ L h [(it, oi), (pl, W.listOf (List.toArray vs) np), (x5, instObj 80 dx5), (dx5, machD w k0 k1 k2 k3 k4 k5 f' pl), (wl, W.listOf #[.str (wayS (wayOf x1)) t1, .str (wayS (wayOf x2)) t2] nw), (L + 1, om), (86, tabObj ps), (16, tabObj ps16), (23, tabObj #[])]) → (oi.cls = .type "list_iterator") → (oi.data = .fields #[.ref wl, .int (j : Nat) 0]) → (j + n = 2) → (WaysAre vs ([wayOf x1, wayOf x2].take j)) → L3Inv1 w h₀ L wl pl x5 dx5 f' it nw t1 t2 k0 k1 k2 k3 k4 k5 x1 x2 om ps ps16 m₁ dr os n { heap := h, gens := gn, drawn := dr, toks := tk, os := os }
section
local macro_rules | `(tactic| k_all) => `(tactic| assumption)
local macro_rules | `(tactic| walk_at "eval ListComp") => `(tactic| refine Hold.out ?_)
local macro_rules | `(tactic| walk_at "compareOp NotEq ref ref") => `(tactic| refine Hold.out ?_)
local macro_rules | `(tactic| walk_at "exec For Name Name cons nil") => `(tactic| refine Hold.out ?_)
local macro_rules | `(tactic| walk_at "pyIter ref") => `(tactic| refine Hold.out ?_)
local macro_rules | `(tactic| walk_at "call ref") => `(tactic| refine Hold.out ?_)
theorem law_mach (w : World) (p : Program) (loose : List Str) (mean : ExcName → Option Value) (mg mb : Str → Option Value) (oc : Value) (od : Option Addr) (name qual : Str) (params : Arguments) (body : List PySem.Stmt) (scope : Scope) (dV kV doc pm : Value) (an : Option Addr) (cdv ct : Value) (osl : Array (Option Value))
    (ho : (Mine.hd.heap_39 w.params).lookup 122 = some ⟨oc, od, .func (fnOf name qual params body scope dV kV doc pm an cdv ct), osl⟩)
    (dp un : Nat) (gd : Option (List PySem.Code)) (base h₀ : Heap) (outer : List Env) (L : Addr) (wl : Addr) (nw : Nat) (t1 t2 : Tok) (x1 x2 : Nat) (om : Obj)
    (pl x5 dx5 f' al : Addr) (k0 k1 k2 k3 k4 k5 tk0 : Tok) (ps ps16 : Array Value) (tx : Str) (tl0 : List (Addr × Obj)) (s : Shared) (Q : Flow → Shared → Prop) (E : Value → Shared → Prop) (m : Str → Option Value)
    (B : Below (kbase dp un gd outer) base outer h₀) (F : Fr h₀ L s.heap m) (X : (Mine.hd.heap_39 w.params).In h₀)
    (N : News h₀ L s.heap ((wl, W.listOf #[.str (wayS (wayOf x1)) t1, .str (wayS (wayOf x2)) t2] nw) :: (L + 1, om) :: (pl, W.listOf #[] 0) :: (x5, instObj 80 dx5) :: (dx5, machD w k0 k1 k2 k3 k4 k5 f' pl) :: (al, W.listOf #[.int 0 tk0] 0) :: tl0))
    (hom : om.data = .cell (some (.ref x5)))
    (YL : ∀ fix, (∀ p ∈ tl0, p ∈ fix) → (x5, instObj 80 dx5) ∈ fix → (dx5, machD w k0 k1 k2 k3 k4 k5 f' pl) ∈ fix → (∀ p ∈ fix, p.1 ≠ al) → Lx w p loose mean mg mb tx x5 dx5 pl k0 k1 k2 k3 k4 k5 f' al fix)
    (hn : ∀ p ∈ tl0, p.1 ≠ L + 1 ∧ p.1 ≠ wl ∧ p.1 ≠ al ∧ p.1 < dx5) (hG : (86, tabObj ps) ∈ tl0 ∧ (23, tabObj #[]) ∈ tl0 ∧ (16, tabObj ps16) ∈ tl0)
    (htl : tx.cps.toList = 34 :: (enc (wayOf x1) ++ 34 :: 32 :: 34 :: (enc (wayOf x2) ++ [34])))
    (T0 : Top p loose mean mg mb h₀) (hm : m (Str.ofString "words") = some (.ref wl)) (hdp : dp + 100 < recursionLimit) (hun : un + 600 < cLine) (hg : AllBare s.gens) (hlt : @LT.lt Nat _ 86 L) (hwl : @LT.lt Nat _ (L + 1) wl)
    (r0 : @LT.lt Nat _ wl al) (r1 : @LT.lt Nat _ al dx5) (r2 : @LT.lt Nat _ dx5 x5) (r3 : @LT.lt Nat _ x5 pl)
    (hx1 : 1 ≤ x1 ∧ x1 < 128) (hx2 : 1 ≤ x2 ∧ x2 < 128)
    (hret : ∀ h' g' tk' m' ps1 ps2 ps3, AllBare g' → Fr h₀ L h' m' → News h₀ L h' [(86, tabObj ps1), (23, tabObj ps2), (16, tabObj ps3)] → Q (.ret (.bool true)) { heap := h', gens := g', drawn := s.drawn, toks := tk', os := s.os }) :
    wpAny (model PySem.Challenge.rw_to0007_01.row.prog w) ((kbase dp un gd outer).deeper (envOfC qual scope L 122 cdv)) (execs (body.drop 3) (envOfC qual scope L 122 cdv)) Q E s := by
  revert X ho; k_fill; intro ho X
  refine' lit_sub ho ?e ?_
  case e => k_is
  intro h
  injection h with h1 h2 h3 h4
  injection h3 with h3
  injection h3 with i1 i2 i3 i4 i5 i6 i7 i8 i9 i10 i11 i12 i13 i14
  injection i4 with i4
  clear ho
  subst i1 i2 i3 i4 i5 i13
  clear i6 i7 i8 i9 i10 i11 i12 i14 h1 h2 h4
  rename builtinsNs = 0 => i15
  clear i15
  have C86 := code86 X
  simp only [List.drop_succ_cons, List.drop_zero]
  refine fr_hide F fun m₁ hm₁ F₁ => ?_
  clear F
  have e1 : m₁ (Str.ofString "words") = some (.ref wl) := by rw [hm₁]; exact hm
  clear hm₁ hm
  have F₂ : Fr h₀ L s.heap (fun y => if y = Str.ofString "words" then some (Value.ref wl) else m₁ y) := fr_map F₁ (by
    exact chain_eq (m := m₁) (by repeat (first | refine Ag.cons (by first | rfl | assumption) ?_ | exact Ag.nil)) (by repeat (first | refine Ag.cons (by first | rfl | assumption) ?_ | exact Ag.nil)))
  clear F₁ e1
  have hl1 : (wayOf x1).length ≤ 6 := (blen_ok x1 hx1.2 hx1.1).2.2.2.2
  have hl2 : (wayOf x2).length ≤ 6 := (blen_ok x2 hx2.2 hx2.1).2.2.2.2
  have HN := Hold.mk hn
  have HG := Hold.mk hG
  have HL := Hold.mk YL
  clear hn hG YL
  k_steps
  refine ⟨?_⟩
  k_dflt (refine comp_G (by k_asm) (by with_unfolding_all rfl) (by decide) (by rfl) (by decide) (by rfl) ?_)
  k_steps
  rename News _ _ _ _ => N1
  rename Fr h₀ L _ _ => F1
  refine ⟨wl, #[.str (wayS (wayOf x1)) t1, .str (wayS (wayOf x2)) t2], nw, _, rfl, rfl, (show 2 ≤ sizeLine by decide +kernel), hg, F1, N1, .head _, ?_⟩
  clear N1 F1
  intro v Ia oIa Ca oCa Da m₂a h5a gna tk5a E'a hv hC hxv hgna F5 N5 off ne
  cases hv
  have OFFa := Hold.mk off
  clear off
  k_steps
  refine ⟨?_⟩
  dsimp only [List.nil_append, List.cons_append]
  rename News _ _ _ _ => N6
  rename Fr h₀ L _ _ => F6
  have hz1 : ∃ fx, fx = (wl, W.listOf #[.str (wayS (wayOf x1)) t1, .str (wayS (wayOf x2)) t2] nw) :: (L + 1, om) :: (pl, W.listOf #[] 0) :: (x5, instObj 80 dx5) :: (dx5, machD w k0 k1 k2 k3 k4 k5 f' pl) :: (Ia, oIa) :: (Ca, oCa) :: (Da, LCg.lst []) :: tl0 := ⟨_, rfl⟩
  obtain ⟨fxa, hfx⟩ := hz1
  have N7 := cb_drop (news := (al, W.listOf #[.int 0 tk0] 0) :: fxa) N6 (by
    rw [hfx]
    repeat (first | exact List.forall_mem_nil _ | refine List.forall_mem_cons.mpr ⟨by k_mem, ?_⟩)
    all_goals (first | exact fun p hp => hp | (intro p hp; repeat (first | exact hp | refine List.mem_cons_of_mem _ ?_))))
  have offal := OFFa.out (al, _) (.tail _ (.tail _ (.tail _ (.tail _ (.tail _ (.head _))))))
  have hfa : ∀ p ∈ fxa, p.1 ≠ al := by
    rw [hfx]
    refine List.forall_mem_cons.mpr ⟨Nat.ne_of_lt r0, ?_⟩
    refine List.forall_mem_cons.mpr ⟨Nat.ne_of_lt (by (first | exact Nat.lt_trans hwl r0 | omega)), ?_⟩
    refine List.forall_mem_cons.mpr ⟨Nat.ne_of_gt (by (first | exact Nat.lt_trans r1 (Nat.lt_trans r2 r3) | omega)), ?_⟩
    refine List.forall_mem_cons.mpr ⟨Nat.ne_of_gt (by (first | exact Nat.lt_trans r1 r2 | omega)), ?_⟩
    refine List.forall_mem_cons.mpr ⟨Nat.ne_of_gt r1, ?_⟩
    refine List.forall_mem_cons.mpr ⟨Ne.symm offal.1, ?_⟩
    refine List.forall_mem_cons.mpr ⟨Ne.symm offal.2.1, ?_⟩
    refine List.forall_mem_cons.mpr ⟨Ne.symm offal.2.2, ?_⟩
    exact fun p h => (HN.out p h).2.2.1
  have Y1 := HL.out fxa (by rw [hfx]; exact fun p hp => .tail _ (.tail _ (.tail _ (.tail _ (.tail _ (.tail _ (.tail _ (.tail _ hp)))))))) (by rw [hfx]; exact .tail _ (.tail _ (.tail _ (.head _)))) (by rw [hfx]; exact .tail _ (.tail _ (.tail _ (.tail _ (.head _))))) hfa
  refine Ct.app (lex_ct w p loose mean mg mb tx x5 dx5 pl k0 k1 k2 k3 k4 k5 f' al fxa Y1 0 (by rw [hfx]; exact .tail _ (.tail _ (.head _))) 0 0 tk0 0 (wayOf x1) (32 :: 34 :: (enc (wayOf x2) ++ [34])) (by (first | exact Mine.ar81 hl1 | omega)) htl) rfl B F6 X N7 T0 rfl (by first | exact Mine.rm 0 hdp rfl (by decide) | exact Mine.rm 1 hdp rfl (by decide) | ktr_room) (by first | exact Mine.um 0 hun rfl (by decide) | exact Mine.um 3 hun rfl (by decide) | exact Mine.um 1 hun rfl (by decide) | exact Mine.um 4 hun rfl (by decide) | ktr_units) (by exact hgna) ?_
  intro v nn h6a tk6a g6a hRt hg6a F8 N8
  refine hide fun PP hPP => ?_
  obtain ⟨taa, nl6a, tkia, i6a, ev1, hdropa, e⟩ := hRt
  refine hPP ?_
  clear hPP
  subst ev1
  rw [e, hfx] at N8
  clear e N7 F6 N6 Y1 hfa hfx
  refine ⟨h6a, g6a, tk6a, (wl, W.listOf #[.str (wayS (wayOf x1)) t1, .str (wayS (wayOf x2)) t2] nw) :: (L + 1, om) :: (pl, W.listOf #[] 0) :: (x5, instObj 80 dx5) :: (dx5, machD w k0 k1 k2 k3 k4 k5 f' pl) :: (al, W.listOf #[.int i6a tkia] nl6a) :: tl0, rfl, hg6a, F8, cb_drop N8 ?na, ?oa, .head _, ?_⟩
  case na =>
    repeat (first | exact List.forall_mem_nil _ | refine List.forall_mem_cons.mpr ⟨by k_mem, ?_⟩)
    all_goals (first | exact fun p hp => hp | (intro p hp; repeat (first | exact hp | refine List.mem_cons_of_mem _ ?_)))
  case oa =>
    refine List.forall_mem_cons.mpr ⟨OFFa.out _ (.head _), ?_⟩
    refine List.forall_mem_cons.mpr ⟨OFFa.out _ (.tail _ (.head _)), ?_⟩
    refine List.forall_mem_cons.mpr ⟨OFFa.out _ (.tail _ (.tail _ (.head _))), ?_⟩
    refine List.forall_mem_cons.mpr ⟨OFFa.out _ (.tail _ (.tail _ (.tail _ (.head _)))), ?_⟩
    refine List.forall_mem_cons.mpr ⟨OFFa.out _ (.tail _ (.tail _ (.tail _ (.tail _ (.head _))))), ?_⟩
    refine List.forall_mem_cons.mpr ⟨offal, ?_⟩
    exact fun p h => OFFa.out p (.tail _ (.tail _ (.tail _ (.tail _ (.tail _ (.tail _ h))))))
  clear F8 N8 offal
  intro v Ib oIb Cb oCb Db m₂b h5b gnb tk5b E'b hv hC hxv hgnb F5 N5 off ne
  cases hv
  have OFFb := Hold.mk off
  clear off
  k_steps
  refine ⟨?_⟩
  dsimp only [List.nil_append, List.cons_append]
  rename News _ _ _ _ => N6
  rename Fr h₀ L _ _ => F6
  have hz2 : ∃ fx, fx = (wl, W.listOf #[.str (wayS (wayOf x1)) t1, .str (wayS (wayOf x2)) t2] nw) :: (L + 1, om) :: (pl, W.listOf #[] 0) :: (x5, instObj 80 dx5) :: (dx5, machD w k0 k1 k2 k3 k4 k5 f' pl) :: (Ib, oIb) :: (Cb, oCb) :: (Db, LCg.lst ([] ++ [Value.str (wayS (wayOf x1)) taa])) :: tl0 := ⟨_, rfl⟩
  obtain ⟨fxb, hfx⟩ := hz2
  have N7 := cb_drop (news := (al, W.listOf #[.int i6a tkia] nl6a) :: fxb) N6 (by
    rw [hfx]
    repeat (first | exact List.forall_mem_nil _ | refine List.forall_mem_cons.mpr ⟨by k_mem, ?_⟩)
    all_goals (first | exact fun p hp => hp | (intro p hp; repeat (first | exact hp | refine List.mem_cons_of_mem _ ?_))))
  have offal := OFFb.out (al, _) (.tail _ (.tail _ (.tail _ (.tail _ (.tail _ (.head _))))))
  have hfa : ∀ p ∈ fxb, p.1 ≠ al := by
    rw [hfx]
    refine List.forall_mem_cons.mpr ⟨Nat.ne_of_lt r0, ?_⟩
    refine List.forall_mem_cons.mpr ⟨Nat.ne_of_lt (by (first | exact Nat.lt_trans hwl r0 | omega)), ?_⟩
    refine List.forall_mem_cons.mpr ⟨Nat.ne_of_gt (by (first | exact Nat.lt_trans r1 (Nat.lt_trans r2 r3) | omega)), ?_⟩
    refine List.forall_mem_cons.mpr ⟨Nat.ne_of_gt (by (first | exact Nat.lt_trans r1 r2 | omega)), ?_⟩
    refine List.forall_mem_cons.mpr ⟨Nat.ne_of_gt r1, ?_⟩
    refine List.forall_mem_cons.mpr ⟨Ne.symm offal.1, ?_⟩
    refine List.forall_mem_cons.mpr ⟨Ne.symm offal.2.1, ?_⟩
    refine List.forall_mem_cons.mpr ⟨Ne.symm offal.2.2, ?_⟩
    exact fun p h => (HN.out p h).2.2.1
  have Y1 := HL.out fxb (by rw [hfx]; exact fun p hp => .tail _ (.tail _ (.tail _ (.tail _ (.tail _ (.tail _ (.tail _ (.tail _ hp)))))))) (by rw [hfx]; exact .tail _ (.tail _ (.tail _ (.head _)))) (by rw [hfx]; exact .tail _ (.tail _ (.tail _ (.tail _ (.head _))))) hfa
  refine Ct.app (lex_ct w p loose mean mg mb tx x5 dx5 pl k0 k1 k2 k3 k4 k5 f' al fxb Y1 0 (by rw [hfx]; exact .tail _ (.tail _ (.head _))) i6a nl6a tkia 1 (wayOf x2) [] (by (first | exact Mine.ar81 hl2 | omega)) hdropa) rfl B F6 X N7 T0 rfl (by first | exact Mine.rm 0 hdp rfl (by decide) | exact Mine.rm 1 hdp rfl (by decide) | ktr_room) (by first | exact Mine.um 0 hun rfl (by decide) | exact Mine.um 3 hun rfl (by decide) | exact Mine.um 1 hun rfl (by decide) | exact Mine.um 4 hun rfl (by decide) | ktr_units) (by exact hgnb) ?_
  intro v nn h6b tk6b g6b hRt hg6b F8 N8
  refine hide fun PP hPP => ?_
  obtain ⟨tab, nl6b, tkib, i6b, ev1, hdropb, e⟩ := hRt
  refine hPP ?_
  clear hPP
  subst ev1
  rw [e, hfx] at N8
  clear e N7 F6 N6 Y1 hfa hfx
  refine ⟨h6b, g6b, tk6b, (wl, W.listOf #[.str (wayS (wayOf x1)) t1, .str (wayS (wayOf x2)) t2] nw) :: (L + 1, om) :: (pl, W.listOf #[] 0) :: (x5, instObj 80 dx5) :: (dx5, machD w k0 k1 k2 k3 k4 k5 f' pl) :: (al, W.listOf #[.int i6b tkib] nl6b) :: tl0, rfl, hg6b, F8, cb_drop N8 ?nb, ?ob, .head _, ?_⟩
  case nb =>
    repeat (first | exact List.forall_mem_nil _ | refine List.forall_mem_cons.mpr ⟨by k_mem, ?_⟩)
    all_goals (first | exact fun p hp => hp | (intro p hp; repeat (first | exact hp | refine List.mem_cons_of_mem _ ?_)))
  case ob =>
    refine List.forall_mem_cons.mpr ⟨OFFb.out _ (.head _), ?_⟩
    refine List.forall_mem_cons.mpr ⟨OFFb.out _ (.tail _ (.head _)), ?_⟩
    refine List.forall_mem_cons.mpr ⟨OFFb.out _ (.tail _ (.tail _ (.head _))), ?_⟩
    refine List.forall_mem_cons.mpr ⟨OFFb.out _ (.tail _ (.tail _ (.tail _ (.head _)))), ?_⟩
    refine List.forall_mem_cons.mpr ⟨OFFb.out _ (.tail _ (.tail _ (.tail _ (.tail _ (.head _))))), ?_⟩
    refine List.forall_mem_cons.mpr ⟨offal, ?_⟩
    exact fun p h => OFFb.out p (.tail _ (.tail _ (.tail _ (.tail _ (.tail _ (.tail _ h))))))
  clear F8 N8 offal
  intro Dz hz gz tkz hgz Fz Nz offz
  have OFFz := Hold.mk offz
  clear offz
  dsimp only [List.nil_append, List.cons_append] at Nz
  k_steps
  refine ⟨?_⟩
  rename News _ _ _ _ => Nq
  rename Fr h₀ L _ _ => Fq
  refine ne_strs (xs := [.str (wayS (wayOf x1)) taa, .str (wayS (wayOf x2)) tab]) (ys := [.str (wayS (wayOf x1)) t1, .str (wayS (wayOf x2)) t2]) (ns := [wayS (wayOf x1), wayS (wayOf x2)]) ⟨_, (Nq _ (.head _)).1, rfl, _, rfl⟩ ⟨_, (Nq _ (.tail _ (.head _))).1, rfl, _, rfl⟩ (.cons (.str _ _) (.cons (.str _ _) .nil)) (.cons (.str _ _) (.cons (.str _ _) .nil)) ?ok (by first | exact Mine.um 0 hun rfl (by decide) | exact Mine.um 3 hun rfl (by decide) | exact Mine.um 1 hun rfl (by decide) | exact Mine.um 4 hun rfl (by decide) | ktr_units) ?_
  case ok =>
    intro u hu
    simp only [List.mem_cons, List.not_mem_nil, or_false] at hu
    rcases hu with rfl | rfl
    · exact way_ok x1 hx1.2 hx1.1
    · exact way_ok x2 hx2.2 hx2.1
  have Nr := cb_drop (news := [(pl, W.listOf #[] 0), (x5, instObj 80 dx5), (dx5, machD w k0 k1 k2 k3 k4 k5 f' pl), (wl, W.listOf #[.str (wayS (wayOf x1)) t1, .str (wayS (wayOf x2)) t2] nw), (L + 1, om), (86, tabObj ps), (16, tabObj ps16), (23, tabObj #[])]) Nq (by
    refine List.forall_mem_cons.mpr ⟨by k_mem, List.forall_mem_cons.mpr ⟨by k_mem, List.forall_mem_cons.mpr ⟨by k_mem, List.forall_mem_cons.mpr ⟨by k_mem, List.forall_mem_cons.mpr ⟨by k_mem, List.forall_mem_cons.mpr ⟨?g1, List.forall_mem_cons.mpr ⟨?g2, List.forall_mem_cons.mpr ⟨?g3, List.forall_mem_nil _⟩⟩⟩⟩⟩⟩⟩⟩
    case g1 => repeat (first | exact HG.out.1 | refine List.Mem.tail _ ?_)
    case g2 => repeat (first | exact HG.out.2.2 | refine List.Mem.tail _ ?_)
    case g3 => repeat (first | exact HG.out.2.1 | refine List.Mem.tail _ ?_))
  clear Nq
  k_steps
  refine ⟨?_⟩
  refine wpAny_For ?_
  k_steps
  refine ⟨?_⟩
  rename News _ _ _ _ => Nq
  rename Fr h₀ L _ _ => Fq
  refine list_iter Fq Nq (.tail _ (.tail _ (.tail _ (.head _)))) ?_
  intro it hi oi ci di Fi Ni li
  have oit : @LT.lt Nat _ pl it := li _ (.head _)
  clear Fq Nq li
  refine for_loopQ (L3Inv1 w h₀ L wl pl x5 dx5 f' it nw t1 t2 k0 k1 k2 k3 k4 k5 x1 x2 om ps ps16 m₁ s.drawn s.os) ?_ 2 (.mk 2 (_) (_) (_) (oi) (m₁ (Str.ofString "word")) ([]) (0) (0) (hgz) (fr_map Fi ?_) (Ni) (ci) (di) (rfl) (trivial))
  rotate_left
  · exact chain_eq (m := m₁) (by repeat (first | refine Ag.cons (by first | rfl | assumption) ?_ | exact Ag.nil)) (by repeat (first | refine Ag.cons (by first | rfl | assumption) ?_ | exact Ag.nil))
  clear Fi Ni ci di
  rintro n _ QQ1 ⟨h, gn, tk, oi, vw, vs, np, j, hgn, F8, N8, ci, di, hjn, hvs⟩ KE1
  cases n with
  | zero =>
    have hj2 : j = 2 := by (first | exact Mine.ar38 hjn | omega)
    subst hj2
    refine list_end rfl F8 N8 (.tail _ (.tail _ (.tail _ (.head _)))) ci di rfl ?hoff ?_
    case hoff =>
      refine List.forall_mem_cons.mpr ⟨Nat.ne_of_lt (by (first | exact oit | omega)), ?_⟩
      refine List.forall_mem_cons.mpr ⟨Nat.ne_of_lt (by (first | exact Nat.lt_trans r3 oit | omega)), ?_⟩
      refine List.forall_mem_cons.mpr ⟨Nat.ne_of_lt (by (first | exact Nat.lt_trans r2 (Nat.lt_trans r3 oit) | omega)), ?_⟩
      refine List.forall_mem_cons.mpr ⟨Nat.ne_of_lt (by (first | exact Nat.lt_trans r0 (Nat.lt_trans r1 (Nat.lt_trans r2 (Nat.lt_trans r3 oit))) | omega)), ?_⟩
      refine List.forall_mem_cons.mpr ⟨Nat.ne_of_lt (by (first | exact Nat.lt_trans hwl (Nat.lt_trans r0 (Nat.lt_trans r1 (Nat.lt_trans r2 (Nat.lt_trans r3 oit)))) | omega)), ?_⟩
      refine List.forall_mem_cons.mpr ⟨Nat.ne_of_lt (by (first | exact Nat.lt_trans hlt (Nat.lt_trans (Nat.lt_succ_self _) (Nat.lt_trans hwl (Nat.lt_trans r0 (Nat.lt_trans r1 (Nat.lt_trans r2 (Nat.lt_trans r3 oit)))))) | omega)), ?_⟩
      refine List.forall_mem_cons.mpr ⟨Nat.ne_of_lt (by (first | exact Nat.lt_trans Mine.lit16_86 (Nat.lt_trans hlt (Nat.lt_trans (Nat.lt_succ_self _) (Nat.lt_trans hwl (Nat.lt_trans r0 (Nat.lt_trans r1 (Nat.lt_trans r2 (Nat.lt_trans r3 oit))))))) | omega)), ?_⟩
      refine List.forall_mem_cons.mpr ⟨Nat.ne_of_lt (by (first | exact Nat.lt_trans Mine.lit23_86 (Nat.lt_trans hlt (Nat.lt_trans (Nat.lt_succ_self _) (Nat.lt_trans hwl (Nat.lt_trans r0 (Nat.lt_trans r1 (Nat.lt_trans r2 (Nat.lt_trans r3 oit))))))) | omega)), ?_⟩
      exact List.forall_mem_nil _
    intro h6 F6 N6
    dsimp only
    have hz3 : ∃ tp1 tp2, vs = [.str (wayS (wayOf x1)) tp1, .str (wayS (wayOf x2)) tp2] := by
      match vs, hvs with
      | [v1, v2], hvs =>
        obtain ⟨⟨t1, rfl⟩, ⟨t2, rfl⟩, -⟩ := hvs
        exact ⟨t1, t2, rfl⟩
      | [], hvs => exact hvs.elim
      | [_], hvs => exact hvs.2.elim
      | _ :: _ :: _ :: _, hvs => exact hvs.2.2.elim
    obtain ⟨tp1, tp2, hvs2⟩ := hz3
    subst hvs2
    have N7 := cb_drop (news := [(wl, W.listOf #[.str (wayS (wayOf x1)) t1, .str (wayS (wayOf x2)) t2] nw), (L + 1, om), (pl, W.listOf #[.str (wayS (wayOf x1)) tp1, .str (wayS (wayOf x2)) tp2] np), (x5, instObj 80 dx5), (dx5, machD w k0 k1 k2 k3 k4 k5 f' pl), (86, tabObj ps), (16, tabObj ps16), (23, tabObj #[])]) N6 (by
      repeat (first | exact List.forall_mem_nil _ | refine List.forall_mem_cons.mpr ⟨by k_mem, ?_⟩)
      all_goals (first | exact fun p hp => hp | (intro p hp; repeat (first | exact hp | refine List.mem_cons_of_mem _ ?_))))
    have r01 : @LT.lt Nat _ wl dx5 := by (first | exact Nat.lt_trans r0 r1 | omega)
    exact law_rounds w p loose mean mg mb _ _ _ _ _ _ _ _ _ _ _ _ _ _ _ (by k_is) dp un gd base h₀ outer L wl nw t1 t2 x1 x2 om tp1 tp2 np pl x5 dx5 f' k0 k1 k2 k3 k4 k5 ps ps16 { heap := h6, gens := gn, drawn := s.drawn, toks := tk, os := s.os } _ _ _ B F6 X N7 hom T0 rfl hdp hun hgn hlt hwl r01 r2 r3 hx1 hx2 hret
  | succ n =>
    have hz4 : ∃ u t, (#[Value.str (wayS (wayOf x1)) t1, .str (wayS (wayOf x2)) t2] : Array Value)[j]? = some (.str (wayS u) t) ∧ [wayOf x1, wayOf x2].take (j + 1) = [wayOf x1, wayOf x2].take j ++ [u] := by
      rcases (show j = 0 ∨ j = 1 by (first | exact Mine.ar39 hjn | omega)) with rfl | rfl
      · exact ⟨_, _, rfl, rfl⟩
      · exact ⟨_, _, rfl, rfl⟩
    obtain ⟨u, t, hx, hu⟩ := hz4
    refine list_next F8 N8 (.tail _ (.tail _ (.tail _ (.head _)))) ci di hx ?hofg ?_
    case hofg =>
      refine List.forall_mem_cons.mpr ⟨Nat.ne_of_lt (by (first | exact oit | omega)), ?_⟩
      refine List.forall_mem_cons.mpr ⟨Nat.ne_of_lt (by (first | exact Nat.lt_trans r3 oit | omega)), ?_⟩
      refine List.forall_mem_cons.mpr ⟨Nat.ne_of_lt (by (first | exact Nat.lt_trans r2 (Nat.lt_trans r3 oit) | omega)), ?_⟩
      refine List.forall_mem_cons.mpr ⟨Nat.ne_of_lt (by (first | exact Nat.lt_trans r0 (Nat.lt_trans r1 (Nat.lt_trans r2 (Nat.lt_trans r3 oit))) | omega)), ?_⟩
      refine List.forall_mem_cons.mpr ⟨Nat.ne_of_lt (by (first | exact Nat.lt_trans hwl (Nat.lt_trans r0 (Nat.lt_trans r1 (Nat.lt_trans r2 (Nat.lt_trans r3 oit)))) | omega)), ?_⟩
      refine List.forall_mem_cons.mpr ⟨Nat.ne_of_lt (by (first | exact Nat.lt_trans hlt (Nat.lt_trans (Nat.lt_succ_self _) (Nat.lt_trans hwl (Nat.lt_trans r0 (Nat.lt_trans r1 (Nat.lt_trans r2 (Nat.lt_trans r3 oit)))))) | omega)), ?_⟩
      refine List.forall_mem_cons.mpr ⟨Nat.ne_of_lt (by (first | exact Nat.lt_trans Mine.lit16_86 (Nat.lt_trans hlt (Nat.lt_trans (Nat.lt_succ_self _) (Nat.lt_trans hwl (Nat.lt_trans r0 (Nat.lt_trans r1 (Nat.lt_trans r2 (Nat.lt_trans r3 oit))))))) | omega)), ?_⟩
      refine List.forall_mem_cons.mpr ⟨Nat.ne_of_lt (by (first | exact Nat.lt_trans Mine.lit23_86 (Nat.lt_trans hlt (Nat.lt_trans (Nat.lt_succ_self _) (Nat.lt_trans hwl (Nat.lt_trans r0 (Nat.lt_trans r1 (Nat.lt_trans r2 (Nat.lt_trans r3 oit))))))) | omega)), ?_⟩
      exact List.forall_mem_nil _
    intro h9 oi9 ci9 di9 F9 N9
    clear F8 N8 ci di hx
    dsimp only
    refine own_name ?_
    k_steps
    refine ⟨?_⟩
    rename News _ _ _ _ => Nq
    rename Fr h₀ L _ _ => Fq
    have hvl : vs.length ≤ 2 := by
      rw [hvs.length]
      simp
      (first | exact Mine.ar82 | omega)
    have Nr := cb_drop (news := (pl, W.listOf (List.toArray vs) np) :: (x5, instObj 80 dx5) :: (dx5, machD w k0 k1 k2 k3 k4 k5 f' pl) :: [(it, oi9), (wl, W.listOf #[.str (wayS (wayOf x1)) t1, .str (wayS (wayOf x2)) t2] nw), (L + 1, om), (86, tabObj ps), (16, tabObj ps16), (23, tabObj #[])]) Nq (by
      repeat (first | exact List.forall_mem_nil _ | refine List.forall_mem_cons.mpr ⟨by k_mem, ?_⟩)
      all_goals (first | exact fun p hp => hp | (intro p hp; repeat (first | exact hp | refine List.mem_cons_of_mem _ ?_))))
    refine Ct.app (push_ct w p loose mean mg mb (wayS u) t vs np (by (first | exact Mine.ar41 hvl | omega)) x5 dx5 pl f' k0 k1 k2 k3 k4 k5 _ r2 r3 ?hP) rfl B Fq X Nr T0 rfl (by first | exact Mine.rm 0 hdp rfl (by decide) | exact Mine.rm 1 hdp rfl (by decide) | ktr_room) (by first | exact Mine.um 0 hun rfl (by decide) | exact Mine.um 3 hun rfl (by decide) | exact Mine.um 1 hun rfl (by decide) | exact Mine.um 4 hun rfl (by decide) | ktr_units) (by exact hgn) ?_
    case hP =>
      refine List.forall_mem_cons.mpr ⟨Nat.ne_of_gt (by (first | exact oit | omega)), ?_⟩
      refine List.forall_mem_cons.mpr ⟨Nat.ne_of_lt (by (first | exact Nat.lt_trans r0 (Nat.lt_trans r1 (Nat.lt_trans r2 r3)) | omega)), ?_⟩
      refine List.forall_mem_cons.mpr ⟨Nat.ne_of_lt (by (first | exact Nat.lt_trans hwl (Nat.lt_trans r0 (Nat.lt_trans r1 (Nat.lt_trans r2 r3))) | omega)), ?_⟩
      refine List.forall_mem_cons.mpr ⟨Nat.ne_of_lt (by (first | exact Nat.lt_trans hlt (Nat.lt_trans (Nat.lt_succ_self _) (Nat.lt_trans hwl (Nat.lt_trans r0 (Nat.lt_trans r1 (Nat.lt_trans r2 r3))))) | omega)), ?_⟩
      refine List.forall_mem_cons.mpr ⟨Nat.ne_of_lt (by (first | exact Nat.lt_trans Mine.lit16_86 (Nat.lt_trans hlt (Nat.lt_trans (Nat.lt_succ_self _) (Nat.lt_trans hwl (Nat.lt_trans r0 (Nat.lt_trans r1 (Nat.lt_trans r2 r3)))))) | omega)), ?_⟩
      refine List.forall_mem_cons.mpr ⟨Nat.ne_of_lt (by (first | exact Nat.lt_trans Mine.lit23_86 (Nat.lt_trans hlt (Nat.lt_trans (Nat.lt_succ_self _) (Nat.lt_trans hwl (Nat.lt_trans r0 (Nat.lt_trans r1 (Nat.lt_trans r2 r3)))))) | omega)), ?_⟩
      exact List.forall_mem_nil _
    intro v nn h6 tk6 g6 hRt hg6 F6 N6
    refine hide fun PP hPP => ?_
    obtain ⟨t7, nl7, ev1, e⟩ := hRt
    refine hPP ?_
    clear hPP
    subst ev1
    rw [e] at N6
    clear e Nr Nq Fq
    k_steps
    try dsimp only
    rename News h₀ L _ _ => N7
    rename Fr h₀ L _ _ => F7
    refine KE1.nx (by first | exact .inl rfl | exact .inr rfl) (m := n) (Nat.lt_succ_self _) (.mk _ (_) (g6) (_) (oi9) (?vw) (vs ++ [.str (wayS u) t7]) (nl7) (j + 1) (hg6) (fr_map F7 ?eM) (cb_drop N7 ?nM) (ci9) (di9) (by (first | exact Mine.ar45 hjn | omega)) (by rw [hu]; exact hvs.snoc))
    case nM =>
      repeat (first | exact List.forall_mem_nil _ | refine List.forall_mem_cons.mpr ⟨by k_mem, ?_⟩)
      all_goals (first | exact fun p hp => hp | (intro p hp; repeat (first | exact hp | refine List.mem_cons_of_mem _ ?_)))
    case eM =>
      exact chain_eq (m := m₁) (by repeat (first | refine Ag.cons (by first | rfl | assumption) ?_ | exact Ag.nil)) (by repeat (first | refine Ag.cons (by first | rfl | assumption) ?_ | exact Ag.nil))
end
end Mine
end

-- part L2
section
open PySem PySem.W PyProof.Rows
set_option maxRecDepth 100000
set_option maxHeartbeats 8000000
namespace Mine

theorem off9 {a b c d e : Prop} (h : a ∧ b ∧ c ∧ d ∧ e) : a ∧ b ∧ c ∧ d ∧ e ∧ True := ⟨h.1, h.2.1, h.2.2.1, h.2.2.2.1, h.2.2.2.2, trivial⟩
section
local macro_rules | `(tactic| lcg_off) => `(tactic| exact off9 (by assumption))
local macro_rules | `(tactic| k_ne) => `(tactic| assumption)
local macro_rules | `(tactic| k_all) => `(tactic| assumption)
local macro_rules | `(tactic| walk_at "eval ListComp") => `(tactic| refine Hold.out ?_)
local macro_rules | `(tactic| walk_at "storeName") => `(tactic| refine Hold.out ?_)
local macro_rules | `(tactic| walk_at "call builtin:str.join") => `(tactic| refine Hold.out ?_)
local macro_rules | `(tactic| walk_at "call ref") => `(tactic| refine Hold.out ?_)
theorem law_rest (w : World) (p : Program) (loose : List Str) (mean : ExcName → Option Value) (mg mb : Str → Option Value) (oc : Value) (od : Option Addr) (name qual : Str) (params : Arguments) (body : List PySem.Stmt) (scope : Scope) (dV kV doc pm : Value) (an : Option Addr) (cdv ct : Value) (osl : Array (Option Value))
    (ho : (Mine.hd.heap_39 w.params).lookup 122 = some ⟨oc, od, .func (fnOf name qual params body scope dV kV doc pm an cdv ct), osl⟩)
    (dp un : Nat) (gd : Option (List PySem.Code)) (base h₀ : Heap) (outer : List Env) (L : Addr) (wl : Addr) (nw : Nat) (t1 t2 : Tok) (x1 x2 : Nat) (om : Obj) (tl : List (Addr × Obj)) (BB : Addr) (s : Shared) (Q : Flow → Shared → Prop) (E : Value → Shared → Prop) (m : Str → Option Value)
    (B : Below (kbase dp un gd outer) base outer h₀) (F : Fr h₀ L s.heap m) (X : (Mine.hd.heap_39 w.params).In h₀) (N : News h₀ L s.heap ((wl, W.listOf #[.str (wayS (wayOf x1)) t1, .str (wayS (wayOf x2)) t2] nw) :: (L + 1, om) :: (86, tabObj #[]) :: (23, tabObj #[]) :: tl)) (hom : om.data = .cell none)
    (T0 : Top p loose mean mg mb h₀) (hm : m (Str.ofString "words") = some (.ref wl)) (hdp : dp + 100 < recursionLimit) (hun : un + 600 < cLine) (hg : AllBare s.gens) (hlt : @LT.lt Nat _ 86 L) (hwl : @LT.lt Nat _ (L + 1) wl) (ht : T16 tl BB) (hBB : @LT.lt Nat _ wl BB)
    (hx1 : 1 ≤ x1 ∧ x1 < 128) (hx2 : 1 ≤ x2 ∧ x2 < 128)
    (hret : ∀ h' g' tk' m' ps1 ps2 ps3, AllBare g' → Fr h₀ L h' m' → News h₀ L h' [(86, tabObj ps1), (23, tabObj ps2), (16, tabObj ps3)] → Q (.ret (.bool true)) { heap := h', gens := g', drawn := s.drawn, toks := tk', os := s.os }) :
    wpAny (model PySem.Challenge.rw_to0007_01.row.prog w) ((kbase dp un gd outer).deeper (envOfC qual scope L 122 cdv)) (execs (body.drop 2) (envOfC qual scope L 122 cdv)) Q E s := by
  revert X ho; k_fill; intro ho X
  refine' lit_sub ho ?e ?_
  case e => k_is
  intro h
  injection h with h1 h2 h3 h4
  injection h3 with h3
  injection h3 with i1 i2 i3 i4 i5 i6 i7 i8 i9 i10 i11 i12 i13 i14
  injection i4 with i4
  clear ho
  subst i1 i2 i3 i4 i5 i13
  clear i6 i7 i8 i9 i10 i11 i12 i14 h1 h2 h4
  rename builtinsNs = 0 => i15
  clear i15
  simp only [List.drop_succ_cons, List.drop_zero]
  have C86 := code86 X
  have hz1 := ht.grown
  obtain ⟨ps16, h16⟩ := hz1
  have N0 := cb_drop (news := [(wl, W.listOf #[.str (wayS (wayOf x1)) t1, .str (wayS (wayOf x2)) t2] nw), (L + 1, om), (86, tabObj #[]), (23, tabObj #[]), (16, tabObj ps16)]) N (by
    intro p hp
    simp only [List.mem_cons, List.not_mem_nil, or_false] at hp ⊢
    rcases hp with h | h | h | h | h
    · exact .inl h
    · exact .inr (.inl h)
    · exact .inr (.inr (.inl h))
    · exact .inr (.inr (.inr (.inl h)))
    · rw [h]; exact .inr (.inr (.inr (.inr h16))))
  clear N h16
  refine fr_hide F fun m₁ hm₁ F₁ => ?_
  clear F
  have e1 : m₁ (Str.ofString "words") = some (.ref wl) := by rw [hm₁]; exact hm
  clear hm₁ hm
  have F₂ : Fr h₀ L s.heap (fun y => if y = Str.ofString "words" then some (Value.ref wl) else m₁ y) := fr_map F₁ (by
    exact chain_eq (m := m₁) (by repeat (first | refine Ag.cons (by first | rfl | assumption) ?_ | exact Ag.nil)) (by repeat (first | refine Ag.cons (by first | rfl | assumption) ?_ | exact Ag.nil)))
  clear F₁ e1
  have hl1 : (wayS (wayOf x1)).length ≤ 6 := by rw [wayS_length]; exact (blen_ok x1 hx1.2 hx1.1).2.2.2.2
  have hl2 : (wayS (wayOf x2)).length ≤ 6 := by rw [wayS_length]; exact (blen_ok x2 hx2.2 hx2.1).2.2.2.2
  have HX1 := Hold.mk hx1
  have HX2 := Hold.mk hx2
  clear hx1 hx2
  have hr1 := (enc_ok x1 HX1.out.2 HX1.out.1).1
  have hr2 := (enc_ok x2 HX2.out.2 HX2.out.1).1
  have he1 := (enc_ok x1 HX1.out.2 HX1.out.1).2
  have he2 := (enc_ok x2 HX2.out.2 HX2.out.1).2
  have hrl1 := rep_len x1 HX1.out.1 HX1.out.2
  have hrl2 := rep_len x2 HX2.out.1 HX2.out.2
  k_steps
  refine ⟨?_⟩
  k_dflt (refine LCg.ListComp_U (F₀ := by k_asm) (by with_unfolding_all rfl) (by decide) (by rfl) (by decide) (by rfl) ?_)
  k_dflt lcg_toSrc
  k_steps
  refine ⟨?_⟩
  rename News _ _ _ _ => N5
  refine join_list ⟨_, (N5 _ (.head _)).1, rfl, _, rfl⟩ (.cons _ _ (.cons _ _ .nil)) ?jl fun t7 k7 => ?_
  case jl =>
    simp only [List.map_cons, List.map_nil, List.sum_cons, List.sum_nil, List.length_cons, List.length_nil, PySem.Str.length_append, quote_is, blank_is]
    simp only [Str.length]
    simp only [Str.length] at hrl1 hrl2
    simp
    (first | exact Mine.ar83 hrl1 hrl2 | omega)
  rw [hr1, hr2]
  have hz2 : ∃ tx, tx = Txt.join (Str.ofString " ") [(Str.ofString "\"" ++ Str.mk (enc (wayOf x1)).toArray) ++ Str.ofString "\"", (Str.ofString "\"" ++ Str.mk (enc (wayOf x2)).toArray) ++ Str.ofString "\""] := ⟨_, rfl⟩
  obtain ⟨tx, htx⟩ := hz2
  have htl := text_list (enc (wayOf x1)) (enc (wayOf x2))
  rw [← htx] at htl ⊢
  clear htx hr1 hr2
  k_steps
  refine ⟨?_⟩
  rename News _ _ _ _ => N6
  rename Fr h₀ L _ _ => F6
  have htxl : tx.length ≤ 200 := by
    have e : tx.length = tx.cps.toList.length := by simp [Str.length]
    rw [e, htl]
    simp
    (first | exact Mine.ar84 he1 he2 | omega)
  have N7 := cb_drop (news := (86, tabObj #[]) :: [(wl, W.listOf #[.str (wayS (wayOf x1)) t1, .str (wayS (wayOf x2)) t2] nw), (L + 1, om), (23, tabObj #[]), (16, tabObj ps16)]) N6 (by
    repeat (first | exact List.forall_mem_nil _ | refine List.forall_mem_cons.mpr ⟨by k_mem, ?_⟩)
    all_goals (first | exact fun p hp => hp | (intro p hp; repeat (first | exact hp | refine List.mem_cons_of_mem _ ?_))))
  refine Ct.app (lexer_ct w p loose mean mg mb tx htxl _ _ ?lP) rfl B F6 X N7 T0 rfl (by first | exact Mine.rm 0 hdp rfl (by decide) | exact Mine.rm 1 hdp rfl (by decide) | ktr_room) (by first | exact Mine.um 0 hun rfl (by decide) | exact Mine.um 3 hun rfl (by decide) | exact Mine.um 1 hun rfl (by decide) | exact Mine.um 4 hun rfl (by decide) | ktr_units) (by exact hg) ?_
  case lP =>
    refine List.forall_mem_cons.mpr ⟨Nat.ne_of_gt (by (first | exact Nat.lt_trans hlt (Nat.lt_trans (Nat.lt_succ_self _) hwl) | omega)), ?_⟩
    refine List.forall_mem_cons.mpr ⟨Nat.ne_of_gt (by (first | exact Nat.lt_trans hlt (Nat.lt_succ_self _) | omega)), ?_⟩
    refine List.forall_mem_cons.mpr ⟨by show (23 : Nat) ≠ 86; decide, ?_⟩
    refine List.forall_mem_cons.mpr ⟨by show (16 : Nat) ≠ 86; decide, ?_⟩
    exact List.forall_mem_nil _
  clear N6 N7 F6
  intro _ _ h3 tk3 g3 hRt hg3 F3 N3
  refine hide fun PP hPP => ?_
  obtain ⟨pl, x5, dx5, D4, dO4, f', fo, fd, f1, al, core, k0, k1, k2, k3, k4, k5, tk0, ps, hfo1, hfo2, hfo3, hD4, hR, q1, q2, q3, q4, q5, hcr, hlo⟩ := hRt
  refine hPP ?_
  clear hPP
  have hz3 : ∃ tl0, tl0 = (D4, dO4) :: (f', fo) :: (core ++ [(86, tabObj ps), (23, tabObj #[]), (16, tabObj ps16)]) := ⟨_, rfl⟩
  obtain ⟨tl0, htl0⟩ := hz3
  have r1 : @LT.lt Nat _ (L + 1) al := (hlo (L + 1, om) (.tail _ (.tail _ (.head _)))).1
  have r2 : @LT.lt Nat _ wl al := (hlo (wl, _) (.tail _ (.head _))).1
  have a1 : @LT.lt Nat _ al f' := q1
  have a2 : @LT.lt Nat _ f' D4 := q2
  have a3 : @LT.lt Nat _ D4 dx5 := q3
  have a4 : @LT.lt Nat _ dx5 x5 := q4
  have a5 : @LT.lt Nat _ x5 pl := q5
  have hn : ∀ p ∈ tl0, p.1 ≠ L + 1 ∧ p.1 ≠ wl ∧ p.1 ≠ al ∧ p.1 < dx5 := by
    rw [htl0]
    intro p hp
    rcases List.mem_cons.mp hp with h | hp
    · rw [h]; exact ⟨Nat.ne_of_gt (by (first | exact Nat.lt_trans r1 (Nat.lt_trans a1 a2) | omega)), Nat.ne_of_gt (by (first | exact Nat.lt_trans r2 (Nat.lt_trans a1 a2) | omega)), Nat.ne_of_gt (by (first | exact Nat.lt_trans a1 a2 | omega)), q3⟩
    rcases List.mem_cons.mp hp with h | hp
    · rw [h]; exact ⟨Nat.ne_of_gt (by (first | exact Nat.lt_trans r1 a1 | omega)), Nat.ne_of_gt (by (first | exact Nat.lt_trans r2 a1 | omega)), Nat.ne_of_gt (by (first | exact a1 | omega)), Nat.lt_trans q2 q3⟩
    rcases List.mem_append.mp hp with hp | hp
    · have c1 := hcr p (List.mem_append_left _ hp)
      exact ⟨Nat.ne_of_gt ((hlo (L + 1, om) (.tail _ (.tail _ (.head _)))).2 p hp), Nat.ne_of_gt ((hlo (wl, _) (.tail _ (.head _))).2 p hp), c1.2.1, Nat.lt_trans c1.1 q3⟩
    · simp only [List.mem_cons, List.not_mem_nil, or_false] at hp
      have z1 : @LT.lt Nat _ 86 dx5 := by (first | exact Nat.lt_trans hlt (Nat.lt_trans (Nat.lt_succ_self _) (Nat.lt_trans r1 (Nat.lt_trans a1 (Nat.lt_trans a2 a3)))) | omega)
      have z2 : @LT.lt Nat _ 23 dx5 := by (first | exact Nat.lt_trans Mine.lit23_86 z1 | omega)
      have z3 : @LT.lt Nat _ 16 dx5 := by (first | exact Nat.lt_trans Mine.lit16_23 z2 | omega)
      rcases hp with h | h | h
      · rw [h]; exact ⟨Nat.ne_of_lt (by (first | exact Nat.lt_trans hlt (Nat.lt_succ_self _) | omega)), Nat.ne_of_lt (by (first | exact Nat.lt_trans hlt (Nat.lt_trans (Nat.lt_succ_self _) hwl) | omega)), Nat.ne_of_lt (by (first | exact Nat.lt_trans hlt (Nat.lt_trans (Nat.lt_succ_self _) r1) | omega)), z1⟩
      · rw [h]; exact ⟨Nat.ne_of_lt (by (first | exact Nat.lt_trans Mine.lit23_86 (Nat.lt_trans hlt (Nat.lt_succ_self _)) | omega)), Nat.ne_of_lt (by (first | exact Nat.lt_trans Mine.lit23_86 (Nat.lt_trans hlt (Nat.lt_trans (Nat.lt_succ_self _) hwl)) | omega)), Nat.ne_of_lt (by (first | exact Nat.lt_trans Mine.lit23_86 (Nat.lt_trans hlt (Nat.lt_trans (Nat.lt_succ_self _) r1)) | omega)), z2⟩
      · rw [h]; exact ⟨Nat.ne_of_lt (by (first | exact Nat.lt_trans Mine.lit16_86 (Nat.lt_trans hlt (Nat.lt_succ_self _)) | omega)), Nat.ne_of_lt (by (first | exact Nat.lt_trans Mine.lit16_86 (Nat.lt_trans hlt (Nat.lt_trans (Nat.lt_succ_self _) hwl)) | omega)), Nat.ne_of_lt (by (first | exact Nat.lt_trans Mine.lit16_86 (Nat.lt_trans hlt (Nat.lt_trans (Nat.lt_succ_self _) r1)) | omega)), z3⟩
  have hn1 : ∀ p ∈ tl0, p.1 ≠ L + 1 := fun p hp => (hn p hp).1
  have NB := cb_drop (news := (wl, W.listOf #[.str (wayS (wayOf x1)) t1, .str (wayS (wayOf x2)) t2] nw) :: (L + 1, om) :: (pl, W.listOf #[] 0) :: (x5, instObj 80 dx5) :: (dx5, machD w k0 k1 k2 k3 k4 k5 f' pl) :: (al, W.listOf #[.int 0 tk0] 0) :: tl0) N3 (by
    rw [htl0]
    repeat' (first | exact List.forall_mem_nil _ | refine List.forall_mem_cons.mpr ⟨by first | k_mem | (repeat (first | exact List.Mem.head _ | refine List.Mem.tail _ ?_ | refine List.mem_append_right _ ?_)), ?_⟩ | refine List.forall_mem_append.mpr ⟨?_, ?_⟩)
    all_goals (first | exact fun p hp => hp | (intro p hp; repeat (first | exact hp | exact List.mem_append_left _ hp | exact List.mem_append_right _ hp | refine List.mem_cons_of_mem _ ?_))))
  have Y0 : (∀ p ∈ core, p ∈ tl0) ∧ (f', fo) ∈ tl0 ∧ (D4, dO4) ∈ tl0 := by
    rw [htl0]
    exact ⟨fun p hp => .tail _ (.tail _ (List.mem_append_left _ hp)), .tail _ (.head _), .head _⟩
  have G0 : (86, tabObj ps) ∈ tl0 ∧ (23, tabObj #[]) ∈ tl0 ∧ (16, tabObj ps16) ∈ tl0 := by
    rw [htl0]
    exact ⟨.tail _ (.tail _ (List.mem_append_right _ (.head _))), .tail _ (.tail _ (List.mem_append_right _ (.tail _ (.head _)))), .tail _ (.tail _ (List.mem_append_right _ (.tail _ (.tail _ (.head _)))))⟩
  clear N3 htl0 hcr hlo q1 q2 q3 q4 q5
  have HN := Hold.mk hn
  have HR := Hold.mk hR
  have HD := Hold.mk hD4
  have HY := Hold.mk Y0
  have HG := Hold.mk G0
  clear hn hR hD4 Y0 G0
  k_steps
  refine ⟨?_⟩
  have u1 : wl ≠ L + 1 := Nat.ne_of_gt hwl
  have u2 : pl ≠ L + 1 := Nat.ne_of_gt (Nat.lt_trans (Nat.lt_trans r1 (Nat.lt_trans a1 a2)) (Nat.lt_trans a3 (Nat.lt_trans a4 a5)))
  have u3 : x5 ≠ L + 1 := Nat.ne_of_gt (Nat.lt_trans (Nat.lt_trans r1 (Nat.lt_trans a1 a2)) (Nat.lt_trans a3 a4))
  have u4 : dx5 ≠ L + 1 := Nat.ne_of_gt (Nat.lt_trans (Nat.lt_trans r1 (Nat.lt_trans a1 a2)) a3)
  have u5 : al ≠ L + 1 := Nat.ne_of_gt r1
  k_dflt (refine' storeX_C ?F ?N ?c ?U ?d ?_ ?a ?b; (case a => rfl); (case b => rfl); (case F => k_asm); (case N => k_asm); (case c => rfl); (case U => k_updF); (case d => k_asm))
  intro h9 om2 F9 N9 dom
  dsimp only at N9 ⊢
  have YL : ∀ fix, (∀ p ∈ tl0, p ∈ fix) → (x5, instObj 80 dx5) ∈ fix → (dx5, machD w k0 k1 k2 k3 k4 k5 f' pl) ∈ fix → (∀ p ∈ fix, p.1 ≠ al) → Lx w p loose mean mg mb tx x5 dx5 pl k0 k1 k2 k3 k4 k5 f' al fix :=
    fun fix h1 h2 h3 h4 => ⟨⟨f1, core, D4, fo, dO4, fd, HR.out, hfo1, hfo2, hfo3, HD.out, fun p hp => h1 p (HY.out.1 p hp), h1 _ HY.out.2.1, h1 _ HY.out.2.2⟩, h2, h3, h4, htxl⟩
  have r3 : @LT.lt Nat _ al dx5 := by (first | exact Nat.lt_trans a1 (Nat.lt_trans a2 a3) | omega)
  exact law_mach w p loose mean mg mb _ _ _ _ _ _ _ _ _ _ _ _ _ _ _ (by k_is) dp un gd base h₀ outer L wl nw t1 t2 x1 x2 om2 pl x5 dx5 f' al k0 k1 k2 k3 k4 k5 tk0 ps ps16 tx tl0 { heap := h9, gens := g3, drawn := s.drawn, toks := _, os := s.os } _ _ _ B F9 X N9 dom YL HN.out HG.out htl T0 rfl hdp hun hg3 hlt hwl r2 r3 a4 a5 HX1.out HX2.out hret
end
end Mine
end

-- part L1
section
open PySem PySem.W PyProof.Rows
set_option maxRecDepth 100000
set_option maxHeartbeats 8000000
namespace Mine

theorem slice3_ints {prog : Program} {w : World} {A : Around} {E : Value → Shared → Prop} {s : Shared} {h₀ : Heap} {L l : Addr} {m : Str → Option Value} {news : List (Addr × Obj)} {value slice : PySem.Expr} {vs : List Value} {ns : List Int} {vl vu vk : Value} {lo hi st : Option Int} {ops : List Value} {Q : Value → Shared → Prop}
    (F : Fr h₀ L s.heap m) (N : News h₀ L s.heap news) (hl : s.heap.IsList l vs.toArray) (pl : IsPart vl lo) (pu : IsPart vu hi) (pk : IsPart vk st) (h0 : st ≠ some 0) (hi' : IntsAre vs ns) (hc : ns.length ≤ 63)
    (h : ∀ D ws ms h', Fr h₀ L h' m → News h₀ L h' ((D, W.listOf (List.toArray ws) 0) :: news) → (∀ p ∈ news, p.1 < D) → IntsAre ws ms → ms.length ≤ 63 → Q (.ref D) { s with heap := h' })
    (hs : subscripted slice false (.ref l) (.ref s.heap.objs.size) = operate ops (getItem (.ref l) (.ref s.heap.objs.size))) (ht : ∀ r, letTemporaryGo value (.ref l) r = pure ()) :
    wpAny (model prog w) A (subscriptTail value slice (.ref l) (.ref s.heap.objs.size)) Q E { s with heap := s.heap.push { cls := .type "slice", data := .fields #[vl, vu, vk] } } := by
  have hle : (slicePick vs.toArray lo hi st).toList.length ≤ 63 := by
    have q := slicePick_size_le vs.toArray lo hi st
    have q2 : vs.toArray.size = ns.length := by rw [List.size_toArray, hi'.length]
    rw [Array.length_toList]
    (first | exact Mine.ar60 hc q q2 | omega)
  refine kmk_slice3_lit F N hl pl pu pk h0 rfl (fun D h' F' N' l1 => h D (slicePick vs.toArray lo hi st).toList _ h' F' N' l1 (hi'.pick lo hi st) ?_) hs ht (Nat.le_trans (show vs.toArray.size ≤ 63 by rw [List.size_toArray, hi'.length]; exact hc) (show 63 ≤ sizeLine by decide +kernel))
  have q3 := (hi'.pick lo hi st).length
  (first | exact Mine.ar61 hle q3 | omega)
inductive L1Inv1 (h₀ : Heap) (L : Addr) (wl : Addr) (it : Addr) (en : Addr) (tp : Addr) (sa : Addr) (tk0 : Tok) (om : Obj) (m₁ : Str → Option Value) (dr : Drawn) (os : OsState) : Nat → Shared → Prop
  | mk (n : Nat) (h : Heap) (gn : Array GenState) (tk' : Nat) (old : Value) (oi : Obj) (vk : Option Value) (vb : Option Value) (vp : Option Value) (vd : Option Value) (vs : List Value) (us : List Way) (nw : Nat) (tl : List (Addr × Obj)) (j : Nat) : (AllBare gn) → (Fr h₀ L h (fun y => if y = Str.ofString "words" then some (Value.ref wl) else if y = Str.ofString "script" then some (Value.ref sa) else if y = Str.ofString "k" then vk else if y = Str.ofString "base" then vb else if y = Str.ofString "place" then vp else if y = Str.ofString "digits" then vd else m₁ y)) → (News h₀ L h ((en, etO it (j : Nat) old) :: (it, oi) :: (tp, { cls := .type "tuple", data := .seq #[.int 41 tk0, .int 22 (tk0 + 1)] }) :: (wl, W.listOf vs.toArray nw) :: (L + 1, om) :: (86, tabObj #[]) :: (23, tabObj #[]) :: tl)) → (oi.cls = .type "tuple_iterator") → (oi.data = .fields #[.ref tp, .int (j : Nat) 0]) → (WaysAre vs us) → (T16 tl en) → (j + n = 2) → (vs.length = j) → (Hold (∀ u ∈ us, ∃ x : Nat, 1 ≤ x ∧ x < 128 ∧ u = wayOf x)) → L1Inv1 h₀ L wl it en tp sa tk0 om m₁ dr os n { heap := h, gens := gn, drawn := dr, toks := tk', os := os }
theorem outS {prog : Program} {w : World} {A : Around} {v st : PySem.Expr} {lo hi p} {a b : Addr} {Q : Value → Shared → Prop} {E : Value → Shared → Prop} {s : Shared}
    (h : Hold (wpAny (model prog w) A (subscriptTail v (PySem.Expr.Slice lo hi (some st) p) (Value.ref a) (Value.ref b)) Q E s)) :
    wpAny (model prog w) A (subscriptTail v (PySem.Expr.Slice lo hi (some st) p) (Value.ref a) (Value.ref b)) Q E s := h.out
section
local macro_rules | `(tactic| walk_at "subscriptTail Name Slice ref ref") => `(tactic| refine outS ?_)
local macro_rules | `(tactic| walk_at "eval ListComp") => `(tactic| refine Hold.out ?_)
local macro_rules | `(tactic| walk_at "call builtin:str.join") => `(tactic| refine Hold.out ?_)
local macro_rules | `(tactic| walk_at "call builtin:list.append") => `(tactic| refine Hold.out ?_)
local macro_rules | `(tactic| walk_at "call type:reversed") => `(tactic| refine Hold.out ?_)
local macro_rules | `(tactic| walk_at "call ref") => `(tactic| refine Hold.out ?_)
local macro_rules | `(tactic| walk_at "call type:enumerate") => `(tactic| refine Hold.out ?_)
local macro_rules | `(tactic| walk_at "exec For Tuple Call cons nil") => `(tactic| refine Hold.out ?_)
local macro_rules | `(tactic| walk_at "exec For Name Name cons nil") => `(tactic| refine Hold.out ?_)
theorem law_run (w : World) (p : Program) (loose : List Str) (mean : ExcName → Option Value) (mg mb : Str → Option Value) (oc : Value) (od : Option Addr) (name qual : Str) (params : Arguments) (body : List PySem.Stmt) (scope : Scope) (dV kV doc pm : Value) (an : Option Addr) (cdv ct : Value) (osl : Array (Option Value))
    (ho : (Mine.hd.heap_39 w.params).lookup 122 = some ⟨oc, od, .func (fnOf name qual params body scope dV kV doc pm an cdv ct), osl⟩)
    (dp un : Nat) (gd : Option (List PySem.Code)) (base h₀ : Heap) (outer : List Env) (L : Addr) (sa : Addr) (om : Obj) (its : List Value) (zs : List Int) (s : Shared) (Q : Flow → Shared → Prop) (E : Value → Shared → Prop) (m : Str → Option Value)
    (B : Below (kbase dp un gd outer) base outer h₀) (F : Fr h₀ L s.heap m) (X : (Mine.hd.heap_39 w.params).In h₀) (N : News h₀ L s.heap [(L + 1, om), (86, tabObj #[]), (23, tabObj #[]), (16, tabObj #[])]) (hom : om.data = .cell none)
    (T0 : Top p loose mean mg mb h₀) (hm : m (Str.ofString "script") = some (.ref sa)) (hL : h₀.IsList sa its.toArray) (hI : IntsAre its zs) (hz : zs.length ≤ 63) (hdp : dp + 100 < recursionLimit) (hun : un + 600 < cLine) (hg : AllBare s.gens) (hlt : @LT.lt Nat _ 86 L)
    (hret : ∀ h' g' tk' m' ps1 ps2 ps3, AllBare g' → Fr h₀ L h' m' → News h₀ L h' [(86, tabObj ps1), (23, tabObj ps2), (16, tabObj ps3)] → Q (.ret (.bool true)) { heap := h', gens := g', drawn := s.drawn, toks := tk', os := s.os }) :
    wpAny (model PySem.Challenge.rw_to0007_01.row.prog w) ((kbase dp un gd outer).deeper (envOfC qual scope L 122 cdv)) (execs body (envOfC qual scope L 122 cdv)) Q E s := by
  revert X ho; k_fill; intro ho X
  refine' lit_sub ho ?e ?_
  case e => k_is
  intro h
  injection h with h1 h2 h3 h4
  injection h3 with h3
  injection h3 with i1 i2 i3 i4 i5 i6 i7 i8 i9 i10 i11 i12 i13 i14
  injection i4 with i4
  clear ho
  subst i1 i2 i3 i4 i5 i13
  clear i6 i7 i8 i9 i10 i11 i12 i14 h1 h2 h4
  rename builtinsNs = 0 => i15
  clear i15
  refine fr_hide F fun m₁ hm₁ F₁ => ?_
  clear F
  have e1 : m₁ (Str.ofString "script") = some (.ref sa) := by rw [hm₁]; exact hm
  clear hm₁ hm
  k_steps
  refine ⟨?_⟩
  refine wpAny_For ?_
  k_steps
  refine ⟨?_⟩
  rename_i wl h1 lw h2 tp h3 F3 N3 lt
  obtain ⟨tk0, htk0⟩ : ∃ tk0, tk0 = tk := ⟨_, rfl⟩
  rw [← htk0] at N3
  clear htk0
  refine enum_call F3 N3 (.head _) rfl rfl ?_
  intro en it h4 oi F4 N4 ci di l1 l2
  refine wpAny_pyIter_enum (N4 _ (.head _)).1 ?_
  have o1 : @LT.lt Nat _ wl tp := by (first | exact lt.1 | omega)
  have o2 : @LT.lt Nat _ tp it := l2 _ (.head _)
  have o3 : @LT.lt Nat _ it en := l1
  have o4 : @LT.lt Nat _ (L + 1) wl := by (first | exact lw.1 | omega)
  clear lw lt F3 N3 l1 l2
  refine for_loop (L1Inv1 h₀ L wl it en tp sa tk0 om m₁ s.drawn s.os) ?_ 2 (.mk 2 (_) (_) (_) (_) (oi) (m₁ (Str.ofString "k")) (m₁ (Str.ofString "base")) (m₁ (Str.ofString "place")) (m₁ (Str.ofString "digits")) ([]) ([]) (0) ([(16, tabObj #[])]) (0) (hg) (fr_map F4 ?_) (N4) (ci) (di) (trivial) (.inl rfl) (rfl) (rfl) (⟨fun u hu => nomatch hu⟩))
  rotate_left
  · exact chain_eq (m := m₁) (by repeat (first | refine Ag.cons (by first | rfl | assumption) ?_ | exact Ag.nil)) (by repeat (first | refine Ag.cons (by first | rfl | assumption) ?_ | exact Ag.nil))
  clear F4 N4 ci di
  rintro n _ ⟨h, gn, tk', old, oi, vk, vb, vp, vd, vs, us, nw, tl, j, hgn, F5, N5, ci, di, hvs, ht16, hjn, hvl, hus⟩
  cases n with
  | zero =>
    refine enum_end rfl F5 N5 ci di rfl rfl ?z1 ?z2 ?z3 ?_
    case z1 => simpa using hjn
    case z2 => exact Nat.ne_of_lt o2
    case z3 =>
      refine List.forall_mem_cons.mpr ⟨Nat.ne_of_lt (by (first | exact Nat.lt_trans o1 o2 | omega)), ?_⟩
      refine List.forall_mem_cons.mpr ⟨Nat.ne_of_lt (by (first | exact Nat.lt_trans o4 (Nat.lt_trans o1 o2) | omega)), ?_⟩
      refine List.forall_mem_cons.mpr ⟨Nat.ne_of_lt (by (first | exact Nat.lt_trans hlt (Nat.lt_trans (Nat.lt_succ_self _) (Nat.lt_trans o4 (Nat.lt_trans o1 o2))) | omega)), ?_⟩
      refine List.forall_mem_cons.mpr ⟨Nat.ne_of_lt (by (first | exact Nat.lt_trans Mine.lit23_86 (Nat.lt_trans hlt (Nat.lt_trans (Nat.lt_succ_self _) (Nat.lt_trans o4 (Nat.lt_trans o1 o2)))) | omega)), ?_⟩
      exact fun p h => ht16.ne (by (first | exact Nat.lt_trans Mine.lit16_86 (Nat.lt_trans hlt (Nat.lt_trans (Nat.lt_succ_self _) (Nat.lt_trans o4 (Nat.lt_trans o1 o2)))) | omega)) (by (first | exact Nat.le_of_lt (o3) | omega)) p h
    intro h6 F6 N6
    dsimp only
    obtain ⟨x1, x2, t1, t2, hq1, hq2, hvs2⟩ : ∃ x1 x2 : Nat, ∃ t1 t2, (1 ≤ x1 ∧ x1 < 128) ∧ (1 ≤ x2 ∧ x2 < 128) ∧ vs = [.str (wayS (wayOf x1)) t1, .str (wayS (wayOf x2)) t2] := by
      match vs, us, hvs, hvl, hus with
      | [v1, v2], [u1, u2], hvs, _, hus =>
        obtain ⟨⟨t1, rfl⟩, ⟨t2, rfl⟩, -⟩ := hvs
        obtain ⟨x1, a1, a2, rfl⟩ := hus.out u1 (.head _)
        obtain ⟨x2, b1, b2, rfl⟩ := hus.out u2 (.tail _ (.head _))
        exact ⟨x1, x2, t1, t2, ⟨a1, a2⟩, ⟨b1, b2⟩, rfl⟩
      | [], _, _, hvl, _ => simp at hvl; (first | exact Mine.ar62 hjn hvl | omega)
      | [_], _, _, hvl, _ => simp at hvl; (first | exact Mine.ar63 hjn hvl | omega)
      | _ :: _ :: _ :: _, _, _, hvl, _ => simp at hvl; (first | exact Mine.ar64 hjn hvl | omega)
      | [_, _], [], hvs, _, _ => exact hvs.elim
      | [_, _], [_], hvs, _, _ => exact hvs.2.elim
      | [_, _], _ :: _ :: _ :: _, hvs, _, _ => exact hvs.2.2.elim
    subst hvs2
    exact law_rest w p loose mean mg mb _ _ _ _ _ _ _ _ _ _ _ _ _ _ _ (by k_is) dp un gd base h₀ outer L wl nw t1 t2 x1 x2 om tl en { heap := h6, gens := gn, drawn := s.drawn, toks := tk', os := s.os } _ _ _ B F6 X N6 hom T0 rfl hdp hun hgn hlt o4 ht16 (by (first | exact Nat.lt_trans o1 (Nat.lt_trans o2 o3) | omega)) hq1 hq2 hret
  | succ n =>
    obtain ⟨x, hx, hxb⟩ : ∃ x, (#[Value.int 41 tk0, Value.int 22 (tk0 + 1)] : Array Value)[j]? = some x ∧ ∃ b t, x = .int b t := by
      rcases (show j = 0 ∨ j = 1 by (first | exact Mine.ar39 hjn | omega)) with rfl | rfl
      · exact ⟨_, rfl, _, _, rfl⟩
      · exact ⟨_, rfl, _, _, rfl⟩
    obtain ⟨b, tb, rfl⟩ := hxb
    refine enum_next rfl F5 N5 ci di rfl rfl hx ?q1 ?q2 ?q3 ?q4 ?q5 ?_
    case q1 => exact Nat.ne_of_gt o3
    case q2 => exact Nat.ne_of_lt o2
    case q3 => exact Nat.ne_of_lt (by (first | exact Nat.lt_trans o2 o3 | omega))
    case q4 =>
      refine List.forall_mem_cons.mpr ⟨Nat.ne_of_lt (by (first | exact Nat.lt_trans o1 (Nat.lt_trans o2 o3) | omega)), ?_⟩
      refine List.forall_mem_cons.mpr ⟨Nat.ne_of_lt (by (first | exact Nat.lt_trans o4 (Nat.lt_trans o1 (Nat.lt_trans o2 o3)) | omega)), ?_⟩
      refine List.forall_mem_cons.mpr ⟨Nat.ne_of_lt (by (first | exact Nat.lt_trans hlt (Nat.lt_trans (Nat.lt_succ_self _) (Nat.lt_trans o4 (Nat.lt_trans o1 (Nat.lt_trans o2 o3)))) | omega)), ?_⟩
      refine List.forall_mem_cons.mpr ⟨Nat.ne_of_lt (by (first | exact Nat.lt_trans Mine.lit23_86 (Nat.lt_trans hlt (Nat.lt_trans (Nat.lt_succ_self _) (Nat.lt_trans o4 (Nat.lt_trans o1 (Nat.lt_trans o2 o3))))) | omega)), ?_⟩
      exact fun p h => ht16.ne (by (first | exact Nat.lt_trans Mine.lit16_86 (Nat.lt_trans hlt (Nat.lt_trans (Nat.lt_succ_self _) (Nat.lt_trans o4 (Nat.lt_trans o1 (Nat.lt_trans o2 o3))))) | omega)) (Nat.le_refl _) p h
    case q5 =>
      refine List.forall_mem_cons.mpr ⟨Nat.ne_of_lt (by (first | exact Nat.lt_trans o1 o2 | omega)), ?_⟩
      refine List.forall_mem_cons.mpr ⟨Nat.ne_of_lt (by (first | exact Nat.lt_trans o4 (Nat.lt_trans o1 o2) | omega)), ?_⟩
      refine List.forall_mem_cons.mpr ⟨Nat.ne_of_lt (by (first | exact Nat.lt_trans hlt (Nat.lt_trans (Nat.lt_succ_self _) (Nat.lt_trans o4 (Nat.lt_trans o1 o2))) | omega)), ?_⟩
      refine List.forall_mem_cons.mpr ⟨Nat.ne_of_lt (by (first | exact Nat.lt_trans Mine.lit23_86 (Nat.lt_trans hlt (Nat.lt_trans (Nat.lt_succ_self _) (Nat.lt_trans o4 (Nat.lt_trans o1 o2)))) | omega)), ?_⟩
      exact fun p h => ht16.ne (by (first | exact Nat.lt_trans Mine.lit16_86 (Nat.lt_trans hlt (Nat.lt_trans (Nat.lt_succ_self _) (Nat.lt_trans o4 (Nat.lt_trans o1 o2)))) | omega)) (by (first | exact Nat.le_of_lt (o3) | omega)) p h
    intro T h6 tk6 oi6 tk7 ci6 di6 F6 N6 lT lL
    dsimp only
    refine enum_own (pre := [(T, etP j tk6 (.int b tb))]) F6 N6 ?_ ?_ ?_
    · intro p hp
      rw [List.mem_singleton.mp hp]
      exact Nat.ne_of_gt (lT _ (.head _))
    · refine List.forall_mem_cons.mpr ⟨Nat.ne_of_lt (by (first | exact o3 | omega)), ?_⟩
      refine List.forall_mem_cons.mpr ⟨Nat.ne_of_lt (by (first | exact Nat.lt_trans o2 o3 | omega)), ?_⟩
      refine List.forall_mem_cons.mpr ⟨Nat.ne_of_lt (by (first | exact Nat.lt_trans o1 (Nat.lt_trans o2 o3) | omega)), ?_⟩
      refine List.forall_mem_cons.mpr ⟨Nat.ne_of_lt (by (first | exact Nat.lt_trans o4 (Nat.lt_trans o1 (Nat.lt_trans o2 o3)) | omega)), ?_⟩
      refine List.forall_mem_cons.mpr ⟨Nat.ne_of_lt (by (first | exact Nat.lt_trans hlt (Nat.lt_trans (Nat.lt_succ_self _) (Nat.lt_trans o4 (Nat.lt_trans o1 (Nat.lt_trans o2 o3)))) | omega)), ?_⟩
      refine List.forall_mem_cons.mpr ⟨Nat.ne_of_lt (by (first | exact Nat.lt_trans Mine.lit23_86 (Nat.lt_trans hlt (Nat.lt_trans (Nat.lt_succ_self _) (Nat.lt_trans o4 (Nat.lt_trans o1 (Nat.lt_trans o2 o3))))) | omega)), ?_⟩
      exact fun p h => ht16.ne (by (first | exact Nat.lt_trans Mine.lit16_86 (Nat.lt_trans hlt (Nat.lt_trans (Nat.lt_succ_self _) (Nat.lt_trans o4 (Nat.lt_trans o1 (Nat.lt_trans o2 o3))))) | omega)) (Nat.le_refl _) p h
    intro h7 F7 N7
    k_steps
    refine ⟨?_⟩
    k_dflt (refine LCg.ListComp_U (F₀ := by k_asm) (by with_unfolding_all rfl) (by decide) (by rfl) (by decide) (by rfl) ?_)
    k_steps
    refine ⟨?_⟩
    k_dflt (refine' slice3_ints ?w9F ?w9N ?w9l ?w9p ?w9q ?w9k ?w9o ?w9i ?w9z ?_ ?w9s ?w9t; (case w9F => k_asm); (case w9N => k_asm); (case w9l => kmk_list); (case w9p => kmk_part); (case w9q => kmk_part); (case w9k => kmk_part); (case w9o => decide); (case w9i => assumption); (case w9z => assumption); (case w9s => with_unfolding_all rfl); (case w9t => kmk_pure))
    intro D' ws' ms' h' F' N' l1 hI' hc'
    (try k_lt l1)
    k_steps
    refine ⟨?_⟩
    rename News _ _ _ _ => N8
    rename Fr h₀ L _ _ => F8
    generalize hz : 1 + (b + _).fmod 127 = z at F8 ⊢
    obtain ⟨x, hx1, hx2⟩ : ∃ x : Nat, z = x ∧ 1 ≤ x ∧ x < 128 := by
      rw [← hz]
      generalize b + _ = q
      rw [Int.fmod_eq_emod_of_nonneg _ (by decide)]
      have h1 := Int.emod_nonneg q (show (127 : Int) ≠ 0 by decide)
      have h2 := Int.emod_lt_of_pos q (show (0 : Int) < 127 by decide)
      exact ⟨(1 + q % 127).toNat, by (first | exact Mine.ar65 | omega), by (first | exact Mine.ar66 | omega), by (first | exact Mine.ar67 | omega)⟩
    clear hz
    subst hx1
    obtain ⟨g1, g2, g3, g4, g5⟩ := blen_ok x hx2.2 hx2.1
    obtain ⟨rest, hrest⟩ : ∃ rest, rest = [(wl, W.listOf vs.toArray nw), (L + 1, om), (86, tabObj #[]), (23, tabObj #[]), (en, etO it ((j + 1 : Nat) : Int) (.int b tb)), (it, oi6), (tp, ({ cls := .type "tuple", data := .seq #[.int 41 tk0, .int 22 (tk0 + 1)] } : Obj))] := ⟨_, rfl⟩
    have N9 := cb_drop (news := tl ++ rest) N8 (by
      intro p hp
      rw [hrest] at hp
      rcases List.mem_append.mp hp with hp | hp
      · exact .tail _ (.tail _ (.tail _ (.tail _ (.tail _ (.tail _ (.tail _ (.tail _ (.tail _ (.tail _ hp)))))))))
      · simp only [List.mem_cons, List.not_mem_nil, or_false] at hp ⊢
        rcases hp with h | h | h | h | h | h | h <;> simp only [h, true_or, or_true])
    have Hx := Hold.mk hx2
    have G3 := Hold.mk g3
    refine Ct.app (i2d_any w p loose mean mg mb x (blen x) (by (first | exact Mine.ar68 hx2 | omega)) g1 g2 g3 g4 _ _ rest tl ?rP en _ (by rw [hrest]; exact .tail _ (.tail _ (.tail _ (.tail _ (.head _))))) (by (first | exact Nat.lt_trans Mine.lit16_86 (Nat.lt_trans hlt (Nat.lt_trans (Nat.lt_succ_self _) (Nat.lt_trans o4 (Nat.lt_trans o1 (Nat.lt_trans o2 o3))))) | omega)) ht16) rfl B F8 X N9 T0 rfl (by first | exact Mine.rm 0 hdp rfl (by decide) | exact Mine.rm 1 hdp rfl (by decide) | ktr_room) (by first | exact Mine.um 0 hun rfl (by decide) | exact Mine.um 3 hun rfl (by decide) | exact Mine.um 1 hun rfl (by decide) | exact Mine.um 4 hun rfl (by decide) | ktr_units) (by exact hgn) ?_
    case rP =>
      rw [hrest]
      intro p hp
      simp only [List.mem_cons, List.not_mem_nil, or_false] at hp
      rcases hp with h | h | h | h | h | h | h <;> rw [h] <;> first | exact Nat.ne_of_gt (by (first | exact Nat.lt_trans Mine.lit16_86 (Nat.lt_trans hlt (Nat.lt_trans (Nat.lt_succ_self _) o4)) | exact Nat.lt_trans Mine.lit16_86 (Nat.lt_trans hlt (Nat.lt_succ_self _)) | exact Nat.lt_trans Mine.lit16_86 (Nat.lt_trans hlt (Nat.lt_trans (Nat.lt_succ_self _) (Nat.lt_trans o4 (Nat.lt_trans o1 (Nat.lt_trans o2 o3))))) | exact Nat.lt_trans Mine.lit16_86 (Nat.lt_trans hlt (Nat.lt_trans (Nat.lt_succ_self _) (Nat.lt_trans o4 (Nat.lt_trans o1 o2)))) | exact Nat.lt_trans Mine.lit16_86 (Nat.lt_trans hlt (Nat.lt_trans (Nat.lt_succ_self _) (Nat.lt_trans o4 o1))) | omega)) | decide
    clear N8 N9 F8 hx2 g3
    intro v nn h9 tk9 g9 hRt hg9 F9 N9
    refine hide fun PP hPP => ?_
    obtain ⟨al, ds, n9, tl9, ev1, e, hds, ht9, hta, hra⟩ := hRt
    refine hPP ?_
    clear hPP
    subst ev1
    rw [e] at N9
    have hwa : @LT.lt Nat _ wl al := hra (wl, _) (by rw [hrest]; exact .head _)
    have hea : @LT.lt Nat _ en al := hra (en, _) (by rw [hrest]; exact .tail _ (.tail _ (.tail _ (.tail _ (.head _)))))
    have htw : ∀ p ∈ tl9, p.1 ≠ wl := ht9.ne (by (first | exact Nat.lt_trans Mine.lit16_86 (Nat.lt_trans hlt (Nat.lt_trans (Nat.lt_succ_self _) o4)) | omega)) (by (first | exact Nat.le_of_lt (Nat.lt_trans o1 (Nat.lt_trans o2 o3)) | omega))
    have NA := cb_drop (news := (al, W.listOf ds.toArray n9) :: (wl, W.listOf vs.toArray nw) :: (L + 1, om) :: (86, tabObj #[]) :: (23, tabObj #[]) :: (en, etO it ((j + 1 : Nat) : Int) (.int b tb)) :: (it, oi6) :: (tp, ({ cls := .type "tuple", data := .seq #[.int 41 tk0, .int 22 (tk0 + 1)] } : Obj)) :: tl9) N9 (by
      rw [hrest]
      repeat' (first | exact List.forall_mem_nil _ | refine List.forall_mem_cons.mpr ⟨by first | k_mem | (repeat (first | exact List.Mem.head _ | refine List.Mem.tail _ ?_ | refine List.mem_append_right _ ?_)), ?_⟩ | refine List.forall_mem_append.mpr ⟨?_, ?_⟩)
      all_goals (first | exact fun p hp => hp | (intro p hp; repeat (first | exact hp | exact List.mem_append_left _ hp | exact List.mem_append_right _ hp | refine List.mem_cons_of_mem _ ?_))))
    have hdl : ds.length = blen x := by rw [hds.length, bitsOf_length]
    have hdl' : (bitsOf (blen x) x).length = blen x := bitsOf_length _ _
    clear N9 hra hrest e
    have HT := Hold.mk ht9
    have HA := Hold.mk hta
    clear ht9 hta ht16
    k_steps
    refine ⟨?_⟩
    k_dflt (refine comp_W (by k_asm) (by with_unfolding_all rfl) (by decide) (by rfl) (by decide) (by rfl) ?_)
    k_steps
    refine ⟨?_⟩
    rename News _ _ _ _ => N5
    rename Fr h₀ L _ _ => F5
    rename IntsAre _ _ => hI5
    have hl5 := hI5.length
    refine krv_reversed F5 N5 ⟨_, (N5 _ (.head _)).1, rfl, _, rfl⟩ ?_
    intro D5 h5 F5 N5 l5
    have hlen6 : (List.take ((bitsOf (blen x) x).length - 1) (bitsOf (blen x) x)).length ≤ 6 := by rw [← way_len]; exact g5
    refine srcW_rev rfl F5 N5 l5 (.head _) (by (first | exact Mine.ar69 hl5 hlen6 | omega)) ?_
    have hD5 := Hold.mk l5
    clear l5
    refine rest_ind (fun i y => ∃ b t, (wayOf x)[i]? = some b ∧ y = Value.str ⟨#[sgn b]⟩ t) (.inr ⟨_, .head _, rfl, _, rfl⟩) ?turn ?fin
    case turn =>
      intro i ys v I oI C oC D m₂ h' tk' E' hi hP hC hxv F6 N6
      obtain ⟨d, t, rfl, hd⟩ := hI5.at _ v (by simpa using hP)
      rw [hl5] at hd
      obtain ⟨hb, hd2⟩ := way_get (x := x) (i := i) (d := d) (by rw [← hl5, ← List.size_toArray]; exact hi) hd
      clear N5 F5
      rcases hd2 with rfl | rfl
      · k_steps
      · k_steps
    case fin =>
      intro ys hyl hyR
      have hcar := carried_of (ys := ys) (ws := wayOf x) (by rw [hyl, List.size_toArray, hl5, ← way_len]) hyR
      intro D6 h6 tk6 F6 N6 o6
      clear N5 F5 hyR
      k_steps
      refine ⟨?_⟩
      rename News _ _ _ _ => N7
      refine join_way ⟨_, (N7 _ (.head _)).1, rfl, _, rfl⟩ hcar rfl (by (first | exact Mine.ar42 g5 | omega)) fun t7 k7 => ?_
      k_steps
      refine ⟨?_⟩
      rename News _ _ _ _ => N7
      rename Fr h₀ L _ _ => F7
      have N8 := cb_drop (news := (wl, W.listOf vs.toArray nw) :: (en, etO it ((j + 1 : Nat) : Int) (.int b tb)) :: (it, oi6) :: (tp, ({ cls := .type "tuple", data := .seq #[.int 41 tk0, .int 22 (tk0 + 1)] } : Obj)) :: (L + 1, om) :: (86, tabObj #[]) :: (23, tabObj #[]) :: tl9) N7 (by
        repeat (first | exact List.forall_mem_nil _ | refine List.forall_mem_cons.mpr ⟨by k_mem, ?_⟩)
        all_goals (first | exact fun p hp => hp | (intro p hp; repeat (first | exact hp | refine List.mem_cons_of_mem _ ?_))))
      refine append_head F7 N8 ?_ (fun h8 F8 N8 => ?_) (Nat.le_trans (show vs.toArray.size ≤ 2 by rw [List.size_toArray]; (first | exact Mine.ar70 hvl hjn | omega)) (show 2 ≤ sizeLine by decide +kernel))
      · refine List.forall_mem_cons.mpr ⟨Nat.ne_of_gt (by (first | exact Nat.lt_trans o1 (Nat.lt_trans o2 o3) | omega)), ?_⟩
        refine List.forall_mem_cons.mpr ⟨Nat.ne_of_gt (by (first | exact Nat.lt_trans o1 o2 | omega)), ?_⟩
        refine List.forall_mem_cons.mpr ⟨Nat.ne_of_gt (by (first | exact o1 | omega)), ?_⟩
        refine List.forall_mem_cons.mpr ⟨Nat.ne_of_lt (by (first | exact o4 | omega)), ?_⟩
        refine List.forall_mem_cons.mpr ⟨Nat.ne_of_lt (by (first | exact Nat.lt_trans hlt (Nat.lt_trans (Nat.lt_succ_self _) o4) | omega)), ?_⟩
        refine List.forall_mem_cons.mpr ⟨Nat.ne_of_lt (by (first | exact Nat.lt_trans Mine.lit23_86 (Nat.lt_trans hlt (Nat.lt_trans (Nat.lt_succ_self _) o4)) | omega)), ?_⟩
        exact fun p h => htw p h
      k_steps
      dsimp only
      rename Fr h₀ L _ _ => F9
      rw [List.push_toArray] at N8
      refine ⟨⟨n, Nat.lt_succ_self _, .mk _ (_) (g9) (_) (.int b tb) (oi6) (?vk) (?vb) (?vp) (?vd) (vs ++ [.str (wayS (wayOf x)) t7]) (us ++ [wayOf x]) (nw + 1) (tl9) (j + 1) (hg9) (fr_map F9 ?eA) (cb_drop N8 ?nA) (ci6) (di6) (hvs.snoc) (HT.out) (by (first | exact Mine.ar45 hjn | omega)) (by simp [hvl]) (⟨?hu⟩)⟩⟩
      case nA =>
        repeat (first | exact List.forall_mem_nil _ | refine List.forall_mem_cons.mpr ⟨by k_mem, ?_⟩)
        all_goals (first | exact fun p hp => hp | (intro p hp; repeat (first | exact hp | refine List.mem_cons_of_mem _ ?_)))
      case hu =>
        intro u hu
        rcases List.mem_append.mp hu with hu | hu
        · exact hus.out u hu
        · exact ⟨x, Hx.out.1, Hx.out.2, List.mem_singleton.mp hu⟩
      case eA =>
        exact chain_eq (m := m₁) (by repeat (first | refine Ag.cons (by first | rfl | assumption) ?_ | exact Ag.nil)) (by repeat (first | refine Ag.cons (by first | rfl | assumption) ?_ | exact Ag.nil))
end
end Mine
end

-- part L6
section
open PySem PySem.W PyProof.Rows
set_option maxRecDepth 100000
set_option maxHeartbeats 8000000
namespace Mine
theorem post_bare {M : Model} {A : Around} {cd : PySem.Code} {s s₁ : Shared} {cw : ClaimW} {cl : Str → Option Addr} {mean : ExcName → Option Value} {args : List WData} {tabs : List (Addr × Addr)} (hT : TabsAt tabs s₁.heap) (hr : ∀ a x, cw.raises a x = false)
    (hp : cw.post args (.bool true) args = true)
    (h : codeAny M A cd (fun r s' => r = .ok (.ret (.bool true)) ∧ (∀ b o, (ghostOf s₁.heap tabs).get? b = some o → s'.heap.get? b = some o) ∧ s'.os = s₁.os ∧ AllBare s'.gens ∧ GrownAll tabs s'.heap) s) : codeAny M A cd (GoodWG cw cl mean args s₁) s := by
  refine codeAny_mono h fun r s' hh => ?_
  obtain ⟨rfl, hk, hos, hg, hgr⟩ := hh
  have two : ∀ b o, s₁.heap.get? b = some o → s'.heap.get? b = some o ∨ (isCodeTable s₁.heap b ∧ o = tabObj #[] ∧ ∃ ps, s'.heap.get? b = some (tabObj ps)) := by
    intro b o e
    by_cases hb : b ∈ tabs.map (·.2)
    · obtain ⟨q, hq, rfl⟩ := List.mem_map.mp hb
      have e2 := (hT q hq).2
      rw [e] at e2
      exact .inr ⟨((hT q hq).1.tab (hT q hq).2).isCodeTable, Option.some.inj e2, hgr.get q hq⟩
    · exact .inl (hk b o (ghost_ne e hb))
  refine ⟨.inl ⟨.bool true, .bool true, [], rfl, fun x => hr _ x, .bool true, hp, fun _ => ⟨List.nodup_nil, fun a ha => nomatch ha⟩⟩, ⟨fun b o e => ?_, fun b o e => ?_⟩, hos, hg⟩
  · rcases two b o e with h | ⟨h1, rfl, ps, h2⟩
    · exact .inl h
    · exact .inr (.inl ⟨h1, rfl, #[], ps, rfl, by rw [Array.empty_append]; exact h2⟩)
  · rcases two b o e with h | ⟨-, -, ps, h2⟩
    · exact ⟨o, h⟩
    · exact ⟨_, h2⟩
theorem use_it {P : Prop} {a b : Option Obj} {y : Obj} (h : ∀ y, a = some y → b = some y) (e : a = some y) (k : b = some y → P) : P := k (h y e)
noncomputable def codeOf : Data → Value
  | .func fd => fd.code
  | _ => .none
theorem law_top : PySem.Challenge.rw_to0007_01.Holds := hd (by
  k_fill
  intro w s₀ s₁ mg mb G Y fa o pm cd doc dV kV ho hd' hcd hD hmg hg args vals as hpre hlay hrd hwl hlo
  have KX := km_in_of Y
  km_tabs Y
  have X := (Ground.X G).1
  have V := (Ground.X G).2
  refine Ground.open G ?_
  intro T B D TE TW
  try (refine guard_noD D (by decide +kernel) ?_; clear D)
  km_lay T hmg ho hd' cd
  have e1 : fa = 122 := by
    have h1 := mg_of KX (Top.g T) (n := Str.ofString "law") (show nsIn _ mainGlobals _ = some (some (Value.ref 122)) by k_is)
    have h2 := h1.symm.trans hmg
    injection h2 with h2
    injection h2 with h2
    exact h2.symm
  have e2 : cd = .ref 121 := by
    refine' use_it (fun y hy => KX 122 y hy) ?e ?_
    case e => k_is
    intro h3
    have ho2 := ho
    rw [e1, h3] at ho2
    injection ho2 with ho2
    have h4 := congrArg codeOf hd'
    rw [← ho2] at h4
    exact h4.symm
  clear hmg
  wrow_args hpre hlay hrd hwl hlo
  refine enter_call ?_
  w_top on
  refine post_bare hT9 (fun _ _ => rfl) ?hpost ?_
  case hpost => first | wrow_post | (show _ = true; rfl)
  w_call any ho hd' hcd hD T F
  clear hd'
  kn_ghosts F T
  k_drop
  subst e1 e2
  rename Fr _ _ _ _ => FF
  rename News _ _ _ _ => NN
  rename Below _ _ _ _ => BB
  rename Top _ _ _ _ _ _ => TT
  rename Frag.In _ _ => XX
  rename IntsAre _ _ => II
  rename Heap.IsList _ _ _ => LL
  rename Obj.data _ = Data.cell _ => HOM
  rename _ ∧ _ ∧ _ < _ => LZ
  rename ¬ _ < _ => HZ
  refine law_run w _ _ _ _ _ _ _ _ _ _ _ _ _ _ _ _ _ _ _ _ (by k_is) (1 + claimMargin) 4 (some []) _ _ [] _ _ _ _ _ _ _ _ _ BB FF XX NN HOM TT rfl LL II (by omega) (by decide) (by decide) ?ab LZ.1 ?rt
  case ab => rw [hg]; exact .of_eq rfl
  case rt =>
    intro h' g' tk' m' ps1 ps2 ps3 hg' F' N'
    exact ⟨rfl, F'.keep, rfl, hg', ⟨GrownAt.of N' (.head _), GrownAt.of N' (.tail _ (.head _)), GrownAt.of N' (.tail _ (.tail _ (.head _))), trivial⟩⟩)
end Mine
end

theorem PySem.Challenge.cw_to0007_01_holds : PySem.Challenge.rw_to0007_01.Holds :=
  Mine.law_top

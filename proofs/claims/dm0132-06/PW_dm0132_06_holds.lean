import PyProof.Rows.All
import Wide.All
import OpenK.AllK
import Wide.FinOn
import PyProof.IsiBase
import PyProof.FactsSeq
import PySem.Challenge.RW_dm0132_06
set_option Elab.async false
set_option compiler.extract_closed false

namespace Mine
set_option Elab.async false
/-! small laws of numbers, each once -/
open Nat.Internal.Linear in
theorem linF (c : Context) (l r : Nat.Internal.Linear.Expr) (u : (ExprCnstr.mk false l r).toNormPoly.isUnsat = true) (h : l.denote c ≤ r.denote c) : False := (ExprCnstr.eq_false_of_isUnsat c ⟨false, l, r⟩ u).mp h
section
variable {a b c d e f : Nat}
theorem o1 (h1 : a + 30 < b) : a < b := Nat.lt_of_add_right_lt h1
theorem o2 : a ≤ a + 1 := Nat.le_add_right a 1
theorem o3 : a + 1 + b ≤ a + (b + 1) := Nat.le_of_not_lt fun h => linF (.branch 1 (.leaf a) (.leaf b)) (.add (.add (.var 0) (.add (.var 1) (.num 1))) (.num 1)) (.add (.add (.var 0) (.num 1)) (.var 1)) rfl h
theorem o4 (h1 : a ≤ 1000000) : ((a : Nat) : Int) < (9223372036854775808 : Int) := Int.ofNat_lt.mpr (Nat.lt_of_le_of_lt h1 (Nat.le_of_ble_eq_true rfl))
theorem o5 (h1 : a ≤ 1000) : a ≤ 16777216 := Nat.le_trans h1 (Nat.le_add_left 1000 16776216)
theorem o6 (h1 : a + 30 < b) : a + 1 + 20 < b := Nat.lt_of_not_le fun h => linF (.branch 1 (.leaf a) (.leaf b)) (.add (.add (.add (.var 0) (.num 30)) (.num 1)) (.var 1)) (.add (.var 1) (.add (.add (.var 0) (.num 1)) (.num 20))) rfl (Nat.add_le_add h1 h)
theorem o7 : (min a b) ≤ b := Nat.min_le_right a b
theorem o8 (h1 : a ≤ b) (h2 : b ≤ 100000) : a ≤ 100000 := Nat.le_trans h1 h2
theorem o9 : 0 < 6 := Nat.le_of_ble_eq_true rfl
theorem o10 : 1 < 6 := Nat.le_of_ble_eq_true rfl
theorem o11 : 2 < 6 := Nat.le_of_ble_eq_true rfl
theorem o12 : 3 < 6 := Nat.le_of_ble_eq_true rfl
theorem o13 : 4 < 6 := Nat.le_of_ble_eq_true rfl
theorem o14 : 5 < 6 := Nat.le_of_ble_eq_true rfl
theorem o15 {a : Int} (h1 : a - (1 : Int) = (0 : Int)) : a = (1 : Int) := (Int.add_left_inj (-1)).mp h1
theorem o16 {a : Int} (h1 : ¬ (a - (1 : Int) = (0 : Int))) : ¬ (a = (1 : Int)) := ne_of_apply_ne (fun {a} => a - 1) h1
theorem o17 (h1 : ¬ (b < a)) : a ≤ b := Nat.le_of_not_lt h1
theorem o18 (h1 : a + 1 ≤ b) : a ≤ b := Nat.le_of_succ_le h1
theorem o19 (h1 : a < b) : a ≤ b := Nat.le_of_succ_le h1
theorem o20 (h1 : ((b : Nat) : Int) = ((a : Nat) : Int)) : a = b := Int.ofNat_inj.mp (id (Eq.symm h1))
theorem o21 (h1 : a ≤ 1000000) : a ≤ 16777216 := Nat.le_trans h1 (Nat.le_add_left 1000000 15777216)
theorem o22 (h1 : a + 10 < b) : a < b := Nat.lt_of_add_right_lt h1
theorem o23 (h1 : a + 10 < b) : a + 1 + 5 < b := Nat.lt_of_not_le fun h => linF (.branch 1 (.leaf a) (.leaf b)) (.add (.add (.add (.var 0) (.num 10)) (.num 1)) (.var 1)) (.add (.var 1) (.add (.add (.var 0) (.num 1)) (.num 5))) rfl (Nat.add_le_add h1 h)
theorem o24 (h1 : a ≤ 6) : a ≤ 100 := Nat.le_trans h1 (Nat.le_add_left 6 94)
theorem o25 : 0 ≤ 100 := Nat.le_of_ble_eq_true rfl
theorem o26 {a : Int} : (0 : Int) + a = a := Int.zero_add a
theorem o27 (h1 : ¬ (a = 0)) (h2 : a ≤ b) : a - 1 < b := Nat.lt_of_lt_of_le (Nat.pred_lt h1) h2
theorem o28 : (0 : Int) ≤ ((a : Nat) : Int) := Int.natCast_nonneg a
theorem o29 (h1 : a + 5 < b) : a < b := Nat.lt_of_add_right_lt h1
theorem o30 (h1 : ((a : Nat) : Int) < ((b : Nat) : Int)) : a < b := Int.ofNat_lt.mp h1
theorem o31 (h1 : (0 : Int) < ((a : Nat) : Int)) : ((a : Nat) : Int) - (1 : Int) = (((a - 1) : Nat) : Int) := (Int.ofNat_sub (Int.ofNat_lt.mp h1)).symm
theorem o32 (h1 : (0 : Int) < ((a : Nat) : Int)) (h2 : ¬ (((b : Nat) : Int) < ((a : Nat) : Int))) : a - 1 < b := Nat.lt_of_lt_of_le (Nat.sub_lt (Int.ofNat_lt.mp h1) Nat.one_pos) (Nat.le_of_not_lt fun e => h2 (Int.ofNat_lt.mpr e))
theorem o33 (h1 : a ≤ 6) : a ≤ 1000000 := Nat.le_trans h1 (Nat.le_add_left 6 999994)
theorem o34 (h1 : ¬ (((a : Nat) : Int) < ((b : Nat) : Int))) : ¬ (a < b) := fun e => h1 (Int.ofNat_lt.mpr e)
theorem o35 (h1 : ¬ (((b : Nat) : Int) < ((a : Nat) : Int))) : a ≤ b := Nat.le_of_not_lt fun e => h1 (Int.ofNat_lt.mpr e)
theorem o36 (h1 : (0 : Int) < ((a : Nat) : Int)) : ¬ (a = 0) := Nat.ne_of_gt (Int.ofNat_lt.mp h1)
theorem o37 (h1 : ¬ ((0 : Int) < ((b : Nat) : Int))) : ¬ (a < b) := fun e => h1 (Int.ofNat_lt.mpr (Nat.zero_lt_of_lt e))
theorem o38 (h1 : ¬ ((0 : Int) < ((a : Nat) : Int))) : a = 0 := Nat.eq_zero_of_not_pos fun e => h1 (Int.ofNat_lt.mpr e)
theorem o39 (h1 : a + b ≤ 6) : ((a : Nat) : Int) ≤ (1000000 : Int) := Int.ofNat_le.mpr (Nat.le_trans (Nat.le_add_right a b) (Nat.le_trans h1 (Nat.le_of_ble_eq_true rfl)))
theorem o40 : a + b + 1 = a + 1 + b := Nat.add_right_comm a b 1
theorem o41 (h1 : a + (b + 2) ≤ d) : a + ((b - 0) + 1 + c) ≤ d + c := Nat.le_trans (Nat.le_of_eq (Nat.add_assoc a (b+1) c).symm) (Nat.add_le_add_right (Nat.le_trans (Nat.add_le_add_left (Nat.le_succ (b+1)) a) h1) c)
theorem o42 (h1 : b + c ≤ 6) (h2 : a ≤ b) : a ≤ 99 := Nat.le_of_not_lt fun h => linF (.branch 1 (.leaf a) (.branch 2 (.leaf b) (.leaf c))) (.add (.add (.add (.var 1) (.var 2)) (.var 0)) (.add (.num 99) (.num 1))) (.add (.add (.num 6) (.var 1)) (.var 0)) rfl (Nat.add_le_add (Nat.add_le_add h1 h2) h)
theorem o43 (h1 : c < b) (h2 : f = a + ((b - c) + 1 + d)) (h3 : f ≤ e) : a + ((b - (c + 1)) + 1 + d) < e := Nat.lt_of_lt_of_le (Nat.add_lt_add_left (Nat.add_lt_add_right (Nat.add_lt_add_right (Nat.sub_lt_sub_left h1 (Nat.lt_succ_self c)) 1) d) a) (Nat.le_trans (Nat.le_of_eq h2.symm) h3)
theorem o44 (h1 : c = a + (d + 1 + b)) : a + b < c := Nat.lt_of_not_le fun h => linF (.branch 2 (.branch 1 (.leaf a) (.leaf b)) (.branch 3 (.leaf c) (.leaf d))) (.add (.add (.var 0) (.add (.add (.var 3) (.num 1)) (.var 1))) (.var 2)) (.add (.var 2) (.add (.var 0) (.var 1))) rfl (Nat.add_le_add (Nat.le_of_eq h1.symm) h)
theorem o45 : a + 1 + b = a + (b + 1) := Nat.succ_add_eq_add_succ a b
theorem o46 (h1 : d = a + (e + b)) (h2 : d ≤ c) : a + b ≤ c := Nat.le_of_not_lt fun h => linF (.branch 2 (.branch 1 (.leaf a) (.leaf b)) (.branch 3 (.leaf c) (.branch 4 (.leaf d) (.leaf e)))) (.add (.add (.add (.var 0) (.add (.var 4) (.var 1))) (.var 3)) (.add (.var 2) (.num 1))) (.add (.add (.var 3) (.var 2)) (.add (.var 0) (.var 1))) rfl (Nat.add_le_add (Nat.add_le_add (Nat.le_of_eq h1.symm) h2) h)
theorem o47 (h1 : b < c) (h2 : a + b = c) : a - 1 < a := by subst h2; exact Nat.sub_lt (Nat.pos_of_lt_add_left h1) Nat.one_pos
theorem o48 (h1 : b < c) (h2 : a + b = c) : (a - 1) + (b + 1) = c := by subst h2; rw [← Nat.add_assoc, Nat.add_right_comm, Nat.sub_add_cancel (Nat.pos_of_lt_add_left h1)]
theorem o49 (h1 : c + a = b) (h2 : ¬ (a < b)) : a = b := Nat.le_antisymm (Nat.le_of_not_lt fun h => linF (.branch 1 (.leaf a) (.branch 2 (.leaf b) (.leaf c))) (.add (.add (.var 2) (.var 0)) (.add (.var 1) (.num 1))) (.add (.var 1) (.var 0)) rfl (Nat.add_le_add (Nat.le_of_eq h1) h)) (Nat.le_of_not_lt fun h => linF (.branch 1 (.leaf a) (.branch 2 (.leaf b) (.leaf c))) (.add (.var 1) (.add (.var 0) (.num 1))) (.add (.var 0) (.var 1)) rfl (Nat.add_le_add (Nat.le_of_not_lt h2) h))
theorem o50 (h1 : a < b + 1) (h2 : ¬ (a = b)) : a < b := Nat.lt_of_le_of_ne (Nat.le_of_lt_succ h1) h2
theorem o51 (h1 : c = a - 1) (h2 : c ≤ b) : a ≤ b + 1 := by subst h1; exact Nat.le_add_of_sub_le h2
theorem o52 (h1 : c = a) (h2 : c ≤ b) : a ≤ b + 1 := by subst h1; exact Nat.le_add_right_of_le h2
theorem o53 (h1 : a ≤ 6) : a < 4096 := Nat.lt_of_le_of_lt h1 (Nat.le_add_left (Nat.succ 6) 4089)
theorem o54 (h1 : a ≤ 6) : a + 1 < 4096 := Nat.lt_of_not_le fun h => linF (.leaf a) (.add (.var 0) (.num 4096)) (.add (.num 6) (.add (.var 0) (.num 1))) rfl (Nat.add_le_add h1 h)
theorem o55 (h1 : a ≤ 6) : a ≤ 1000 := Nat.le_trans h1 (Nat.le_add_left 6 994)
theorem o56 : (min a (b - c)) ≤ b := Nat.le_trans (Nat.min_le_right _ _) (Nat.sub_le _ _)
theorem o57 : (-(((a + 1) : Nat) : Int)) ≤ (-(1 : Int)) := Rat.intCast_le_intCast.mp rfl
theorem o58 : (Int.toNat ((-(1 : Int)) + (((a + 1) : Nat) : Int))) = a := congrArg Int.toNat (show -1 + ((a : Int) + 1) = a by rw [Int.add_comm, Int.add_neg_cancel_right])
theorem o59 (h1 : a ≤ 1000) : a ≤ 16777215 := Nat.le_trans h1 (Nat.le_add_left 1000 16776215)
theorem o60 (h1 : ¬ (((63 : Nat) : Int) < ((a : Nat) : Int))) : a ≤ 63 := Nat.le_of_not_lt fun e => h1 (Int.ofNat_lt.mpr e)
theorem o61 (h1 : a ≤ 6) : a ≤ 16777216 := Nat.le_trans h1 (Nat.le_add_left 6 16777210)
theorem o62 (h1 : c + a = b) (h2 : b ≤ a) : a = b := Nat.le_antisymm (Nat.le_of_not_lt fun h => linF (.branch 1 (.leaf a) (.branch 2 (.leaf b) (.leaf c))) (.add (.add (.var 2) (.var 0)) (.add (.var 1) (.num 1))) (.add (.var 1) (.var 0)) rfl (Nat.add_le_add (Nat.le_of_eq h1) h)) (Nat.le_of_not_lt fun h => linF (.branch 1 (.leaf a) (.branch 2 (.leaf b) (.leaf c))) (.add (.var 1) (.add (.var 0) (.num 1))) (.add (.var 0) (.var 1)) rfl (Nat.add_le_add h2 h))
theorem o63 (h1 : a = b) (h2 : b ≤ 6) : a ≤ 1000000 := Nat.le_trans (Nat.le_trans (Nat.le_of_eq h1) h2) (Nat.le_of_ble_eq_true rfl)
theorem o64 (h1 : b < a) : ¬ (a = b) := Nat.ne_of_lt' h1
theorem o65 (h1 : b + 1 + 1 < c) (h2 : c < a) : ¬ (a = b) := fun h => linF (.branch 1 (.leaf a) (.branch 2 (.leaf b) (.leaf c))) (.add (.add (.add (.add (.add (.var 1) (.num 1)) (.num 1)) (.num 1)) (.add (.var 2) (.num 1))) (.var 0)) (.add (.add (.var 2) (.var 0)) (.var 1)) rfl (Nat.add_le_add (Nat.add_le_add h1 h2) (Nat.le_of_eq h))
theorem o66 (h1 : b + 1 + 1 < a) : ¬ (a = b) := fun h => linF (.branch 1 (.leaf a) (.leaf b)) (.add (.add (.add (.add (.var 1) (.num 1)) (.num 1)) (.num 1)) (.var 0)) (.add (.var 0) (.var 1)) rfl (Nat.add_le_add h1 (Nat.le_of_eq h))
theorem o67 : ¬ (a + 1 + 1 = a) := Nat.ne_of_gt (Nat.le_of_lt (Nat.lt_succ_self a.succ))
theorem o68 : ¬ (a + 1 = a) := Nat.succ_ne_self a
theorem o69 : ¬ (a = a + 1) := Nat.ne_add_one a
theorem o70 (h1 : 169 < a) : ¬ (169 = a + 1 + 1) := fun h => linF (.leaf a) (.add (.add (.num 169) (.num 1)) (.add (.add (.var 0) (.num 1)) (.num 1))) (.add (.var 0) (.num 169)) rfl (Nat.add_le_add h1 (Nat.le_of_eq h.symm))
theorem o71 (h1 : a + 1 + 1 + 1 + 1 < b) : a + 4 < b := h1
theorem o72 {a : Int} (h1 : (0 : Int) < a) : ¬ (a = (0 : Int)) := Int.ne_of_gt h1
theorem o73 (h1 : a < c) (h2 : b = c) : a < b := Nat.lt_of_lt_of_eq h1 (id (Eq.symm h2))
theorem o74 (h1 : 1 ≤ a) : ¬ (((a : Nat) : Int) = (0 : Int)) := Int.natCast_ne_zero_iff_pos.mpr h1
theorem o75 (h1 : 1 ≤ a) : (0 : Int) < ((a : Nat) : Int) := Int.natCast_pos.mpr h1
theorem o76 {a : Int} {b : Nat} (h1 : a < ((b : Nat) : Int)) (h2 : b ≤ 6) : (Int.toNat a) < 9000 := Nat.lt_of_le_of_lt (Int.toNat_le.mpr (Int.le_of_lt h1)) (Nat.lt_of_le_of_lt h2 (Nat.le_of_ble_eq_true rfl))
theorem o77 (h1 : a ≤ 6) : a < 9000 := Nat.lt_of_le_of_lt h1 (Nat.le_add_left (Nat.succ 6) 8993)
theorem o78 {a c : Int} {b : Nat} (h1 : a < ((b : Nat) : Int)) (h2 : c < ((b : Nat) : Int)) (h3 : (0 : Int) ≤ c) : (Int.toNat a) < b := by rcases Int.le_total 0 a with p | p; exact (Int.toNat_lt p).mpr h1; exact (Int.toNat_eq_zero.mpr p).symm ▸ Int.ofNat_lt.mp (Int.lt_of_le_of_lt h3 h2)
theorem o79 {a : Int} {b : Nat} (h1 : a < ((b : Nat) : Int)) (h2 : b ≤ 6) : a < (1000000 : Int) := Int.lt_of_lt_of_le h1 (Int.ofNat_le.mpr (Nat.le_trans h2 (Nat.le_of_ble_eq_true rfl)))
theorem o80 (h1 : b < c) (h2 : a ≤ b) (h3 : c ≤ 65) : a ≤ 1000 := Nat.le_of_not_lt fun h => linF (.branch 1 (.leaf a) (.branch 2 (.leaf b) (.leaf c))) (.add (.add (.add (.add (.var 1) (.num 1)) (.var 0)) (.var 2)) (.add (.num 1000) (.num 1))) (.add (.add (.add (.var 2) (.var 1)) (.num 65)) (.var 0)) rfl (Nat.add_le_add (Nat.add_le_add (Nat.add_le_add h1 h2) h3) h)
theorem o81 (h1 : b < c) (h2 : c < a) : ¬ (a = b) := fun h => linF (.branch 1 (.leaf a) (.branch 2 (.leaf b) (.leaf c))) (.add (.add (.add (.var 1) (.num 1)) (.add (.var 2) (.num 1))) (.var 0)) (.add (.add (.var 2) (.var 0)) (.var 1)) rfl (Nat.add_le_add (Nat.add_le_add h1 h2) (Nat.le_of_eq h))
theorem o82 (h1 : ¬ (b = a)) : ¬ (a = b) := Ne.symm h1
theorem o83 (h1 : a < b) : ¬ (a = b) := Nat.ne_of_lt h1
theorem o84 (h1 : a + 4 < c) (h2 : c < b) : ¬ (a + 1 + 1 + 1 + 1 = b) := fun h => linF (.branch 1 (.leaf a) (.branch 2 (.leaf b) (.leaf c))) (.add (.add (.add (.add (.var 0) (.num 4)) (.num 1)) (.add (.var 2) (.num 1))) (.var 1)) (.add (.add (.var 2) (.var 1)) (.add (.add (.add (.add (.var 0) (.num 1)) (.num 1)) (.num 1)) (.num 1))) rfl (Nat.add_le_add (Nat.add_le_add h1 h2) (Nat.le_of_eq h.symm))
theorem o85 (h1 : a + 4 < c) (h2 : c < b) : ¬ (a + 1 + 1 + 1 = b) := fun h => linF (.branch 1 (.leaf a) (.branch 2 (.leaf b) (.leaf c))) (.add (.add (.add (.add (.var 0) (.num 4)) (.num 1)) (.add (.var 2) (.num 1))) (.var 1)) (.add (.add (.var 2) (.var 1)) (.add (.add (.add (.var 0) (.num 1)) (.num 1)) (.num 1))) rfl (Nat.add_le_add (Nat.add_le_add h1 h2) (Nat.le_of_eq h.symm))
theorem o86 (h1 : a + 4 < c) (h2 : c < b) : ¬ (a + 1 + 1 = b) := fun h => linF (.branch 1 (.leaf a) (.branch 2 (.leaf b) (.leaf c))) (.add (.add (.add (.add (.var 0) (.num 4)) (.num 1)) (.add (.var 2) (.num 1))) (.var 1)) (.add (.add (.var 2) (.var 1)) (.add (.add (.var 0) (.num 1)) (.num 1))) rfl (Nat.add_le_add (Nat.add_le_add h1 h2) (Nat.le_of_eq h.symm))
theorem o87 (h1 : a + 4 < c) (h2 : c < b) : ¬ (a + 1 = b) := fun h => linF (.branch 1 (.leaf a) (.branch 2 (.leaf b) (.leaf c))) (.add (.add (.add (.add (.var 0) (.num 4)) (.num 1)) (.add (.var 2) (.num 1))) (.var 1)) (.add (.add (.var 2) (.var 1)) (.add (.var 0) (.num 1))) rfl (Nat.add_le_add (Nat.add_le_add h1 h2) (Nat.le_of_eq h.symm))
theorem o88 (h1 : b + 4 < c) (h2 : 169 < b) (h3 : c < a) : ¬ (169 = a) := fun h => linF (.branch 1 (.leaf a) (.branch 2 (.leaf b) (.leaf c))) (.add (.add (.add (.add (.add (.var 1) (.num 4)) (.num 1)) (.add (.num 169) (.num 1))) (.add (.var 2) (.num 1))) (.var 0)) (.add (.add (.add (.var 2) (.var 1)) (.var 0)) (.num 169)) rfl (Nat.add_le_add (Nat.add_le_add (Nat.add_le_add h1 h2) h3) (Nat.le_of_eq h.symm))
theorem o89 : ¬ (((a : Nat) : Int) < (0 : Int)) := Int.not_ofNat_neg a
theorem o90 (h1 : a = b) (h2 : b ≤ 6) : a ≤ 1000 := Nat.le_trans (Nat.le_trans (Nat.le_of_eq h1) h2) (Nat.le_of_ble_eq_true rfl)
theorem o91 (h1 : b < c) (h2 : a = d) (h3 : c ≤ 65) (h4 : d ≤ b) : a ≤ 16777216 := Nat.le_of_not_lt fun h => linF (.branch 2 (.branch 1 (.leaf a) (.leaf b)) (.branch 3 (.leaf c) (.leaf d))) (.add (.add (.add (.add (.add (.var 1) (.num 1)) (.var 0)) (.var 2)) (.var 3)) (.add (.num 16777216) (.num 1))) (.add (.add (.add (.add (.var 2) (.var 3)) (.num 65)) (.var 1)) (.var 0)) rfl (Nat.add_le_add (Nat.add_le_add (Nat.add_le_add (Nat.add_le_add h1 (Nat.le_of_eq h2)) h3) h4) h)
theorem o92 (h1 : a ≤ 6) : (Int.toNat (((a : Nat) : Int) - (1 : Int))) ≤ 5 := Int.toNat_le.mpr (Int.sub_right_le_of_le_add (Int.ofNat_le.mpr h1))
theorem o93 : (Int.toNat ((2 : Int) - (1 : Int))) ≤ 5 := Nat.lt_of_lt_of_le (Nat.le_succ (Nat.succ 0)) (Nat.le_add_left (Nat.succ 0).succ 3)
theorem o94 {a : Int} (h1 : (2 : Int) < a) : (2 : Int) ≤ a := Int.le_of_lt h1
theorem o95 : (2 : Int) ≤ (2 : Int) := Int.NonNeg.mk (2 - Nat.succ 1)
theorem o96 (h1 : a ≤ 6) : ((a : Nat) : Int) ≤ (6 : Int) := Nat.ToInt.of_le rfl rfl h1
theorem o97 : (2 : Int) ≤ (6 : Int) := Int.NonNeg.mk (6 - Nat.succ 1)
theorem o98 : (1 : Int) + ((a : Nat) : Int) = (((a + 1) : Nat) : Int) := Int.add_comm _ _
theorem o99 (h1 : a < b) (h2 : b ≤ 5) : a + 1 ≤ 5 := Nat.lt_of_lt_of_le h1 h2
theorem o100 (h1 : a = c) (h2 : c = b) : a = b := Eq.trans h1 h2
theorem o101 (h1 : a + 4 < b) : ¬ (a + 1 + 1 + 1 + 1 = b) := Nat.ne_of_lt h1
theorem o102 (h1 : a + 4 < b) : ¬ (a + 1 + 1 + 1 = b) := Nat.ne_of_lt (Nat.le_of_lt h1)
theorem o103 (h1 : a + 4 < b) : ¬ (a + 1 + 1 = b) := fun h => linF (.branch 1 (.leaf a) (.leaf b)) (.add (.add (.add (.var 0) (.num 4)) (.num 1)) (.var 1)) (.add (.var 1) (.add (.add (.var 0) (.num 1)) (.num 1))) rfl (Nat.add_le_add h1 (Nat.le_of_eq h.symm))
theorem o104 (h1 : a + 4 < b) : ¬ (a + 1 = b) := fun h => linF (.branch 1 (.leaf a) (.leaf b)) (.add (.add (.add (.var 0) (.num 4)) (.num 1)) (.var 1)) (.add (.var 1) (.add (.var 0) (.num 1))) rfl (Nat.add_le_add h1 (Nat.le_of_eq h.symm))
theorem o105 (h1 : b + 4 < a) (h2 : 169 < b) : ¬ (169 = a) := fun h => linF (.branch 1 (.leaf a) (.leaf b)) (.add (.add (.add (.add (.var 1) (.num 4)) (.num 1)) (.add (.num 169) (.num 1))) (.var 0)) (.add (.add (.var 0) (.var 1)) (.num 169)) rfl (Nat.add_le_add (Nat.add_le_add h1 h2) (Nat.le_of_eq h.symm))
theorem o106 : ¬ (a = a + 1 + 1) := Nat.ne_of_lt (Nat.le_of_lt (Nat.lt_succ_self a.succ))
theorem o107 : ¬ (a = a + 1 + 1 + 1) := Nat.ne_of_lt (Nat.le_of_lt (Nat.le_add_right a.succ.succ 1))
theorem o108 (h1 : 169 < a) : ¬ (169 = a + 1 + 1 + 1 + 1) := fun h => linF (.leaf a) (.add (.add (.num 169) (.num 1)) (.add (.add (.add (.add (.var 0) (.num 1)) (.num 1)) (.num 1)) (.num 1))) (.add (.var 0) (.num 169)) rfl (Nat.add_le_add h1 (Nat.le_of_eq h.symm))
theorem o109 (h1 : 169 < a) : ¬ (169 = a + 1 + 1 + 1) := fun h => linF (.leaf a) (.add (.add (.num 169) (.num 1)) (.add (.add (.add (.var 0) (.num 1)) (.num 1)) (.num 1))) (.add (.var 0) (.num 169)) rfl (Nat.add_le_add h1 (Nat.le_of_eq h.symm))
theorem o110 (h1 : 169 < a) : ¬ (169 = a + 1) := Nat.ne_of_lt (Nat.le.step h1)
theorem o111 (h1 : a < b) (h2 : b = c) (h3 : c ≤ a) : False := linF (.branch 1 (.leaf a) (.branch 2 (.leaf b) (.leaf c))) (.add (.add (.add (.var 0) (.num 1)) (.var 1)) (.var 2)) (.add (.add (.var 1) (.var 2)) (.var 0)) rfl (Nat.add_le_add (Nat.add_le_add h1 (Nat.le_of_eq h2)) h3)
theorem o112 (h1 : a + 4 < b) : a + 1 + 1 + 1 + 1 ≤ b := Nat.le_of_succ_le h1
theorem o113 (h1 : a + 4 < b) : a + 1 + 1 + 1 ≤ b := Nat.lt_trans (Nat.le_succ (a + 2).succ) h1
theorem o114 (h1 : a + 4 < b) : a + 1 + 1 ≤ b := Nat.le_of_not_lt fun h => linF (.branch 1 (.leaf a) (.leaf b)) (.add (.add (.add (.var 0) (.num 4)) (.num 1)) (.add (.var 1) (.num 1))) (.add (.var 1) (.add (.add (.var 0) (.num 1)) (.num 1))) rfl (Nat.add_le_add h1 h)
theorem o115 (h1 : a + 4 < b) : a + 1 ≤ b := Nat.le_of_not_lt fun h => linF (.branch 1 (.leaf a) (.leaf b)) (.add (.add (.add (.var 0) (.num 4)) (.num 1)) (.add (.var 1) (.num 1))) (.add (.var 1) (.add (.var 0) (.num 1))) rfl (Nat.add_le_add h1 h)
theorem o116 (h1 : b + 4 < a) (h2 : 169 < b) : 169 ≤ a := Nat.le_of_not_lt fun h => linF (.branch 1 (.leaf a) (.leaf b)) (.add (.add (.add (.add (.var 1) (.num 4)) (.num 1)) (.add (.num 169) (.num 1))) (.add (.var 0) (.num 1))) (.add (.add (.var 0) (.var 1)) (.num 169)) rfl (Nat.add_le_add (Nat.add_le_add h1 h2) h)
theorem o117 (h1 : c < b) (h2 : a ≤ c) : ¬ (a = b) := fun h => linF (.branch 1 (.leaf a) (.branch 2 (.leaf b) (.leaf c))) (.add (.add (.add (.var 2) (.num 1)) (.var 0)) (.var 1)) (.add (.add (.var 1) (.var 2)) (.var 0)) rfl (Nat.add_le_add (Nat.add_le_add h1 h2) (Nat.le_of_eq h.symm))
theorem o118 (h1 : b + a ≤ c) (h2 : c ≤ 6) : a ≤ 6 := Nat.le_of_not_lt fun h => linF (.branch 1 (.leaf a) (.branch 2 (.leaf b) (.leaf c))) (.add (.add (.add (.var 1) (.var 0)) (.var 2)) (.add (.num 6) (.num 1))) (.add (.add (.var 2) (.num 6)) (.var 0)) rfl (Nat.add_le_add (Nat.add_le_add h1 h2) h)
theorem o119 (h1 : a = b) (h2 : c + b ≤ d) (h3 : d ≤ 6) : a ≤ 6 := Nat.le_of_not_lt fun h => linF (.branch 2 (.branch 1 (.leaf a) (.leaf b)) (.branch 3 (.leaf c) (.leaf d))) (.add (.add (.add (.var 0) (.add (.var 2) (.var 1))) (.var 3)) (.add (.num 6) (.num 1))) (.add (.add (.add (.var 1) (.var 3)) (.num 6)) (.var 0)) rfl (Nat.add_le_add (Nat.add_le_add (Nat.add_le_add (Nat.le_of_eq h1) h2) h3) h)
theorem o120 (h1 : a = c) (h2 : b = d) (h3 : c + d ≤ e) (h4 : e ≤ 6) : a + b ≤ 100 := Nat.le_of_not_lt fun h => linF (.branch 2 (.branch 1 (.leaf a) (.leaf b)) (.branch 3 (.leaf c) (.branch 4 (.leaf d) (.leaf e)))) (.add (.add (.add (.add (.var 0) (.var 1)) (.add (.var 2) (.var 3))) (.var 4)) (.add (.num 100) (.num 1))) (.add (.add (.add (.add (.var 2) (.var 3)) (.var 4)) (.num 6)) (.add (.var 0) (.var 1))) rfl (Nat.add_le_add (Nat.add_le_add (Nat.add_le_add (Nat.add_le_add (Nat.le_of_eq h1) (Nat.le_of_eq h2)) h3) h4) h)
theorem o121 (h1 : a ≤ 6) : a ≤ 100000 := Nat.le_trans h1 (Nat.le_add_left 6 99994)
theorem o122 (h1 : a < c) (h2 : c = b) : a < b := Nat.lt_of_lt_of_eq h1 h2
theorem o123 (h1 : a ≤ b) (h2 : b ≤ 6) : a ≤ 100 := Nat.le_of_not_lt fun h => linF (.branch 1 (.leaf a) (.leaf b)) (.add (.add (.var 0) (.var 1)) (.add (.num 100) (.num 1))) (.add (.add (.var 1) (.num 6)) (.var 0)) rfl (Nat.add_le_add (Nat.add_le_add h1 h2) h)
theorem o124 (h1 : 0 < c) (h2 : a ≤ b) : a + 1 ≤ b + c := Nat.add_le_add h2 h1
theorem o125 (h1 : a + 60 < b) : a + 30 < b := Nat.lt_of_not_le fun h => linF (.branch 1 (.leaf a) (.leaf b)) (.add (.add (.add (.var 0) (.num 60)) (.num 1)) (.var 1)) (.add (.var 1) (.add (.var 0) (.num 30))) rfl (Nat.add_le_add h1 h)
theorem o126 (h1 : a = (min b c)) (h2 : c ≤ 6) : a ≤ 16777216 := Nat.le_trans (Nat.le_of_eq h1) (Nat.le_trans (Nat.min_le_right b c) (Nat.le_trans h2 (Nat.le_of_ble_eq_true rfl)))
theorem o127 (h1 : a = b) (h2 : b ≤ 6) : a ≤ 16384 := Nat.le_trans (Nat.le_trans (Nat.le_of_eq h1) h2) (Nat.le_of_ble_eq_true rfl)
theorem o128 {a : Int} {b : Nat} : a < a + (((b : Nat) : Int) + (1 : Int)) := Int.lt_add_succ a b
theorem o129 (h1 : a + b ≤ 1000) : a ≤ 16777216 := Nat.le_trans (Nat.le_trans (Nat.le_add_right _ _) h1) (Nat.le_of_ble_eq_true rfl)
theorem o130 (h1 : a ≤ 1000) : a ≤ 16777216 + 1 := Nat.le_trans h1 (Nat.le_add_left 1000 16776217)
theorem o131 (h1 : a ≤ 100) : a ≤ 1000 := Nat.le_trans h1 (Nat.le_add_left 100 900)
theorem o132 (h1 : ((a : Nat) : Int) = ((b : Nat) : Int)) : a = b := Int.ofNat_inj.mp h1
theorem o133 (h1 : a ≤ b) : a ≤ b + 1 := Nat.le_add_right_of_le h1
theorem o134 (h1 : b < c) (h2 : c = d) (h3 : a ≤ b) (h4 : d ≤ 6) : a ≤ 16777216 := Nat.le_of_not_lt fun h => linF (.branch 2 (.branch 1 (.leaf a) (.leaf b)) (.branch 3 (.leaf c) (.leaf d))) (.add (.add (.add (.add (.add (.var 1) (.num 1)) (.var 2)) (.var 0)) (.var 3)) (.add (.num 16777216) (.num 1))) (.add (.add (.add (.add (.var 2) (.var 3)) (.var 1)) (.num 6)) (.var 0)) rfl (Nat.add_le_add (Nat.add_le_add (Nat.add_le_add (Nat.add_le_add h1 (Nat.le_of_eq h2)) h3) h4) h)
theorem o135 (h1 : a = b) (h2 : b ≤ 6) : a ≤ 6 := le_of_eq_of_le h1 h2
theorem o136 (h1 : a = (min b c)) (h2 : c ≤ 65) : a ≤ 16777216 := Nat.le_trans (Nat.le_of_eq h1) (Nat.le_trans (Nat.min_le_right b c) (Nat.le_trans h2 (Nat.le_of_ble_eq_true rfl)))
theorem o137 (h1 : a < b) (h2 : b ≤ 6) : a < 6 := Nat.lt_of_lt_of_le h1 h2
theorem o138 (h1 : b < c) (h2 : a = (min b c)) : a = b := h2.trans (Nat.min_eq_left (Nat.le_of_lt h1))
theorem o139 (h1 : b < c) (h2 : a = b) (h3 : c = d) (h4 : d ≤ 6) : a ≤ 1000 := Nat.le_of_not_lt fun h => linF (.branch 2 (.branch 1 (.leaf a) (.leaf b)) (.branch 3 (.leaf c) (.leaf d))) (.add (.add (.add (.add (.add (.var 1) (.num 1)) (.var 0)) (.var 2)) (.var 3)) (.add (.num 1000) (.num 1))) (.add (.add (.add (.add (.var 2) (.var 1)) (.var 3)) (.num 6)) (.var 0)) rfl (Nat.add_le_add (Nat.add_le_add (Nat.add_le_add (Nat.add_le_add h1 (Nat.le_of_eq h2)) (Nat.le_of_eq h3)) h4) h)
theorem o140 (h1 : a = (min b b)) (h2 : b ≤ 65) : a ≤ 100 := Nat.le_trans (Nat.le_of_eq h1) (Nat.le_trans (Nat.min_le_right b b) (Nat.le_trans h2 (Nat.le_of_ble_eq_true rfl)))
theorem o141 (h1 : b = a) : a = b := id (Eq.symm h1)
theorem o142 (h1 : a < b) (h2 : b = c) (h3 : c ≤ 6) : a ≤ 16777216 := Nat.le_of_not_lt fun h => linF (.branch 1 (.leaf a) (.branch 2 (.leaf b) (.leaf c))) (.add (.add (.add (.add (.var 0) (.num 1)) (.var 1)) (.var 2)) (.add (.num 16777216) (.num 1))) (.add (.add (.add (.var 1) (.var 2)) (.num 6)) (.var 0)) rfl (Nat.add_le_add (Nat.add_le_add (Nat.add_le_add h1 (Nat.le_of_eq h2)) h3) h)
theorem o143 (h1 : b < c) (h2 : a = b) (h3 : c ≤ 6) : a ≤ 1000 := Nat.le_of_not_lt fun h => linF (.branch 1 (.leaf a) (.branch 2 (.leaf b) (.leaf c))) (.add (.add (.add (.add (.var 1) (.num 1)) (.var 0)) (.var 2)) (.add (.num 1000) (.num 1))) (.add (.add (.add (.var 2) (.var 1)) (.num 6)) (.var 0)) rfl (Nat.add_le_add (Nat.add_le_add (Nat.add_le_add h1 (Nat.le_of_eq h2)) h3) h)
theorem o144 (h1 : a - 1 ≤ b) : a ≤ b + 1 := Nat.le_add_of_sub_le h1
theorem o145 (h1 : a + 60 < b) : a + 10 < b := Nat.lt_of_not_le fun h => linF (.branch 1 (.leaf a) (.leaf b)) (.add (.add (.add (.var 0) (.num 60)) (.num 1)) (.var 1)) (.add (.var 1) (.add (.var 0) (.num 10))) rfl (Nat.add_le_add h1 h)
theorem o146 (h1 : a = b) (h2 : b ≤ 6) : (a + 1) - 0 ≤ 7 := by subst h1; exact Nat.succ_le_succ h2
theorem o147 (h1 : a ≤ b) (h2 : b ≤ 5) : a ≤ 5 := Nat.le_trans h1 h2
theorem o148 (h1 : a ≤ 5) : a ≤ 100 := Nat.le_trans h1 (Nat.le_add_left 5 95)
theorem o149 (h1 : ((a : Nat) : Int) < ((b : Nat) : Int) - (1 : Int)) : a + 1 < b := Int.ofNat_lt.mp (Int.add_lt_of_lt_sub_right h1)
theorem o150 (h1 : ¬ (((a : Nat) : Int) < ((b : Nat) : Int) - (1 : Int))) : ¬ (a + 1 < b) := fun e => h1 (Int.lt_sub_right_of_add_lt (Int.ofNat_lt.mpr e))
theorem o151 (h1 : b < c) (h2 : d < e) (h3 : c = f) (h4 : a ≤ (65 * b) + d) (h5 : e ≤ 65) (h6 : f ≤ 6) : a ≤ 16777216 := Nat.le_trans h4 (Nat.le_trans (Nat.add_le_add (Nat.mul_le_mul_left 65 (Nat.le_of_lt (Nat.lt_of_lt_of_le h1 (Nat.le_trans (Nat.le_of_eq h3) h6)))) (Nat.le_of_lt (Nat.lt_of_lt_of_le h2 h5))) (Nat.le_of_ble_eq_true rfl))
theorem o152 (h1 : a ≤ b + c) : a + 1 ≤ b + (c + 1) := Nat.add_le_add_right h1 1
theorem o153 (h1 : a ≤ b + c) : a ≤ b + (c + 1) := Nat.le_succ_of_le h1
theorem o154 (h1 : a ≤ (65 * b) + c) (h2 : c ≤ 65) : a ≤ 65 * (b + 1) := Nat.le_of_not_lt fun h => linF (.branch 1 (.leaf a) (.branch 2 (.leaf b) (.leaf c))) (.add (.add (.var 0) (.var 2)) (.add (.mulL 65 (.add (.var 1) (.num 1))) (.num 1))) (.add (.add (.add (.mulL 65 (.var 1)) (.var 2)) (.num 65)) (.var 0)) rfl (Nat.add_le_add (Nat.add_le_add h1 h2) h)
theorem o155 (h1 : b + a ≤ c) (h2 : c ≤ b) : a = 0 := Nat.le_antisymm (Nat.le_of_not_lt fun h => linF (.branch 1 (.leaf a) (.branch 2 (.leaf b) (.leaf c))) (.add (.add (.add (.var 1) (.var 0)) (.var 2)) (.add (.num 0) (.num 1))) (.add (.add (.var 2) (.var 1)) (.var 0)) rfl (Nat.add_le_add (Nat.add_le_add h1 h2) h)) (Nat.le_of_not_lt fun h => linF (.branch 1 (.leaf a) (.branch 2 (.leaf b) (.leaf c))) (.add (.var 0) (.num 1)) (.num 0) rfl h)
theorem o156 (h1 : a = b) : ¬ (((a : Nat) : Int) < ((b : Nat) : Int)) := by subst h1; exact Int.lt_irrefl ↑a
theorem o157 (h1 : a < b) : ((a : Nat) : Int) < ((b : Nat) : Int) := Int.ofNat_lt.mpr h1
theorem o158 (h1 : a + b ≤ c) (h2 : c ≤ 6) : a ≤ 6 := Nat.le_of_not_lt fun h => linF (.branch 1 (.leaf a) (.branch 2 (.leaf b) (.leaf c))) (.add (.add (.add (.var 0) (.var 1)) (.var 2)) (.add (.num 6) (.num 1))) (.add (.add (.var 2) (.num 6)) (.var 0)) rfl (Nat.add_le_add (Nat.add_le_add h1 h2) h)
theorem o159 {a : Int} {b : Nat} (h1 : a < ((b : Nat) : Int)) (h2 : (0 : Int) ≤ a) : (Int.toNat a) < b := (Int.toNat_lt h2).mpr h1
theorem o160 {a : Int} : a % (6 : Int) = (((Int.toNat (a % (6 : Int))) : Nat) : Int) := (Int.toNat_of_nonneg (Int.emod_nonneg a (by decide))).symm
theorem o161 {a : Nat} {b : Int} (h1 : b % (6 : Int) = ((a : Nat) : Int)) : a < 6 := Int.ofNat_lt.mp (h1 ▸ Int.emod_lt_of_pos b (by decide))
theorem o162 : ¬ ((1 : Int) + ((a : Nat) : Int) < (0 : Int)) := of_decide_eq_false rfl
theorem o163 : (Int.toNat ((1 : Int) + ((a : Nat) : Int))) = a + 1 := congrArg Int.toNat (Int.add_comm 1 a)
theorem o164 {a : Nat} {b : Int} (h1 : b % (6 : Int) = ((a : Nat) : Int)) : (min (a + 1) (0 + 1 + 1 + 1 + 1 + 1 + 1)) = a + 1 := Nat.min_eq_left (Int.ofNat_lt.mp (h1 ▸ Int.emod_lt_of_pos b (by decide)))
theorem o165 : 1 ≤ a + 1 := Nat.le_add_left 1 a
theorem o166 {a : Nat} {b : Int} (h1 : b % (6 : Int) = ((a : Nat) : Int)) : a + 1 ≤ 6 := Int.ofNat_lt.mp (h1 ▸ Int.emod_lt_of_pos b (by decide))
theorem o167 {a : Int} {b : Nat} (h1 : a = ((b : Nat) : Int)) : (1 : Int) + a = (((b + 1) : Nat) : Int) := by subst h1; exact Int.add_comm _ _
theorem o168 {a : Nat} {b : Int} (h1 : b % (6 : Int) = ((a : Nat) : Int)) : (min (a + 1) 6) = a + 1 := Nat.min_eq_left (Int.ofNat_lt.mp (h1 ▸ Int.emod_lt_of_pos b (by decide)))
theorem o169 (h1 : a < (min b c)) : a < b := Nat.lt_of_lt_of_le h1 (Nat.min_le_left b c)
theorem o170 {a b : Nat} {c : Int} (h1 : a < b + 1) (h2 : c % (6 : Int) = ((b : Nat) : Int)) : a < 6 := Nat.lt_of_le_of_lt (Nat.le_of_lt_succ h1) (Int.ofNat_lt.mp (h2 ▸ Int.emod_lt_of_pos c (by decide)))
theorem o171 (h1 : a < b) : a < b + 1 + 1 := Nat.lt_trans h1 (Nat.le_add_right b.succ 1)
theorem o172 (h1 : a < b) : a < b + 1 := Nat.lt_add_right 1 h1
theorem o173 (h1 : a < b) : a < b + 1 + 1 + 1 := Nat.lt_of_not_le fun h => linF (.branch 1 (.leaf a) (.leaf b)) (.add (.add (.var 0) (.num 1)) (.add (.add (.add (.var 1) (.num 1)) (.num 1)) (.num 1))) (.add (.var 1) (.var 0)) rfl (Nat.add_le_add h1 h)
theorem o174 : a < a + 1 + 1 + 1 := Nat.lt_of_lt_of_le (Nat.le_succ a.succ) (Nat.le_add_right a.succ.succ 1)
theorem o175 : a < a + 1 := Nat.lt_add_one a
theorem o176 : a < a + 1 + 1 := Nat.lt_of_lt_of_le (Nat.le_succ a.succ) (Nat.lt_succ_self (a + 1))
theorem o177 (h1 : b = c) (h2 : a + 1 ≤ c) : a < b := Nat.lt_of_lt_of_eq h2 (id (Eq.symm h1))
theorem o178 (h1 : a < b + 1) (h2 : b ≤ a) : a = b := Nat.eq_of_le_of_lt_succ h2 h1
theorem o179 : 0 < 7 := Nat.le_of_ble_eq_true rfl
theorem o180 (h1 : a ≤ 6) : (a + 1) - 1 ≤ 7 := Nat.le_succ_of_le h1
theorem o181 (h1 : b < c) (h2 : a ≤ b) (h3 : c ≤ 6) : a ≤ 5 := Nat.le_of_not_lt fun h => linF (.branch 1 (.leaf a) (.branch 2 (.leaf b) (.leaf c))) (.add (.add (.add (.add (.var 1) (.num 1)) (.var 0)) (.var 2)) (.add (.num 5) (.num 1))) (.add (.add (.add (.var 2) (.var 1)) (.num 6)) (.var 0)) rfl (Nat.add_le_add (Nat.add_le_add (Nat.add_le_add h1 h2) h3) h)
theorem o182 (h1 : a < b) (h2 : b ≤ 6) : a ≤ 100 := Nat.le_of_not_lt fun h => linF (.branch 1 (.leaf a) (.leaf b)) (.add (.add (.add (.var 0) (.num 1)) (.var 1)) (.add (.num 100) (.num 1))) (.add (.add (.var 1) (.num 6)) (.var 0)) rfl (Nat.add_le_add (Nat.add_le_add h1 h2) h)
theorem o183 : 1 ≤ 100 := Nat.le_of_ble_eq_true rfl
theorem o184 (h1 : c + 1 ≤ b) (h2 : a ≤ c) : a + 1 ≤ b := Nat.lt_of_le_of_lt h2 h1
theorem o185 : 0 < a + 1 := Nat.zero_lt_succ a
theorem o186 (h1 : a < c) (h2 : c < b + 1) : a < b := Nat.lt_of_not_le fun h => linF (.branch 1 (.leaf a) (.branch 2 (.leaf b) (.leaf c))) (.add (.add (.add (.var 0) (.num 1)) (.add (.var 2) (.num 1))) (.var 1)) (.add (.add (.var 2) (.add (.var 1) (.num 1))) (.var 0)) rfl (Nat.add_le_add (Nat.add_le_add h1 h2) h)
theorem o187 (h1 : a + 1 ≤ b) (h2 : b ≤ a) : False := Nat.not_lt_of_le h2 h1
theorem o188 (h1 : a < 0) : False := Nat.not_succ_le_zero a h1
theorem o189 (h1 : b < a) : 0 < a := Nat.zero_lt_of_lt h1
theorem o190 (h1 : a < c) (h2 : b = c) : (min a b) = a := Nat.min_eq_left (Nat.le_of_lt (Nat.lt_of_lt_of_eq h1 h2.symm))
theorem o191 (h1 : a < b) : a + 1 ≤ b := h1
theorem o192 (h1 : c = b) (h2 : a ≤ b) (h3 : c ≤ a) : a = b := by subst h1; exact Nat.le_antisymm h2 h3
theorem o193 (h1 : a + 1 ≤ 0 + 1) : a = 0 := Nat.lt_one_iff.mp h1
theorem o194 (h1 : a + 1 ≤ b) : a < b := h1
theorem o195 (h1 : a + 1 ≤ b + 1) : a ≤ b := Nat.le_of_lt_succ h1
theorem o196 (h1 : a ≤ 0) : a = 0 := Nat.eq_zero_of_le_zero h1
theorem o197 (h1 : a = 1 + b) : 0 < a := by subst h1; exact Nat.pos_of_neZero (1 + b)
theorem o198 (h1 : a < b) : a + 1 < 1 + b := Nat.lt_one_add_iff.mpr h1
theorem o199 (h1 : ¬ (a < b)) : ¬ (a + 1 < 1 + b) := fun h => linF (.branch 1 (.leaf a) (.leaf b)) (.add (.var 1) (.add (.add (.var 0) (.num 1)) (.num 1))) (.add (.var 0) (.add (.num 1) (.var 1))) rfl (Nat.add_le_add (Nat.le_of_not_lt h1) h)
theorem o200 : 1 + a = a + 1 := Nat.add_comm 1 a
theorem o201 : ¬ (a + 1 = 0) := Nat.add_one_ne_zero a
theorem o202 : ¬ (a < 0) := Nat.not_lt_zero a
theorem o203 (h1 : a < c) (h2 : c + 1 ≤ b) : a < b := Nat.lt_trans h1 h2
theorem o204 (h1 : a = c) (h2 : ¬ (b < c)) : a ≤ b := by subst h1; exact Nat.le_of_not_lt h2
theorem o205 {a : Int} : ¬ (((1 : Int) ≤ a) ∧ (a ≤ ((0 : Nat) : Int))) := fun h => absurd (Int.le_trans h.1 h.2) (by decide)
theorem o206 {a : Int} {b : Nat} : (a - (1 : Int)) - ((b : Nat) : Int) = a - (((b + 1) : Nat) : Int) := by rw [Int.sub_sub]; exact congrArg (a - ·) (Int.add_comm 1 b)
theorem o207 {a b : Int} (h1 : a = (1 : Int)) : ¬ (((1 : Int) ≤ a - (1 : Int)) ∧ (a - (1 : Int) ≤ b)) := by subst h1; exact of_decide_eq_false rfl
theorem o208 {a : Int} {b : Nat} (h1 : a = (1 : Int)) : ((1 : Int) ≤ a) ∧ (a ≤ (((b + 1) : Nat) : Int)) := ⟨Int.le_of_eq h1.symm, h1 ▸ Int.ofNat_le.mpr (Nat.succ_pos b)⟩
theorem o209 {a : Int} {b : Nat} (h1 : ((1 : Int) ≤ a - (1 : Int)) ∧ (a - (1 : Int) ≤ ((b : Nat) : Int))) : ((1 : Int) ≤ a) ∧ (a ≤ (((b + 1) : Nat) : Int)) := ⟨Int.le_trans h1.1 (Int.sub_le_self a (by decide)), Int.le_add_of_sub_right_le h1.2⟩
theorem o210 {a : Int} {b : Nat} (h1 : ¬ (a = (1 : Int))) (h2 : ¬ (((1 : Int) ≤ a - (1 : Int)) ∧ (a - (1 : Int) ≤ ((b : Nat) : Int)))) : ¬ (((1 : Int) ≤ a) ∧ (a ≤ (((b + 1) : Nat) : Int))) := fun h => h2 ⟨Int.le_sub_right_of_add_le (Int.lt_iff_le_and_ne.mpr ⟨h.1, Ne.symm h1⟩), Int.sub_right_le_of_le_add h.2⟩
theorem o211 (h1 : a = b + c) : a + 1 = b + (c + 1) := Nat.add_left_inj.mpr h1
theorem o212 (h1 : a = b + c) : a + 1 = b + 1 + c := by subst h1; exact Nat.add_right_comm b c 1
theorem o213 (h1 : a = c + b) : ((a : Nat) : Int) - ((b : Nat) : Int) = ((c : Nat) : Int) := Int.sub_eq_iff_eq_add.mpr (congrArg Nat.cast h1)
theorem o214 (h1 : b = a + c) (h2 : ((b : Nat) : Int) ≤ ((c : Nat) : Int)) : a = 0 := Nat.le_zero.mp (Nat.le_of_add_le_add_right (Nat.le_trans (Nat.le_of_eq h1.symm) (Nat.le_trans (Int.ofNat_le.mp h2) (Nat.le_of_eq (Nat.zero_add c).symm))))
theorem o215 {a : Nat} {b : Int} (h1 : a = 0) (h2 : (1 : Int) ≤ b) (h3 : b ≤ ((a : Nat) : Int)) : False := by subst h1; exact absurd (Int.le_trans h2 h3) (by decide)
theorem o216 (h1 : a = c + b) (h2 : c = 0) (h3 : 1 ≤ b) : ((1 : Int) ≤ ((a : Nat) : Int)) ∧ (((a : Nat) : Int) ≤ ((b : Nat) : Int)) := by subst h2; rw [Nat.zero_add] at h1; subst h1; exact ⟨Int.ofNat_le.mpr h3, Int.le_refl _⟩
theorem o217 {a b : Int} (h1 : a < b) (h2 : b < a) : False := Int.lt_irrefl a (Int.lt_trans h1 h2)
theorem o218 {a b : Int} (h1 : a < b) (h2 : b = a) : False := Int.ne_of_lt h1 h2.symm
theorem o219 (h1 : a < b) (h2 : b < a) : False := linF (.branch 1 (.leaf a) (.leaf b)) (.add (.add (.var 0) (.num 1)) (.add (.var 1) (.num 1))) (.add (.var 1) (.var 0)) rfl (Nat.add_le_add h1 h2)
theorem o220 : (-(1 : Int)) ≤ ((a : Nat) : Int) := Int.neg_ofNat_le_natCast 1 a
theorem o221 (h1 : a < b) : ((a : Nat) : Int) ≤ ((b : Nat) : Int) := Int.ofNat_le.mpr (Nat.le_of_lt h1)
theorem o222 {a : Int} : a ≤ a := Int.le_refl a
theorem o223 {a c : Nat} {b : Int} (h1 : (((c + a) : Nat) : Int) ≤ b) : ((a : Nat) : Int) ≤ b := Int.le_trans (Int.ofNat_le.mpr (Nat.le_add_left a c)) h1
theorem o224 {a : Nat} {b : Int} (h1 : (((a + 1) : Nat) : Int) ≤ b) : ((a : Nat) : Int) < b := h1
theorem o225 : ¬ (((a : Nat) : Int) + (1 : Int) = (0 : Int)) := not_eq_of_beq_eq_false rfl
theorem o226 (h1 : a + 60 < b) : a < b := Nat.lt_of_add_right_lt h1
theorem o227 (h1 : a = b) (h2 : b ≤ c) (h3 : c ≤ 6) : a ≤ 16777216 := Nat.le_of_not_lt fun h => linF (.branch 1 (.leaf a) (.branch 2 (.leaf b) (.leaf c))) (.add (.add (.add (.var 0) (.var 1)) (.var 2)) (.add (.num 16777216) (.num 1))) (.add (.add (.add (.var 1) (.var 2)) (.num 6)) (.var 0)) rfl (Nat.add_le_add (Nat.add_le_add (Nat.add_le_add (Nat.le_of_eq h1) h2) h3) h)
theorem o228 (h1 : a + 60 < b) : a + 1 + 30 < b := Nat.lt_of_not_le fun h => linF (.branch 1 (.leaf a) (.leaf b)) (.add (.add (.add (.var 0) (.num 60)) (.num 1)) (.var 1)) (.add (.var 1) (.add (.add (.var 0) (.num 1)) (.num 30))) rfl (Nat.add_le_add h1 h)
theorem o229 (h1 : ¬ (a = b)) : ¬ (((a : Nat) : Int) = ((b : Nat) : Int)) := Nat.ToInt.of_diseq rfl rfl h1
theorem o230 {a b c : Int} (h1 : (max a c) ≤ b) : a ≤ b := Int.le_trans (Int.le_max_left a c) h1
theorem o231 {a b c : Int} (h1 : (max c a) ≤ b) : a ≤ b := Int.le_trans (Int.le_max_right c a) h1
theorem o232 {a b : Int} (h1 : ¬ (b ≤ a)) : a ≤ b := Int.le_of_not_le h1
theorem o233 (h1 : a < c) (h2 : c < b) : a < b := Nat.lt_trans h1 h2
theorem o234 (h1 : a + 100 < b) : a + 64 < b := Nat.lt_of_not_le fun h => linF (.branch 1 (.leaf a) (.leaf b)) (.add (.add (.add (.var 0) (.num 100)) (.num 1)) (.var 1)) (.add (.var 1) (.add (.var 0) (.num 64))) rfl (Nat.add_le_add h1 h)
theorem o235 (h1 : a = b) (h2 : b ≤ (min c d)) (h3 : d ≤ 100) : a ≤ 16777216 := Nat.le_trans (Nat.le_of_eq h1) (Nat.le_trans h2 (Nat.le_trans (Nat.min_le_right c d) (Nat.le_trans h3 (Nat.le_of_ble_eq_true rfl))))
theorem o236 (h1 : a = b) (h2 : b ≤ (min c d)) (h3 : d ≤ 6) : a ≤ 16777216 := Nat.le_trans (Nat.le_of_eq h1) (Nat.le_trans h2 (Nat.le_trans (Nat.min_le_right c d) (Nat.le_trans h3 (Nat.le_of_ble_eq_true rfl))))
theorem o237 (h1 : b + 1 + 1 < a) (h2 : 169 < b) : ¬ (a = 169) := fun h => linF (.branch 1 (.leaf a) (.leaf b)) (.add (.add (.add (.add (.add (.var 1) (.num 1)) (.num 1)) (.num 1)) (.add (.num 169) (.num 1))) (.var 0)) (.add (.add (.var 0) (.var 1)) (.num 169)) rfl (Nat.add_le_add (Nat.add_le_add h1 h2) (Nat.le_of_eq h))
theorem o238 (h1 : 169 < a) : ¬ (a + 1 + 1 = 169) := fun h => linF (.leaf a) (.add (.add (.num 169) (.num 1)) (.add (.add (.var 0) (.num 1)) (.num 1))) (.add (.var 0) (.num 169)) rfl (Nat.add_le_add h1 (Nat.le_of_eq h))
theorem o239 (h1 : 169 < a) : ¬ (a + 1 = 169) := Nat.ne_of_gt (Nat.le.step h1)
theorem o240 (h1 : a = b) (h2 : b ≤ 6) : a < 64 := Nat.lt_of_le_of_lt (Nat.le_trans (Nat.le_of_eq h1) h2) (Nat.le_of_ble_eq_true rfl)
theorem o241 (h1 : a + 60 < b) : a + 1 < b := Nat.lt_of_not_le fun h => linF (.branch 1 (.leaf a) (.leaf b)) (.add (.add (.add (.var 0) (.num 60)) (.num 1)) (.var 1)) (.add (.var 1) (.add (.var 0) (.num 1))) rfl (Nat.add_le_add h1 h)
theorem o242 (h1 : a = (min b c)) (h2 : c ≤ 100) : a ≤ 16777216 := Nat.le_trans (Nat.le_of_eq h1) (Nat.le_trans (Nat.min_le_right b c) (Nat.le_trans h2 (Nat.le_of_ble_eq_true rfl)))
theorem o243 (h1 : a = b) (h2 : b ≤ 100) : a ≤ 100 := le_of_eq_of_le h1 h2
theorem o244 : a + 100 + (100 * b) ≤ a + (100 * (b + 1)) := Nat.le_of_not_lt fun h => linF (.branch 1 (.leaf a) (.leaf b)) (.add (.add (.var 0) (.mulL 100 (.add (.var 1) (.num 1)))) (.num 1)) (.add (.add (.var 0) (.num 100)) (.mulL 100 (.var 1))) rfl h
theorem o245 (h1 : a + 60 < b) : a + 1 + 1 + 30 < b := Nat.lt_of_not_le fun h => linF (.branch 1 (.leaf a) (.leaf b)) (.add (.add (.add (.var 0) (.num 60)) (.num 1)) (.var 1)) (.add (.var 1) (.add (.add (.add (.var 0) (.num 1)) (.num 1)) (.num 30))) rfl (Nat.add_le_add h1 h)
theorem o246 (h1 : a < b) (h2 : b ≤ 6) : a ≤ 5 := Nat.le_of_not_lt fun h => linF (.branch 1 (.leaf a) (.leaf b)) (.add (.add (.add (.var 0) (.num 1)) (.var 1)) (.add (.num 5) (.num 1))) (.add (.add (.var 1) (.num 6)) (.var 0)) rfl (Nat.add_le_add (Nat.add_le_add h1 h2) h)
theorem o247 (h1 : a ≤ 5) (h2 : b ≤ 100) : (100 * a) + b ≤ 100000 := Nat.le_trans (Nat.add_le_add (Nat.mul_le_mul_left 100 h1) h2) (Nat.le_of_ble_eq_true rfl)
theorem o248 (h1 : a + 10 < b) : a + 1 < b := Nat.lt_of_not_le fun h => linF (.branch 1 (.leaf a) (.leaf b)) (.add (.add (.add (.var 0) (.num 10)) (.num 1)) (.var 1)) (.add (.var 1) (.add (.var 0) (.num 1))) rfl (Nat.add_le_add h1 h)
theorem o249 {P0 : Prop} (h1 : (a < b) ∧ ((c < b) ∧ (P0))) : a < b := (h1.1)
theorem o250 (h1 : a + 20 < b) : a < b := Nat.lt_of_add_right_lt h1
theorem o251 (h1 : a + 0 = b) : a ≤ b := Nat.le_of_eq h1
theorem o252 (h1 : a + (c + 1) = b) : a < b := Nat.lt_of_not_le fun h => linF (.branch 1 (.leaf a) (.branch 2 (.leaf b) (.leaf c))) (.add (.add (.var 0) (.add (.var 2) (.num 1))) (.var 1)) (.add (.var 1) (.var 0)) rfl (Nat.add_le_add (Nat.le_of_eq h1) h)
theorem o253 (h1 : 1 ≤ a) : a - 1 < a := Nat.sub_one_lt_of_lt h1
theorem o254 (h1 : c + (d + 1) = b) (h2 : a = c) : a < b := Nat.lt_of_not_le fun h => linF (.branch 2 (.branch 1 (.leaf a) (.leaf b)) (.branch 3 (.leaf c) (.leaf d))) (.add (.add (.add (.var 2) (.add (.var 3) (.num 1))) (.var 0)) (.var 1)) (.add (.add (.var 1) (.var 2)) (.var 0)) rfl (Nat.add_le_add (Nat.add_le_add (Nat.le_of_eq h1) (Nat.le_of_eq h2)) h)
theorem o255 (h1 : a < c) (h2 : c + d = b) : a < b := by subst h2; exact Nat.lt_add_right d h1
theorem o256 (h1 : a + c = b) : a ≤ b := Nat.le.intro h1
theorem o257 (h1 : a + (b + 1) = c) : a + 1 + b = c := by subst h1; exact Nat.succ_add_eq_add_succ a b
theorem o258 (h1 : a = b) : a < b + 1 := by solve_by_elim (maxDepth := 4) [Nat.lt_of_lt_of_le, Nat.lt_of_le_of_lt, Nat.lt_trans, Nat.le_trans, Nat.le_of_lt, Nat.lt_succ_of_le, Nat.le_of_lt_succ, Nat.lt_of_le_of_ne, Nat.ne_of_lt, Nat.ne_of_gt, Nat.le_add_right, Nat.le_add_left, Nat.lt_irrefl, Nat.sub_le, Nat.le_succ, Nat.lt_succ_self, Nat.sub_lt, Nat.pos_of_ne_zero, Nat.le_of_not_lt, Nat.lt_of_not_le, Nat.not_lt_of_le, Nat.not_le_of_gt, Nat.le_of_eq, Eq.symm, Eq.trans, Ne.symm]
theorem o259 (h1 : a < b) (h2 : ¬ (a = b - 1)) : a < b - 1 := Nat.lt_of_le_of_ne (Nat.le_sub_one_of_lt h1) h2
theorem o260 {a b : Int} (h1 : a < b) : a ≤ b := Int.le_of_lt h1
theorem o261 {a b : Int} (h1 : a = b) : a ≤ b := Int.le_of_eq h1
theorem o262 {a b c : Int} (h1 : ¬ (a < b)) (h2 : ¬ (b < c)) (h3 : a ≤ c) : a = b := Int.le_antisymm (Int.le_trans h3 (Int.not_lt.mp h2)) (Int.not_lt.mp h1)
theorem o263 (h1 : c < b) : a ≤ ((a + b) - 1) - c := Nat.le_sub_of_add_le (Nat.le_sub_one_of_lt (Nat.add_lt_add_left h1 a))
theorem o264 (h1 : c < b) (h2 : a ≤ c) : ((a + b) - 1) - c < b := by rw [Nat.sub_sub, Nat.add_comm 1 c]; exact Nat.sub_lt_left_of_lt_add (Nat.le_trans h1 (Nat.le_add_left b a)) (Nat.add_lt_add_right (Nat.lt_succ_of_le h2) b)
theorem o265 (h1 : b < a) : ¬ ((a ≤ b) ∧ (b < c)) := fun e => Nat.not_lt_of_le e.1 h1
theorem o266 (h1 : c ≤ b) : ¬ ((a ≤ b) ∧ (b < c)) := fun e => Nat.not_lt_of_le h1 e.2
theorem o267 (h1 : ¬ (b ≤ a)) : a < b := Nat.lt_of_not_le h1
theorem o268 (h1 : c < b) (h2 : a ≤ c) : a ≤ b := Nat.le_of_not_lt fun h => linF (.branch 1 (.leaf a) (.branch 2 (.leaf b) (.leaf c))) (.add (.add (.add (.var 2) (.num 1)) (.var 0)) (.add (.var 1) (.num 1))) (.add (.add (.var 1) (.var 2)) (.var 0)) rfl (Nat.add_le_add (Nat.add_le_add h1 h2) h)
theorem o269 (h1 : c < b) (h2 : d < c) : ((a + b) - 1) - c < ((a + b) - 1) - d := Nat.sub_lt_sub_left (Nat.lt_of_lt_of_le h2 (Nat.le_trans (Nat.le_sub_one_of_lt h1) (Nat.sub_le_sub_right (Nat.le_add_left b a) 1))) h2
theorem o270 (h1 : d < c) (h2 : ¬ (b ≤ a)) : a < ((b + c) - 1) - d := Nat.lt_sub_of_add_lt (Nat.lt_of_lt_of_le (Nat.add_lt_add_right (Nat.lt_of_not_le h2) d) (Nat.le_sub_one_of_lt (Nat.add_lt_add_left h1 b)))
theorem o271 (h1 : ¬ ((a - 1) - b ≤ d)) (h2 : (a - 1) - b ≤ c) : ((((a - 1) - b) + a) - 1) - c < a := Nat.lt_of_le_of_lt (Nat.sub_le_sub_left h2 _) (by rw [Nat.add_sub_assoc (Nat.zero_lt_of_lt (Nat.lt_of_lt_of_le (Nat.lt_of_not_le h1) (Nat.le_trans (Nat.sub_le _ _) (Nat.sub_le _ _)))), Nat.add_sub_cancel_left]; exact Nat.sub_lt (Nat.zero_lt_of_lt (Nat.lt_of_lt_of_le (Nat.lt_of_not_le h1) (Nat.le_trans (Nat.sub_le _ _) (Nat.sub_le _ _)))) Nat.one_pos)
theorem o272 (h1 : ¬ (b - c ≤ a)) : a < b := Nat.lt_of_lt_of_le (Nat.lt_of_not_le h1) (Nat.sub_le b c)
theorem o273 (h1 : b < a) : a - 1 < a := Nat.sub_one_lt_of_lt h1
theorem o274 : a - b ≤ a := Nat.sub_le a b
theorem o275 (h1 : b + 1 ≤ a) : a - 1 < a := Nat.sub_one_lt_of_lt h1
theorem o276 : 0 + 1 ≤ a + 1 := Nat.le_add_left (0 + 1) a
theorem o277 (h1 : a < b + 1) (h2 : ((b + 1) - 1) - 0 ≤ a) : a = b := Nat.eq_of_le_of_lt_succ h2 h1
theorem o278 {a b c : Int} (h1 : a < c) (h2 : c ≤ b) : a < b := Int.lt_of_lt_of_le h1 h2
theorem o279 (h1 : c + (d + 1) = b) (h2 : a = c - 1) : a < b := by subst h2; exact Nat.lt_of_le_of_lt (Nat.sub_le c 1) (Nat.lt_of_lt_of_le (Nat.lt_add_of_pos_right (Nat.succ_pos d)) (Nat.le_of_eq h1))
theorem o280 : a - (b + 1) = (a - 1) - b := (Nat.sub_sub a 1 b).symm ▸ congrArg (a - ·) (Nat.add_comm b 1)
theorem o281 (h1 : ¬ (0 < c)) (h2 : ((b - 1) - c ≤ a) ∧ (a < b)) : a = ((((b - 1) - c) + b) - 1) - a := by obtain rfl := Nat.eq_zero_of_not_pos h1; obtain rfl := Nat.le_antisymm h2.1 (Nat.le_sub_one_of_lt h2.2); rw [Nat.sub_zero, Nat.add_sub_assoc (Nat.zero_lt_of_lt h2.2), Nat.add_sub_cancel_left]
theorem o282 (h1 : a ≤ b) : a + 1 ≤ b + 1 := Nat.add_le_add_right h1 1
theorem o283 (h1 : ((a + 1) - 1) - (b + 1) ≤ c) : (a - 1) - b ≤ c := Nat.le_trans (Nat.le_of_eq (by rw [Nat.add_sub_cancel, Nat.sub_sub, Nat.add_comm 1])) h1
theorem o284 {a b : Int} (h1 : ¬ (a < b)) (h2 : ¬ (b < a)) : a = b := Int.le_antisymm (Int.not_lt.mp h2) (Int.not_lt.mp h1)
theorem o285 (h1 : a < ((b + 1) - 1) - (c + 1)) : a < b - 1 := Nat.lt_of_lt_of_le h1 (by rw [Nat.add_sub_cancel]; exact Nat.sub_le_sub_left (Nat.succ_pos c) b)
theorem o286 (h1 : a < ((b + 1) - 1) - (c + 1)) : a < (b - 1) - c := Nat.lt_of_lt_of_eq h1 (by rw [Nat.add_sub_cancel, Nat.sub_sub, Nat.add_comm 1])
theorem o287 {a b c : Int} (h1 : c < b) (h2 : ¬ (c < a)) : a < b := Int.lt_of_le_of_lt (Int.not_lt.mp h2) h1
theorem o288 (h1 : a - 1 < b) (h2 : b < a) : False := Nat.not_lt_of_le (Nat.le_sub_one_of_lt h2) h1
theorem o289 (h1 : ¬ (a < b)) : ¬ ((0 ≤ a) ∧ (a < b)) := not_and.mpr fun a => h1
theorem o290 (h1 : a ≤ b) : a + (b - a) = b := Nat.add_sub_of_le h1
theorem o291 (h1 : 1 ≤ b) (h2 : b ≤ a) : 1 ≤ a := Nat.le_trans h1 h2
theorem o292 (h1 : b ≤ a) : ¬ (a < b) := Nat.not_lt_of_le h1
theorem o293 (h1 : b < a) : (a - 1) - b < a := Nat.sub_one_sub_lt_of_lt h1
theorem o294 (h1 : b < a) (h2 : c < b) : (a - 1) - b < (a - 1) - c := Nat.sub_lt_sub_left (Nat.lt_of_lt_of_le h2 (Nat.le_sub_one_of_lt h1)) h2
theorem o295 (h1 : c < a) : (a - 1) - b < a := Nat.lt_of_le_of_lt (Nat.sub_le _ b) (Nat.sub_lt (Nat.zero_lt_of_lt h1) Nat.one_pos)
theorem o296 (h1 : a < b) : a + 1 + (b - (a + 1)) = b := Nat.add_sub_of_le h1
theorem o297 (h1 : b + 1 ≤ a) : 1 ≤ a := Nat.one_le_of_lt h1
theorem o298 (h1 : a < c) (h2 : c ≤ b) : a < b := Nat.lt_of_lt_of_le h1 h2
theorem o299 (h1 : 1 ≤ a) : 1 + (a - 1) = a := Nat.add_sub_of_le h1
theorem o300 (h1 : a < 1) (h2 : b < a) : False := linF (.branch 1 (.leaf a) (.leaf b)) (.add (.add (.var 0) (.num 1)) (.add (.var 1) (.num 1))) (.add (.num 1) (.var 0)) rfl (Nat.add_le_add h1 h2)
theorem o301 (h1 : ¬ (a = b)) (h2 : a ≤ b) : a < b := Nat.lt_of_le_of_ne h2 h1
theorem o302 (h1 : 1 ≤ a) (h2 : a ≤ b) : a - 1 < b := Nat.sub_one_lt_of_le h1 h2
theorem o303 (h1 : 1 ≤ a) : 0 < a := h1
theorem o304 (h1 : 1 < a) (h2 : a ≤ b) : a - 1 < b := Nat.lt_of_lt_of_le (Nat.sub_lt (Nat.lt_of_succ_lt h1) Nat.one_pos) h2
theorem o305 (h1 : ¬ (a = 0)) : 0 < a := Nat.zero_lt_of_ne_zero h1
theorem o306 (h1 : 1 < a) : a - 1 < a := Nat.sub_one_lt_of_lt h1
theorem o307 {a b c : Int} (h1 : ¬ (c < b)) (h2 : a ≤ b) (h3 : c ≤ a) : a = b := Int.le_antisymm h2 (Int.le_trans (Int.not_lt.mp h1) h3)
theorem o308 (h1 : b < a) (h2 : a ≤ c) : ((0 + a) - 1) - b < c := by rw [Nat.zero_add]; exact Nat.lt_of_lt_of_le (Nat.lt_of_le_of_lt (Nat.sub_le _ b) (Nat.sub_lt (Nat.zero_lt_of_lt h1) Nat.one_pos)) h2
theorem o309 : ((0 + a) - 1) - b = (a - 1) - b := congrArg (· - 1 - b) (Nat.zero_add a)
theorem o310 (h1 : b + 1 ≤ a) : ¬ (a < b) := Nat.not_lt_of_gt h1
theorem o311 (h1 : a < c + 1) (h2 : ¬ (c = b)) (h3 : c ≤ b) : a < b := Nat.lt_of_le_of_lt (Nat.le_of_lt_succ h1) (Nat.lt_of_le_of_ne h3 h2)
theorem o312 : (a - 1) - b < a + 1 := Nat.lt_succ_of_le (Nat.le_trans (Nat.sub_le _ b) (Nat.sub_le a 1))
theorem o313 : ¬ (a < a) := Nat.lt_irrefl a
theorem o314 (h1 : a < c) (h2 : c < d + 1) (h3 : d ≤ b) : a < b := Nat.lt_of_not_le fun h => linF (.branch 2 (.branch 1 (.leaf a) (.leaf b)) (.branch 3 (.leaf c) (.leaf d))) (.add (.add (.add (.add (.var 0) (.num 1)) (.add (.var 2) (.num 1))) (.var 3)) (.var 1)) (.add (.add (.add (.var 2) (.add (.var 3) (.num 1))) (.var 1)) (.var 0)) rfl (Nat.add_le_add (Nat.add_le_add (Nat.add_le_add h1 h2) h3) h)
theorem o315 {a b c : Int} (h1 : a < c) (h2 : b = c) : a < b := lt_of_lt_of_eq h1 (id (Eq.symm h2))
theorem o316 (h1 : 1 < a) : (a - 1) - b < a := Nat.lt_of_le_of_lt (Nat.sub_le _ b) (Nat.sub_lt (Nat.lt_of_succ_lt h1) Nat.one_pos)
theorem o317 (h1 : b < c) (h2 : c < a + 1) : (a - 1) - b < a := Nat.lt_of_le_of_lt (Nat.sub_le _ b) (Nat.sub_lt (Nat.lt_of_lt_of_le (Nat.zero_lt_of_lt h1) (Nat.le_of_lt_succ h2)) Nat.one_pos)
theorem o318 (h1 : b < a + 1) (h2 : c < b) (h3 : ¬ (b = a)) : (a - 1) - b < (a - 1) - c := Nat.sub_lt_sub_left (Nat.lt_of_lt_of_le h2 (Nat.le_sub_one_of_lt (Nat.lt_of_le_of_ne (Nat.le_of_lt_succ h1) h3))) h2
theorem o319 (h1 : ¬ (1 < a)) (h2 : 1 ≤ a) : a = 1 := Nat.le_antisymm (Nat.le_of_not_lt fun h => linF (.leaf a) (.add (.var 0) (.add (.num 1) (.num 1))) (.add (.num 1) (.var 0)) rfl (Nat.add_le_add (Nat.le_of_not_lt h1) h)) (Nat.le_of_not_lt fun h => linF (.leaf a) (.add (.num 1) (.add (.var 0) (.num 1))) (.add (.var 0) (.num 1)) rfl (Nat.add_le_add h2 h))
theorem o320 (h1 : ¬ (1 = a)) (h2 : 1 ≤ a) : 1 < a := Nat.lt_of_le_of_ne h2 h1
theorem o321 (h1 : ¬ (1 = a)) (h2 : 1 ≤ a) : 2 ≤ a := Nat.lt_of_le_of_ne h2 h1
theorem o322 : 0 + 1 ≤ 1 + 1 := Nat.le_of_ble_eq_true rfl
theorem o323 (h1 : a < 1 + 1) (h2 : ((1 + 1) - 1) - 0 ≤ a) : a = 1 := Nat.eq_of_le_of_lt_succ h2 h1
theorem o324 (h1 : a < ((1 + 1) - 1) - 0) : a = 0 := Nat.lt_one_iff.mp h1
theorem o325 (h1 : a < 1 + 1) (h2 : b < a) : a = 1 := Nat.le_antisymm (Nat.le_of_not_lt fun h => linF (.branch 1 (.leaf a) (.leaf b)) (.add (.add (.var 0) (.num 1)) (.add (.num 1) (.num 1))) (.add (.add (.num 1) (.num 1)) (.var 0)) rfl (Nat.add_le_add h1 h)) (Nat.le_of_not_lt fun h => linF (.branch 1 (.leaf a) (.leaf b)) (.add (.add (.var 1) (.num 1)) (.add (.var 0) (.num 1))) (.add (.var 0) (.num 1)) rfl (Nat.add_le_add h2 h))
theorem o326 (h1 : a ≤ c) (h2 : c ≤ b) : a ≤ b := Nat.le_trans h1 h2
theorem o327 (h1 : a ≤ c + 0) (h2 : c ≤ b) : a ≤ b := Nat.le_trans h1 h2
theorem o328 (h1 : a ≤ b) (h2 : b ≤ a) : a = b := Nat.le_antisymm h1 h2
theorem o329 (h1 : ¬ (b ≤ a)) (h2 : b ≤ c) : (a + b) / 2 < c := Nat.div_lt_of_lt_mul (by rw [Nat.two_mul]; exact Nat.add_lt_add_of_lt_of_le (Nat.lt_of_lt_of_le (Nat.lt_of_not_le h1) h2) h2)
theorem o330 (h1 : c < b) (h2 : a = c) : a < b := lt_of_eq_of_lt h2 h1
theorem o331 (h1 : b ≤ a + (c + 1)) : (a + b) / 2 ≤ a + c := Nat.le_of_lt_succ (Nat.div_lt_of_lt_mul (Nat.lt_of_not_le fun h => linF (.branch 1 (.leaf a) (.branch 2 (.leaf b) (.leaf c))) (.add (.var 1) (.mulL 2 (.add (.add (.var 0) (.var 2)) (.num 1)))) (.add (.add (.var 0) (.add (.var 2) (.num 1))) (.add (.var 0) (.var 1))) rfl (Nat.add_le_add h1 h)))
theorem o332 (h1 : ¬ (b ≤ a)) : a ≤ (a + b) / 2 := (Nat.le_div_iff_mul_le Nat.two_pos).mpr (by rw [Nat.mul_two]; exact Nat.add_le_add_left (Nat.le_of_lt (Nat.lt_of_not_le h1)) a)
theorem o333 (h1 : ¬ (b ≤ a)) (h2 : b ≤ c) : (a + b) / 2 ≤ c := Nat.div_le_of_le_mul (by rw [Nat.two_mul]; exact Nat.add_le_add (Nat.le_trans (Nat.le_of_lt (Nat.lt_of_not_le h1)) h2) h2)
theorem o334 (h1 : a ≤ b + (c + 1)) : a ≤ ((b + a) / 2) + 1 + c := Nat.le_of_not_lt fun h => linF (.branch 2 (.branch 1 (.leaf a) (.leaf b)) (.branch 3 (.leaf c) (.leaf ((b + a) / 2)))) (.add (.add (.var 0) (.add (.add (.add (.add (.var 3) (.num 1)) (.var 2)) (.num 1)) (.add (.add (.add (.var 3) (.num 1)) (.var 2)) (.num 1)))) (.add (.add (.var 1) (.var 0)) (.num 1))) (.add (.add (.add (.var 1) (.add (.var 2) (.num 1))) (.add (.var 0) (.var 0))) (.mulL 2 (.add (.var 3) (.num 1)))) rfl (Nat.add_le_add (Nat.add_le_add h1 (Nat.add_le_add h h)) (Nat.lt_mul_div_succ (b + a) Nat.two_pos))
theorem o335 (h1 : ¬ (b ≤ a)) : ((a + b) / 2) + 1 ≤ b := Nat.div_lt_of_lt_mul (by rw [Nat.two_mul]; exact Nat.add_lt_add_right (Nat.lt_of_not_le h1) b)
theorem o336 (h1 : a < b + 1) : a ≤ b := Nat.le_of_lt_succ h1
theorem o337 {a b c : Int} (h1 : ¬ (b < c)) (h2 : a ≤ c) : a ≤ b := Int.le_trans h2 (Int.not_lt.mp h1)
theorem o338 : a ≤ 0 + a := Nat.le_add_left a 0
theorem o339 : 0 ≤ a := Nat.zero_le a
theorem o340 (h1 : a < b) (h2 : b ≤ a) : False := Nat.not_lt_of_le h2 h1
theorem o341 (h1 : b ≤ a) : a - (a - b) = b := Nat.sub_sub_self h1
theorem o342 (h1 : c + 1 ≤ a) (h2 : b ≤ c) : ¬ (a = b) := fun h => linF (.branch 1 (.leaf a) (.branch 2 (.leaf b) (.leaf c))) (.add (.add (.add (.var 2) (.num 1)) (.var 1)) (.var 0)) (.add (.add (.var 0) (.var 2)) (.var 1)) rfl (Nat.add_le_add (Nat.add_le_add h1 h2) (Nat.le_of_eq h))
theorem o343 (h1 : c + 1 ≤ b) : ¬ ((a < b) ∧ (b ≤ c)) := fun e => Nat.not_lt_of_le e.2 h1
theorem o344 (h1 : (c < a) ∧ (a ≤ b)) : a - 1 < b := Nat.lt_of_lt_of_le (Nat.sub_lt (Nat.zero_lt_of_lt h1.1) Nat.one_pos) h1.2
theorem o345 (h1 : a < b + 1) (h2 : ¬ (a = c)) (h3 : ¬ ((c < a) ∧ (a ≤ b))) (h4 : c ≤ b) : a < b := Nat.lt_of_le_of_ne (Nat.le_of_lt_succ h1) fun e => h3 ⟨Nat.lt_of_le_of_ne (e ▸ h4) (Ne.symm h2), Nat.le_of_eq e⟩
theorem o346 (h1 : c < a) (h2 : c = b) : ¬ (a = b) := by subst h2; exact Nat.ne_of_lt' h1
theorem o347 (h1 : b < c + 1) (h2 : d < b) (h3 : d = a) : (a < b) ∧ (b ≤ c) := ⟨h3 ▸ h2, Nat.le_of_lt_succ h1⟩
theorem o348 (h1 : c < b) (h2 : c = a) : a ≤ b - 1 := by subst h2; exact Nat.le_sub_one_of_lt h1
theorem o349 (h1 : a < b + 1) (h2 : c < a) : a - 1 < b := Nat.lt_of_lt_of_le (Nat.sub_lt (Nat.zero_lt_of_lt h2) Nat.one_pos) (Nat.le_of_lt_succ h1)
theorem o350 (h1 : b < d) (h2 : d = a) : ¬ ((a < b) ∧ (b ≤ c)) := fun e => Nat.lt_irrefl b (Nat.lt_trans (Nat.lt_of_lt_of_eq h1 h2) e.1)
theorem o351 (h1 : a < c) (h2 : c = d) (h3 : d ≤ b) : a < b := by subst h2; exact Nat.lt_of_lt_of_le h1 h3
theorem o352 {a b : Int} (h1 : ¬ (a < b)) (h2 : a ≤ b) : a = b := Int.le_antisymm h2 (Int.not_lt.mp h1)
theorem o353 (h1 : a < d) (h2 : b < c + 1) (h3 : d < b) : (a < b) ∧ (b ≤ c) := ⟨Nat.lt_trans h1 h3, Nat.le_of_lt_succ h2⟩
theorem o354 (h1 : a < b) (h2 : c < a) : a - 1 < b - 1 := Nat.sub_lt_sub_right (Nat.zero_lt_of_lt h2) h1
theorem o355 (h1 : a = b - 1) (h2 : ¬ (a = c)) (h3 : ¬ ((c < a) ∧ (a ≤ d))) (h4 : (c < b) ∧ (b ≤ d)) : False := h3 ⟨Nat.lt_of_le_of_ne (Nat.le_trans (Nat.le_sub_one_of_lt h4.1) (Nat.le_of_eq h1.symm)) (Ne.symm h2), Nat.le_trans (Nat.le_of_eq h1) (Nat.le_trans (Nat.sub_le b 1) h4.2)⟩
theorem o356 (h1 : 1 ≤ a) : (max a 1) = a := Nat.max_eq_left h1
theorem o357 (h1 : a < b) : a + (b - a) = b := Nat.add_sub_of_le (Nat.le_of_lt h1)
theorem o358 (h1 : ¬ (a < b)) (h2 : a ≤ b) : a = b := Nat.le_antisymm (Nat.le_of_not_lt fun h => linF (.branch 1 (.leaf a) (.leaf b)) (.add (.var 0) (.add (.var 1) (.num 1))) (.add (.var 1) (.var 0)) rfl (Nat.add_le_add h2 h)) (Nat.le_of_not_lt fun h => linF (.branch 1 (.leaf a) (.leaf b)) (.add (.var 1) (.add (.var 0) (.num 1))) (.add (.var 0) (.var 1)) rfl (Nat.add_le_add (Nat.le_of_not_lt h1) h))
theorem o359 (h1 : a = b) (h2 : 2 ≤ b) : 2 ≤ a := le_of_le_of_eq h2 (id (Eq.symm h1))
theorem o360 (h1 : 2 ≤ a) : 1 ≤ a := Nat.one_le_of_lt h1
theorem o361 (h1 : a < b + 1) (h2 : ¬ (a < b)) : a = b := Nat.eq_of_lt_succ_of_not_lt h1 h2
theorem o362 : a + b = b + a := Nat.add_comm a b
theorem o363 : (((Int.toNat ((((a : Nat) : Int) + (1 : Int)) - ((b : Nat) : Int))) : Nat) : Int) = ((((a + 1) - b) : Nat) : Int) := (congrArg (fun x => ((Int.toNat x : Nat) : Int)) (rfl : ((a : Int) + 1) - b = ((a+1 : Nat) : Int) - b)).trans (congrArg _ (Int.toNat_sub (a+1) b))
theorem o364 (h1 : b < c) (h2 : a = d) (h3 : d = b) (h4 : c ≤ 100) : a + (0 + 1) ≤ 16777216 := Nat.le_of_not_lt fun h => linF (.branch 2 (.branch 1 (.leaf a) (.leaf b)) (.branch 3 (.leaf c) (.leaf d))) (.add (.add (.add (.add (.add (.var 1) (.num 1)) (.var 0)) (.var 3)) (.var 2)) (.add (.num 16777216) (.num 1))) (.add (.add (.add (.add (.var 2) (.var 3)) (.var 1)) (.num 100)) (.add (.var 0) (.add (.num 0) (.num 1)))) rfl (Nat.add_le_add (Nat.add_le_add (Nat.add_le_add (Nat.add_le_add h1 (Nat.le_of_eq h2)) (Nat.le_of_eq h3)) h4) h)
theorem o365 (h1 : a + c ≤ d) (h2 : d ≤ 100000) : a + (min b c) ≤ 16777216 := Nat.le_trans (Nat.add_le_add_left (Nat.min_le_right b c) a) (Nat.le_trans h1 (Nat.le_trans h2 (Nat.le_of_ble_eq_true rfl)))
theorem o366 : (((a + b) : Nat) : Int) = ((a : Nat) : Int) + ((b : Nat) : Int) := Int.natCast_add a b
end
end Mine

namespace Mine
open PySem PySem.W PyProof.Rows
set_option Elab.async false
set_option maxRecDepth 100000
set_option maxHeartbeats 8000000
/-! the head by hand: the heap that the top leaves, the defs' parts taken from the row's own program -/
noncomputable abbrev theP : Program := Challenge.rw_dm0132_06.row.prog
noncomputable def stAt (i : Nat) (j : Option Nat) : Option Stmt := match theP.main.body[i]?, j with
  | some s, none => some s
  | some (.ClassDef _ _ _ b _ _ _ _ _ _ _), some j => b[j]?
  | _, _ => none
noncomputable def fdP (i : Nat) (j : Option Nat) : Arguments := match stAt i j with
  | some (.FunctionDef _ a _ _ _ _ _ _ _ _) => a
  | _ => default
noncomputable def fdB (i : Nat) (j : Option Nat) : List Stmt := match stAt i j with
  | some (.FunctionDef _ _ b _ _ _ _ _ _ _) => b
  | _ => []
noncomputable def fdS (i : Nat) (j : Option Nat) : Scope := match stAt i j with
  | some (.FunctionDef _ _ _ _ _ _ s _ _ _) => s
  | _ => default
noncomputable def heapK (P : Params) : Frag := (fun
    (p0_0 : List Arg) (p0_1 : List Arg) (p0_2 : Option Arg) (p0_3 : List Arg) (p0_4 : List (Option PySem.Expr)) (p0_5 : Option Arg) (p0_6 : List PySem.Expr) (_ : fdP 0 none = (Arguments.mk p0_0 p0_1 p0_2 p0_3 p0_4 p0_5 p0_6))
    (b1 : Stmt) (c1 : List Stmt) (_ : fdB 0 none = (b1 :: c1))
    (s2_0 : ScopeKind) (s2_1 : List (PySem.Str × NameKind)) (s2_2 : Bool) (s2_3 : Bool) (s2_4 : List (PySem.Str × Const)) (_ : fdS 0 none = (Scope.mk s2_0 s2_1 s2_2 s2_3 s2_4))
    (p3_0 : List Arg) (p3_1 : List Arg) (p3_2 : Option Arg) (p3_3 : List Arg) (p3_4 : List (Option PySem.Expr)) (p3_5 : Option Arg) (p3_6 : List PySem.Expr) (_ : fdP 4 (some 1) = (Arguments.mk p3_0 p3_1 p3_2 p3_3 p3_4 p3_5 p3_6))
    (b4 : Stmt) (c4 : List Stmt) (_ : fdB 4 (some 1) = (b4 :: c4))
    (s5_0 : ScopeKind) (s5_1 : List (PySem.Str × NameKind)) (s5_2 : Bool) (s5_3 : Bool) (s5_4 : List (PySem.Str × Const)) (_ : fdS 4 (some 1) = (Scope.mk s5_0 s5_1 s5_2 s5_3 s5_4))
    (p6_0 : List Arg) (p6_1 : List Arg) (p6_2 : Option Arg) (p6_3 : List Arg) (p6_4 : List (Option PySem.Expr)) (p6_5 : Option Arg) (p6_6 : List PySem.Expr) (_ : fdP 6 (some 0) = (Arguments.mk p6_0 p6_1 p6_2 p6_3 p6_4 p6_5 p6_6))
    (b7 : Stmt) (c7 : List Stmt) (_ : fdB 6 (some 0) = (b7 :: c7))
    (s8_0 : ScopeKind) (s8_1 : List (PySem.Str × NameKind)) (s8_2 : Bool) (s8_3 : Bool) (s8_4 : List (PySem.Str × Const)) (_ : fdS 6 (some 0) = (Scope.mk s8_0 s8_1 s8_2 s8_3 s8_4))
    (p9_0 : List Arg) (p9_1 : List Arg) (p9_2 : Option Arg) (p9_3 : List Arg) (p9_4 : List (Option PySem.Expr)) (p9_5 : Option Arg) (p9_6 : List PySem.Expr) (_ : fdP 6 (some 1) = (Arguments.mk p9_0 p9_1 p9_2 p9_3 p9_4 p9_5 p9_6))
    (b10 : Stmt) (c10 : List Stmt) (_ : fdB 6 (some 1) = (b10 :: c10))
    (s11_0 : ScopeKind) (s11_1 : List (PySem.Str × NameKind)) (s11_2 : Bool) (s11_3 : Bool) (s11_4 : List (PySem.Str × Const)) (_ : fdS 6 (some 1) = (Scope.mk s11_0 s11_1 s11_2 s11_3 s11_4))
    (p12_0 : List Arg) (p12_1 : List Arg) (p12_2 : Option Arg) (p12_3 : List Arg) (p12_4 : List (Option PySem.Expr)) (p12_5 : Option Arg) (p12_6 : List PySem.Expr) (_ : fdP 6 (some 2) = (Arguments.mk p12_0 p12_1 p12_2 p12_3 p12_4 p12_5 p12_6))
    (b13 : Stmt) (c13 : List Stmt) (_ : fdB 6 (some 2) = (b13 :: c13))
    (s14_0 : ScopeKind) (s14_1 : List (PySem.Str × NameKind)) (s14_2 : Bool) (s14_3 : Bool) (s14_4 : List (PySem.Str × Const)) (_ : fdS 6 (some 2) = (Scope.mk s14_0 s14_1 s14_2 s14_3 s14_4))
    (p15_0 : List Arg) (p15_1 : List Arg) (p15_2 : Option Arg) (p15_3 : List Arg) (p15_4 : List (Option PySem.Expr)) (p15_5 : Option Arg) (p15_6 : List PySem.Expr) (_ : fdP 6 (some 3) = (Arguments.mk p15_0 p15_1 p15_2 p15_3 p15_4 p15_5 p15_6))
    (b16 : Stmt) (c16 : List Stmt) (_ : fdB 6 (some 3) = (b16 :: c16))
    (s17_0 : ScopeKind) (s17_1 : List (PySem.Str × NameKind)) (s17_2 : Bool) (s17_3 : Bool) (s17_4 : List (PySem.Str × Const)) (_ : fdS 6 (some 3) = (Scope.mk s17_0 s17_1 s17_2 s17_3 s17_4))
    (p18_0 : List Arg) (p18_1 : List Arg) (p18_2 : Option Arg) (p18_3 : List Arg) (p18_4 : List (Option PySem.Expr)) (p18_5 : Option Arg) (p18_6 : List PySem.Expr) (_ : fdP 6 (some 4) = (Arguments.mk p18_0 p18_1 p18_2 p18_3 p18_4 p18_5 p18_6))
    (b19 : Stmt) (c19 : List Stmt) (_ : fdB 6 (some 4) = (b19 :: c19))
    (s20_0 : ScopeKind) (s20_1 : List (PySem.Str × NameKind)) (s20_2 : Bool) (s20_3 : Bool) (s20_4 : List (PySem.Str × Const)) (_ : fdS 6 (some 4) = (Scope.mk s20_0 s20_1 s20_2 s20_3 s20_4))
    (p21_0 : List Arg) (p21_1 : List Arg) (p21_2 : Option Arg) (p21_3 : List Arg) (p21_4 : List (Option PySem.Expr)) (p21_5 : Option Arg) (p21_6 : List PySem.Expr) (_ : fdP 6 (some 5) = (Arguments.mk p21_0 p21_1 p21_2 p21_3 p21_4 p21_5 p21_6))
    (b22 : Stmt) (c22 : List Stmt) (_ : fdB 6 (some 5) = (b22 :: c22))
    (s23_0 : ScopeKind) (s23_1 : List (PySem.Str × NameKind)) (s23_2 : Bool) (s23_3 : Bool) (s23_4 : List (PySem.Str × Const)) (_ : fdS 6 (some 5) = (Scope.mk s23_0 s23_1 s23_2 s23_3 s23_4))
    (p24_0 : List Arg) (p24_1 : List Arg) (p24_2 : Option Arg) (p24_3 : List Arg) (p24_4 : List (Option PySem.Expr)) (p24_5 : Option Arg) (p24_6 : List PySem.Expr) (_ : fdP 6 (some 6) = (Arguments.mk p24_0 p24_1 p24_2 p24_3 p24_4 p24_5 p24_6))
    (b25 : Stmt) (c25 : List Stmt) (_ : fdB 6 (some 6) = (b25 :: c25))
    (s26_0 : ScopeKind) (s26_1 : List (PySem.Str × NameKind)) (s26_2 : Bool) (s26_3 : Bool) (s26_4 : List (PySem.Str × Const)) (_ : fdS 6 (some 6) = (Scope.mk s26_0 s26_1 s26_2 s26_3 s26_4))
    (p27_0 : List Arg) (p27_1 : List Arg) (p27_2 : Option Arg) (p27_3 : List Arg) (p27_4 : List (Option PySem.Expr)) (p27_5 : Option Arg) (p27_6 : List PySem.Expr) (_ : fdP 6 (some 7) = (Arguments.mk p27_0 p27_1 p27_2 p27_3 p27_4 p27_5 p27_6))
    (b28 : Stmt) (c28 : List Stmt) (_ : fdB 6 (some 7) = (b28 :: c28))
    (s29_0 : ScopeKind) (s29_1 : List (PySem.Str × NameKind)) (s29_2 : Bool) (s29_3 : Bool) (s29_4 : List (PySem.Str × Const)) (_ : fdS 6 (some 7) = (Scope.mk s29_0 s29_1 s29_2 s29_3 s29_4))
    (p30_0 : List Arg) (p30_1 : List Arg) (p30_2 : Option Arg) (p30_3 : List Arg) (p30_4 : List (Option PySem.Expr)) (p30_5 : Option Arg) (p30_6 : List PySem.Expr) (_ : fdP 6 (some 8) = (Arguments.mk p30_0 p30_1 p30_2 p30_3 p30_4 p30_5 p30_6))
    (b31 : Stmt) (c31 : List Stmt) (_ : fdB 6 (some 8) = (b31 :: c31))
    (s32_0 : ScopeKind) (s32_1 : List (PySem.Str × NameKind)) (s32_2 : Bool) (s32_3 : Bool) (s32_4 : List (PySem.Str × Const)) (_ : fdS 6 (some 8) = (Scope.mk s32_0 s32_1 s32_2 s32_3 s32_4))
    (p33_0 : List Arg) (p33_1 : List Arg) (p33_2 : Option Arg) (p33_3 : List Arg) (p33_4 : List (Option PySem.Expr)) (p33_5 : Option Arg) (p33_6 : List PySem.Expr) (_ : fdP 6 (some 9) = (Arguments.mk p33_0 p33_1 p33_2 p33_3 p33_4 p33_5 p33_6))
    (b34 : Stmt) (c34 : List Stmt) (_ : fdB 6 (some 9) = (b34 :: c34))
    (s35_0 : ScopeKind) (s35_1 : List (PySem.Str × NameKind)) (s35_2 : Bool) (s35_3 : Bool) (s35_4 : List (PySem.Str × Const)) (_ : fdS 6 (some 9) = (Scope.mk s35_0 s35_1 s35_2 s35_3 s35_4))
    (p36_0 : List Arg) (p36_1 : List Arg) (p36_2 : Option Arg) (p36_3 : List Arg) (p36_4 : List (Option PySem.Expr)) (p36_5 : Option Arg) (p36_6 : List PySem.Expr) (_ : fdP 8 none = (Arguments.mk p36_0 p36_1 p36_2 p36_3 p36_4 p36_5 p36_6))
    (b37 : Stmt) (c37 : List Stmt) (_ : fdB 8 none = (b37 :: c37))
    (s38_0 : ScopeKind) (s38_1 : List (PySem.Str × NameKind)) (s38_2 : Bool) (s38_3 : Bool) (s38_4 : List (PySem.Str × Const)) (_ : fdS 8 none = (Scope.mk s38_0 s38_1 s38_2 s38_3 s38_4))
    (p39_0 : List Arg) (p39_1 : List Arg) (p39_2 : Option Arg) (p39_3 : List Arg) (p39_4 : List (Option PySem.Expr)) (p39_5 : Option Arg) (p39_6 : List PySem.Expr) (_ : fdP 9 none = (Arguments.mk p39_0 p39_1 p39_2 p39_3 p39_4 p39_5 p39_6))
    (b40 : Stmt) (c40 : List Stmt) (_ : fdB 9 none = (b40 :: c40))
    (s41_0 : ScopeKind) (s41_1 : List (PySem.Str × NameKind)) (s41_2 : Bool) (s41_3 : Bool) (s41_4 : List (PySem.Str × Const)) (_ : fdS 9 none = (Scope.mk s41_0 s41_1 s41_2 s41_3 s41_4))
    (p42_0 : List Arg) (p42_1 : List Arg) (p42_2 : Option Arg) (p42_3 : List Arg) (p42_4 : List (Option PySem.Expr)) (p42_5 : Option Arg) (p42_6 : List PySem.Expr) (_ : fdP 10 none = (Arguments.mk p42_0 p42_1 p42_2 p42_3 p42_4 p42_5 p42_6))
    (b43 : Stmt) (c43 : List Stmt) (_ : fdB 10 none = (b43 :: c43))
    (s44_0 : ScopeKind) (s44_1 : List (PySem.Str × NameKind)) (s44_2 : Bool) (s44_3 : Bool) (s44_4 : List (PySem.Str × Const)) (_ : fdS 10 none = (Scope.mk s44_0 s44_1 s44_2 s44_3 s44_4))
    (p45_0 : List Arg) (p45_1 : List Arg) (p45_2 : Option Arg) (p45_3 : List Arg) (p45_4 : List (Option PySem.Expr)) (p45_5 : Option Arg) (p45_6 : List PySem.Expr) (_ : fdP 11 none = (Arguments.mk p45_0 p45_1 p45_2 p45_3 p45_4 p45_5 p45_6))
    (b46 : Stmt) (c46 : List Stmt) (_ : fdB 11 none = (b46 :: c46))
    (s47_0 : ScopeKind) (s47_1 : List (PySem.Str × NameKind)) (s47_2 : Bool) (s47_3 : Bool) (s47_4 : List (PySem.Str × Const)) (_ : fdS 11 none = (Scope.mk s47_0 s47_1 s47_2 s47_3 s47_4))
    (p48_0 : List Arg) (p48_1 : List Arg) (p48_2 : Option Arg) (p48_3 : List Arg) (p48_4 : List (Option PySem.Expr)) (p48_5 : Option Arg) (p48_6 : List PySem.Expr) (_ : fdP 12 none = (Arguments.mk p48_0 p48_1 p48_2 p48_3 p48_4 p48_5 p48_6))
    (b49 : Stmt) (c49 : List Stmt) (_ : fdB 12 none = (b49 :: c49))
    (s50_0 : ScopeKind) (s50_1 : List (PySem.Str × NameKind)) (s50_2 : Bool) (s50_3 : Bool) (s50_4 : List (PySem.Str × Const)) (_ : fdS 12 none = (Scope.mk s50_0 s50_1 s50_2 s50_3 s50_4))
    (p51_0 : List Arg) (p51_1 : List Arg) (p51_2 : Option Arg) (p51_3 : List Arg) (p51_4 : List (Option PySem.Expr)) (p51_5 : Option Arg) (p51_6 : List PySem.Expr) (_ : fdP 13 none = (Arguments.mk p51_0 p51_1 p51_2 p51_3 p51_4 p51_5 p51_6))
    (b52 : Stmt) (c52 : List Stmt) (_ : fdB 13 none = (b52 :: c52)) =>
    (nat_lit 2, { cls := PySem.Value.none, data := PySem.Data.dict #[] }) ::
    (nat_lit 3,
  { cls := PySem.Value.type "dict",
    data :=
      PySem.Data.dict
        #[{ hash := PySem.PyData.keyHash P (PySem.Str.ofString "__name__"),
            key := PySem.Value.str (PySem.Str.ofString "__name__") 165,
            val := PySem.Value.str (PySem.Str.ofString "law_dm0132_06") 376 },
          { hash := PySem.PyData.keyHash P (PySem.Str.ofString "__doc__"),
            key := PySem.Value.str (PySem.Str.ofString "__doc__") 166, val := PySem.Value.none },
          { hash := PySem.PyData.keyHash P (PySem.Str.ofString "__package__"),
            key := PySem.Value.str (PySem.Str.ofString "__package__") 167, val := PySem.Value.none },
          { hash := PySem.PyData.keyHash P (PySem.Str.ofString "__loader__"),
            key := PySem.Value.str (PySem.Str.ofString "__loader__") 168,
            val := PySem.Value.builtin "__main__.__loader__#opaque" },
          { hash := PySem.PyData.keyHash P (PySem.Str.ofString "__spec__"),
            key := PySem.Value.str (PySem.Str.ofString "__spec__") 169, val := PySem.Value.none },
          { hash := PySem.PyData.keyHash P (PySem.Str.ofString "__annotations__"),
            key := PySem.Value.str (PySem.Str.ofString "__annotations__") 170, val := PySem.Value.ref 6 },
          { hash := PySem.PyData.keyHash P (PySem.Str.ofString "__builtins__"),
            key := PySem.Value.str (PySem.Str.ofString "__builtins__") 171, val := PySem.Value.ref 4 },
          { hash := PySem.PyData.keyHash P (PySem.Str.ofString "__file__"),
            key := PySem.Value.str (PySem.Str.ofString "__file__") 173,
            val := PySem.Value.str (PySem.Str.ofString "/claim/cut.py") 172 },
          { hash := PySem.PyData.keyHash P (PySem.Str.ofString "__cached__"),
            key := PySem.Value.str (PySem.Str.ofString "__cached__") 174, val := PySem.Value.none },
          { hash := PySem.PyData.keyHash P (PySem.Str.ofString "_wall"),
            key := PySem.Value.str (PySem.Str.ofString "_wall") 193, val := PySem.Value.ref 21 },
          { hash := PySem.PyData.keyHash P (PySem.Str.ofString "_NODE_OUT"),
            key := PySem.Value.str (PySem.Str.ofString "_NODE_OUT") 198, val := PySem.Value.int (-1) 197 },
          { hash := PySem.PyData.keyHash P (PySem.Str.ofString "_NODE_DONE"),
            key := PySem.Value.str (PySem.Str.ofString "_NODE_DONE") 201, val := PySem.Value.int (-2) 200 },
          { hash := PySem.PyData.keyHash P (PySem.Str.ofString "_NodeInfo"),
            key := PySem.Value.str (PySem.Str.ofString "_NodeInfo") 238, val := PySem.Value.ref 40 },
          { hash := PySem.PyData.keyHash P (PySem.Str.ofString "CycleError"),
            key := PySem.Value.str (PySem.Str.ofString "CycleError") 256, val := PySem.Value.ref 55 },
          { hash := PySem.PyData.keyHash P (PySem.Str.ofString "TopologicalSorter"),
            key := PySem.Value.str (PySem.Str.ofString "TopologicalSorter") 375, val := PySem.Value.ref 137 },
          { hash := PySem.PyData.keyHash P (PySem.Str.ofString "_law_words"),
            key := PySem.Value.str (PySem.Str.ofString "_law_words") 383, val := PySem.Value.ref 146 },
          { hash := PySem.PyData.keyHash P (PySem.Str.ofString "_law_end"),
            key := PySem.Value.str (PySem.Str.ofString "_law_end") 393, val := PySem.Value.ref 153 },
          { hash := PySem.PyData.keyHash P (PySem.Str.ofString "_law_by_least_words"),
            key := PySem.Value.str (PySem.Str.ofString "_law_by_least_words") 405, val := PySem.Value.ref 160 },
          { hash := PySem.PyData.keyHash P (PySem.Str.ofString "_law_by_nearness"),
            key := PySem.Value.str (PySem.Str.ofString "_law_by_nearness") 417, val := PySem.Value.ref 167 },
          { hash := PySem.PyData.keyHash P (PySem.Str.ofString "_law_ready"),
            key := PySem.Value.str (PySem.Str.ofString "_law_ready") 423, val := PySem.Value.ref 172 },
          { hash := PySem.PyData.keyHash P (PySem.Str.ofString "law"),
            key := PySem.Value.str (PySem.Str.ofString "law") 429, val := PySem.Value.ref 177 }]
        21 }) ::
    (nat_lit 15, { cls := PySem.Value.type "tuple", data := PySem.Data.seq #[] }) ::
    (nat_lit 17, { cls := PySem.Value.type "tuple", data := PySem.Data.seq #[PySem.Value.str (PySem.Str.ofString "k") 190] }) ::
    (nat_lit 18, { cls := PySem.Value.type "tuple", data := PySem.Data.seq #[] }) ::
    (nat_lit 20,
  { cls := PySem.Value.type "code",
    data :=
      PySem.Data.fields
        #[PySem.Value.str (PySem.Str.ofString "_wall") 187, PySem.Value.str (PySem.Str.ofString "_wall") 188,
          PySem.Value.str (PySem.Str.ofString "/claim/cut.py") 189, PySem.Value.int 1 0, PySem.Value.int 1 0,
          PySem.Value.int 0 0, PySem.Value.int 0 0, PySem.Value.int 3 0, PySem.Value.ref 15, PySem.Value.bool Bool.true,
          PySem.Value.int 181 0, PySem.Value.ref 16, PySem.Value.none, PySem.Value.ref 17, PySem.Value.ref 18,
          PySem.Value.ref 19, PySem.Value.int 191 0, PySem.Value.int 1 0,
          PySem.Value.str (PySem.Str.ofString "/claim/cut.py") 192] }) ::
    (nat_lit 21,
  { cls := PySem.Value.type "function",
    data :=
      PySem.Data.func
        { name := PySem.Str.ofString "_wall", qualname := PySem.Str.ofString "_wall", params := (Arguments.mk p0_0 p0_1 p0_2 p0_3 p0_4 p0_5 p0_6),
          body := PySem.FuncBody.stmts (b1 :: c1), scope := (Scope.mk s2_0 s2_1 s2_2 s2_3 s2_4), globals := 3, closure := [],
          defaults := PySem.Value.none, kwdefaults := PySem.Value.none,
          pyModule := PySem.Value.str (PySem.Str.ofString "__main__") 164, code := PySem.Value.ref 20 } }) ::
    (nat_lit 29,
  { cls := PySem.Value.type "tuple",
    data :=
      PySem.Data.seq
        #[PySem.Value.str (PySem.Str.ofString "node") 214, PySem.Value.str (PySem.Str.ofString "npredecessors") 215,
          PySem.Value.str (PySem.Str.ofString "successors") 216] }) ::
    (nat_lit 30, { cls := PySem.Value.type "tuple", data := PySem.Data.seq #[] }) ::
    (nat_lit 32,
  { cls := PySem.Value.type "tuple",
    data :=
      PySem.Data.seq
        #[PySem.Value.str (PySem.Str.ofString "self") 221, PySem.Value.str (PySem.Str.ofString "node") 222] }) ::
    (nat_lit 33, { cls := PySem.Value.type "tuple", data := PySem.Data.seq #[] }) ::
    (nat_lit 35,
  { cls := PySem.Value.type "code",
    data :=
      PySem.Data.fields
        #[PySem.Value.str (PySem.Str.ofString "__init__") 218,
          PySem.Value.str (PySem.Str.ofString "_NodeInfo.__init__") 219,
          PySem.Value.str (PySem.Str.ofString "/claim/cut.py") 220, PySem.Value.int 10 0, PySem.Value.int 2 0,
          PySem.Value.int 0 0, PySem.Value.int 0 0, PySem.Value.int 3 0, PySem.Value.ref 30, PySem.Value.bool Bool.true,
          PySem.Value.int 181 0, PySem.Value.ref 31, PySem.Value.none, PySem.Value.ref 32, PySem.Value.ref 33,
          PySem.Value.ref 34, PySem.Value.int 223 0, PySem.Value.int 10 0,
          PySem.Value.str (PySem.Str.ofString "/claim/cut.py") 224] }) ::
    (nat_lit 36,
  { cls := PySem.Value.type "function",
    data :=
      PySem.Data.func
        { name := PySem.Str.ofString "__init__", qualname := PySem.Str.ofString "_NodeInfo.__init__",
          params := (Arguments.mk p3_0 p3_1 p3_2 p3_3 p3_4 p3_5 p3_6), body := PySem.FuncBody.stmts (b4 :: c4), scope := (Scope.mk s5_0 s5_1 s5_2 s5_3 s5_4),
          globals := 3, closure := [], defaults := PySem.Value.none, kwdefaults := PySem.Value.none,
          pyModule := PySem.Value.str (PySem.Str.ofString "cpy313.graphlib") 194, code := PySem.Value.ref 35 } }) ::
    (nat_lit 37,
  { cls := PySem.Value.type "tuple",
    data :=
      PySem.Data.seq
        #[PySem.Value.str (PySem.Str.ofString "node") 226, PySem.Value.str (PySem.Str.ofString "npredecessors") 227,
          PySem.Value.str (PySem.Str.ofString "successors") 228] }) ::
    (nat_lit 39,
  { cls := PySem.Value.type "dict",
    data :=
      PySem.Data.dict
        #[{ hash := PySem.PyData.keyHash P (PySem.Str.ofString "__module__"),
            key := PySem.Value.str (PySem.Str.ofString "__module__") 209,
            val := PySem.Value.str (PySem.Str.ofString "cpy313.graphlib") 194 },
          { hash := PySem.PyData.keyHash P (PySem.Str.ofString "__firstlineno__"),
            key := PySem.Value.str (PySem.Str.ofString "__firstlineno__") 213, val := PySem.Value.int 7 212 },
          { hash := PySem.PyData.keyHash P (PySem.Str.ofString "__slots__"),
            key := PySem.Value.str (PySem.Str.ofString "__slots__") 217, val := PySem.Value.ref 29 },
          { hash := PySem.PyData.keyHash P (PySem.Str.ofString "__init__"),
            key := PySem.Value.str (PySem.Str.ofString "__init__") 225, val := PySem.Value.ref 36 },
          { hash := PySem.PyData.keyHash P (PySem.Str.ofString "__static_attributes__"),
            key := PySem.Value.str (PySem.Str.ofString "__static_attributes__") 229, val := PySem.Value.ref 37 },
          { hash := PySem.PyData.keyHash P (PySem.Str.ofString "node"),
            key := PySem.Value.str (PySem.Str.ofString "node") 231, val := PySem.Value.ref 41 },
          { hash := PySem.PyData.keyHash P (PySem.Str.ofString "npredecessors"),
            key := PySem.Value.str (PySem.Str.ofString "npredecessors") 233, val := PySem.Value.ref 42 },
          { hash := PySem.PyData.keyHash P (PySem.Str.ofString "successors"),
            key := PySem.Value.str (PySem.Str.ofString "successors") 235, val := PySem.Value.ref 43 },
          { hash := PySem.PyData.keyHash P (PySem.Str.ofString "__doc__"),
            key := PySem.Value.str (PySem.Str.ofString "__doc__") 236, val := PySem.Value.none }]
        5 }) ::
    (nat_lit 40,
  { cls := PySem.Value.type "type",
    data :=
      PySem.Data.cls
        { name := PySem.Str.ofString "_NodeInfo", bases := [PySem.Value.type "object"],
          mro := [PySem.Value.ref 40, PySem.Value.type "object"], ns := 39, qualname := PySem.Str.ofString "_NodeInfo",
          hasDict := Bool.false,
          slotNames :=
            [PySem.Str.ofString "node", PySem.Str.ofString "npredecessors", PySem.Str.ofString "successors"] },
    slots :=
      #[Option.none, Option.none, Option.some (PySem.Value.str (PySem.Str.ofString "_NodeInfo") 202),
        Option.some (PySem.Value.str (PySem.Str.ofString "_NodeInfo") 210),
        Option.some (PySem.Value.builtin "object.__new__"), Option.some (PySem.Value.bool Bool.false)] }) ::
    (nat_lit 41,
  { cls := PySem.Value.type "member_descriptor",
    data :=
      PySem.Data.fields
        #[PySem.Value.str (PySem.Str.ofString "node") 230, PySem.Value.ref 40, PySem.Value.builtin "proto.slot",
          PySem.Value.builtin "proto.slot#set", PySem.Value.int 2 0] }) ::
    (nat_lit 42,
  { cls := PySem.Value.type "member_descriptor",
    data :=
      PySem.Data.fields
        #[PySem.Value.str (PySem.Str.ofString "npredecessors") 232, PySem.Value.ref 40,
          PySem.Value.builtin "proto.slot", PySem.Value.builtin "proto.slot#set", PySem.Value.int 1 0] }) ::
    (nat_lit 43,
  { cls := PySem.Value.type "member_descriptor",
    data :=
      PySem.Data.fields
        #[PySem.Value.str (PySem.Str.ofString "successors") 234, PySem.Value.ref 40, PySem.Value.builtin "proto.slot",
          PySem.Value.builtin "proto.slot#set", PySem.Value.int 0 0] }) ::
    (nat_lit 46, { cls := PySem.Value.type "tuple", data := PySem.Data.seq #[PySem.Value.type "ValueError"] }) ::
    (nat_lit 53, { cls := PySem.Value.type "tuple", data := PySem.Data.seq #[] }) ::
    (nat_lit 54,
  { cls := PySem.Value.type "dict",
    data :=
      PySem.Data.dict
        #[{ hash := PySem.PyData.keyHash P (PySem.Str.ofString "__module__"),
            key := PySem.Value.str (PySem.Str.ofString "__module__") 246,
            val := PySem.Value.str (PySem.Str.ofString "cpy313.graphlib") 194 },
          { hash := PySem.PyData.keyHash P (PySem.Str.ofString "__firstlineno__"),
            key := PySem.Value.str (PySem.Str.ofString "__firstlineno__") 250, val := PySem.Value.int 14 249 },
          { hash := PySem.PyData.keyHash P (PySem.Str.ofString "__static_attributes__"),
            key := PySem.Value.str (PySem.Str.ofString "__static_attributes__") 251, val := PySem.Value.ref 53 },
          { hash := PySem.PyData.keyHash P (PySem.Str.ofString "__weakref__"),
            key := PySem.Value.str (PySem.Str.ofString "__weakref__") 253, val := PySem.Value.ref 56 },
          { hash := PySem.PyData.keyHash P (PySem.Str.ofString "__doc__"),
            key := PySem.Value.str (PySem.Str.ofString "__doc__") 254, val := PySem.Value.none }]
        3 }) ::
    (nat_lit 55,
  { cls := PySem.Value.type "type",
    data :=
      PySem.Data.cls
        { name := PySem.Str.ofString "CycleError", bases := [PySem.Value.type "ValueError"],
          mro :=
            [PySem.Value.ref 55, PySem.Value.type "ValueError", PySem.Value.type "Exception",
              PySem.Value.type "BaseException", PySem.Value.type "object"],
          ns := 54, qualname := PySem.Str.ofString "CycleError" },
    slots :=
      #[Option.some (PySem.Value.ref 46), Option.none,
        Option.some (PySem.Value.str (PySem.Str.ofString "CycleError") 239),
        Option.some (PySem.Value.str (PySem.Str.ofString "CycleError") 247),
        Option.some (PySem.Value.builtin "ValueError.__new__"), Option.some (PySem.Value.bool Bool.true)] }) ::
    (nat_lit 56,
  { cls := PySem.Value.type "getset_descriptor",
    data :=
      PySem.Data.fields
        #[PySem.Value.str (PySem.Str.ofString "__weakref__") 252, PySem.Value.ref 55,
          PySem.Value.builtin "ExceptionGroup.__weakref__", PySem.Value.none] }) ::
    (nat_lit 66, { cls := PySem.Value.type "tuple", data := PySem.Data.seq #[PySem.Value.none] }) ::
    (nat_lit 67, { cls := PySem.Value.type "tuple", data := PySem.Data.seq #[] }) ::
    (nat_lit 69,
  { cls := PySem.Value.type "tuple",
    data :=
      PySem.Data.seq
        #[PySem.Value.str (PySem.Str.ofString "self") 272, PySem.Value.str (PySem.Str.ofString "graph") 273,
          PySem.Value.str (PySem.Str.ofString "node") 274, PySem.Value.str (PySem.Str.ofString "predecessors") 275] }) ::
    (nat_lit 70, { cls := PySem.Value.type "tuple", data := PySem.Data.seq #[] }) ::
    (nat_lit 72,
  { cls := PySem.Value.type "code",
    data :=
      PySem.Data.fields
        #[PySem.Value.str (PySem.Str.ofString "__init__") 269,
          PySem.Value.str (PySem.Str.ofString "TopologicalSorter.__init__") 270,
          PySem.Value.str (PySem.Str.ofString "/claim/cut.py") 271, PySem.Value.int 18 0, PySem.Value.int 2 0,
          PySem.Value.int 0 0, PySem.Value.int 0 0, PySem.Value.int 3 0, PySem.Value.ref 67, PySem.Value.bool Bool.true,
          PySem.Value.int 181 0, PySem.Value.ref 68, PySem.Value.none, PySem.Value.ref 69, PySem.Value.ref 70,
          PySem.Value.ref 71, PySem.Value.int 276 0, PySem.Value.int 18 0,
          PySem.Value.str (PySem.Str.ofString "/claim/cut.py") 277] }) ::
    (nat_lit 73,
  { cls := PySem.Value.type "function",
    data :=
      PySem.Data.func
        { name := PySem.Str.ofString "__init__", qualname := PySem.Str.ofString "TopologicalSorter.__init__",
          params := (Arguments.mk p6_0 p6_1 p6_2 p6_3 p6_4 p6_5 p6_6), body := PySem.FuncBody.stmts (b7 :: c7), scope := (Scope.mk s8_0 s8_1 s8_2 s8_3 s8_4),
          globals := 3, closure := [], defaults := PySem.Value.ref 66, kwdefaults := PySem.Value.none,
          pyModule := PySem.Value.str (PySem.Str.ofString "cpy313.graphlib") 194, code := PySem.Value.ref 72 } }) ::
    (nat_lit 74, { cls := PySem.Value.type "tuple", data := PySem.Data.seq #[] }) ::
    (nat_lit 76,
  { cls := PySem.Value.type "tuple",
    data :=
      PySem.Data.seq
        #[PySem.Value.str (PySem.Str.ofString "self") 282, PySem.Value.str (PySem.Str.ofString "node") 283,
          PySem.Value.str (PySem.Str.ofString "result") 284] }) ::
    (nat_lit 77, { cls := PySem.Value.type "tuple", data := PySem.Data.seq #[] }) ::
    (nat_lit 79,
  { cls := PySem.Value.type "code",
    data :=
      PySem.Data.fields
        #[PySem.Value.str (PySem.Str.ofString "_get_nodeinfo") 279,
          PySem.Value.str (PySem.Str.ofString "TopologicalSorter._get_nodeinfo") 280,
          PySem.Value.str (PySem.Str.ofString "/claim/cut.py") 281, PySem.Value.int 27 0, PySem.Value.int 2 0,
          PySem.Value.int 0 0, PySem.Value.int 0 0, PySem.Value.int 3 0, PySem.Value.ref 74, PySem.Value.bool Bool.true,
          PySem.Value.int 181 0, PySem.Value.ref 75, PySem.Value.none, PySem.Value.ref 76, PySem.Value.ref 77,
          PySem.Value.ref 78, PySem.Value.int 285 0, PySem.Value.int 27 0,
          PySem.Value.str (PySem.Str.ofString "/claim/cut.py") 286] }) ::
    (nat_lit 80,
  { cls := PySem.Value.type "function",
    data :=
      PySem.Data.func
        { name := PySem.Str.ofString "_get_nodeinfo", qualname := PySem.Str.ofString "TopologicalSorter._get_nodeinfo",
          params := (Arguments.mk p9_0 p9_1 p9_2 p9_3 p9_4 p9_5 p9_6), body := PySem.FuncBody.stmts (b10 :: c10), scope := (Scope.mk s11_0 s11_1 s11_2 s11_3 s11_4),
          globals := 3, closure := [], defaults := PySem.Value.none, kwdefaults := PySem.Value.none,
          pyModule := PySem.Value.str (PySem.Str.ofString "cpy313.graphlib") 194, code := PySem.Value.ref 79 } }) ::
    (nat_lit 81, { cls := PySem.Value.type "tuple", data := PySem.Data.seq #[] }) ::
    (nat_lit 83,
  { cls := PySem.Value.type "tuple",
    data :=
      PySem.Data.seq
        #[PySem.Value.str (PySem.Str.ofString "self") 291, PySem.Value.str (PySem.Str.ofString "node") 292,
          PySem.Value.str (PySem.Str.ofString "predecessors") 293, PySem.Value.str (PySem.Str.ofString "nodeinfo") 294,
          PySem.Value.str (PySem.Str.ofString "pred") 295, PySem.Value.str (PySem.Str.ofString "pred_info") 296] }) ::
    (nat_lit 84, { cls := PySem.Value.type "tuple", data := PySem.Data.seq #[] }) ::
    (nat_lit 86,
  { cls := PySem.Value.type "code",
    data :=
      PySem.Data.fields
        #[PySem.Value.str (PySem.Str.ofString "add") 288,
          PySem.Value.str (PySem.Str.ofString "TopologicalSorter.add") 289,
          PySem.Value.str (PySem.Str.ofString "/claim/cut.py") 290, PySem.Value.int 32 0, PySem.Value.int 2 0,
          PySem.Value.int 0 0, PySem.Value.int 0 0, PySem.Value.int 7 0, PySem.Value.ref 81, PySem.Value.bool Bool.true,
          PySem.Value.int 181 0, PySem.Value.ref 82, PySem.Value.none, PySem.Value.ref 83, PySem.Value.ref 84,
          PySem.Value.ref 85, PySem.Value.int 297 0, PySem.Value.int 32 0,
          PySem.Value.str (PySem.Str.ofString "/claim/cut.py") 298] }) ::
    (nat_lit 87,
  { cls := PySem.Value.type "function",
    data :=
      PySem.Data.func
        { name := PySem.Str.ofString "add", qualname := PySem.Str.ofString "TopologicalSorter.add",
          params := (Arguments.mk p12_0 p12_1 p12_2 p12_3 p12_4 p12_5 p12_6), body := PySem.FuncBody.stmts (b13 :: c13), scope := (Scope.mk s14_0 s14_1 s14_2 s14_3 s14_4),
          globals := 3, closure := [], defaults := PySem.Value.none, kwdefaults := PySem.Value.none,
          pyModule := PySem.Value.str (PySem.Str.ofString "cpy313.graphlib") 194, code := PySem.Value.ref 86 } }) ::
    (nat_lit 88, { cls := PySem.Value.type "tuple", data := PySem.Data.seq #[] }) ::
    (nat_lit 91,
  { cls := PySem.Value.type "code",
    data :=
      PySem.Data.fields
        #[PySem.Value.str (PySem.Str.ofString "prepare") 300,
          PySem.Value.str (PySem.Str.ofString "TopologicalSorter.prepare") 301,
          PySem.Value.str (PySem.Str.ofString "/claim/cut.py") 302, PySem.Value.int 41 0, PySem.Value.int 1 0,
          PySem.Value.int 0 0, PySem.Value.int 0 0, PySem.Value.int 3 0, PySem.Value.ref 88, PySem.Value.bool Bool.true,
          PySem.Value.int 181 0, PySem.Value.ref 89, PySem.Value.none, PySem.Value.none, PySem.Value.none,
          PySem.Value.ref 90, PySem.Value.int 303 0, PySem.Value.int 41 0,
          PySem.Value.str (PySem.Str.ofString "/claim/cut.py") 304] }) ::
    (nat_lit 92,
  { cls := PySem.Value.type "function",
    data :=
      PySem.Data.func
        { name := PySem.Str.ofString "prepare", qualname := PySem.Str.ofString "TopologicalSorter.prepare",
          params := (Arguments.mk p15_0 p15_1 p15_2 p15_3 p15_4 p15_5 p15_6), body := PySem.FuncBody.stmts (b16 :: c16), scope := (Scope.mk s17_0 s17_1 s17_2 s17_3 s17_4),
          globals := 3, closure := [], defaults := PySem.Value.none, kwdefaults := PySem.Value.none,
          pyModule := PySem.Value.str (PySem.Str.ofString "cpy313.graphlib") 194, code := PySem.Value.ref 91 } }) ::
    (nat_lit 93, { cls := PySem.Value.type "tuple", data := PySem.Data.seq #[] }) ::
    (nat_lit 95,
  { cls := PySem.Value.type "tuple",
    data :=
      PySem.Data.seq
        #[PySem.Value.str (PySem.Str.ofString "self") 309, PySem.Value.str (PySem.Str.ofString "result") 310,
          PySem.Value.str (PySem.Str.ofString "n2i") 311, PySem.Value.str (PySem.Str.ofString "node") 312] }) ::
    (nat_lit 96, { cls := PySem.Value.type "tuple", data := PySem.Data.seq #[] }) ::
    (nat_lit 98,
  { cls := PySem.Value.type "code",
    data :=
      PySem.Data.fields
        #[PySem.Value.str (PySem.Str.ofString "get_ready") 306,
          PySem.Value.str (PySem.Str.ofString "TopologicalSorter.get_ready") 307,
          PySem.Value.str (PySem.Str.ofString "/claim/cut.py") 308, PySem.Value.int 49 0, PySem.Value.int 1 0,
          PySem.Value.int 0 0, PySem.Value.int 0 0, PySem.Value.int 3 0, PySem.Value.ref 93, PySem.Value.bool Bool.true,
          PySem.Value.int 181 0, PySem.Value.ref 94, PySem.Value.none, PySem.Value.ref 95, PySem.Value.ref 96,
          PySem.Value.ref 97, PySem.Value.int 313 0, PySem.Value.int 49 0,
          PySem.Value.str (PySem.Str.ofString "/claim/cut.py") 314] }) ::
    (nat_lit 99,
  { cls := PySem.Value.type "function",
    data :=
      PySem.Data.func
        { name := PySem.Str.ofString "get_ready", qualname := PySem.Str.ofString "TopologicalSorter.get_ready",
          params := (Arguments.mk p18_0 p18_1 p18_2 p18_3 p18_4 p18_5 p18_6), body := PySem.FuncBody.stmts (b19 :: c19), scope := (Scope.mk s20_0 s20_1 s20_2 s20_3 s20_4),
          globals := 3, closure := [], defaults := PySem.Value.none, kwdefaults := PySem.Value.none,
          pyModule := PySem.Value.str (PySem.Str.ofString "cpy313.graphlib") 194, code := PySem.Value.ref 98 } }) ::
    (nat_lit 100, { cls := PySem.Value.type "tuple", data := PySem.Data.seq #[] }) ::
    (nat_lit 102, { cls := PySem.Value.type "tuple", data := PySem.Data.seq #[PySem.Value.str (PySem.Str.ofString "self") 319] }) ::
    (nat_lit 103, { cls := PySem.Value.type "tuple", data := PySem.Data.seq #[] }) ::
    (nat_lit 105,
  { cls := PySem.Value.type "code",
    data :=
      PySem.Data.fields
        #[PySem.Value.str (PySem.Str.ofString "is_active") 316,
          PySem.Value.str (PySem.Str.ofString "TopologicalSorter.is_active") 317,
          PySem.Value.str (PySem.Str.ofString "/claim/cut.py") 318, PySem.Value.int 60 0, PySem.Value.int 1 0,
          PySem.Value.int 0 0, PySem.Value.int 0 0, PySem.Value.int 3 0, PySem.Value.ref 100,
          PySem.Value.bool Bool.true, PySem.Value.int 181 0, PySem.Value.ref 101, PySem.Value.none, PySem.Value.ref 102,
          PySem.Value.ref 103, PySem.Value.ref 104, PySem.Value.int 320 0, PySem.Value.int 60 0,
          PySem.Value.str (PySem.Str.ofString "/claim/cut.py") 321] }) ::
    (nat_lit 106,
  { cls := PySem.Value.type "function",
    data :=
      PySem.Data.func
        { name := PySem.Str.ofString "is_active", qualname := PySem.Str.ofString "TopologicalSorter.is_active",
          params := (Arguments.mk p21_0 p21_1 p21_2 p21_3 p21_4 p21_5 p21_6), body := PySem.FuncBody.stmts (b22 :: c22), scope := (Scope.mk s23_0 s23_1 s23_2 s23_3 s23_4),
          globals := 3, closure := [], defaults := PySem.Value.none, kwdefaults := PySem.Value.none,
          pyModule := PySem.Value.str (PySem.Str.ofString "cpy313.graphlib") 194, code := PySem.Value.ref 105 } }) ::
    (nat_lit 107, { cls := PySem.Value.type "tuple", data := PySem.Data.seq #[] }) ::
    (nat_lit 109, { cls := PySem.Value.type "tuple", data := PySem.Data.seq #[PySem.Value.str (PySem.Str.ofString "self") 326] }) ::
    (nat_lit 110, { cls := PySem.Value.type "tuple", data := PySem.Data.seq #[] }) ::
    (nat_lit 112,
  { cls := PySem.Value.type "code",
    data :=
      PySem.Data.fields
        #[PySem.Value.str (PySem.Str.ofString "__bool__") 323,
          PySem.Value.str (PySem.Str.ofString "TopologicalSorter.__bool__") 324,
          PySem.Value.str (PySem.Str.ofString "/claim/cut.py") 325, PySem.Value.int 65 0, PySem.Value.int 1 0,
          PySem.Value.int 0 0, PySem.Value.int 0 0, PySem.Value.int 3 0, PySem.Value.ref 107,
          PySem.Value.bool Bool.true, PySem.Value.int 181 0, PySem.Value.ref 108, PySem.Value.none, PySem.Value.ref 109,
          PySem.Value.ref 110, PySem.Value.ref 111, PySem.Value.int 327 0, PySem.Value.int 65 0,
          PySem.Value.str (PySem.Str.ofString "/claim/cut.py") 328] }) ::
    (nat_lit 113,
  { cls := PySem.Value.type "function",
    data :=
      PySem.Data.func
        { name := PySem.Str.ofString "__bool__", qualname := PySem.Str.ofString "TopologicalSorter.__bool__",
          params := (Arguments.mk p24_0 p24_1 p24_2 p24_3 p24_4 p24_5 p24_6), body := PySem.FuncBody.stmts (b25 :: c25), scope := (Scope.mk s26_0 s26_1 s26_2 s26_3 s26_4),
          globals := 3, closure := [], defaults := PySem.Value.none, kwdefaults := PySem.Value.none,
          pyModule := PySem.Value.str (PySem.Str.ofString "cpy313.graphlib") 194, code := PySem.Value.ref 112 } }) ::
    (nat_lit 114, { cls := PySem.Value.type "tuple", data := PySem.Data.seq #[] }) ::
    (nat_lit 116,
  { cls := PySem.Value.type "tuple",
    data :=
      PySem.Data.seq
        #[PySem.Value.str (PySem.Str.ofString "self") 333, PySem.Value.str (PySem.Str.ofString "nodes") 334,
          PySem.Value.str (PySem.Str.ofString "n2i") 335, PySem.Value.str (PySem.Str.ofString "node") 336,
          PySem.Value.str (PySem.Str.ofString "nodeinfo") 337, PySem.Value.str (PySem.Str.ofString "stat") 338,
          PySem.Value.str (PySem.Str.ofString "successor") 339,
          PySem.Value.str (PySem.Str.ofString "successor_info") 340] }) ::
    (nat_lit 117, { cls := PySem.Value.type "tuple", data := PySem.Data.seq #[] }) ::
    (nat_lit 119,
  { cls := PySem.Value.type "code",
    data :=
      PySem.Data.fields
        #[PySem.Value.str (PySem.Str.ofString "done") 330,
          PySem.Value.str (PySem.Str.ofString "TopologicalSorter.done") 331,
          PySem.Value.str (PySem.Str.ofString "/claim/cut.py") 332, PySem.Value.int 68 0, PySem.Value.int 1 0,
          PySem.Value.int 0 0, PySem.Value.int 0 0, PySem.Value.int 7 0, PySem.Value.ref 114,
          PySem.Value.bool Bool.true, PySem.Value.int 181 0, PySem.Value.ref 115, PySem.Value.none, PySem.Value.ref 116,
          PySem.Value.ref 117, PySem.Value.ref 118, PySem.Value.int 341 0, PySem.Value.int 68 0,
          PySem.Value.str (PySem.Str.ofString "/claim/cut.py") 342] }) ::
    (nat_lit 120,
  { cls := PySem.Value.type "function",
    data :=
      PySem.Data.func
        { name := PySem.Str.ofString "done", qualname := PySem.Str.ofString "TopologicalSorter.done",
          params := (Arguments.mk p27_0 p27_1 p27_2 p27_3 p27_4 p27_5 p27_6), body := PySem.FuncBody.stmts (b28 :: c28), scope := (Scope.mk s29_0 s29_1 s29_2 s29_3 s29_4),
          globals := 3, closure := [], defaults := PySem.Value.none, kwdefaults := PySem.Value.none,
          pyModule := PySem.Value.str (PySem.Str.ofString "cpy313.graphlib") 194, code := PySem.Value.ref 119 } }) ::
    (nat_lit 121, { cls := PySem.Value.type "tuple", data := PySem.Data.seq #[] }) ::
    (nat_lit 123,
  { cls := PySem.Value.type "tuple",
    data :=
      PySem.Data.seq
        #[PySem.Value.str (PySem.Str.ofString "self") 347, PySem.Value.str (PySem.Str.ofString "n2i") 348,
          PySem.Value.str (PySem.Str.ofString "stack") 349, PySem.Value.str (PySem.Str.ofString "itstack") 350,
          PySem.Value.str (PySem.Str.ofString "seen") 351, PySem.Value.str (PySem.Str.ofString "node2stacki") 352,
          PySem.Value.str (PySem.Str.ofString "node") 353] }) ::
    (nat_lit 124, { cls := PySem.Value.type "tuple", data := PySem.Data.seq #[] }) ::
    (nat_lit 126,
  { cls := PySem.Value.type "code",
    data :=
      PySem.Data.fields
        #[PySem.Value.str (PySem.Str.ofString "_find_cycle") 344,
          PySem.Value.str (PySem.Str.ofString "TopologicalSorter._find_cycle") 345,
          PySem.Value.str (PySem.Str.ofString "/claim/cut.py") 346, PySem.Value.int 91 0, PySem.Value.int 1 0,
          PySem.Value.int 0 0, PySem.Value.int 0 0, PySem.Value.int 3 0, PySem.Value.ref 121,
          PySem.Value.bool Bool.true, PySem.Value.int 181 0, PySem.Value.ref 122, PySem.Value.none, PySem.Value.ref 123,
          PySem.Value.ref 124, PySem.Value.ref 125, PySem.Value.int 354 0, PySem.Value.int 91 0,
          PySem.Value.str (PySem.Str.ofString "/claim/cut.py") 355] }) ::
    (nat_lit 127,
  { cls := PySem.Value.type "function",
    data :=
      PySem.Data.func
        { name := PySem.Str.ofString "_find_cycle", qualname := PySem.Str.ofString "TopologicalSorter._find_cycle",
          params := (Arguments.mk p30_0 p30_1 p30_2 p30_3 p30_4 p30_5 p30_6), body := PySem.FuncBody.stmts (b31 :: c31), scope := (Scope.mk s32_0 s32_1 s32_2 s32_3 s32_4),
          globals := 3, closure := [], defaults := PySem.Value.none, kwdefaults := PySem.Value.none,
          pyModule := PySem.Value.str (PySem.Str.ofString "cpy313.graphlib") 194, code := PySem.Value.ref 126 } }) ::
    (nat_lit 128, { cls := PySem.Value.type "tuple", data := PySem.Data.seq #[] }) ::
    (nat_lit 130, { cls := PySem.Value.type "tuple", data := PySem.Data.seq #[PySem.Value.str (PySem.Str.ofString "self") 360] }) ::
    (nat_lit 131, { cls := PySem.Value.type "tuple", data := PySem.Data.seq #[] }) ::
    (nat_lit 133,
  { cls := PySem.Value.type "code",
    data :=
      PySem.Data.fields
        #[PySem.Value.str (PySem.Str.ofString "static_order") 357,
          PySem.Value.str (PySem.Str.ofString "TopologicalSorter.static_order") 358,
          PySem.Value.str (PySem.Str.ofString "/claim/cut.py") 359, PySem.Value.int 120 0, PySem.Value.int 1 0,
          PySem.Value.int 0 0, PySem.Value.int 0 0, PySem.Value.int 3 0, PySem.Value.ref 128,
          PySem.Value.bool Bool.true, PySem.Value.int 181 0, PySem.Value.ref 129, PySem.Value.none, PySem.Value.ref 130,
          PySem.Value.ref 131, PySem.Value.ref 132, PySem.Value.int 361 0, PySem.Value.int 120 0,
          PySem.Value.str (PySem.Str.ofString "/claim/cut.py") 362] }) ::
    (nat_lit 134,
  { cls := PySem.Value.type "function",
    data :=
      PySem.Data.func
        { name := PySem.Str.ofString "static_order", qualname := PySem.Str.ofString "TopologicalSorter.static_order",
          params := (Arguments.mk p33_0 p33_1 p33_2 p33_3 p33_4 p33_5 p33_6), body := PySem.FuncBody.stmts (b34 :: c34), scope := (Scope.mk s35_0 s35_1 s35_2 s35_3 s35_4),
          globals := 3, closure := [], defaults := PySem.Value.none, kwdefaults := PySem.Value.none,
          pyModule := PySem.Value.str (PySem.Str.ofString "cpy313.graphlib") 194, code := PySem.Value.ref 133 } }) ::
    (nat_lit 135,
  { cls := PySem.Value.type "tuple",
    data :=
      PySem.Data.seq
        #[PySem.Value.str (PySem.Str.ofString "_nfinished") 364, PySem.Value.str (PySem.Str.ofString "_node2info") 365,
          PySem.Value.str (PySem.Str.ofString "_npassedout") 366,
          PySem.Value.str (PySem.Str.ofString "_ready_nodes") 367] }) ::
    (nat_lit 136,
  { cls := PySem.Value.type "dict",
    data :=
      PySem.Data.dict
        #[{ hash := PySem.PyData.keyHash P (PySem.Str.ofString "__module__"),
            key := PySem.Value.str (PySem.Str.ofString "__module__") 264,
            val := PySem.Value.str (PySem.Str.ofString "cpy313.graphlib") 194 },
          { hash := PySem.PyData.keyHash P (PySem.Str.ofString "__firstlineno__"),
            key := PySem.Value.str (PySem.Str.ofString "__firstlineno__") 268, val := PySem.Value.int 16 267 },
          { hash := PySem.PyData.keyHash P (PySem.Str.ofString "__init__"),
            key := PySem.Value.str (PySem.Str.ofString "__init__") 278, val := PySem.Value.ref 73 },
          { hash := PySem.PyData.keyHash P (PySem.Str.ofString "_get_nodeinfo"),
            key := PySem.Value.str (PySem.Str.ofString "_get_nodeinfo") 287, val := PySem.Value.ref 80 },
          { hash := PySem.PyData.keyHash P (PySem.Str.ofString "add"),
            key := PySem.Value.str (PySem.Str.ofString "add") 299, val := PySem.Value.ref 87 },
          { hash := PySem.PyData.keyHash P (PySem.Str.ofString "prepare"),
            key := PySem.Value.str (PySem.Str.ofString "prepare") 305, val := PySem.Value.ref 92 },
          { hash := PySem.PyData.keyHash P (PySem.Str.ofString "get_ready"),
            key := PySem.Value.str (PySem.Str.ofString "get_ready") 315, val := PySem.Value.ref 99 },
          { hash := PySem.PyData.keyHash P (PySem.Str.ofString "is_active"),
            key := PySem.Value.str (PySem.Str.ofString "is_active") 322, val := PySem.Value.ref 106 },
          { hash := PySem.PyData.keyHash P (PySem.Str.ofString "__bool__"),
            key := PySem.Value.str (PySem.Str.ofString "__bool__") 329, val := PySem.Value.ref 113 },
          { hash := PySem.PyData.keyHash P (PySem.Str.ofString "done"),
            key := PySem.Value.str (PySem.Str.ofString "done") 343, val := PySem.Value.ref 120 },
          { hash := PySem.PyData.keyHash P (PySem.Str.ofString "_find_cycle"),
            key := PySem.Value.str (PySem.Str.ofString "_find_cycle") 356, val := PySem.Value.ref 127 },
          { hash := PySem.PyData.keyHash P (PySem.Str.ofString "static_order"),
            key := PySem.Value.str (PySem.Str.ofString "static_order") 363, val := PySem.Value.ref 134 },
          { hash := PySem.PyData.keyHash P (PySem.Str.ofString "__static_attributes__"),
            key := PySem.Value.str (PySem.Str.ofString "__static_attributes__") 368, val := PySem.Value.ref 135 },
          { hash := PySem.PyData.keyHash P (PySem.Str.ofString "__dict__"),
            key := PySem.Value.str (PySem.Str.ofString "__dict__") 370, val := PySem.Value.ref 138 },
          { hash := PySem.PyData.keyHash P (PySem.Str.ofString "__weakref__"),
            key := PySem.Value.str (PySem.Str.ofString "__weakref__") 372, val := PySem.Value.ref 139 },
          { hash := PySem.PyData.keyHash P (PySem.Str.ofString "__doc__"),
            key := PySem.Value.str (PySem.Str.ofString "__doc__") 373, val := PySem.Value.none }]
        4 }) ::
    (nat_lit 137,
  { cls := PySem.Value.type "type",
    data :=
      PySem.Data.cls
        { name := PySem.Str.ofString "TopologicalSorter", bases := [PySem.Value.type "object"],
          mro := [PySem.Value.ref 137, PySem.Value.type "object"], ns := 136,
          qualname := PySem.Str.ofString "TopologicalSorter" },
    slots :=
      #[Option.none, Option.none, Option.some (PySem.Value.str (PySem.Str.ofString "TopologicalSorter") 257),
        Option.some (PySem.Value.str (PySem.Str.ofString "TopologicalSorter") 265),
        Option.some (PySem.Value.builtin "object.__new__"), Option.some (PySem.Value.bool Bool.true)] }) ::
    (nat_lit 138,
  { cls := PySem.Value.type "getset_descriptor",
    data :=
      PySem.Data.fields
        #[PySem.Value.str (PySem.Str.ofString "__dict__") 369, PySem.Value.ref 137,
          PySem.Value.builtin "function.__dict__", PySem.Value.builtin "function.__dict__#set"] }) ::
    (nat_lit 139,
  { cls := PySem.Value.type "getset_descriptor",
    data :=
      PySem.Data.fields
        #[PySem.Value.str (PySem.Str.ofString "__weakref__") 371, PySem.Value.ref 137,
          PySem.Value.builtin "ExceptionGroup.__weakref__", PySem.Value.none] }) ::
    (nat_lit 142, { cls := PySem.Value.type "tuple", data := PySem.Data.seq #[] }) ::
    (nat_lit 145,
  { cls := PySem.Value.type "code",
    data :=
      PySem.Data.fields
        #[PySem.Value.str (PySem.Str.ofString "_law_words") 378, PySem.Value.str (PySem.Str.ofString "_law_words") 379,
          PySem.Value.str (PySem.Str.ofString "/claim/cut.py") 380, PySem.Value.int 123 0, PySem.Value.int 3 0,
          PySem.Value.int 0 0, PySem.Value.int 0 0, PySem.Value.int 3 0, PySem.Value.ref 142,
          PySem.Value.bool Bool.true, PySem.Value.int 181 0, PySem.Value.ref 143, PySem.Value.none, PySem.Value.none,
          PySem.Value.none, PySem.Value.ref 144, PySem.Value.int 381 0, PySem.Value.int 123 0,
          PySem.Value.str (PySem.Str.ofString "/claim/cut.py") 382] }) ::
    (nat_lit 146,
  { cls := PySem.Value.type "function",
    data :=
      PySem.Data.func
        { name := PySem.Str.ofString "_law_words", qualname := PySem.Str.ofString "_law_words", params := (Arguments.mk p36_0 p36_1 p36_2 p36_3 p36_4 p36_5 p36_6),
          body := PySem.FuncBody.stmts (b37 :: c37), scope := (Scope.mk s38_0 s38_1 s38_2 s38_3 s38_4), globals := 3, closure := [],
          defaults := PySem.Value.none, kwdefaults := PySem.Value.none,
          pyModule := PySem.Value.str (PySem.Str.ofString "law_dm0132_06") 376, code := PySem.Value.ref 145 } }) ::
    (nat_lit 147, { cls := PySem.Value.type "tuple", data := PySem.Data.seq #[] }) ::
    (nat_lit 149,
  { cls := PySem.Value.type "tuple",
    data :=
      PySem.Data.seq
        #[PySem.Value.str (PySem.Str.ofString "ways") 387, PySem.Value.str (PySem.Str.ofString "place") 388,
          PySem.Value.str (PySem.Str.ofString "word") 389, PySem.Value.str (PySem.Str.ofString "sign") 390] }) ::
    (nat_lit 150, { cls := PySem.Value.type "tuple", data := PySem.Data.seq #[] }) ::
    (nat_lit 152,
  { cls := PySem.Value.type "code",
    data :=
      PySem.Data.fields
        #[PySem.Value.str (PySem.Str.ofString "_law_end") 384, PySem.Value.str (PySem.Str.ofString "_law_end") 385,
          PySem.Value.str (PySem.Str.ofString "/claim/cut.py") 386, PySem.Value.int 128 0, PySem.Value.int 3 0,
          PySem.Value.int 0 0, PySem.Value.int 0 0, PySem.Value.int 3 0, PySem.Value.ref 147,
          PySem.Value.bool Bool.true, PySem.Value.int 181 0, PySem.Value.ref 148, PySem.Value.none, PySem.Value.ref 149,
          PySem.Value.ref 150, PySem.Value.ref 151, PySem.Value.int 391 0, PySem.Value.int 128 0,
          PySem.Value.str (PySem.Str.ofString "/claim/cut.py") 392] }) ::
    (nat_lit 153,
  { cls := PySem.Value.type "function",
    data :=
      PySem.Data.func
        { name := PySem.Str.ofString "_law_end", qualname := PySem.Str.ofString "_law_end", params := (Arguments.mk p39_0 p39_1 p39_2 p39_3 p39_4 p39_5 p39_6),
          body := PySem.FuncBody.stmts (b40 :: c40), scope := (Scope.mk s41_0 s41_1 s41_2 s41_3 s41_4), globals := 3, closure := [],
          defaults := PySem.Value.none, kwdefaults := PySem.Value.none,
          pyModule := PySem.Value.str (PySem.Str.ofString "law_dm0132_06") 376, code := PySem.Value.ref 152 } }) ::
    (nat_lit 154, { cls := PySem.Value.type "tuple", data := PySem.Data.seq #[] }) ::
    (nat_lit 156,
  { cls := PySem.Value.type "tuple",
    data :=
      PySem.Data.seq
        #[PySem.Value.str (PySem.Str.ofString "ways") 397, PySem.Value.str (PySem.Str.ofString "size") 398,
          PySem.Value.str (PySem.Str.ofString "due") 399, PySem.Value.str (PySem.Str.ofString "place") 400,
          PySem.Value.str (PySem.Str.ofString "word") 401, PySem.Value.str (PySem.Str.ofString "end") 402] }) ::
    (nat_lit 157, { cls := PySem.Value.type "tuple", data := PySem.Data.seq #[] }) ::
    (nat_lit 159,
  { cls := PySem.Value.type "code",
    data :=
      PySem.Data.fields
        #[PySem.Value.str (PySem.Str.ofString "_law_by_least_words") 394,
          PySem.Value.str (PySem.Str.ofString "_law_by_least_words") 395,
          PySem.Value.str (PySem.Str.ofString "/claim/cut.py") 396, PySem.Value.int 135 0, PySem.Value.int 2 0,
          PySem.Value.int 0 0, PySem.Value.int 0 0, PySem.Value.int 3 0, PySem.Value.ref 154,
          PySem.Value.bool Bool.true, PySem.Value.int 181 0, PySem.Value.ref 155, PySem.Value.none, PySem.Value.ref 156,
          PySem.Value.ref 157, PySem.Value.ref 158, PySem.Value.int 403 0, PySem.Value.int 135 0,
          PySem.Value.str (PySem.Str.ofString "/claim/cut.py") 404] }) ::
    (nat_lit 160,
  { cls := PySem.Value.type "function",
    data :=
      PySem.Data.func
        { name := PySem.Str.ofString "_law_by_least_words", qualname := PySem.Str.ofString "_law_by_least_words",
          params := (Arguments.mk p42_0 p42_1 p42_2 p42_3 p42_4 p42_5 p42_6), body := PySem.FuncBody.stmts (b43 :: c43), scope := (Scope.mk s44_0 s44_1 s44_2 s44_3 s44_4), globals := 3,
          closure := [], defaults := PySem.Value.none, kwdefaults := PySem.Value.none,
          pyModule := PySem.Value.str (PySem.Str.ofString "law_dm0132_06") 376, code := PySem.Value.ref 159 } }) ::
    (nat_lit 161, { cls := PySem.Value.type "tuple", data := PySem.Data.seq #[] }) ::
    (nat_lit 163,
  { cls := PySem.Value.type "tuple",
    data :=
      PySem.Data.seq
        #[PySem.Value.str (PySem.Str.ofString "ways") 409, PySem.Value.str (PySem.Str.ofString "due") 410,
          PySem.Value.str (PySem.Str.ofString "root") 411, PySem.Value.str (PySem.Str.ofString "size") 412,
          PySem.Value.str (PySem.Str.ofString "word") 413, PySem.Value.str (PySem.Str.ofString "end") 414] }) ::
    (nat_lit 164, { cls := PySem.Value.type "tuple", data := PySem.Data.seq #[] }) ::
    (nat_lit 166,
  { cls := PySem.Value.type "code",
    data :=
      PySem.Data.fields
        #[PySem.Value.str (PySem.Str.ofString "_law_by_nearness") 406,
          PySem.Value.str (PySem.Str.ofString "_law_by_nearness") 407,
          PySem.Value.str (PySem.Str.ofString "/claim/cut.py") 408, PySem.Value.int 143 0, PySem.Value.int 1 0,
          PySem.Value.int 0 0, PySem.Value.int 0 0, PySem.Value.int 3 0, PySem.Value.ref 161,
          PySem.Value.bool Bool.true, PySem.Value.int 181 0, PySem.Value.ref 162, PySem.Value.none, PySem.Value.ref 163,
          PySem.Value.ref 164, PySem.Value.ref 165, PySem.Value.int 415 0, PySem.Value.int 143 0,
          PySem.Value.str (PySem.Str.ofString "/claim/cut.py") 416] }) ::
    (nat_lit 167,
  { cls := PySem.Value.type "function",
    data :=
      PySem.Data.func
        { name := PySem.Str.ofString "_law_by_nearness", qualname := PySem.Str.ofString "_law_by_nearness",
          params := (Arguments.mk p45_0 p45_1 p45_2 p45_3 p45_4 p45_5 p45_6), body := PySem.FuncBody.stmts (b46 :: c46), scope := (Scope.mk s47_0 s47_1 s47_2 s47_3 s47_4), globals := 3,
          closure := [], defaults := PySem.Value.none, kwdefaults := PySem.Value.none,
          pyModule := PySem.Value.str (PySem.Str.ofString "law_dm0132_06") 376, code := PySem.Value.ref 166 } }) ::
    (nat_lit 168, { cls := PySem.Value.type "tuple", data := PySem.Data.seq #[] }) ::
    (nat_lit 171,
  { cls := PySem.Value.type "code",
    data :=
      PySem.Data.fields
        #[PySem.Value.str (PySem.Str.ofString "_law_ready") 418, PySem.Value.str (PySem.Str.ofString "_law_ready") 419,
          PySem.Value.str (PySem.Str.ofString "/claim/cut.py") 420, PySem.Value.int 153 0, PySem.Value.int 3 0,
          PySem.Value.int 0 0, PySem.Value.int 0 0, PySem.Value.int 3 0, PySem.Value.ref 168,
          PySem.Value.bool Bool.true, PySem.Value.int 181 0, PySem.Value.ref 169, PySem.Value.none, PySem.Value.none,
          PySem.Value.none, PySem.Value.ref 170, PySem.Value.int 421 0, PySem.Value.int 153 0,
          PySem.Value.str (PySem.Str.ofString "/claim/cut.py") 422] }) ::
    (nat_lit 172,
  { cls := PySem.Value.type "function",
    data :=
      PySem.Data.func
        { name := PySem.Str.ofString "_law_ready", qualname := PySem.Str.ofString "_law_ready", params := (Arguments.mk p48_0 p48_1 p48_2 p48_3 p48_4 p48_5 p48_6),
          body := PySem.FuncBody.stmts (b49 :: c49), scope := (Scope.mk s50_0 s50_1 s50_2 s50_3 s50_4), globals := 3, closure := [],
          defaults := PySem.Value.none, kwdefaults := PySem.Value.none,
          pyModule := PySem.Value.str (PySem.Str.ofString "law_dm0132_06") 376, code := PySem.Value.ref 171 } }) ::
    (nat_lit 173, { cls := PySem.Value.type "tuple", data := PySem.Data.seq #[] }) ::
    (nat_lit 176,
  { cls := PySem.Value.type "code",
    data :=
      PySem.Data.fields
        #[PySem.Value.str (PySem.Str.ofString "law") 424, PySem.Value.str (PySem.Str.ofString "law") 425,
          PySem.Value.str (PySem.Str.ofString "/claim/cut.py") 426, PySem.Value.int 156 0, PySem.Value.int 1 0,
          PySem.Value.int 0 0, PySem.Value.int 0 0, PySem.Value.int 3 0, PySem.Value.ref 173,
          PySem.Value.bool Bool.true, PySem.Value.int 181 0, PySem.Value.ref 174, PySem.Value.none, PySem.Value.none,
          PySem.Value.none, PySem.Value.ref 175, PySem.Value.int 427 0, PySem.Value.int 156 0,
          PySem.Value.str (PySem.Str.ofString "/claim/cut.py") 428] }) ::
    (nat_lit 177,
  { cls := PySem.Value.type "function",
    data :=
      PySem.Data.func
        { name := PySem.Str.ofString "law", qualname := PySem.Str.ofString "law", params := (Arguments.mk p51_0 p51_1 p51_2 p51_3 p51_4 p51_5 p51_6),
          body := PySem.FuncBody.stmts (b52 :: c52),
          scope :=
            { kind := PySem.ScopeKind.function,
              names :=
                [(PySem.Str.ofString "script", PySem.NameKind.local),
                  (PySem.Str.ofString "total", PySem.NameKind.local), (PySem.Str.ofString "names", PySem.NameKind.cell),
                  (PySem.Str.ofString "many", PySem.NameKind.local), (PySem.Str.ofString "name", PySem.NameKind.local),
                  (PySem.Str.ofString "rows", PySem.NameKind.cell), (PySem.Str.ofString "x", PySem.NameKind.local),
                  (PySem.Str.ofString "ways", PySem.NameKind.local), (PySem.Str.ofString "order", PySem.NameKind.local),
                  (PySem.Str.ofString "turn", PySem.NameKind.local), (PySem.Str.ofString "graph", PySem.NameKind.local),
                  (PySem.Str.ofString "place", PySem.NameKind.cell),
                  (PySem.Str.ofString "sorter", PySem.NameKind.local),
                  (PySem.Str.ofString "kept", PySem.NameKind.local), (PySem.Str.ofString "info", PySem.NameKind.local),
                  (PySem.Str.ofString "due", PySem.NameKind.local), (PySem.Str.ofString "wanted", PySem.NameKind.local),
                  (PySem.Str.ofString "behind", PySem.NameKind.local),
                  (PySem.Str.ofString "ringed", PySem.NameKind.local), (PySem.Str.ofString "came", PySem.NameKind.cell),
                  (PySem.Str.ofString "ready", PySem.NameKind.local),
                  (PySem.Str.ofString "given", PySem.NameKind.local),
                  (PySem.Str.ofString "sum", PySem.NameKind.globalImplicit),
                  (PySem.Str.ofString "len", PySem.NameKind.globalImplicit),
                  (PySem.Str.ofString "list", PySem.NameKind.globalImplicit),
                  (PySem.Str.ofString "range", PySem.NameKind.globalImplicit),
                  (PySem.Str.ofString "max", PySem.NameKind.globalImplicit),
                  (PySem.Str.ofString "TopologicalSorter", PySem.NameKind.globalImplicit),
                  (PySem.Str.ofString "_law_by_least_words", PySem.NameKind.globalImplicit),
                  (PySem.Str.ofString "_law_by_nearness", PySem.NameKind.globalImplicit),
                  (PySem.Str.ofString "CycleError", PySem.NameKind.globalImplicit),
                  (PySem.Str.ofString "_law_ready", PySem.NameKind.globalImplicit),
                  (PySem.Str.ofString "tuple", PySem.NameKind.globalImplicit)],
              isGenerator := Bool.false, isCoroutine := Bool.false,
              more :=
                [(PySem.Str.ofString "fast", PySem.Const.str (PySem.Str.ofString "script")),
                  (PySem.Str.ofString "fast", PySem.Const.str (PySem.Str.ofString "total")),
                  (PySem.Str.ofString "fast", PySem.Const.str (PySem.Str.ofString "names")),
                  (PySem.Str.ofString "fast", PySem.Const.str (PySem.Str.ofString "many")),
                  (PySem.Str.ofString "fast", PySem.Const.str (PySem.Str.ofString "name")),
                  (PySem.Str.ofString "fast", PySem.Const.str (PySem.Str.ofString "rows")),
                  (PySem.Str.ofString "fast", PySem.Const.str (PySem.Str.ofString "x")),
                  (PySem.Str.ofString "fast", PySem.Const.str (PySem.Str.ofString "row")),
                  (PySem.Str.ofString "fast", PySem.Const.str (PySem.Str.ofString "k")),
                  (PySem.Str.ofString "fast", PySem.Const.str (PySem.Str.ofString "ways")),
                  (PySem.Str.ofString "fast", PySem.Const.str (PySem.Str.ofString "order")),
                  (PySem.Str.ofString "fast", PySem.Const.str (PySem.Str.ofString "turn")),
                  (PySem.Str.ofString "fast", PySem.Const.str (PySem.Str.ofString "graph")),
                  (PySem.Str.ofString "fast", PySem.Const.str (PySem.Str.ofString "place")),
                  (PySem.Str.ofString "fast", PySem.Const.str (PySem.Str.ofString "near")),
                  (PySem.Str.ofString "fast", PySem.Const.str (PySem.Str.ofString "sorter")),
                  (PySem.Str.ofString "fast", PySem.Const.str (PySem.Str.ofString "kept")),
                  (PySem.Str.ofString "fast", PySem.Const.str (PySem.Str.ofString "info")),
                  (PySem.Str.ofString "fast", PySem.Const.str (PySem.Str.ofString "due")),
                  (PySem.Str.ofString "fast", PySem.Const.str (PySem.Str.ofString "wanted")),
                  (PySem.Str.ofString "fast", PySem.Const.str (PySem.Str.ofString "other")),
                  (PySem.Str.ofString "fast", PySem.Const.str (PySem.Str.ofString "behind")),
                  (PySem.Str.ofString "fast", PySem.Const.str (PySem.Str.ofString "ringed")),
                  (PySem.Str.ofString "fast", PySem.Const.str (PySem.Str.ofString "came")),
                  (PySem.Str.ofString "fast", PySem.Const.str (PySem.Str.ofString "ready")),
                  (PySem.Str.ofString "fast", PySem.Const.str (PySem.Str.ofString "given"))] },
          globals := 3, closure := [], defaults := PySem.Value.none, kwdefaults := PySem.Value.none,
          pyModule := PySem.Value.str (PySem.Str.ofString "law_dm0132_06") 376, code := PySem.Value.ref 176 } }) ::
    [])
    _ _ _ _ _ _ _ rfl
    _ _ rfl
    _ _ _ _ _ rfl
    _ _ _ _ _ _ _ rfl
    _ _ rfl
    _ _ _ _ _ rfl
    _ _ _ _ _ _ _ rfl
    _ _ rfl
    _ _ _ _ _ rfl
    _ _ _ _ _ _ _ rfl
    _ _ rfl
    _ _ _ _ _ rfl
    _ _ _ _ _ _ _ rfl
    _ _ rfl
    _ _ _ _ _ rfl
    _ _ _ _ _ _ _ rfl
    _ _ rfl
    _ _ _ _ _ rfl
    _ _ _ _ _ _ _ rfl
    _ _ rfl
    _ _ _ _ _ rfl
    _ _ _ _ _ _ _ rfl
    _ _ rfl
    _ _ _ _ _ rfl
    _ _ _ _ _ _ _ rfl
    _ _ rfl
    _ _ _ _ _ rfl
    _ _ _ _ _ _ _ rfl
    _ _ rfl
    _ _ _ _ _ rfl
    _ _ _ _ _ _ _ rfl
    _ _ rfl
    _ _ _ _ _ rfl
    _ _ _ _ _ _ _ rfl
    _ _ rfl
    _ _ _ _ _ rfl
    _ _ _ _ _ _ _ rfl
    _ _ rfl
    _ _ _ _ _ rfl
    _ _ _ _ _ _ _ rfl
    _ _ rfl
    _ _ _ _ _ rfl
    _ _ _ _ _ _ _ rfl
    _ _ rfl
    _ _ _ _ _ rfl
    _ _ _ _ _ _ _ rfl
    _ _ rfl
    _ _ _ _ _ rfl
    _ _ _ _ _ _ _ rfl
    _ _ rfl
    _ _ _ _ _ rfl
    _ _ _ _ _ _ _ rfl
    _ _ rfl
noncomputable def viewK : Program := { theP with main := { theP.main with body := ([0, 2, 3, 4, 5, 6, 8, 9, 10, 11, 12, 13] : List Nat).filterMap fun i => theP.main.body[i]? } }
noncomputable def addrK : List Addr := [2, 3, 15, 17, 18, 20, 21, 29, 30, 32, 33, 35, 36, 37, 39, 40, 41, 42, 43, 46, 53, 54, 55, 56, 66, 67, 69, 70, 72, 73, 74, 76, 77, 79, 80, 81, 83, 84, 86, 87, 88, 91, 92, 93, 95, 96, 98, 99, 100, 102, 103, 105, 106, 107, 109, 110, 112, 113, 114, 116, 117, 119, 120, 121, 123, 124, 126, 127, 128, 130, 131, 133, 134, 135, 136, 137, 138, 139, 142, 145, 146, 147, 149, 150, 152, 153, 154, 156, 157, 159, 160, 161, 163, 164, 166, 167, 168, 171, 172, 173, 176, 177]
end Mine

namespace Mine
open PySem PySem.W PyProof.Rows
set_option Elab.async false
set_option maxRecDepth 100000
set_option maxHeartbeats 8000000
theorem addrK_is (P : Params) : addrK = (heapK P).map (·.1) := by kernel_rfl
theorem left_law : LeftO Challenge.rw_dm0132_06.row.prog viewK [Str.ofString "_NodeInfo"] (fun s => xlAt viewK [] s && recOk (RowW.records Challenge.rw_dm0132_06.row.toRowW) s) (Hook.obs (kmHook heapK addrK addrK_is [169])) (Hook.val (kmHook heapK addrK addrK_is [169])) 2584 := fun w => by kernel_rfl
end Mine

namespace Mine
set_option Elab.async false
/-! an invariant behind a name: the goals hold the name alone -/
theorem hide2 {α β : Type} (p : α → β → Prop) : ∃ I : α → β → Prop, (∀ a b, p a b → I a b) ∧ (∀ a b, I a b → p a b) := ⟨p, fun _ _ h => h, fun _ _ h => h⟩
theorem hide4 {α β γ δ : Type} (p : α → β → γ → δ → Prop) : ∃ I : α → β → γ → δ → Prop, (∀ a b c d, p a b c d → I a b c d) ∧ (∀ a b c d, I a b c d → p a b c d) := ⟨p, fun _ _ _ _ h => h, fun _ _ _ _ h => h⟩
end Mine

namespace Mine
set_option Elab.async false
/-! some things with some facts, in one piece each: a proof's term stays short where they are taken apart -/
set_option genSizeOf false
set_option genInjectivity false
inductive X1 {α1 : Type} (p : α1 → Prop) : Prop
  | mk (a1 : α1) (h : p a1) : X1 p
inductive X2 {α1 α2 : Type} (p : α1 → α2 → Prop) : Prop
  | mk (a1 : α1) (a2 : α2) (h : p a1 a2) : X2 p
inductive X3 {α1 α2 α3 : Type} (p : α1 → α2 → α3 → Prop) : Prop
  | mk (a1 : α1) (a2 : α2) (a3 : α3) (h : p a1 a2 a3) : X3 p
inductive X4 {α1 α2 α3 α4 : Type} (p : α1 → α2 → α3 → α4 → Prop) : Prop
  | mk (a1 : α1) (a2 : α2) (a3 : α3) (a4 : α4) (h : p a1 a2 a3 a4) : X4 p
inductive X5 {α1 α2 α3 α4 α5 : Type} (p : α1 → α2 → α3 → α4 → α5 → Prop) : Prop
  | mk (a1 : α1) (a2 : α2) (a3 : α3) (a4 : α4) (a5 : α5) (h : p a1 a2 a3 a4 a5) : X5 p
inductive X6 {α1 α2 α3 α4 α5 α6 : Type} (p : α1 → α2 → α3 → α4 → α5 → α6 → Prop) : Prop
  | mk (a1 : α1) (a2 : α2) (a3 : α3) (a4 : α4) (a5 : α5) (a6 : α6) (h : p a1 a2 a3 a4 a5 a6) : X6 p
inductive X7 {α1 α2 α3 α4 α5 α6 α7 : Type} (p : α1 → α2 → α3 → α4 → α5 → α6 → α7 → Prop) : Prop
  | mk (a1 : α1) (a2 : α2) (a3 : α3) (a4 : α4) (a5 : α5) (a6 : α6) (a7 : α7) (h : p a1 a2 a3 a4 a5 a6 a7) : X7 p
inductive X8 {α1 α2 α3 α4 α5 α6 α7 α8 : Type} (p : α1 → α2 → α3 → α4 → α5 → α6 → α7 → α8 → Prop) : Prop
  | mk (a1 : α1) (a2 : α2) (a3 : α3) (a4 : α4) (a5 : α5) (a6 : α6) (a7 : α7) (a8 : α8) (h : p a1 a2 a3 a4 a5 a6 a7 a8) : X8 p
inductive X9 {α1 α2 α3 α4 α5 α6 α7 α8 α9 : Type} (p : α1 → α2 → α3 → α4 → α5 → α6 → α7 → α8 → α9 → Prop) : Prop
  | mk (a1 : α1) (a2 : α2) (a3 : α3) (a4 : α4) (a5 : α5) (a6 : α6) (a7 : α7) (a8 : α8) (a9 : α9) (h : p a1 a2 a3 a4 a5 a6 a7 a8 a9) : X9 p
inductive X13 {α1 α2 α3 α4 α5 α6 α7 α8 α9 α10 α11 α12 α13 : Type} (p : α1 → α2 → α3 → α4 → α5 → α6 → α7 → α8 → α9 → α10 → α11 → α12 → α13 → Prop) : Prop
  | mk (a1 : α1) (a2 : α2) (a3 : α3) (a4 : α4) (a5 : α5) (a6 : α6) (a7 : α7) (a8 : α8) (a9 : α9) (a10 : α10) (a11 : α11) (a12 : α12) (a13 : α13) (h : p a1 a2 a3 a4 a5 a6 a7 a8 a9 a10 a11 a12 a13) : X13 p
inductive X19 {α1 α2 α3 α4 α5 α6 α7 α8 α9 α10 α11 α12 α13 α14 α15 α16 α17 α18 α19 : Type} (p : α1 → α2 → α3 → α4 → α5 → α6 → α7 → α8 → α9 → α10 → α11 → α12 → α13 → α14 → α15 → α16 → α17 → α18 → α19 → Prop) : Prop
  | mk (a1 : α1) (a2 : α2) (a3 : α3) (a4 : α4) (a5 : α5) (a6 : α6) (a7 : α7) (a8 : α8) (a9 : α9) (a10 : α10) (a11 : α11) (a12 : α12) (a13 : α13) (a14 : α14) (a15 : α15) (a16 : α16) (a17 : α17) (a18 : α18) (a19 : α19) (h : p a1 a2 a3 a4 a5 a6 a7 a8 a9 a10 a11 a12 a13 a14 a15 a16 a17 a18 a19) : X19 p
inductive A2 (p1 p2 : Prop) : Prop
  | mk (h1 : p1) (h2 : p2)
inductive A3 (p1 p2 p3 : Prop) : Prop
  | mk (h1 : p1) (h2 : p2) (h3 : p3)
inductive A4 (p1 p2 p3 p4 : Prop) : Prop
  | mk (h1 : p1) (h2 : p2) (h3 : p3) (h4 : p4)
inductive A5 (p1 p2 p3 p4 p5 : Prop) : Prop
  | mk (h1 : p1) (h2 : p2) (h3 : p3) (h4 : p4) (h5 : p5)
inductive A6 (p1 p2 p3 p4 p5 p6 : Prop) : Prop
  | mk (h1 : p1) (h2 : p2) (h3 : p3) (h4 : p4) (h5 : p5) (h6 : p6)
inductive A7 (p1 p2 p3 p4 p5 p6 p7 : Prop) : Prop
  | mk (h1 : p1) (h2 : p2) (h3 : p3) (h4 : p4) (h5 : p5) (h6 : p6) (h7 : p7)
inductive A8 (p1 p2 p3 p4 p5 p6 p7 p8 : Prop) : Prop
  | mk (h1 : p1) (h2 : p2) (h3 : p3) (h4 : p4) (h5 : p5) (h6 : p6) (h7 : p7) (h8 : p8)
inductive A10 (p1 p2 p3 p4 p5 p6 p7 p8 p9 p10 : Prop) : Prop
  | mk (h1 : p1) (h2 : p2) (h3 : p3) (h4 : p4) (h5 : p5) (h6 : p6) (h7 : p7) (h8 : p8) (h9 : p9) (h10 : p10)
inductive A12 (p1 p2 p3 p4 p5 p6 p7 p8 p9 p10 p11 p12 : Prop) : Prop
  | mk (h1 : p1) (h2 : p2) (h3 : p3) (h4 : p4) (h5 : p5) (h6 : p6) (h7 : p7) (h8 : p8) (h9 : p9) (h10 : p10) (h11 : p11) (h12 : p12)
inductive A13 (p1 p2 p3 p4 p5 p6 p7 p8 p9 p10 p11 p12 p13 : Prop) : Prop
  | mk (h1 : p1) (h2 : p2) (h3 : p3) (h4 : p4) (h5 : p5) (h6 : p6) (h7 : p7) (h8 : p8) (h9 : p9) (h10 : p10) (h11 : p11) (h12 : p12) (h13 : p13)
inductive A14 (p1 p2 p3 p4 p5 p6 p7 p8 p9 p10 p11 p12 p13 p14 : Prop) : Prop
  | mk (h1 : p1) (h2 : p2) (h3 : p3) (h4 : p4) (h5 : p5) (h6 : p6) (h7 : p7) (h8 : p8) (h9 : p9) (h10 : p10) (h11 : p11) (h12 : p12) (h13 : p13) (h14 : p14)
inductive A15 (p1 p2 p3 p4 p5 p6 p7 p8 p9 p10 p11 p12 p13 p14 p15 : Prop) : Prop
  | mk (h1 : p1) (h2 : p2) (h3 : p3) (h4 : p4) (h5 : p5) (h6 : p6) (h7 : p7) (h8 : p8) (h9 : p9) (h10 : p10) (h11 : p11) (h12 : p12) (h13 : p13) (h14 : p14) (h15 : p15)
end Mine

namespace Mine
open PySem PySem.W PyProof.Rows
set_option Elab.async false
set_option maxRecDepth 100000
set_option maxHeartbeats 8000000

/-! the names as keys of a dict: a place (0 .. 5) stands for its name -/
inductive NK where
  | i (n : Int)
  | s (x : Str)
deriving DecidableEq

noncomputable def nmKey : Nat → Option NK
  | 0 => some (.i 0)
  | 1 => some (.s (Str.ofString "0"))
  | 2 => some (.i (-1))
  | 3 => some (.s (Str.ofString ""))
  | 4 => some (.i 7)
  | 5 => some (.s (Str.ofString "a"))
  | _ => none

noncomputable def NK.is : NK → Value → Bool
  | .i n, v => Value.isInt n v
  | .s x, v => Value.isStrOf x v

noncomputable def nmIs (p : Nat) (v : Value) : Bool := match nmKey p with
  | some k => k.is v
  | none => false

theorem NK.is_shape {k : NK} {v : Value} (h : k.is v = true) : (∃ n t, k = .i n ∧ v = .int n t) ∨ (∃ x t, k = .s x ∧ v = .str x t) := by
  cases k with
  | i n => obtain ⟨t, rfl⟩ := Value.isInt_shape h; exact .inl ⟨n, t, rfl, rfl⟩
  | s x => obtain ⟨t, rfl⟩ := Value.isStrOf_shape h; exact .inr ⟨x, t, rfl, rfl⟩

theorem nmKey_lt {p : Nat} {k : NK} (h : nmKey p = some k) : p < 6 := by
  unfold nmKey at h
  split at h <;> first | (first | exact o9 | exact o10 | exact o11 | exact o12 | exact o13 | exact o14) | cases h

theorem nmKey_inj6 : ∀ a < 6, ∀ b < 6, nmKey a = nmKey b → a = b := by decide +kernel

theorem nmKey_inj {a b : Nat} {k : NK} (ha : nmKey a = some k) (hb : nmKey b = some k) : a = b :=
  nmKey_inj6 a (nmKey_lt ha) b (nmKey_lt hb) (ha.trans hb.symm)

theorem nmIs_key {p : Nat} {v : Value} (h : nmIs p v = true) : ∃ k, nmKey p = some k ∧ k.is v = true := by
  unfold nmIs at h
  split at h
  · exact ⟨_, by assumption, h⟩
  · cases h

theorem nmIs_inj (v : Value) (a b : Nat) (ha : nmIs a v = true) (hb : nmIs b v = true) : a = b := by
  obtain ⟨k, hk, h1⟩ := nmIs_key ha
  obtain ⟨l, hl, h2⟩ := nmIs_key hb
  refine nmKey_inj hk (hl.trans ?_)
  rcases NK.is_shape h1 with ⟨n, t, rfl, rfl⟩ | ⟨x, t, rfl, rfl⟩ <;> rcases NK.is_shape h2 with ⟨n', t', rfl, e⟩ | ⟨x', t', rfl, e⟩ <;> cases e <;> rfl

section
variable {prog : Program} {w : World} {A : Around} {E : Value → Shared → Prop} {s : Shared}
theorem eqBool_int_str {a : Int} {b : Str} {t u : Tok} {Q : Bool → Shared → Prop} (h : Q false s) :
    wpAny (model prog w) A (eqBool (.int a t) (.str b u)) Q E s := by
  unfold eqBool
  refine wpAny_holding ?_
  rw [if_neg (by intro e; cases (eq_of_beq e))]
  exact wpAny_bind (EqMixed.eq_int_str (wpAny_truthy_bool h))
theorem eqBool_str_int {a : Int} {b : Str} {t u : Tok} {Q : Bool → Shared → Prop} (h : Q false s) :
    wpAny (model prog w) A (eqBool (.str b u) (.int a t)) Q E s := by
  unfold eqBool
  refine wpAny_holding ?_
  rw [if_neg (by intro e; cases (eq_of_beq e))]
  exact wpAny_bind (EqMixed.eq_str_int (wpAny_truthy_bool h))
end

noncomputable def nmHash (w : World) (p : Nat) : Int := match nmKey p with
  | some (.i n) => hashInt n
  | some (.s x) => hashStr w x
  | none => 0

noncomputable def nmKind (prog : Program) (w : World) : KeyKind prog w Nat where
  is := nmIs
  hash := nmHash w
  inj := nmIs_inj
  byValue := fun k v h => by
    obtain ⟨l, hl, h2⟩ := nmIs_key h
    rcases NK.is_shape h2 with ⟨n, t, rfl, rfl⟩ | ⟨x, t, rfl, rfl⟩ <;> rfl
  pyHash := fun {A E s k v Q} hv h => by
    obtain ⟨l, hl, h2⟩ := nmIs_key hv
    rcases NK.is_shape h2 with ⟨n, t, rfl, rfl⟩ | ⟨x, t, rfl, rfl⟩
    · exact wpAny_pyHash_int (by unfold nmHash at h; rw [hl] at h; exact h)
    · exact wpAny_pyHash_str (by unfold nmHash at h; rw [hl] at h; exact h)
  eqBool := fun {A E s a b u v Q} hu hv h => by
    obtain ⟨k, hk, h1⟩ := nmIs_key hu
    obtain ⟨l, hl, h2⟩ := nmIs_key hv
    have ne : k ≠ l → decide (a = b) = false := fun ne => decide_eq_false fun e => ne (by subst e; rw [hk] at hl; exact Option.some.inj hl)
    have eq : k = l → decide (a = b) = true := fun e => decide_eq_true (nmKey_inj hk (e ▸ hl))
    rcases NK.is_shape h1 with ⟨n, t, rfl, rfl⟩ | ⟨x, t, rfl, rfl⟩ <;> rcases NK.is_shape h2 with ⟨n', t', rfl, rfl⟩ | ⟨x', t', rfl, rfl⟩
    · refine wpAny_eqBool_int ?_
      by_cases e : n = n'
      · subst e; rw [eq rfl] at h; simpa using h
      · rw [ne (fun q => e (NK.i.inj q))] at h; rw [beq_false_of_ne e]; exact h
    · rw [ne (by intro q; cases q)] at h; exact eqBool_int_str h
    · rw [ne (by intro q; cases q)] at h; exact eqBool_str_int h
    · refine wpAny_eqBool_str ?_
      by_cases e : x = x'
      · subst e; rw [eq rfl] at h; simpa using h
      · rw [ne (fun q => e (NK.s.inj q))] at h; rw [decide_eq_false e]; exact h
  «strs» := fun k x t v h => by
    obtain ⟨l, hl, h2⟩ := nmIs_key h
    rcases NK.is_shape h2 with ⟨n, t, rfl, e⟩ | ⟨x, t, rfl, e⟩
    · cases e
    · cases e
      unfold nmIs; rw [hl]
      cases v <;> rfl

/-! the ledger -/
theorem News.sub {h₀ h : Heap} {L : Addr} {l l' : List (Addr × Obj)} (N : News h₀ L h l) (hs : ∀ p ∈ l', p ∈ l) : News h₀ L h l' := fun p hp => N p (hs p hp)

noncomputable abbrev lawLoose : List Str := looseW viewK [Str.ofString "_NodeInfo"] ++ (recsOf viewK).map (·.name) ++ (litsOf viewK).map (·.1) ++ (clssOf viewK (looseW viewK [Str.ofString "_NodeInfo"])).map (·.name)
noncomputable abbrev TopAt (hm : Heap) (mg mb : Str → Option Value) (h₀ : Heap) : Prop := Top topProg lawLoose (ExcName.means hm) mg mb h₀

theorem dicts_push {h₀ g : Heap} {L : Addr} {m : Str → Option Value} {env : Env} {outer : List Env} (F : Fr h₀ L g m) (hf : env.frame = some L) (D : KtsDicts (outer.filterMap (·.frame)) h₀) : KtsDicts ((env :: outer).filterMap (·.frame)) g := by
  intro b hb
  rw [List.filterMap_cons, hf] at hb
  rcases List.mem_cons.mp hb with rfl | hb
  · obtain ⟨o, es, n, ho, hd, _⟩ := F.ns
    exact ⟨o, es, n, ho, hd⟩
  · obtain ⟨o, es, n, ho, hd⟩ := D b hb
    exact ⟨o, es, n, F.keep _ _ ho, hd⟩
/-- what a frame stands upon -/
structure Cx (w : World) (A : Around) (h₀ : Heap) (L : Addr) : Prop where
  ex : ∃ (A₀ : Around) (base : Heap) (outer : List Env) (env : Env) (hm : Heap) (mg mb : Str → Option Value), Below A₀ base outer h₀ ∧ A.frames = some (env :: outer) ∧ env.frame = some L ∧ env.scope.kind = .function ∧ TopAt hm mg mb h₀ ∧ (heapK w.params).In base ∧ TopAt hm mg mb base ∧ KtsDicts (outer.filterMap (·.frame)) h₀
  X : (heapK w.params).In h₀
  hh : A.handled = none

theorem Cx.in1 {w : World} {A : Around} {h₀ : Heap} {L : Addr} (C : Cx w A h₀ L) : Cx w A.in1 h₀ L := ⟨C.ex, C.X, C.hh⟩

section
variable {w : World} {A : Around} {E : Value → Shared → Prop} {s : Shared} {L : Addr} {h₀ : Heap} {m : Str → Option Value} {news : List (Addr × Obj)}
theorem enter {R : Result → Shared → Prop} {name qual : Str} {params : Arguments} {body : List Stmt} {scope : Scope} {dV kV doc pm cdv ct oc : Value} {an od : Option Addr} {osl : Array (Option Value)} {f : Addr} {args : Args} {binds : List (Str × Value)}
    (C : Cx w A h₀ L) (F : Fr h₀ L s.heap m) (N : News h₀ L s.heap news)
    (ho : (heapK w.params).lookup f = some ⟨oc, od, .func (fnOf name qual params body scope dV kV doc pm an cdv ct), osl⟩) (hcd : codeIn (heapK w.params) cdv qual = true) (hroom : A.depth < recursionLimit)
    (hbind : BindsTo s (fnOf name qual params body scope dV kV doc pm an cdv ct) args binds) (hloc : ∀ y ∈ binds, scope.names.lookup y.1 = some .local)
    (h : ∀ g L' h₁ hm mg mb, Fr h₀ L g m → Fr g L' h₁ (fun y => binds.reverse.lookup y) → News g L' h₁ news → Cx w (A.deeper (envOf qual scope L' f cdv)) g L' → (heapK w.params).In g → TopAt hm mg mb g →
      wpAny (model Challenge.rw_dm0132_06.row.prog w) (A.deeper (envOf qual scope L' f cdv)) (execs body (envOf qual scope L' f cdv))
        (fun fl s' => LeaveK h₀ L m g R (match fl with | .ret v => v | _ => .none) s')
        (fun e s' => wpAny (model Challenge.rw_dm0132_06.row.prog w) (A.deeper (envOf qual scope L' f cdv)) (leaving (envOf qual scope L' f cdv) e) (fun _ s'' => R (.error e) s'') (fun e' s'' => R (.error e') s'') s')
        { s with heap := h₁, toks := s.toks + binds.length })
    (hco : scope.isCoroutine = false) (hgen : scope.isGenerator = false) (hk : scope.kind = .function)
    (hcell : ∀ x ∈ scope.names, x.2 ≠ .cell) : codeAny (model Challenge.rw_dm0132_06.row.prog w) A (.call (.ref f) args) R s := by
  obtain ⟨A₀, base, outer, env, hm, mg, mb, B, hA, hf, hke, T, XB, TB, D⟩ := C.ex
  refine code_def B F C.X N T hA hf hke ho hcd hroom hbind hloc (fun g L' h₁ FG F' N' B' X' T' => ?_) hco hgen hk hcell
  refine h g L' h₁ hm mg mb FG F' N' ⟨⟨A, base, env :: outer, envOf qual scope L' f cdv, hm, mg, mb, B', ?_, rfl, hk, T', XB, TB, dicts_push FG hf D⟩, X', C.hh⟩ X' T'
  show A.frames.map _ = _
  rw [hA]; rfl
end
end Mine

namespace Mine
open PySem PySem.W PyProof.Rows
set_option Elab.async false
set_option maxRecDepth 100000
set_option maxHeartbeats 8000000
noncomputable abbrev se (w : World) (name : String) (t : Tok) (v : Value) : DictEntry := ⟨PyData.keyHash w.params (Str.ofString name), .str (Str.ofString name) t, v⟩
noncomputable abbrev selfEs (w : World) (t1 t2 t3 t4 : Tok) (n2i : Addr) (rn v3 v4 : Value) : List DictEntry := [se w "_node2info" t1 (.ref n2i), se w "_ready_nodes" t2 rn, se w "_npassedout" t3 v3, se w "_nfinished" t4 v4]
/-- a record: its node, its count, its successors -/
noncomputable abbrev infoObj (dx : Addr) (node : Value) (np : Int) (t : Tok) (sl : Addr) : Obj := ⟨.ref 40, some dx, .plain, #[some node, some (.int np t), some (.ref sl)]⟩

theorem Cx.under {w : World} {A : Around} {h₀ : Heap} {L C : Addr} {pos : List Value} {kw : List (Str × Value)} (X : Cx w A h₀ L) : Cx w (A.under (.builtin "type.__call__" ⟨.ref C :: pos, kw⟩)) h₀ L := ⟨X.ex, X.X, X.hh⟩
theorem depth_under {A : Around} {C : Addr} {pos : List Value} {kw : List (Str × Value)} : (A.under (.builtin "type.__call__" ⟨.ref C :: pos, kw⟩)).depth = A.depth + 1 := rfl

set_option genInjectivity false in
set_option genSizeOf false in
structure Info where
  p : Nat
  x : Nat
  dx : Nat
  sl : Nat
  np : Int
  t : Tok
  nd : Value
  succ : List (Nat × Value)
  ep : Nat
noncomputable abbrev Info.cells (i : Info) : List (Addr × Obj) := [(i.x, infoObj i.dx i.nd i.np i.t i.sl), (i.dx, dictOf [] 0), (i.sl, listOf (i.succ.map (·.2)).toArray i.ep)]
noncomputable def infosL (is : List Info) : List (Addr × Obj) := is.flatMap Info.cells
noncomputable def Info.abs (i : Info) : Nat × Int × List Nat := (i.p, i.np, i.succ.map (·.1))
noncomputable def Info.kv (i : Info) : Nat × Value := (i.p, .ref i.x)
/-- what a record's values are -/
structure Info.Good (i : Info) : Prop where
  few : i.p < 6
  nd : nmIs i.p i.nd = true
  succ : ∀ q ∈ i.succ, q.1 < 6 ∧ nmIs q.1 q.2 = true

set_option genInjectivity false in
set_option genSizeOf false in
structure Sor where
  self : Nat
  dx : Nat
  n2i : Nat
  n : Nat
  t1 : Tok
  t2 : Tok
  t3 : Tok
  t4 : Tok
  rn : Value
  v3 : Value
  v4 : Value
  o : Obj
  infos : List Info
noncomputable def Sor.cells (w : World) (σ : Sor) (X : List (Addr × Obj)) : List (Addr × Obj) :=
  (σ.self, instObj 137 σ.dx) :: (σ.dx, dictOf (selfEs w σ.t1 σ.t2 σ.t3 σ.t4 σ.n2i σ.rn σ.v3 σ.v4) σ.n) :: (σ.n2i, σ.o) :: (infosL σ.infos ++ X)

noncomputable def Keys (l : List (Addr × Obj)) : Prop := (l.map (·.1)).Nodup

structure Sor.Ok (w : World) (σ : Sor) (X : List (Addr × Obj)) : Prop where
  dict : σ.o.IsDictOf (nmKind Challenge.rw_dm0132_06.row.prog w) (σ.infos.map Info.kv)
  keys : Keys (σ.cells w X)
  lo : (σ.n2i == sysModules) = false
  good : ∀ i ∈ σ.infos, i.Good
  apart : (σ.infos.map Info.p).Nodup

/-- what the program's records say -/
noncomputable abbrev Abs := List (Nat × Int × List Nat)
noncomputable def Sor.abs (σ : Sor) : Abs := σ.infos.map Info.abs
noncomputable def hasP (a : Abs) (p : Nat) : Bool := a.any fun e => e.1 == p
noncomputable def getInfo (p : Nat) (a : Abs) : Abs := if hasP a p then a else a ++ [(p, 0, [])]

theorem Keys.off {a : Addr} {o : Obj} {l : List (Addr × Obj)} (h : Keys ((a, o) :: l)) : ∀ q ∈ l, q.1 ≠ a := fun q hq e => by
  have := (List.nodup_cons.mp (show ((a :: l.map (·.1)).Nodup) from h)).1
  exact this (e ▸ List.mem_map_of_mem hq)
theorem Keys.tail {p : Addr × Obj} {l : List (Addr × Obj)} (h : Keys (p :: l)) : Keys l := (List.nodup_cons.mp (show ((p.1 :: l.map (·.1)).Nodup) from h)).2
theorem Keys.cons {a : Addr} {o : Obj} {l : List (Addr × Obj)} (h : Keys l) (hl : ∀ q ∈ l, q.1 ≠ a) : Keys ((a, o) :: l) :=
  List.nodup_cons.mpr ⟨fun hm => by obtain ⟨q, hq, e⟩ := List.mem_map.mp hm; exact hl q hq e, h⟩
theorem Keys.perm {l l' : List (Addr × Obj)} (h : Keys l) (e : l.Perm l') : Keys l' := (e.map _).nodup_iff.mp h
theorem infosL_append (a b : List Info) : infosL (a ++ b) = infosL a ++ infosL b := by simp [infosL]
theorem infosL_cons (i : Info) (b : List Info) : infosL (i :: b) = i.cells ++ infosL b := by simp [infosL]
theorem infosL_nil : infosL [] = [] := rfl

theorem valueAt_some {kvs : List (Nat × Value)} {p : Nat} {v : Value} (h : valueAt kvs p = some v) : (p, v) ∈ kvs := by
  unfold valueAt at h
  obtain ⟨kv, hf, rfl⟩ := Option.map_eq_some_iff.mp h
  have := List.find?_some hf
  simp only [decide_eq_true_eq] at this
  have hm := List.mem_of_find?_eq_some hf
  rw [← this]; exact hm
theorem valueAt_none {kvs : List (Nat × Value)} {p : Nat} (h : valueAt kvs p = none) : ∀ kv ∈ kvs, kv.1 ≠ p := by
  unfold valueAt at h
  intro kv hm e
  have := List.find?_eq_none.mp (Option.map_eq_none_iff.mp h) kv hm
  simp [e] at this

section
variable {w : World} {A : Around} {E : Value → Shared → Prop} {s : Shared} {L f : Addr} {h₀ : Heap} {m : Str → Option Value} {D : List (Addr × Obj)} {Q : Value → Shared → Prop} {R : Result → Shared → Prop}
local macro_rules | `(tactic| k_all) => `(tactic| assumption)
local macro_rules | `(tactic| walk_at "getMethod ref") => `(tactic| (k_here; (with_reducible show wpAny _ _ (getMethod (Value.ref _) (Str.ofString "get") _) _ _ _); refine kdg_method (by k_asm) (by k_mem) (by assumption) ?_))
local macro_rules | `(tactic| walk_at "call builtin:dict.get") => `(tactic| (k_here; refine kdg_get1 (by k_asm) (by k_mem) (by assumption) (by assumption) (by assumption) _ (by assumption) ?_; (try simp only [Option.getD_none, Option.getD_some])))

theorem new_info {node : Value} (C : Cx w A h₀ L) (F : Fr h₀ L s.heap m) (N : News h₀ L s.heap D) (hroom : A.depth + 10 < recursionLimit)
   (h : ∀ (x dx sl : Nat) h' t tk, Fr h₀ L h' m → News h₀ L h' ((sl, listOf #[] 0) :: (x, infoObj dx node 0 t sl) :: (dx, dictOf [] 0) :: D) → (∀ p ∈ D, p.1 < dx) → dx < x → x < sl → Q (.ref x) { s with heap := h', toks := tk }) :
   wpAny (model Challenge.rw_dm0132_06.row.prog w) A (call (.ref 40) [node]) Q E s := by
  have X₀ := C.X; revert X₀; k_fill; intro X₀
  refine' call_cls F X₀ N ?k4 ?k5 ?k6 ?_
  case k4 => k_is
  case k5 => k_is
  case k6 => k_is
  intro x dx h' F' N' l1 l2
  have l3 : dx < x := l2
  clear l2
  have d1 : ∀ p ∈ D, p.1 ≠ dx := fun p hp => Nat.ne_of_lt (l1 p hp)
  have d2 : ∀ p ∈ D, p.1 ≠ x := fun p hp => Nat.ne_of_lt (Nat.lt_trans (l1 p hp) l3)
  replace l3 := ltN l3
  refine' enter C.under F' N' ?k6 ?k7 ?kr ?k9 ?kB ?_ ?c2 ?c3 ?c4 ?c5
  case k6 => k_is
  case k7 => k_is
  case k9 => exact BindsTo.of_eq rfl
  case kr => rw [depth_under]; exact o248 hroom
  case c5 => decide
  case kB => exact locs rfl
  case c2 => exact rfl
  case c3 => exact rfl
  case c4 => exact rfl
  intro g' L' h' hm mg mb FG' F' N' C' X' T'
  try dsimp only
  try k_fold
  clear F X₀ C N
  k_steps
  exact leaveK_ (by k_asm) (by k_asm) fun kF kN => ⟨rfl, h _ _ _ _ _ _ kF kN l1 l3 (ltN (by exact o249 (by assumption)))⟩

local macro_rules | `(tactic| walk_at "call ref") => `(tactic| (k_here; (with_reducible show wpAny _ _ (call (Value.ref 40) [_]) _ _ _); refine new_info (by k_asm) (by k_asm) (by k_asm) (by simp only [depth_deeper]; omega) ?_; intro x' dx' sl' h' t' tk' F' N' l0 l2 l3; have l1 := l0; k_lt l1))
local macro_rules | `(tactic| walk_at "setItem ref") => `(tactic| (k_here; refine kda_set (by k_asm) (by k_asm) (by k_updF) (by assumption) (by assumption) (by assumption) ?_; intro h' o' F' N' hd'))

theorem gni_new {self dx n2i n p : Nat} {t1 t2 t3 t4 : Tok} {rn v3 v4 key : Value} {o : Obj} {kvs : List (Nat × Value)}
   (C : Cx w A h₀ L) (F : Fr h₀ L s.heap m)
   (N : News h₀ L s.heap ((self, instObj 137 dx) :: (dx, dictOf (selfEs w t1 t2 t3 t4 n2i rn v3 v4) n) :: (n2i, o) :: D))
   (hd : o.IsDictOf (nmKind Challenge.rw_dm0132_06.row.prog w) kvs) (hkey : (nmKind Challenge.rw_dm0132_06.row.prog w).is p key = true) (lo : (n2i == sysModules) = false) (hz : kvs.length ≤ sizeLine)
   (hroom : A.depth + 20 < recursionLimit) (hl : valueAt kvs p = none)
   (e1 : self ≠ dx) (e2 : self ≠ n2i) (e3 : dx ≠ n2i) (d1 : ∀ p ∈ D, p.1 ≠ self) (d2 : ∀ p ∈ D, p.1 ≠ dx) (d3 : ∀ p ∈ D, p.1 ≠ n2i)
   (k : ∀ (x dxi sl : Nat) h' o' t tk, Fr h₀ L h' m → News h₀ L h' ((sl, listOf #[] 0) :: (x, infoObj dxi key 0 t sl) :: (dxi, dictOf [] 0) :: (self, instObj 137 dx) :: (dx, dictOf (selfEs w t1 t2 t3 t4 n2i rn v3 v4) n) :: (n2i, o') :: D) →
     o'.IsDictOf (nmKind Challenge.rw_dm0132_06.row.prog w) (stored kvs p (.ref x)) → (∀ q ∈ (self, instObj 137 dx) :: (dx, dictOf (selfEs w t1 t2 t3 t4 n2i rn v3 v4) n) :: (n2i, o) :: D, q.1 < dxi) → dxi < x → x < sl → R (.ok (.ret (.ref x))) { s with heap := h', toks := tk })
   : codeAny (model Challenge.rw_dm0132_06.row.prog w) A (.call (.ref 80) ⟨[.ref self, key], []⟩) R s := by
  have X₀ := C.X; revert X₀; k_fill; intro X₀
  refine' enter C F N ?k6 ?k7 ?kr ?k9 ?kB ?_ ?c2 ?c3 ?c4 ?c5
  case k6 => k_is
  case k7 => k_is
  case kr => exact o250 hroom
  case k9 => exact BindsTo.of_eq rfl
  case c5 => decide
  case kB => exact locs rfl
  case c2 => exact rfl
  case c3 => exact rfl
  case c4 => exact rfl
  intro g' L' h' hm mg mb FG' F' N' C' X' T'
  try dsimp only
  try k_fold
  clear F X₀ C N
  k_steps
  exact leaveK_ (by k_asm) (by k_asm) fun kF kN => k _ _ _ _ _ _ _ kF kN (by assumption) (by assumption) (by assumption) (by assumption)

theorem gni_old {self dx n2i n p x : Nat} {t1 t2 t3 t4 : Tok} {rn v3 v4 key : Value} {o : Obj} {kvs : List (Nat × Value)}
   (C : Cx w A h₀ L) (F : Fr h₀ L s.heap m)
   (N : News h₀ L s.heap ((self, instObj 137 dx) :: (dx, dictOf (selfEs w t1 t2 t3 t4 n2i rn v3 v4) n) :: (n2i, o) :: D))
   (hd : o.IsDictOf (nmKind Challenge.rw_dm0132_06.row.prog w) kvs) (hkey : (nmKind Challenge.rw_dm0132_06.row.prog w).is p key = true) (lo : (n2i == sysModules) = false)
   (hroom : A.depth + 20 < recursionLimit) (hl : valueAt kvs p = some (.ref x))
   (k : ∀ h' tk, Fr h₀ L h' m → News h₀ L h' ((self, instObj 137 dx) :: (dx, dictOf (selfEs w t1 t2 t3 t4 n2i rn v3 v4) n) :: (n2i, o) :: D) → R (.ok (.ret (.ref x))) { s with heap := h', toks := tk })
   : codeAny (model Challenge.rw_dm0132_06.row.prog w) A (.call (.ref 80) ⟨[.ref self, key], []⟩) R s := by
  have X₀ := C.X; revert X₀; k_fill; intro X₀
  refine' enter C F N ?k6 ?k7 ?kr ?k9 ?kB ?_ ?c2 ?c3 ?c4 ?c5
  case k6 => k_is
  case k7 => k_is
  case kr => exact o250 hroom
  case k9 => exact BindsTo.of_eq rfl
  case c5 => decide
  case kB => exact locs rfl
  case c2 => exact rfl
  case c3 => exact rfl
  case c4 => exact rfl
  intro g' L' h' hm mg mb FG' F' N' C' X' T'
  try dsimp only
  try k_fold
  clear F X₀ C N
  k_steps
  exact leaveK_ (by k_asm) (by k_asm) fun kF kN => k _ _ kF kN
end
end Mine

namespace Mine
open PySem PySem.W PyProof.Rows
set_option Elab.async false
set_option maxRecDepth 100000
set_option maxHeartbeats 8000000
/-- a place where the walk stands still -/
noncomputable def Stopped (P : Prop) : Prop := P
theorem stop_intro {P : Prop} (h : Stopped P) : P := h

section
variable {w : World} {A : Around} {E : Value → Shared → Prop} {s : Shared} {L : Addr} {h₀ : Heap} {m : Str → Option Value} {D : List (Addr × Obj)}
theorem Fr.ext {h' : Heap} {a : Addr} {h : Heap} (F : Fr h₀ L h m) (he : Heap.ExtBut a h h') (hL : a ≠ L) (hn : h₀.get? a = none) : Fr h₀ L h' m := by
  obtain ⟨oL, es, ep, hoL, r⟩ := F.ns
  refine ⟨⟨oL, es, ep, he L _ (Ne.symm hL) hoL, r⟩, fun b x e => he b x ?_ (F.keep b x e), F.above⟩
  rintro rfl; rw [hn] at e; cases e
theorem News.ext {h h' : Heap} {a : Addr} {D : List (Addr × Obj)} (N : News h₀ L h D) (hd : ∀ q ∈ D, q.1 ≠ a) (he : Heap.ExtBut a h h') : News h₀ L h' D :=
  fun p hp => ⟨he _ _ (hd p hp) (N p hp).1, (N p hp).2⟩

end
end Mine

namespace Mine
open PySem PySem.W PyProof.Rows
set_option Elab.async false
set_option maxRecDepth 100000
set_option maxHeartbeats 8000000

noncomputable def Sor.foc (w : World) (σ : Sor) (pre : List Info) (i : Info) (post : List Info) (X : List (Addr × Obj)) : List (Addr × Obj) :=
  (σ.self, instObj 137 σ.dx) :: (σ.dx, dictOf (selfEs w σ.t1 σ.t2 σ.t3 σ.t4 σ.n2i σ.rn σ.v3 σ.v4) σ.n) :: (σ.n2i, σ.o) ::
  (i.x, infoObj i.dx i.nd i.np i.t i.sl) :: (i.dx, dictOf [] 0) :: (i.sl, listOf (i.succ.map (·.2)).toArray i.ep) :: (infosL pre ++ infosL post ++ X)

theorem foc_perm (w : World) (σ : Sor) (pre : List Info) (i : Info) (post : List Info) (X : List (Addr × Obj)) :
    (Sor.foc w σ pre i post X).Perm (Sor.cells w { σ with infos := pre ++ i :: post } X) := by
  unfold Sor.foc Sor.cells
  refine List.Perm.cons _ (List.Perm.cons _ (List.Perm.cons _ ?_))
  rw [infosL_append, infosL_cons]
  have : (i.cells ++ (infosL pre ++ infosL post ++ X)).Perm (infosL pre ++ (i.cells ++ infosL post) ++ X) := by
    rw [← List.append_assoc, ← List.append_assoc, ← List.append_assoc]
    exact (List.perm_append_comm.append_right _).append_right _
  exact this

theorem News.perm {h₀ h : Heap} {L : Addr} {l l' : List (Addr × Obj)} (N : News h₀ L h l) (e : l.Perm l') : News h₀ L h l' := fun p hp => N p (e.mem_iff.mpr hp)

theorem abs_hasP {is : List Info} {p : Nat} : hasP (is.map Info.abs) p = true ↔ ∃ i ∈ is, i.p = p := by
  simp [hasP, Info.abs]

theorem valueAt_kv {is : List Info} {p : Nat} {v : Value} (h : valueAt (is.map Info.kv) p = some v) : ∃ i ∈ is, i.p = p ∧ v = .ref i.x := by
  obtain ⟨i, hi, e⟩ := List.mem_map.mp (valueAt_some h)
  simp only [Info.kv, Prod.mk.injEq] at e
  exact ⟨i, hi, e.1, e.2.symm⟩
theorem valueAt_kv_none {is : List Info} {p : Nat} (h : valueAt (is.map Info.kv) p = none) : ∀ i ∈ is, i.p ≠ p := fun i hi =>
  valueAt_none h (i.p, .ref i.x) (List.mem_map.mpr ⟨i, hi, rfl⟩)

theorem nodup_few {l : List Nat} (hn : l.Nodup) {n : Nat} (hl : ∀ x ∈ l, x < n) : l.length ≤ n := by
  have := hn.length_le_of_subset (l₂ := List.range n) fun x hx => List.mem_range.mpr (hl x hx)
  simpa using this

theorem Sor.Ok.short {w : World} {σ : Sor} {X : List (Addr × Obj)} (ok : σ.Ok w X) : σ.infos.length ≤ 6 := by
  have := nodup_few ok.apart (n := 6) fun x hx => by obtain ⟨i, hi, rfl⟩ := List.mem_map.mp hx; exact (ok.good i hi).few
  simpa using this

section
variable {w : World} {A : Around} {E : Value → Shared → Prop} {s : Shared} {L f : Addr} {h₀ : Heap} {m : Str → Option Value} {X : List (Addr × Obj)} {R : Result → Shared → Prop}

theorem get_nodeinfo {σ : Sor} {p : Nat} (C : Cx w A h₀ L) (F : Fr h₀ L s.heap m) (N : News h₀ L s.heap (σ.cells w X)) (ok : σ.Ok w X) {key : Value} (V : nmIs p key = true) (hp : p < 6) (hroom : A.depth + 20 < recursionLimit)
    (k : ∀ h' tk o' pre i post, i.p = p → Fr h₀ L h' m → News h₀ L h' (Sor.foc w { σ with o := o', infos := pre ++ i :: post } pre i post X) → Sor.Ok w { σ with o := o', infos := pre ++ i :: post } X →
      (pre ++ i :: post).map Info.abs = getInfo p σ.abs → R (.ok (.ret (.ref i.x))) { s with heap := h', toks := tk }) :
    codeAny (model Challenge.rw_dm0132_06.row.prog w) A (.call (.ref 80) ⟨[.ref σ.self, key], []⟩) R s := by
  obtain ⟨self, dx, n2i, n, t1, t2, t3, t4, rn, v3, v4, o, infos⟩ := σ
  have hz : (infos.map Info.kv).length ≤ sizeLine := by
    rw [List.length_map, sizeLine_eq]; have := ok.short; dsimp only at this; exact o61 this
  obtain ⟨hd, K, lo, good, apart⟩ := ok
  simp only [Sor.cells] at N K hd lo good apart ⊢
  cases hl : valueAt (infos.map Info.kv) p with
  | some v =>
    obtain ⟨i, hi, rfl, rfl⟩ := valueAt_kv hl
    obtain ⟨pre, post, rfl⟩ := List.append_of_mem hi
    refine gni_old C F N hd V lo hroom hl fun h' tk F' N' => ?_
    refine k h' tk o pre i post rfl F' (News.perm N' (foc_perm w ⟨self, dx, n2i, n, t1, t2, t3, t4, rn, v3, v4, o, pre ++ i :: post⟩ pre i post X).symm) ⟨hd, K, lo, good, apart⟩ ?_
    unfold getInfo
    rw [if_pos (by exact abs_hasP.mpr ⟨i, hi, rfl⟩)]
    rfl
  | none =>
    have no := valueAt_kv_none hl
    have k1 := K.off
    have k2 := K.tail.off
    have k3 := K.tail.tail.off
    refine gni_new C F N hd V lo hz hroom hl (Ne.symm (k1 _ (.head _))) (Ne.symm (k1 _ (.tail _ (.head _)))) (Ne.symm (k2 _ (.head _))) (fun q hq => k1 q (.tail _ (.tail _ hq))) (fun q hq => k2 q (.tail _ hq)) k3 fun x dxi sl h' o' t tk F' N' hd' l1 l2 l3 => ?_
    let ni : Info := ⟨p, x, dxi, sl, 0, t, key, [], 0⟩
    have hst : stored (infos.map Info.kv) p (.ref x) = (infos ++ [ni]).map Info.kv := by
      unfold stored
      rw [if_neg]
      · simp [Info.kv, ni]
      · simp only [List.any_eq_true, decide_eq_true_eq, not_exists, not_and]
        exact fun kv hm => valueAt_none hl kv hm
    rw [hst] at hd'
    have hp1 := foc_perm w ⟨self, dx, n2i, n, t1, t2, t3, t4, rn, v3, v4, o', infos ++ [ni]⟩ infos ni [] X
    have hp2 : ((sl, listOf #[] 0) :: (x, infoObj dxi key 0 t sl) :: (dxi, dictOf [] 0) :: (self, instObj 137 dx) :: (dx, dictOf (selfEs w t1 t2 t3 t4 n2i rn v3 v4) n) :: (n2i, o') :: (infosL infos ++ X)).Perm
        (Sor.foc w ⟨self, dx, n2i, n, t1, t2, t3, t4, rn, v3, v4, o', infos ++ [ni]⟩ infos ni [] X) := by
      unfold Sor.foc
      simp only [ni, infosL_nil, List.append_nil, List.map_nil]
      have e1 : ∀ (a b c d e f : Addr × Obj) (r : List (Addr × Obj)), (a :: b :: c :: d :: e :: f :: r).Perm (d :: e :: f :: b :: c :: a :: r) := by
        intro a b c d e f r
        have : ([a, b, c] ++ ([d, e, f] ++ r)).Perm ([d, e, f] ++ ([b, c, a] ++ r)) := by
          rw [← List.append_assoc, ← List.append_assoc]
          refine List.Perm.append_right r (List.perm_append_comm.trans (List.Perm.append_left _ ?_))
          exact (List.perm_append_comm (l₁ := [a]) (l₂ := [b, c]))
        exact this
      exact e1 _ _ _ _ _ _ _
    have K' : Keys (Sor.cells w ⟨self, dx, n2i, n, t1, t2, t3, t4, rn, v3, v4, o', infos ++ [ni]⟩ X) := by
      refine Keys.perm ?_ (hp2.trans hp1)
      have K0 : Keys ((self, instObj 137 dx) :: (dx, dictOf (selfEs w t1 t2 t3 t4 n2i rn v3 v4) n) :: (n2i, o') :: (infosL infos ++ X)) := K
      have l1' : ∀ q ∈ (self, instObj 137 dx) :: (dx, dictOf (selfEs w t1 t2 t3 t4 n2i rn v3 v4) n) :: (n2i, o') :: (infosL infos ++ X), q.1 < dxi := by
        intro q hq
        rcases hq with _ | ⟨_, hq⟩
        · exact l1 _ (.head _)
        rcases hq with _ | ⟨_, hq⟩
        · exact l1 _ (.tail _ (.head _))
        rcases hq with _ | ⟨_, hq⟩
        · exact l1 (n2i, o) (.tail _ (.tail _ (.head _)))
        · exact l1 _ (.tail _ (.tail _ (.tail _ hq)))
      refine Keys.cons (Keys.cons (Keys.cons K0 fun q hq => Nat.ne_of_lt (l1' q hq)) fun q hq => ?_) fun q hq => ?_
      · rcases hq with _ | ⟨_, hq⟩
        · exact Nat.ne_of_lt l2
        · exact Nat.ne_of_lt (Nat.lt_trans (l1' q hq) l2)
      · rcases hq with _ | ⟨_, hq⟩
        · exact Nat.ne_of_lt l3
        rcases hq with _ | ⟨_, hq⟩
        · exact Nat.ne_of_lt (Nat.lt_trans l2 l3)
        · exact Nat.ne_of_lt (Nat.lt_trans (l1' q hq) (Nat.lt_trans l2 l3))
    refine k h' tk o' infos ni [] rfl F' (News.perm N' hp2) ⟨hd', K', lo, ?_, ?_⟩ ?_
    · intro i hi
      rcases List.mem_append.mp hi with h | h
      · exact good i h
      · rw [List.mem_singleton.mp h]; exact ⟨hp, V, fun _ h => nomatch h⟩
    · show ((infos ++ [_]).map Info.p).Nodup
      rw [List.map_append, List.nodup_append]
      refine ⟨apart, by simp, ?_⟩
      intro a ha b hb
      obtain ⟨i, hi, rfl⟩ := List.mem_map.mp ha
      simp only [List.map_cons, List.map_nil, List.mem_singleton] at hb
      rw [hb]; exact no i hi
    · unfold getInfo
      rw [if_neg (by intro e; obtain ⟨i, hi, e⟩ := abs_hasP.mp e; exact no i hi e)]
      simp [Sor.abs, Info.abs, ni]
end
end Mine

namespace Mine
open PySem PySem.W PyProof.Rows
set_option Elab.async false
set_option maxRecDepth 100000
set_option maxHeartbeats 8000000

theorem bind_rest2 {name qual : Str} {body : List Stmt} {scope : Scope} {doc pm cdv ct : Value} {an : Option Addr} {a0 a1 a2 : Arg} {kw : List (Option PySem.Expr)} {df : List PySem.Expr} {x y : Value} {vs : List Value} (h01 : (a1.arg == a0.arg) = false) :
    bindArgs (fnOf name qual { posonlyargs := [], args := [a0, a1], vararg := some a2, kwonlyargs := [], kw_defaults := kw, kwarg := none, defaults := df } body scope .none .none doc pm an cdv ct) ⟨x :: y :: vs, []⟩ =
      (newTuple vs >>= fun t => pure [(a0.arg, x), (a1.arg, y), (a2.arg, t)]) := by
  unfold bindArgs
  simp [seqItems?, List.lookup, h01, show notAStandIn Value.none = pure () from rfl]
theorem bind_rest1 {name qual : Str} {body : List Stmt} {scope : Scope} {doc pm cdv ct : Value} {an : Option Addr} {a0 a2 : Arg} {kw : List (Option PySem.Expr)} {df : List PySem.Expr} {x : Value} {vs : List Value} :
    bindArgs (fnOf name qual { posonlyargs := [], args := [a0], vararg := some a2, kwonlyargs := [], kw_defaults := kw, kwarg := none, defaults := df } body scope .none .none doc pm an cdv ct) ⟨x :: vs, []⟩ =
      (newTuple vs >>= fun t => pure [(a0.arg, x), (a2.arg, t)]) := by
  unfold bindArgs
  simp [seqItems?, List.lookup, show notAStandIn Value.none = pure () from rfl]

section
variable {w : World} {A : Around} {E : Value → Shared → Prop} {s : Shared} {L : Addr} {h₀ : Heap} {m : Str → Option Value} {news : List (Addr × Obj)}
noncomputable abbrev tupOf (vs : List Value) : Obj := { cls := .type "tuple", data := .seq vs.toArray }
theorem enter_rest {R : Result → Shared → Prop} {name qual : Str} {params : Arguments} {body : List Stmt} {scope : Scope} {dV kV doc pm cdv ct oc : Value} {an od : Option Addr} {osl : Array (Option Value)} {f : Addr} {args : Args} {vs : List Value} {binds : Value → List (Str × Value)}
    (C : Cx w A h₀ L) (F : Fr h₀ L s.heap m) (N : News h₀ L s.heap news)
    (ho : (heapK w.params).lookup f = some ⟨oc, od, .func (fnOf name qual params body scope dV kV doc pm an cdv ct), osl⟩) (hcd : codeIn (heapK w.params) cdv qual = true) (hroom : A.depth < recursionLimit)
    (hb : bindArgs (fnOf name qual params body scope dV kV doc pm an cdv ct) args = (newTuple vs >>= fun t => pure (binds t))) (hsz : vs.length ≤ sizeLine)
    (hloc : ∀ D, ∀ y ∈ binds D, scope.names.lookup y.1 = some .local)
    (h : ∀ (D : Addr) g L' h₁ hm mg mb tk, Fr h₀ L g m → Fr g L' h₁ (fun y => (binds (.ref D)).reverse.lookup y) → News g L' h₁ ((D, tupOf vs) :: news) → (∀ p ∈ news, p.1 < D) → Cx w (A.deeper (envOf qual scope L' f cdv)) g L' → (heapK w.params).In g → TopAt hm mg mb g →
      wpAny (model Challenge.rw_dm0132_06.row.prog w) (A.deeper (envOf qual scope L' f cdv)) (execs body (envOf qual scope L' f cdv))
        (fun fl s' => LeaveK h₀ L m g R (match fl with | .ret v => v | _ => .none) s')
        (fun e s' => wpAny (model Challenge.rw_dm0132_06.row.prog w) (A.deeper (envOf qual scope L' f cdv)) (leaving (envOf qual scope L' f cdv) e) (fun _ s'' => R (.error e) s'') (fun e' s'' => R (.error e') s'') s')
        { s with heap := h₁, toks := tk })
    (hco : scope.isCoroutine = false) (hgen : scope.isGenerator = false) (hk : scope.kind = .function)
    (hcell : ∀ x ∈ scope.names, x.2 ≠ .cell) : codeAny (model Challenge.rw_dm0132_06.row.prog w) A (.call (.ref f) args) R s := by
  obtain ⟨A₀, base, outer, env, hm, mg, mb, B, hA, hf, hke, T, XB, TB, D⟩ := C.ex
  refine codeAny_call_function (fd := fnOf name qual params body scope dV kV doc pm an cdv ct) (body := body) hroom ((C.X.keeps F.keep) _ _ ho) rfl hco hgen rfl (codeRec_of (C.X.keeps F.keep) hcd) ?_
  rw [hb]
  refine wpAny_bind (wpAny_newTuple ?_ (by simpa using hsz))
  refine wpAny_pure ?_
  have l : ∀ p ∈ news, p.1 < s.heap.objs.size := fun p hp => Heap.lt_size (N p hp).1
  refine kp_frame (cl := []) (s := { s with heap := s.heap.push (tupOf vs) }) B (F.push _) (News.push F N _ rfl) T.nolimit hA hf hke (hloc _) (fun g L' h₁ FG FL NG BG st => ?_) hcell hk
  refine h _ g L' h₁ hm mg mb _ FG FL NG l ⟨⟨A, base, env :: outer, envOf qual scope L' f cdv, hm, mg, mb, BG, ?_, rfl, hk, T.keeps st, XB, TB, dicts_push FG hf D⟩, C.X.keeps st, C.hh⟩ (C.X.keeps st) (T.keeps st)
  show A.frames.map _ = _
  rw [hA]; rfl
end
end Mine

namespace Mine
open PySem PySem.W PyProof.Rows
set_option Elab.async false
set_option maxRecDepth 100000
set_option maxHeartbeats 8000000
noncomputable abbrev PG : Program := Challenge.rw_dm0132_06.row.prog
noncomputable abbrev Led := List (Addr × Obj)

/-- a list of data at an address, borne by the ledger -/
noncomputable def LD (X : Led) (a : Addr) (ds : List Dat) : Prop := ∃ vs n, (a, listOf vs.toArray n) ∈ X ∧ DatAll X vs ds
theorem LD.mono {X Y : Led} {a : Addr} {ds : List Dat} (h : LD X a ds) (hs : ∀ p ∈ X, p ∈ Y) : LD Y a ds := let ⟨vs, n, hm, hd⟩ := h; ⟨vs, n, hs _ hm, hd.mono hs⟩
theorem dat_ld {X : Led} {v : Value} {ds : List Dat} (h : DatIn X v (.list ds)) : ∃ a, v = .ref a ∧ LD X a ds := by
  cases h with
  | list hm hd => exact ⟨_, rfl, _, _, hm, hd⟩
theorem dat_int {X : Led} {v : Value} {i : Int} (h : DatIn X v (.int i)) : ∃ t, v = .int i t := by
  cases h; exact ⟨_, rfl⟩
noncomputable abbrev dI (ns : List Int) : List Dat := ns.map Dat.int
noncomputable abbrev dL (nss : List (List Int)) : List Dat := nss.map fun ns => Dat.list (dI ns)

section
variable {w : World} {A : Around} {E : Value → Shared → Prop} {s : Shared} {L : Addr} {h₀ : Heap} {m : Str → Option Value} {D X : Led}

theorem len_ld {a : Addr} {ds : List Dat} {Q : Value → Shared → Prop} (N : News h₀ L s.heap D) (hl : LD X a ds) (hs : ∀ p ∈ X, p ∈ D) (hz : (ds.length : Int) < 2 ^ 63)
    (h : Q (.int (ds.length : Int) (s.toks + 1)) { s with toks := s.toks + 1 + 1 }) : wpAny (model PG w) A (call (.builtin "len") [.ref a]) Q E s := by
  obtain ⟨vs, n, hm, hd⟩ := hl
  exact kd_len N (hs _ hm) hd hz h

theorem item_ld {a : Addr} {ds : List Dat} {k : Int} {u : Tok} {value slice : PySem.Expr} {Q : Value → Shared → Prop} (N : News h₀ L s.heap D) (hl : LD X a ds) (hs : ∀ p ∈ X, p ∈ D) (h0 : 0 ≤ k) (h1 : k < (ds.length : Int)) (hfit : k < 2 ^ 63)
    (h : ∀ v, DatIn X v (ds.getD k.toNat .none) → Q v s)
    (hsl : subscripted slice false (.ref a) (.int k u) = operate [.ref a, .int k u] (getItem (.ref a) (.int k u)) := by with_unfolding_all rfl) :
    wpAny (model PG w) A (subscriptTail value slice (.ref a) (.int k u)) Q E s := by
  obtain ⟨vs, n, hm, hd⟩ := hl
  refine kd_item N (hs _ hm) hd h0 h1 hfit (fun v d hk _ hv => h v ?_) hsl
  rw [List.getD_eq_getElem?_getD, hk]; exact hv
theorem item_int {a : Addr} {ns : List Int} {k : Int} {u : Tok} {value slice : PySem.Expr} {Q : Value → Shared → Prop} (N : News h₀ L s.heap D) (hl : LD X a (dI ns)) (hs : ∀ p ∈ X, p ∈ D) (h0 : 0 ≤ k) (h1 : k < (ns.length : Int)) (hfit : k < 2 ^ 63)
    (h : ∀ t, Q (.int (ns.getD k.toNat 0) t) s)
    (hsl : subscripted slice false (.ref a) (.int k u) = operate [.ref a, .int k u] (getItem (.ref a) (.int k u)) := by with_unfolding_all rfl) :
    wpAny (model PG w) A (subscriptTail value slice (.ref a) (.int k u)) Q E s := by
  refine item_ld N hl hs h0 (by simpa using h1) hfit (fun v hv => ?_) hsl
  have e : (dI ns).getD k.toNat .none = .int (ns.getD k.toNat 0) := by
    have : k.toNat < ns.length := by exact o159 h1 h0
    simp [List.getD_eq_getElem?_getD, this]
  rw [e] at hv
  obtain ⟨t, rfl⟩ := dat_int hv
  exact h t
theorem item_list {a : Addr} {dss : List (List Dat)} {k : Int} {u : Tok} {value slice : PySem.Expr} {Q : Value → Shared → Prop} (N : News h₀ L s.heap D) (hl : LD X a (dss.map Dat.list)) (hs : ∀ p ∈ X, p ∈ D) (h0 : 0 ≤ k) (h1 : k < (dss.length : Int)) (hfit : k < 2 ^ 63)
    (h : ∀ b, LD X b (dss.getD k.toNat []) → Q (.ref b) s)
    (hsl : subscripted slice false (.ref a) (.int k u) = operate [.ref a, .int k u] (getItem (.ref a) (.int k u)) := by with_unfolding_all rfl) :
    wpAny (model PG w) A (subscriptTail value slice (.ref a) (.int k u)) Q E s := by
  refine item_ld N hl hs h0 (by simpa using h1) hfit (fun v hv => ?_) hsl
  have e : (dss.map Dat.list).getD k.toNat .none = .list (dss.getD k.toNat []) := by
    have : k.toNat < dss.length := by exact o159 h1 h0
    simp [List.getD_eq_getElem?_getD, this]
  rw [e] at hv
  obtain ⟨b, rfl, hb⟩ := dat_ld hv
  exact h b hb
/-! loops -/
noncomputable def NextOk' (h₀ : Heap) (L I : Addr) (oi : Obj) (J : (Str → Option Value) → Led → Prop) (s s₃ : Shared) : Prop :=
  X4 fun h tk m D => A5 (s₃ = { s with heap := h, toks := tk }) (Fr h₀ L h m) (News h₀ L h ((I, oi) :: D)) ((∀ p ∈ D, p.1 ≠ I)) (J m D)
noncomputable abbrev NB (w : World) (A : Around) (env : Env) (R : Result → Shared → Prop) : Value → Shared → Prop := notedBy (model PG w) A env fun e s' => R (.error e) s'

theorem fr_but {h h' : Heap} {I : Addr} (F : Fr h₀ L h m) (hk : ∀ b o, b ∉ [I] → h.get? b = some o → h'.get? b = some o) (hL : I ≠ L) (hI : h₀.get? I = none) : Fr h₀ L h' m := LCg.fr_but F hk (Ne.symm hL) hI

theorem for_walk {R : Result → Shared → Prop} {I : Addr} {src : Led} {n : Nat} {P : Nat → Value → Prop} {St : Nat → Heap → Prop} {target : PySem.Expr} {body orelse : List Stmt} {env : Env}
    (W : Walks PG w A I (I :: src.map (·.1)) [I] n P St) (hI : ∀ i h, St i h → ∃ o, h.get? I = some o)
    (J : Nat → (Str → Option Value) → Led → Prop) (hsrc : ∀ i m D, J i m D → ∀ p ∈ src, p ∈ D)
    (F : Fr h₀ L s.heap m) (N : News h₀ L s.heap D) (hIn : h₀.get? I = none) (hIL : I ≠ L) (hoff : ∀ p ∈ D, p.1 ≠ I) (h0 : St 0 s.heap) (hj : J 0 m D)
    (turn : ∀ i v m D oi h tk, i < n → P i v → J i m D → Fr h₀ L h m → News h₀ L h ((I, oi) :: D) → (∀ p ∈ D, p.1 ≠ I) →
      wpAny (model PG w) A (assign target env v) (fun _ s₂ => wpAny (model PG w) A (execs body env) (fun fl s₃ => match fl with
        | .next | .cont => NextOk' h₀ L I oi (J (i + 1)) s s₃
        | .brk => R (.ok .next) s₃
        | .ret v => R (.ok (.ret v)) s₃) (NB w A env R) s₂) (NB w A env R) { s with heap := h, toks := tk })
    (done : ∀ m D h tk, J n m D → Fr h₀ L h m → News h₀ L h D → wpAny (model PG w) A (execs orelse env) (fun f s₃ => R (.ok f) s₃) (NB w A env R) { s with heap := h, toks := tk })
    (ht : ∀ v, letOwnedTupleGo target (.ref I) v = pure () := by intro _; rfl) : codeAny (model PG w) A (.forLoop target (.ref I) body orelse env) R s := by
  refine codeAny_forLoop (fun k s₁ => X5 fun i h tk m D => A7 (k + i = n) (s₁ = { s with heap := h, toks := tk }) (Fr h₀ L h m) (News h₀ L h D) ((∀ p ∈ D, p.1 ≠ I)) (St i h) (J i m D)) ?_ n
    ⟨0, s.heap, s.toks, m, D, rfl, rfl, F, N, hoff, h0, hj⟩ ht
  rintro k s₁ ⟨i, h, tk, m, D, hk, rfl, F, N, off, st, hJ⟩
  by_cases hi : i < n
  · refine W.item i _ _ _ hi st fun v h' tk' hP st' hb => ?_
    obtain ⟨oi, hoi⟩ := hI _ _ st'
    have F' := fr_but F hb hIL hIn
    have N' : News h₀ L h' ((I, oi) :: D) := fun p hp => by
      rcases List.mem_cons.mp hp with rfl | hp
      · exact ⟨hoi, hIL, hIn⟩
      · exact ⟨hb _ _ (by simpa using off p hp) (N p hp).1, (N p hp).2⟩
    refine wpAny_mono (turn i v m D oi h' tk' hi hP hJ F' N' off) (fun _ s₂ h₂ => wpAny_mono h₂ (fun fl s₃ h₃ => ?_) fun _ _ e => e) fun _ _ e => e
    have go : NextOk' h₀ L I oi (J (i + 1)) s s₃ → ∃ k', k' < k ∧ (X5 fun i h tk m D => A7 (k' + i = n) (s₃ = { s with heap := h, toks := tk }) (Fr h₀ L h m) (News h₀ L h D) ((∀ p ∈ D, p.1 ≠ I)) (St i h) (J i m D)) := by
      rintro ⟨h3, tk3, m3, D3, e, F3, N3, off3, J3⟩
      refine ⟨k - 1, by exact o47 hi hk, i + 1, h3, tk3, m3, D3, by exact o48 hi hk, e, F3, fun p hp => N3 p (.tail _ hp), off3, ?_, J3⟩
      refine W.frame _ _ _ st' fun b hbm o ho => ?_
      rcases List.mem_cons.mp hbm with rfl | hbm
      · rw [hoi] at ho; cases ho; exact (N3 _ (.head _)).1
      · obtain ⟨p, hp, rfl⟩ := List.mem_map.mp hbm
        have h1 := (N' p (.tail _ (hsrc _ _ _ hJ p hp))).1
        rw [h1] at ho; cases ho
        exact (N3 p (.tail _ (hsrc _ _ _ J3 p hp))).1
    cases fl with
    | next => exact go h₃
    | cont => exact go h₃
    | brk => exact h₃
    | ret v => exact h₃
  · obtain rfl : i = n := by exact o49 hk hi
    refine W.done _ _ _ st fun h' tk' hb => ?_
    exact done m D h' tk' hJ (fr_but F hb hIL hIn) fun p hp => ⟨hb _ _ (by simpa using off p hp) (N p hp).1, (N p hp).2⟩

noncomputable def LoopPost (h₀ : Heap) (L I : Addr) (oi : Obj) (J : (Str → Option Value) → Led → Prop) (s : Shared) (Q : Flow → Shared → Prop) (fl : Flow) (s₃ : Shared) : Prop := match fl with
  | .next | .cont => NextOk' h₀ L I oi J s s₃
  | .brk => Q .next s₃
  | .ret v => Q (.ret v) s₃
noncomputable def LoopErr (w : World) (A : Around) (env : Env) (E : Value → Shared → Prop) : Value → Shared → Prop := notedBy (model PG w) A env fun e s' => cameBackBy (model PG w) A env E e s'
theorem LoopPost.next' {I : Addr} {oi : Obj} {J : (Str → Option Value) → Led → Prop} {s : Shared} {Q : Flow → Shared → Prop} {h : Heap} {tk : Nat} {m : Str → Option Value} {D : Led} (F : Fr h₀ L h m) (N : News h₀ L h ((I, oi) :: D)) (off : ∀ p ∈ D, p.1 ≠ I) (j : J m D) :
    LoopPost h₀ L I oi J s Q .next { s with heap := h, toks := tk } := ⟨h, tk, m, D, rfl, F, N, off, j⟩
theorem LoopPost.ret' {I : Addr} {oi : Obj} {J : (Str → Option Value) → Led → Prop} {s s₃ : Shared} {Q : Flow → Shared → Prop} {v : Value} (h : Q (.ret v) s₃) : LoopPost h₀ L I oi J s Q (.ret v) s₃ := h
noncomputable def NextTo (h₀ : Heap) (L I : Addr) (oi : Obj) (J : (Str → Option Value) → Led → Prop) (s : Shared) (R : Flow → Shared → Prop) : Prop :=
  ∀ h tk m D, Fr h₀ L h m → News h₀ L h ((I, oi) :: D) → (∀ p ∈ D, p.1 ≠ I) → J m D → R .next { s with heap := h, toks := tk }
noncomputable def PostOf (R : Flow → Shared → Prop) : Flow → Shared → Prop := R
noncomputable def RetTo (Q R : Flow → Shared → Prop) : Prop := ∀ v s₃, Q (.ret v) s₃ → R (.ret v) s₃
theorem NextTo.loop {I : Addr} {oi : Obj} {J : (Str → Option Value) → Led → Prop} {s : Shared} {Q : Flow → Shared → Prop} : NextTo h₀ L I oi J s (LoopPost h₀ L I oi J s Q) := fun _ _ _ _ F N off j => LoopPost.next' F N off j
theorem RetTo.loop {I : Addr} {oi : Obj} {J : (Str → Option Value) → Led → Prop} {s : Shared} {Q : Flow → Shared → Prop} : RetTo Q (LoopPost h₀ L I oi J s Q) := fun _ _ h => h

/-- what a for's head leaves -/
noncomputable abbrev ForGoal (w : World) (A : Around) (target : PySem.Expr) (body : List Stmt) (env : Env) (Q : Flow → Shared → Prop) (E : Value → Shared → Prop) (it : Value) (s₂ : Shared) : Prop :=
  codeAny (model PG w) A (.forLoop target it body [] env) (fun r s' => match r with | .ok f => Q f s' | .error e => cameBackBy (model PG w) A env E e s') s₂

theorem for_walkQ {Q : Flow → Shared → Prop} {I : Addr} {src : Led} {n : Nat} {P : Nat → Value → Prop} {St : Nat → Heap → Prop} {target : PySem.Expr} {body : List Stmt} {env : Env}
    (W : Walks PG w A I (I :: src.map (·.1)) [I] n P St) (hI : ∀ i h, St i h → ∃ o, h.get? I = some o)
    (J : Nat → (Str → Option Value) → Led → Prop) (hsrc : ∀ i m D, J i m D → ∀ p ∈ src, p ∈ D)
    (F : Fr h₀ L s.heap m) (N : News h₀ L s.heap D) (hIn : h₀.get? I = none) (hIL : I ≠ L) (hoff : ∀ p ∈ D, p.1 ≠ I) (h0 : St 0 s.heap) (hj : J 0 m D)
    (turn : ∀ i v m D oi h tk, i < n → P i v → ∀ Rn : Flow → Shared → Prop, NextTo h₀ L I oi (J (i + 1)) s Rn → RetTo Q Rn → J i m D → Fr h₀ L h m → News h₀ L h ((I, oi) :: D) → (∀ p ∈ D, p.1 ≠ I) →
      wpAny (model PG w) A (assign target env v) (fun _ s₂ => wpAny (model PG w) A (execs body env) (PostOf Rn) (LoopErr w A env E) s₂) (LoopErr w A env E) { s with heap := h, toks := tk })
    (done : ∀ m D h tk, J n m D → Fr h₀ L h m → News h₀ L h D → Q .next { s with heap := h, toks := tk })
    (ht : ∀ v, letOwnedTupleGo target (.ref I) v = pure ()) : ForGoal w A target body env Q E (.ref I) s := by
  refine for_walk W hI J hsrc F N hIn hIL hoff h0 hj (fun i v m D oi h tk hi hP hJ F N off => wpAny_mono (turn i v m D oi h tk hi hP _ NextTo.loop RetTo.loop hJ F N off) (fun _ s₂ h₂ => wpAny_mono h₂ (fun fl s₃ h₃ => ?_) fun _ _ e => e) fun _ _ e => e)
    (fun m D h tk hJ F N => wpAny_execs_nil (done m D h tk hJ F N)) ht
  cases fl <;> exact h₃

/-- a for over a list of data -/
theorem for_ld {Q : Flow → Shared → Prop} {a : Addr} {ds : List Dat} {target : PySem.Expr} {body : List Stmt} {env : Env} (hh : A.handled = none) (F : Fr h₀ L s.heap m) (N : News h₀ L s.heap D) (hl : LD X a ds) (hs : ∀ p ∈ X, p ∈ D)
    (J : Nat → (Str → Option Value) → Led → Prop) (hX : ∀ i m D, J i m D → ∀ p ∈ X, p ∈ D) (hj : J 0 m D)
    (turn : ∀ I oi, (∀ p ∈ D, p.1 < I) → ∀ i v m D h tk, (hi : i < ds.length) → DatIn X v ds[i] → ∀ Rn : Flow → Shared → Prop, NextTo h₀ L I oi (J (i + 1)) s Rn → RetTo Q Rn → J i m D → Fr h₀ L h m → News h₀ L h ((I, oi) :: D) → (∀ p ∈ D, p.1 ≠ I) →
      wpAny (model PG w) A (assign target env v) (fun _ s₂ => wpAny (model PG w) A (execs body env) (PostOf Rn) (LoopErr w A env E) s₂) (LoopErr w A env E) { s with heap := h, toks := tk })
    (done : ∀ m D h tk, J ds.length m D → Fr h₀ L h m → News h₀ L h D → Q .next { s with heap := h, toks := tk })
    (ht : ∀ it v, letOwnedTupleGo target (.ref it) v = pure () := by intro _ _; rfl) :
    wpAny (model PG w) A (pyIter (.ref a)) (fun it s₂ => ForGoal w A target body env Q E it s₂) E s := by
  obtain ⟨vs, n, hm, hd⟩ := id hl
  have hm' := hs _ hm
  have hls : s.heap.IsList a vs.toArray := ⟨_, (N _ hm').1, rfl, n, rfl⟩
  have hlt : a < s.heap.objs.size := Heap.lt_size (N _ hm').1
  have lt0 : ∀ p ∈ D, p.1 < s.heap.objs.size := fun p hp => Heap.lt_size (N p hp).1
  refine wpAny_pyIter_list hls ?_
  have up : ∀ b o, s.heap.get? b = some o → (s.heap.push { cls := .type "list_iterator", data := .fields #[.ref a, .int 0 0] }).get? b = some o := fun b o e => Heap.get?_push_of_some _ e
  refine for_walkQ (src := [(a, listOf vs.toArray n)]) (Walks.list hh s.heap.objs.size a (Nat.ne_of_lt hlt) vs.toArray) (fun i h st => by obtain ⟨o, e, _⟩ := st.1; exact ⟨o, e⟩) J
    (fun i m D hJ p hp => by rw [List.mem_singleton.mp hp]; exact hX i m D hJ _ hm) (F.keeps up) (N.grown up) (next_is_new F) (Ne.symm (Nat.ne_of_lt F.ns.lt)) (fun p hp => Nat.ne_of_lt (Heap.lt_size (N p hp).1))
    ⟨⟨_, Heap.get?_push_size _ rfl, rfl, rfl⟩, hls.push _⟩ hj ?_ ?_ (ht _)
  · intro i v m D oi h tk hi hP Rn nx rt hJ F N off
    have hi' : i < ds.length := by rw [← hd.length]; simpa using hi
    obtain ⟨v', hv', hD⟩ := hd.get hi'
    have : v' = v := by
      have e : vs[i]? = some v := by simpa using hP
      rw [hv'] at e; exact Option.some.inj e
    subst this
    exact turn _ oi lt0 i v' m D h tk hi' hD Rn nx rt hJ F N off
  · intro m D h tk hJ F N
    have e : vs.toArray.size = ds.length := by rw [List.size_toArray, hd.length]
    rw [e] at hJ
    exact done m D h tk hJ F N

/-- a for over a range by ones -/
theorem for_range {Q : Flow → Shared → Prop} {r : Addr} {a b : Int} {t u v : Tok} {n : Nat} {target : PySem.Expr} {body : List Stmt} {env : Env} (hh : A.handled = none) (F : Fr h₀ L s.heap m) (N : News h₀ L s.heap D)
    (hr : IsRange s.heap r a b 1 t u v) (hsm : Builtin.Range.small a b 1 = true) (hn : Builtin.Range.rangeSize a b 1 = ((n : Nat) : Int))
    (J : Nat → (Str → Option Value) → Led → Prop) (hj : J 0 m D)
    (turn : ∀ I oi, (∀ p ∈ D, p.1 < I) → ∀ i t m D h tk, i < n → ∀ Rn : Flow → Shared → Prop, NextTo h₀ L I oi (J (i + 1)) s Rn → RetTo Q Rn → J i m D → Fr h₀ L h m → News h₀ L h ((I, oi) :: D) → (∀ p ∈ D, p.1 ≠ I) →
      wpAny (model PG w) A (assign target env (.int (a + (i : Int)) t)) (fun _ s₂ => wpAny (model PG w) A (execs body env) (PostOf Rn) (LoopErr w A env E) s₂) (LoopErr w A env E) { s with heap := h, toks := tk })
    (done : ∀ m D h tk, J n m D → Fr h₀ L h m → News h₀ L h D → Q .next { s with heap := h, toks := tk })
    (ht : ∀ it v, letOwnedTupleGo target (.ref it) v = pure () := by intro _ _; rfl) :
    wpAny (model PG w) A (pyIter (.ref r)) (fun it s₂ => ForGoal w A target body env Q E it s₂) E s := by
  have lt0 : ∀ p ∈ D, p.1 < s.heap.objs.size := fun p hp => Heap.lt_size (N p hp).1
  refine wpAny_pyIter_range hr hsm ?_
  have up : ∀ c o, s.heap.get? c = some o → (s.heap.push { cls := .type "range_iterator", data := .fields #[rawInt a, rawInt (Builtin.Range.rangeSize a b 1), rawInt 1] }).get? c = some o := fun c o e => Heap.get?_push_of_some _ e
  refine for_walkQ (src := []) (LCg.range_walks hh a n) (fun i h st => ⟨_, st⟩) J (fun i m D hJ p hp => (nomatch hp)) (F.keeps up) (N.grown up) (next_is_new F) (Ne.symm (Nat.ne_of_lt F.ns.lt)) (fun p hp => Nat.ne_of_lt (Heap.lt_size (N p hp).1))
    (by show IsRangeIter _ _ _ _ _; rw [hn]; simpa using Heap.get?_push_size _ rfl) hj ?_ ?_ (ht _)
  · intro i v m D oi h tk hi hP Rn nx rt hJ F N off
    obtain ⟨t, rfl⟩ := hP
    exact turn _ oi lt0 i t m D h tk hi Rn nx rt hJ F N off
  · intro m D h tk hJ F N
    exact done m D h tk hJ F N

theorem store_n {Q : Unit → Shared → Prop} {x : Str} {px : Pos} {v : Value} {env : Env} (F : Fr h₀ L s.heap m) (N : News h₀ L s.heap D) (hL : env.locals = L) (hk : env.scope.kind = .function) (hx : env.kindOf x = some .local)
    (h : ∀ h' tk, Fr h₀ L h' (fun y => if y = x then some v else m y) → News h₀ L h' D → Q () { s with heap := h', toks := tk }) : wpAny (model PG w) A (assign (.Name x px) env v) Q E s := by
  subst hL
  exact wpAny_assign_Name (wpAny_storeName_local hx F.ns (fun h' hn hs => h h' _ (F.set hn hs) (N.set hs)) (by rw [hk]; rfl))

theorem for_ldN {Q : Flow → Shared → Prop} {a : Addr} {ds : List Dat} {x : Str} {px : Pos} {body : List Stmt} {env : Env} (hh : A.handled = none) (F : Fr h₀ L s.heap m) (N : News h₀ L s.heap D) (hl : LD X a ds) (hs : ∀ p ∈ X, p ∈ D)
    (J : Nat → (Str → Option Value) → Led → Prop) (hX : ∀ i m D, J i m D → ∀ p ∈ X, p ∈ D) (hj : J 0 m D)
    (turn : ∀ I oi, (∀ p ∈ D, p.1 < I) → ∀ i v m D h tk, (hi : i < ds.length) → DatIn X v ds[i] → ∀ Rn : Flow → Shared → Prop, NextTo h₀ L I oi (J (i + 1)) s Rn → RetTo Q Rn → J i m D → Fr h₀ L h (fun y => if y = x then some v else m y) → News h₀ L h ((I, oi) :: D) → (∀ p ∈ D, p.1 ≠ I) →
      wpAny (model PG w) A (execs body env) (PostOf Rn) (LoopErr w A env E) { s with heap := h, toks := tk })
    (done : ∀ m D h tk, J ds.length m D → Fr h₀ L h m → News h₀ L h D → Q .next { s with heap := h, toks := tk })
    (hL : env.locals = L := by rfl) (hk : env.scope.kind = .function := by rfl) (hx : env.kindOf x = some .local := by rfl) :
    wpAny (model PG w) A (pyIter (.ref a)) (fun it s₂ => ForGoal w A (.Name x px) body env Q E it s₂) E s :=
  for_ld hh F N hl hs J hX hj (fun I oi lt0 i v m D h tk hi hv Rn nx rt hJ F N off => store_n F N hL hk hx fun h' tk' F' N' => turn I oi lt0 i v m D h' tk' hi hv Rn nx rt hJ F' N' off) done

theorem for_rangeN {Q : Flow → Shared → Prop} {r : Addr} {a b : Int} {t u v : Tok} {n : Nat} {x : Str} {px : Pos} {body : List Stmt} {env : Env} (hh : A.handled = none) (F : Fr h₀ L s.heap m) (N : News h₀ L s.heap D)
    (hr : IsRange s.heap r a b 1 t u v) (hsm : Builtin.Range.small a b 1 = true) (hn : Builtin.Range.rangeSize a b 1 = ((n : Nat) : Int))
    (J : Nat → (Str → Option Value) → Led → Prop) (hj : J 0 m D)
    (turn : ∀ I oi, (∀ p ∈ D, p.1 < I) → ∀ i t m D h tk, i < n → ∀ Rn : Flow → Shared → Prop, NextTo h₀ L I oi (J (i + 1)) s Rn → RetTo Q Rn → J i m D → Fr h₀ L h (fun y => if y = x then some (.int (a + (i : Int)) t) else m y) → News h₀ L h ((I, oi) :: D) → (∀ p ∈ D, p.1 ≠ I) →
      wpAny (model PG w) A (execs body env) (PostOf Rn) (LoopErr w A env E) { s with heap := h, toks := tk })
    (done : ∀ m D h tk, J n m D → Fr h₀ L h m → News h₀ L h D → Q .next { s with heap := h, toks := tk })
    (hL : env.locals = L := by rfl) (hk : env.scope.kind = .function := by rfl) (hx : env.kindOf x = some .local := by rfl) :
    wpAny (model PG w) A (pyIter (.ref r)) (fun it s₂ => ForGoal w A (.Name x px) body env Q E it s₂) E s :=
  for_range hh F N hr hsm hn J hj (fun I oi lt0 i t m D h tk hi Rn nx rt hJ F N off => store_n F N hL hk hx fun h' tk' F' N' => turn I oi lt0 i t m D h' tk' hi Rn nx rt hJ F' N' off) done
end
end Mine

namespace Mine
open PySem PySem.W PyProof.Rows
set_option Elab.async false
set_option maxRecDepth 100000
set_option maxHeartbeats 8000000
open LCg (NsObj ns_obj lst)

/-! comprehensions -/
noncomputable def NextC (h₀ : Heap) (L : Addr) (m : Str → Option Value) (I : Addr) (oi : Obj) (J : Led → Prop) (s s₃ : Shared) : Prop :=
  X3 fun h tk D => A5 (s₃ = { s with heap := h, toks := tk }) (Fr h₀ L h m) (News h₀ L h ((I, oi) :: D)) ((∀ p ∈ D, p.1 ≠ I)) (J D)

noncomputable abbrev tests (ifs : List PySem.Expr) (env : Env) : Sem Bool := forIn ifs true fun c r => if r = true then do let ok ← isTrue c env (eval c env); pure (ForInStep.yield ok) else pure (ForInStep.yield r)

section
variable {w : World} {A : Around} {E : Value → Shared → Prop} {s : Shared} {L : Addr} {h₀ : Heap} {m : Str → Option Value} {D X : Led}

theorem comp_gen {R : Result → Shared → Prop} {e : PySem.Expr} {k : Nat} {acc : Value} {I : Addr} {src : Led} {n : Nat} {P : Nat → Value → Prop} {St : Nat → Heap → Prop} {target : PySem.Expr} {ifs : List PySem.Expr} {inner : Sem Unit} {p : Pos} {env : Env}
    (heq : compTurn e k (.ref I) acc env = (do
      standAt p
      match ← pyNext (.ref I) with
      | none => pure (.done .next)
      | some v =>
        letOwnedTupleGo target (.ref I) v
        assign target env v
        let mut ok := true
        for c in ifs do
          if ok then ok ← isTrue c env (eval c env)
        if ok then inner
        again (.compLoop e k (.ref I) acc env)))
    (hq : (Code.compLoop e k (.ref I) acc env).quiet = true) (hfr : (Code.compLoop e k (.ref I) acc env).isFrame = false) (hund : A.under (Code.compLoop e k (.ref I) acc env) = A)
    (W : Walks PG w A I (I :: src.map (·.1)) [I] n P St) (hI : ∀ i h, St i h → ∃ o, h.get? I = some o)
    (J : Nat → Led → Prop) (hsrc : ∀ i D, J i D → ∀ p ∈ src, p ∈ D)
    (F : Fr h₀ L s.heap m) (N : News h₀ L s.heap D) (hIn : h₀.get? I = none) (hIL : I ≠ L) (hoff : ∀ p ∈ D, p.1 ≠ I) (h0 : St 0 s.heap) (hj : J 0 D)
    (turn : ∀ i v D oi h tk, i < n → P i v → J i D → Fr h₀ L h m → News h₀ L h ((I, oi) :: D) → (∀ p ∈ D, p.1 ≠ I) →
      wpAny (model PG w) A (assign target env v) (fun _ s₂ => wpAny (model PG w) A (tests ifs env) (fun ok s₃ => if ok = true then wpAny (model PG w) A inner (fun _ s₄ => NextC h₀ L m I oi (J (i + 1)) s s₄) (NB w A env R) s₃
        else NextC h₀ L m I oi (J (i + 1)) s s₃) (NB w A env R) s₂) (NB w A env R) { s with heap := h, toks := tk })
    (done : ∀ D h tk, J n D → Fr h₀ L h m → News h₀ L h D → R (.ok .next) { s with heap := h, toks := tk })
    (ht : ∀ v, letOwnedTupleGo target (.ref I) v = pure ()) : codeAny (model PG w) A (.compLoop e k (.ref I) acc env) R s := by
  refine codeAny_loop hq (fun k s₁ => X4 fun i h tk D => A7 (k + i = n) (s₁ = { s with heap := h, toks := tk }) (Fr h₀ L h m) (News h₀ L h D) ((∀ p ∈ D, p.1 ≠ I)) (St i h) (J i D)) ?_ n
    ⟨0, s.heap, s.toks, D, rfl, rfl, F, N, hoff, h0, hj⟩
  rw [hund]
  rintro k' s₁ ⟨i, h, tk, D, hk, rfl, F, N, off, st, hJ⟩
  show wpAny _ A (if (Code.compLoop e k (.ref I) acc env).isFrame then (compTurn e k (.ref I) acc env).onRaise (leaving env) else (compTurn e k (.ref I) acc env).onRaise (fun x => do noteFrame x env; theTreesLotGoes x)) _ _ _
  rw [hfr]
  refine wpAny_noted ?_
  rw [heq]
  refine wpAny_bind (wpAny_standAt (wpAny_bind ?_))
  by_cases hi : i < n
  · refine W.item i _ _ _ hi st fun v h' tk' hP st' hb => ?_
    obtain ⟨oi, hoi⟩ := hI _ _ st'
    have F' := fr_but F hb hIL hIn
    have N' : News h₀ L h' ((I, oi) :: D) := fun p hp => by
      rcases List.mem_cons.mp hp with rfl | hp
      · exact ⟨hoi, hIL, hIn⟩
      · exact ⟨hb _ _ (by simpa using off p hp) (N p hp).1, (N p hp).2⟩
    refine wpAny_bind (wpAny_of_eq (ht v) ?_)
    have go : ∀ s₃, NextC h₀ L m I oi (J (i + 1)) s s₃ → ∃ k'', k'' < k' ∧ (X4 fun i h tk D => A7 (k'' + i = n) (s₃ = { s with heap := h, toks := tk }) (Fr h₀ L h m) (News h₀ L h D) ((∀ p ∈ D, p.1 ≠ I)) (St i h) (J i D)) := by
      rintro s₃ ⟨h3, tk3, D3, e, F3, N3, off3, J3⟩
      refine ⟨k' - 1, by exact o47 hi hk, i + 1, h3, tk3, D3, by exact o48 hi hk, e, F3, fun p hp => N3 p (.tail _ hp), off3, ?_, J3⟩
      refine W.frame _ _ _ st' fun b hbm o ho => ?_
      rcases List.mem_cons.mp hbm with rfl | hbm
      · rw [hoi] at ho; cases ho; exact (N3 _ (.head _)).1
      · obtain ⟨p, hp, rfl⟩ := List.mem_map.mp hbm
        have h1 := (N' p (.tail _ (hsrc _ _ hJ p hp))).1
        rw [h1] at ho; cases ho
        exact (N3 p (.tail _ (hsrc _ _ J3 p hp))).1
    refine wpAny_bind (wpAny_mono (turn i v D oi h' tk' hi hP hJ F' N' off) (fun _ s₂ h₂ => wpAny_bind (wpAny_mono h₂ (fun ok s₃ h₃ => ?_) fun _ _ e => e)) fun _ _ e => e)
    cases ok with
    | false => exact wpAny_pure ⟨rfl, go _ h₃⟩
    | true => exact wpAny_bind (wpAny_mono h₃ (fun _ s₄ h₄ => wpAny_pure ⟨rfl, go _ h₄⟩) fun _ _ h' => h')
  · obtain rfl : i = n := by exact o49 hk hi
    refine W.done _ _ _ st fun h' tk' hb => wpAny_pure ?_
    exact done D h' tk' hJ (fr_but F hb hIL hIn) fun p hp => ⟨hb _ _ (by simpa using off p hp) (N p hp).1, (N p hp).2⟩

noncomputable abbrev emit (elt : PySem.Expr) (acc : Value) (env : Env) : Sem Unit := do let _ ← call (.builtin "list.append") [acc, ← eval elt env]

theorem emit_at {elt : PySem.Expr} {a : Addr} {ys : List Value} {env : Env} {Q : Unit → Shared → Prop} {n' : Nat}
    (h : wpAny (model PG w) A (eval elt env) (fun y s₁ => X3 fun D₁ D₂ m => A6 (Fr h₀ L s₁.heap m) (News h₀ L s₁.heap (D₁ ++ (a, listOf ys.toArray n') :: D₂)) ((∀ p ∈ D₁, p.1 ≠ a)) ((∀ p ∈ D₂, p.1 ≠ a)) (ys.length ≤ sizeLine) (∀ h', Fr h₀ L h' m → News h₀ L h' (D₁ ++ (a, listOf (ys ++ [y]).toArray (n' + 1)) :: D₂) → Q () { s₁ with heap := h' })) E s) :
    wpAny (model PG w) A (emit elt (.ref a) env) Q E s := by
  refine wpAny_bind (wpAny_mono h (fun y s₁ h₁ => ?_) fun _ _ e => e)
  obtain ⟨D₁, D₂, m, F, N, o1, o2, hz, hq⟩ := h₁
  have hm := N (a, listOf ys.toArray n') (List.mem_append_right _ (.head _))
  refine wpAny_bind (append_at (hsz := by simpa using hz) hm.1 fun h₅ hs₅ hD₅ => wpAny_pure (hq h₅ (F.change hs₅ hm.2.1 hm.2.2) fun p hp => ?_))
  rcases List.mem_append.mp hp with h | h
  · have := N p (List.mem_append_left _ h); exact ⟨hs₅.extBut _ _ (o1 p h) this.1, this.2⟩
  · rcases List.mem_cons.mp h with rfl | h
    · refine ⟨hD₅.trans ?_, hm.2⟩
      simp
    · have := N p (List.mem_append_right _ (.tail _ h)); exact ⟨hs₅.extBut _ _ (o2 p h) this.1, this.2⟩

/-- the block's start: the new list, the block's names, the loop -/
theorem comp_begin {elt : PySem.Expr} {g : PySem.Expr × PySem.Expr × List PySem.Expr} {gs : List Comprehension} {scope : Scope} {cl : List (Str × Addr)} {pos : Pos} {env : Env} {I : Addr} {oi : Obj} {n : Nat} {src : List Addr} {P : Nat → Value → Prop} {St : Nat → Heap → Prop} {RR : Value → Addr → Result → Shared → Prop}
    (W : Walks PG w A I src [I] n P St) (hcell : ∀ y ∈ scope.names, y.2 ≠ .cell) (hkind : scope.kind = .function) (h0 : St 0 s.heap)
    (F : Fr h₀ L s.heap m) (N : News h₀ L s.heap ((I, oi) :: D))
    (h : ∀ a C oC h tk, St 0 h → Fr h₀ L h m → News h₀ L h ((C, oC) :: (a, listOf ([] : List Value).toArray 0) :: (I, oi) :: D) → NsObj oC (fun _ => none) → (∀ p ∈ (I, oi) :: D, p.1 < a) → a < C →
      codeAny (model PG w) A (.compLoop (.ListComp elt (⟨g.1, g.2.1, g.2.2, 0⟩ :: gs) scope pos) 0 (.ref I) (.ref a) (compEnvC scope cl C env)) (RR (.ref a) C) { s with heap := h, toks := tk }) :
    wpAny (model PG w) A (newList []) (fun acc s₃ => wpAny (model PG w) A (newFunctionEnv scope env.globals cl [] env.qual none .none (some env)) (fun cenv s₄ =>
      codeAny (model PG w) A (.compStart (.ListComp elt (⟨g.1, g.2.1, g.2.2, 0⟩ :: gs) scope pos) 0 (.ref I) acc { cenv with scope := relabel scope env }) (RR acc cenv.locals) s₄) E s₃) E s := by
  refine wpAny_newObj_type (wpAny_newFunctionEnv hcell (by intro y hy; simp at hy) (fun h₁ hns₁ hsb₁ => ?_) hkind)
  dsimp only at hns₁ hsb₁ ⊢
  generalize hH2 : s.heap.push { cls := .type "list", dict := none, data := .seq ([] : List Value).toArray } = H2 at hns₁ hsb₁ ⊢
  have hC : H2.objs.size = s.heap.objs.size + 1 := by rw [← hH2, Heap.size_push]
  have below : ∀ b, b < s.heap.objs.size → b ≠ H2.objs.size := fun b hb => by rw [hC]; exact Nat.ne_of_lt (Nat.lt_succ_of_lt hb)
  have old : ∀ b o, s.heap.get? b = some o → h₁.get? b = some o := fun b o e => hsb₁.extBut b o (below b (Heap.lt_size e)) (Heap.get?_push_of_some _ (hH2 ▸ Heap.get?_push_of_some _ e))
  have hacc : h₁.get? s.heap.objs.size = some (listOf ([] : List Value).toArray 0) := hsb₁.extBut _ _ (by rw [hC]; exact Nat.ne_of_lt (Nat.lt_succ_self _)) (Heap.get?_push_of_some _ (hH2 ▸ Heap.get?_push_size _ rfl))
  have hst₁ : St 0 h₁ := W.frame _ _ _ h0 fun b _ o e => old b o e
  have fresh₀ : ∀ a, s.heap.objs.size ≤ a → h₀.get? a = none := fun a ha => by
    cases e : h₀.get? a with
    | none => rfl
    | some o' => exact absurd (Heap.lt_size (F.keep a o' e)) (Nat.not_lt.mpr ha)
  have hLlt : L < s.heap.objs.size := F.ns.lt
  obtain ⟨oC, heC, hoC⟩ := ns_obj hns₁
  have lt : ∀ p ∈ (I, oi) :: D, p.1 < s.heap.objs.size := fun p hp => Heap.lt_size (N p hp).1
  have N₁ : News h₀ L h₁ ((H2.objs.size, oC) :: (s.heap.objs.size, listOf ([] : List Value).toArray 0) :: (I, oi) :: D) := fun p hp => by
    rcases List.mem_cons.mp hp with rfl | hp
    · exact ⟨heC, Ne.symm (below L hLlt), fresh₀ _ (by rw [hC]; exact Nat.le_succ _)⟩
    · rcases List.mem_cons.mp hp with rfl | hp
      · exact ⟨hacc, Ne.symm (Nat.ne_of_lt hLlt), fresh₀ _ (Nat.le_refl _)⟩
      · exact ⟨old _ _ (N p hp).1, (N p hp).2⟩
  have loop : ∀ s₃ : Shared, s₃ = { s with heap := h₁, toks := s.toks + ([] : List (Str × Value)).length } →
      codeAny (model PG w) A (.compLoop (.ListComp elt (⟨g.1, g.2.1, g.2.2, 0⟩ :: gs) scope pos) 0 (.ref I) (.ref s.heap.objs.size) (compEnvC scope cl H2.objs.size env))
        (RR (.ref s.heap.objs.size) H2.objs.size) s₃ := by
    rintro s₃ rfl
    exact h _ _ oC h₁ _ hst₁ (F.keeps old) N₁ hoC lt (by rw [hC]; exact Nat.lt_succ_self _)
  exact codeAny_compStart_list (loop _ rfl) (W.self 0 _ _ _ hst₁ (loop _ rfl))

theorem comp_fin {Q : Value → Shared → Prop} {acc : Value} {C : Addr} {oC : Obj} {mC : Str → Option Value} {f : Flow} (F : Fr h₀ L s.heap m) (N : News h₀ L s.heap ((C, oC) :: D)) (hC : NsObj oC mC) (off : ∀ p ∈ D, p.1 ≠ C)
    (k : ∀ h', Fr h₀ L h' m → News h₀ L h' D → Q acc { s with heap := h' }) : compPost (model PG w) A E none Q acc C (.ok f) s := by
  have hc := N (C, oC) (.head _)
  exact ⟨mC, hC.ns hc.1, fun h' hs => k h' (F.change hs hc.2.1 hc.2.2) fun p hp => ⟨hs.extBut _ _ (off p hp) (N p (.tail _ hp)).1, (N p (.tail _ hp)).2⟩⟩

theorem comp_fin_use {Q : Value → Shared → Prop} {acc : Value} {C : Addr} {oC : Obj} {mC : Str → Option Value} {f : Flow} {y : Str} {py : Pos} {env : Env} (F : Fr h₀ L s.heap m) (N : News h₀ L s.heap ((C, oC) :: D)) (hC : NsObj oC mC) (off : ∀ p ∈ D, p.1 ≠ C)
    (hLe : env.locals = L) (hy : env.kindOf y = some .local) (hp : (env.scope.kind == .class || (env.scope.kind == .module && env.locals != env.globals)) = false)
    (k : ∀ h' tk, Fr h₀ L h' (fun z => if z = y then some acc else m z) → News h₀ L h' D → Q .none { s with heap := h', toks := tk }) : compPost (model PG w) A E (some (assign (.Name y py) env)) Q acc C (.ok f) s := by
  have hc := N (C, oC) (.head _)
  subst hLe
  show wpAny _ A (assign (.Name y py) env acc) _ _ _
  refine wpAny_assign_Name (wpAny_storeName_local hy F.ns (fun h₂ hn₂ hs₂ => ?_) hp)
  have F₂ := F.set hn₂ hs₂
  have N₂ := N.set hs₂
  have hc₂ := N₂ (C, oC) (.head _)
  exact ⟨mC, hC.ns hc₂.1, fun h' hs => k h' _ (F₂.change hs hc.2.1 hc.2.2) fun p hp => ⟨hs.extBut _ _ (off p hp) (N₂ p (.tail _ hp)).1, (N₂ p (.tail _ hp)).2⟩⟩

/-- the block's own names -/
theorem comp_name {C : Addr} {oC : Obj} {mC : Str → Option Value} {x : Str} {pos : Pos} {v : Value} {env : Env} {Q : Value → Shared → Prop} (N : News h₀ L s.heap D) (hm : (C, oC) ∈ D) (hC : NsObj oC mC) (hv : mC x = some v) (h : Q v s)
    (hl : env.locals = C) (hk : env.scope.kind = .function) (hx : env.kindOf x = some .local) (hd : (x == ("__debug__" : Str)) = false) : wpAny (model PG w) A (eval (.Name x pos) env) Q E s := by
  subst hl
  exact wpAny_Name (wpAny_loadName_local hk hx (hC.ns (N _ hm).1) hv h) hd
theorem comp_cell {c : Addr} {o : Obj} {x : Str} {pos : Pos} {v : Value} {env : Env} {Q : Value → Shared → Prop} (N : News h₀ L s.heap D) (hc : env.cells.lookup x = some c) (hm : (c, o) ∈ D) (hd : o.data = .cell (some v)) (h : Q v s)
    (hk : env.scope.kind = .function) (hx : env.kindOf x = some .cell) (hb : (x == ("__debug__" : Str)) = false) : wpAny (model PG w) A (eval (.Name x pos) env) Q E s :=
  wpAny_Name (wpAny_loadName_cell hk hx hc ⟨o, N.get hm, hd⟩ h) hb
theorem comp_free {c : Addr} {o : Obj} {x : Str} {pos : Pos} {v : Value} {env : Env} {Q : Value → Shared → Prop} (N : News h₀ L s.heap D) (hc : env.cells.lookup x = some c) (hm : (c, o) ∈ D) (hd : o.data = .cell (some v)) (h : Q v s)
    (hk : env.scope.kind = .function) (hx : env.kindOf x = some .free) (hb : (x == ("__debug__" : Str)) = false) (hn : (x == ("__classdict__" : Str)) = false) : wpAny (model PG w) A (eval (.Name x pos) env) Q E s :=
  wpAny_Name (wpAny_loadName_free hk hx hc ⟨o, N.get hm, hd⟩ h hn) hb
theorem comp_store {C : Addr} {oC : Obj} {mC : Str → Option Value} {x : Str} {px : Pos} {v : Value} {env : Env} {Q : Unit → Shared → Prop} {D₁ D₂ : Led} (F : Fr h₀ L s.heap m) (N : News h₀ L s.heap (D₁ ++ (C, oC) :: D₂)) (o1 : ∀ p ∈ D₁, p.1 ≠ C) (o2 : ∀ p ∈ D₂, p.1 ≠ C) (hC : NsObj oC mC)
    (hl : env.locals = C) (hk : env.scope.kind = .function) (hx : env.kindOf x = some .local)
    (h : ∀ h' oC' tk, Fr h₀ L h' m → News h₀ L h' (D₁ ++ (C, oC') :: D₂) → NsObj oC' (fun z => if z = x then some v else mC z) → Q () { s with heap := h', toks := tk }) : wpAny (model PG w) A (assign (.Name x px) env v) Q E s := by
  subst hl
  have hm := N (env.locals, oC) (List.mem_append_right _ (.head _))
  refine wpAny_assign_Name (wpAny_storeName_local hx (hC.ns hm.1) (fun h₂ hn₂ hs₂ => ?_) (by rw [hk]; rfl))
  obtain ⟨oC', he, hoC'⟩ := ns_obj hn₂
  refine h h₂ oC' _ (F.change hs₂ hm.2.1 hm.2.2) (fun p hp => ?_) hoC'
  rcases List.mem_append.mp hp with hp | hp
  · have := N p (List.mem_append_left _ hp); exact ⟨hs₂.extBut _ _ (o1 p hp) this.1, this.2⟩
  · rcases List.mem_cons.mp hp with rfl | hp
    · exact ⟨he, hm.2⟩
    · have := N p (List.mem_append_right _ (.tail _ hp)); exact ⟨hs₂.extBut _ _ (o2 p hp) this.1, this.2⟩
end
end Mine

namespace Mine
open PySem PySem.W PyProof.Rows
set_option Elab.async false
set_option maxRecDepth 100000
set_option maxHeartbeats 8000000
noncomputable abbrev dN (ns : List Nat) : List Dat := ns.map fun (n : Nat) => Dat.int (n : Int)
noncomputable abbrev dNL (nss : List (List Nat)) : List Dat := nss.map fun (ns : List Nat) => Dat.list (dN ns)
theorem getD_mem {α : Type} {l : List α} {i : Nat} {d : α} (h : i < l.length) : l.getD i d ∈ l := by
  rw [List.getD_eq_getElem?_getD, List.getElem?_eq_getElem h]; exact List.getElem_mem h

noncomputable def stepN (ways : List (List Nat)) (p s : Nat) : Nat := if s = 0 then p else (ways.getD p []).getD (s - 1) 0
noncomputable def endN (ways : List (List Nat)) : Nat → List Nat → Option Nat
  | p, [] => some p
  | p, s :: r => if (ways.getD p []).length < s then none else endN ways (stepN ways p s) r
noncomputable def optI : Option Nat → Int
  | some p => p
  | none => -1
/-- the ways lead to places -/
structure Ways (ways : List (List Nat)) : Prop where
  few : ways.length ≤ 6
  short : ∀ r ∈ ways, r.length ≤ 6
  inn : ∀ r ∈ ways, ∀ q ∈ r, q < ways.length
theorem Ways.row {ways : List (List Nat)} (_ : Ways ways) {p : Nat} (hp : p < ways.length) : ways.getD p [] ∈ ways := getD_mem hp
theorem Ways.step {ways : List (List Nat)} (W : Ways ways) {p s : Nat} (hp : p < ways.length) (hs : s ≤ (ways.getD p []).length) : stepN ways p s < ways.length := by
  unfold stepN
  split
  · exact hp
  · exact W.inn _ (W.row hp) _ (getD_mem (by exact o27 (by assumption) hs))


noncomputable def upd (m : Str → Option Value) (x : Str) (v : Option Value) : Str → Option Value := fun z => if z = x then v else m z
/-- names set aside from a map -/
noncomputable def upds (m : Str → Option Value) : List (Str × Option Value) → Str → Option Value
  | [] => m
  | (x, v) :: r => upd (upds m r) x v
noncomputable abbrev emp : Str → Option Value := fun _ => none
theorem upds_at (m : Str → Option Value) (us : List (Str × Option Value)) (z : Str) : upds m us z = (us.lookup z).getD (m z) := by
  induction us with
  | nil => rfl
  | cons p r ih =>
    obtain ⟨x, v⟩ := p
    show (if z = x then v else upds m r z) = _
    rw [List.lookup_cons]
    by_cases e : z = x
    · rw [if_pos e, beq_iff_eq.mpr e]; rfl
    · rw [if_neg e, beq_false_of_ne e]; exact ih
theorem lookup_off {us : List (Str × Option Value)} {z : Str} (hz : z ∉ us.map (·.1)) : us.lookup z = none := by
  induction us with
  | nil => rfl
  | cons p r ih =>
    obtain ⟨x, v⟩ := p
    simp only [List.map_cons, List.mem_cons, not_or] at hz
    rw [List.lookup_cons, beq_false_of_ne hz.1]
    exact ih hz.2
noncomputable def AgreeOn (us vs : List (Str × Option Value)) : List (Str × Option Value) → Prop
  | [] => True
  | p :: r => (us.lookup p.1).join = (vs.lookup p.1).join ∧ AgreeOn us vs r
theorem AgreeOn.at {us vs : List (Str × Option Value)} : ∀ {l : List (Str × Option Value)}, AgreeOn us vs l → ∀ z ∈ l.map (·.1), (us.lookup z).join = (vs.lookup z).join
  | [], _, _, h => by simp at h
  | p :: r, ⟨h1, h2⟩, z, h => by
    rcases List.mem_cons.mp h with rfl | h
    · exact h1
    · exact AgreeOn.at h2 z h
theorem upds_eq {us vs : List (Str × Option Value)} (h1 : AgreeOn us vs us) (h2 : AgreeOn us vs vs) : upds emp us = upds emp vs := by
  funext z
  have j : ∀ x : Option (Option Value), x.getD none = x.join := fun x => by cases x <;> rfl
  rw [upds_at, upds_at, j, j]
  by_cases h : z ∈ us.map (·.1)
  · rw [h1.at z h]
  · by_cases h' : z ∈ vs.map (·.1)
    · rw [h2.at z h']
    · rw [lookup_off h, lookup_off h']
theorem lookup_upds (l : List (Str × Value)) : (fun y => l.lookup y) = upds emp (l.map fun p => (p.1, some p.2)) := by
  funext z
  rw [upds_at]
  induction l with
  | nil => rfl
  | cons p r ih =>
    obtain ⟨x, v⟩ := p
    simp only [List.map_cons, List.lookup_cons]
    by_cases e : z = x
    · rw [beq_iff_eq.mpr e]; rfl
    · rw [beq_false_of_ne e]; exact ih

section
variable {w : World} {A : Around} {E : Value → Shared → Prop} {s : Shared} {L : Addr} {h₀ : Heap} {m : Str → Option Value} {news : List (Addr × Obj)}
theorem enterU {R : Result → Shared → Prop} {name qual : Str} {params : Arguments} {body : List Stmt} {scope : Scope} {dV kV doc pm cdv ct oc : Value} {an od : Option Addr} {osl : Array (Option Value)} {f : Addr} {args : Args} {binds : List (Str × Value)} {ents : List (Str × Option Value)}
    (C : Cx w A h₀ L) (F : Fr h₀ L s.heap m) (N : News h₀ L s.heap news)
    (ho : (heapK w.params).lookup f = some ⟨oc, od, .func (fnOf name qual params body scope dV kV doc pm an cdv ct), osl⟩) (hcd : codeIn (heapK w.params) cdv qual = true) (hroom : A.depth < recursionLimit)
    (hbind : BindsTo s (fnOf name qual params body scope dV kV doc pm an cdv ct) args binds) (hents : (binds.reverse.map fun p => (p.1, some p.2)) = ents) (hloc : ∀ y ∈ binds, scope.names.lookup y.1 = some .local)
    (h : ∀ g L' h₁ hm mg mb tk, Fr h₀ L g m → Fr g L' h₁ (upds emp ents) → News g L' h₁ news → Cx w (A.deeper (envOf qual scope L' f cdv)) g L' → (heapK w.params).In g → TopAt hm mg mb g →
      wpAny (model Challenge.rw_dm0132_06.row.prog w) (A.deeper (envOf qual scope L' f cdv)) (execs body (envOf qual scope L' f cdv))
        (fun fl s' => LeaveK h₀ L m g R (match fl with | .ret v => v | _ => .none) s')
        (fun e s' => wpAny (model Challenge.rw_dm0132_06.row.prog w) (A.deeper (envOf qual scope L' f cdv)) (leaving (envOf qual scope L' f cdv) e) (fun _ s'' => R (.error e) s'') (fun e' s'' => R (.error e') s'') s')
        { s with heap := h₁, toks := tk })
    (hco : scope.isCoroutine = false) (hgen : scope.isGenerator = false) (hk : scope.kind = .function)
    (hcell : ∀ x ∈ scope.names, x.2 ≠ .cell) : codeAny (model Challenge.rw_dm0132_06.row.prog w) A (.call (.ref f) args) R s := by
  refine enter C F N ho hcd hroom hbind hloc (fun g L' h₁ hm mg mb FG F' N' C' X' T' => ?_) hco hgen hk hcell
  rw [lookup_upds, hents] at F'
  exact h g L' h₁ hm mg mb _ FG F' N' C' X' T'
end

section
variable {w : World} {A : Around} {E : Value → Shared → Prop} {s : Shared} {L : Addr} {h₀ : Heap} {m : Str → Option Value} {D X : Led} {R : Result → Shared → Prop}
theorem len_n {a : Addr} {ns : List Nat} {Q : Value → Shared → Prop} (N : News h₀ L s.heap D) (hl : LD X a (dN ns)) (hs : ∀ p ∈ X, p ∈ D) (hz : ns.length ≤ 1000000)
    (h : Q (.int (ns.length : Int) (s.toks + 1)) { s with toks := s.toks + 1 + 1 }) : wpAny (model PG w) A (call (.builtin "len") [.ref a]) Q E s :=
  len_ld N hl hs (by simp; exact o4 hz) (by simpa using h)
theorem item_n {a : Addr} {ns : List Nat} {k : Int} {u : Tok} {value slice : PySem.Expr} {Q : Value → Shared → Prop} (N : News h₀ L s.heap D) (hl : LD X a (dN ns)) (hs : ∀ p ∈ X, p ∈ D) (j : Nat) (hk : k = (j : Int)) (h1 : j < ns.length) (hz : ns.length ≤ 1000000)
    (h : ∀ t, Q (.int (ns.getD j 0 : Nat) t) s)
    (hsl : subscripted slice false (.ref a) (.int k u) = operate [.ref a, .int k u] (getItem (.ref a) (.int k u)) := by with_unfolding_all rfl) :
    wpAny (model PG w) A (subscriptTail value slice (.ref a) (.int k u)) Q E s := by
  subst hk
  refine item_int (ns := ns.map Int.ofNat) N (by unfold dI; rw [List.map_map]; exact hl) hs (by exact o28) (by simp; assumption) (by omega) (fun t => ?_) hsl
  have e : (ns.map Int.ofNat).getD (j : Int).toNat 0 = ((ns.getD j 0 : Nat) : Int) := by simp [List.getD_eq_getElem?_getD, h1]
  rw [e]; exact h t
theorem item_nl {a : Addr} {nss : List (List Nat)} {k : Int} {u : Tok} {value slice : PySem.Expr} {Q : Value → Shared → Prop} (N : News h₀ L s.heap D) (hl : LD X a (dNL nss)) (hs : ∀ p ∈ X, p ∈ D) (j : Nat) (hk : k = (j : Int)) (h1 : j < nss.length) (hz : nss.length ≤ 1000000)
    (h : ∀ b, LD X b (dN (nss.getD j [])) → Q (.ref b) s)
    (hsl : subscripted slice false (.ref a) (.int k u) = operate [.ref a, .int k u] (getItem (.ref a) (.int k u)) := by with_unfolding_all rfl) :
    wpAny (model PG w) A (subscriptTail value slice (.ref a) (.int k u)) Q E s := by
  subst hk
  refine item_list (dss := nss.map dN) N (by rw [List.map_map]; exact hl) hs (by exact o28) (by simp; assumption) (by omega) (fun b hb => h b ?_) hsl
  have e : (nss.map dN).getD (j : Int).toNat [] = dN (nss.getD j []) := by simp [List.getD_eq_getElem?_getD, h1]
  rw [← e]; exact hb

local macro_rules | `(tactic| walk_at "exec For Name Name cons nil") => `(tactic| (k_here; refine wpAny_For ?_))
theorem sub_tail {X D : Led} {q : Addr × Obj} (h : ∀ p ∈ X, p ∈ D) : ∀ p ∈ X, p ∈ q :: D := fun p hp => .tail _ (h p hp)
local macro_rules | `(tactic| walk_at "sub") => `(tactic| (repeat (first | assumption | exact (fun _ h => h) | refine sub_tail ?_)))
local macro_rules | `(tactic| walk_at "num") => `(tactic| first | assumption | omega | (simp only [List.length_map]; omega))
local macro_rules | `(tactic| walk_at "subscriptTail Name Name ref int") => `(tactic| (k_here; refine item_nl (by k_asm) (by assumption) (by walk_at "sub") _ rfl (by walk_at "num") (by walk_at "num") ?_; intro _ _))
local macro_rules | `(tactic| walk_at "call builtin:len") => `(tactic| (k_here; refine len_n (by k_asm) (by assumption) (by walk_at "sub") (by walk_at "num") ?_))
local macro_rules | `(tactic| walk_at "maps") => `(tactic| ((show upds emp ((_, _) :: (_, _) :: _) = upds emp _); refine upds_eq ?_ ?_ <;> (repeat' (first | exact trivial | refine And.intro rfl ?_))))
local macro_rules | `(tactic| walk_at "pyIter ref") => `(tactic| (k_here; refine stop_intro ?_))

theorem end_spec {ways : List (List Nat)} {word : List Nat} {p : Nat} {aw ax : Addr} {t : Tok} (C : Cx w A h₀ L) (F : Fr h₀ L s.heap m) (N : News h₀ L s.heap D) (hw : LD X aw (dNL ways)) (hx : LD X ax (dN word)) (hs : ∀ p ∈ X, p ∈ D) (W : Ways ways) (hp : p < ways.length)
    (hroom : A.depth + 5 < recursionLimit)
    (k : ∀ h' tk t', Fr h₀ L h' m → News h₀ L h' D → R (.ok (.ret (.int (optI (endN ways p word)) t'))) { s with heap := h', toks := tk }) :
    codeAny (model PG w) A (.call (.ref 153) ⟨[.ref aw, .int p t, .ref ax], []⟩) R s := by
  have X₀ := C.X; have hPG : PG = Challenge.rw_dm0132_06.row.prog := rfl; revert hPG X₀; k_fill; intro X₀ hPG; clear hPG
  refine' enterU (ents := [(Str.ofString "word", some (.ref ax)), (Str.ofString "place", some (.int (p : Nat) t)), (Str.ofString "ways", some (.ref aw))]) C F N ?k6 ?k7 ?kr ?k9 ?ke ?kB ?_ ?c2 ?c3 ?c4 ?c5
  case k6 => k_is
  case k7 => k_is
  case kr => exact o29 hroom
  case k9 => exact BindsTo.of_eq rfl
  case ke => exact rfl
  case c5 => decide
  case kB => exact locs rfl
  case c2 => exact rfl
  case c3 => exact rfl
  case c4 => exact rfl
  intro g' L' h' hm mg mb tk0 FG' F' N' C' X' T'
  try k_fold
  clear F X₀ C N
  k_steps
  unfold Stopped
  refine for_ldN C'.hh F' N' hx hs (fun i m' D' => A2 (D' = D) (∃ q u t', q < ways.length ∧ endN ways p word = endN ways q (word.drop i) ∧ m' = upds emp [(Str.ofString "place", some (.int (q : Nat) t')), (Str.ofString "sign", u), (Str.ofString "word", some (.ref ax)), (Str.ofString "ways", some (.ref aw))])) (fun i m D hJ p hp => hJ.1 ▸ hs p hp) ⟨rfl, p, none, t, hp, rfl, ?_⟩ ?_ ?_
  · walk_at "maps"
  · rintro I oi lt0 i v m D _ tk hi hv Rn1 nx1 rt1 ⟨rfl, q, u, t', hq, he, rfl⟩ F N off
    rw [List.getElem_map] at hv
    obtain ⟨t1, rfl⟩ := dat_int hv
    have hz := W.short _ (W.row hq)
    have hz2 := W.few
    have hi' : i < word.length := by simpa using hi
    have hd : word.drop i = word[i] :: word.drop (i + 1) := List.drop_eq_getElem_cons hi'
    rw [hd, endN] at he
    try k_unmd
    k_fold
    k_steps
    all_goals (try dsimp only)
    · rename_i hlt _
      rw [if_pos (by exact o30 (by assumption))] at he
      rw [he] at k
      refine rt1 _ _ ?_
      exact leaveK_ (by k_asm) (by k_asm) fun kF kN => k _ _ _ kF fun p hp => kN p (.tail _ hp)
    · rename_i h1 hb hlt h2
      refine item_n (by k_asm) (by assumption) (by walk_at "sub") (word[i] - 1) (by exact o31 hb) (by exact o32 hb (by assumption)) (by exact o33 hz) fun t2 => ?_
      k_steps
      try dsimp only
      rw [if_neg (by exact o34 (by assumption))] at he
      have hst := W.step hq (s := word[i]) (by exact o35 (by assumption))
      have hse : stepN ways q word[i] = (ways.getD q []).getD (word[i] - 1) 0 := if_neg (by exact o36 hb)
      rw [hse] at he hst
      exact nx1 _ _ _ _ (by k_asm) (by k_asm) off ⟨rfl, _, _, _, hst, he, by walk_at "maps"⟩
    · rename_i h1 h2
      rw [if_neg (by exact o37 h2), stepN, if_pos (by exact o38 h2)] at he
      exact nx1 _ _ _ _ (by k_asm) (by k_asm) off ⟨rfl, _, _, _, hq, he, by walk_at "maps"⟩
  · rintro m D h tk ⟨rfl, q, u, t', hq, he, rfl⟩ F N
    rw [List.drop_of_length_le (by simp), endN] at he
    rw [he] at k
    dsimp only
    k_steps
    exact leaveK_ (by k_asm) (by k_asm) fun kF kN => k _ _ _ kF kN
end
end Mine

namespace Mine
open PySem PySem.W PyProof.Rows
set_option Elab.async false
set_option maxRecDepth 100000
set_option maxHeartbeats 8000000
open LCg (NsObj ns_obj lst)
noncomputable def Above (D Z : Led) : Prop := ∀ q ∈ Z, ∀ p ∈ D, p.1 < q.1

noncomputable def Off3 (I C acc : Addr) (D : Led) : Prop := ∀ p ∈ D, p.1 ≠ I ∧ p.1 ≠ C ∧ p.1 ≠ acc
noncomputable def CompNext (h₀ : Heap) (L : Addr) (m : Str → Option Value) (I : Addr) (oi : Obj) (C acc : Addr) (K : (Str → Option Value) → List Value → Led → Prop) (s s₃ : Shared) : Prop :=
  X7 fun h tk oC mC ys n D => A6 (s₃ = { s with heap := h, toks := tk }) (Fr h₀ L h m) (News h₀ L h ((I, oi) :: (C, oC) :: (acc, listOf ys.toArray n) :: D)) (NsObj oC mC) (Off3 I C acc D) (K mC ys D)

section
variable {w : World} {A : Around} {E : Value → Shared → Prop} {s : Shared} {L : Addr} {h₀ : Heap} {m : Str → Option Value} {D X : Led}

theorem comp_loop {R : Result → Shared → Prop} {e : PySem.Expr} {k : Nat} {I C acc : Addr} {oC : Obj} {mC : Str → Option Value} {ys : List Value} {n' : Nat} {src : Led} {n : Nat} {P : Nat → Value → Prop} {St : Nat → Heap → Prop} {x : Str} {px : Pos} {ifs : List PySem.Expr} {inner : Sem Unit} {p : Pos} {cenv : Env}
    (heq : compTurn e k (.ref I) (.ref acc) cenv = (do
      standAt p
      match ← pyNext (.ref I) with
      | none => pure (.done .next)
      | some v =>
        letOwnedTupleGo (.Name x px) (.ref I) v
        assign (.Name x px) cenv v
        let mut ok := true
        for c in ifs do
          if ok then ok ← isTrue c cenv (eval c cenv)
        if ok then inner
        again (.compLoop e k (.ref I) (.ref acc) cenv)))
    (hq : (Code.compLoop e k (.ref I) (.ref acc) cenv).quiet = true) (hfr : (Code.compLoop e k (.ref I) (.ref acc) cenv).isFrame = false) (hund : A.under (Code.compLoop e k (.ref I) (.ref acc) cenv) = A)
    (W : Walks PG w A I (I :: src.map (·.1)) [I] n P St) (hI : ∀ i h, St i h → ∃ o, h.get? I = some o)
    (K : Nat → (Str → Option Value) → List Value → Led → Prop) (hsrc : ∀ i mC ys D, K i mC ys D → ∀ p ∈ src, p ∈ D)
    (F : Fr h₀ L s.heap m) (N : News h₀ L s.heap ((C, oC) :: (acc, listOf ys.toArray n') :: D)) (hIn : h₀.get? I = none) (hIL : I ≠ L) (hC : NsObj oC mC) (off : Off3 I C acc D) (hIa : I ≠ acc) (hIC : I ≠ C) (haC : acc ≠ C) (h0 : St 0 s.heap) (hK : K 0 mC ys D)
    (turn : ∀ i v oi oC mC ys n' D h tk, i < n → P i v → K i mC ys D → Fr h₀ L h m → News h₀ L h ((I, oi) :: (C, oC) :: (acc, listOf ys.toArray n') :: D) → NsObj oC (fun z => if z = x then some v else mC z) → Off3 I C acc D →
      wpAny (model PG w) A (tests ifs cenv) (fun ok s₃ => if ok = true then wpAny (model PG w) A inner (fun _ s₄ => CompNext h₀ L m I oi C acc (K (i + 1)) s s₄) (NB w A cenv R) s₃
        else CompNext h₀ L m I oi C acc (K (i + 1)) s s₃) (NB w A cenv R) { s with heap := h, toks := tk })
    (done : ∀ oC mC ys n' D h tk, K n mC ys D → Fr h₀ L h m → News h₀ L h ((C, oC) :: (acc, listOf ys.toArray n') :: D) → NsObj oC mC → Off3 I C acc D → R (.ok .next) { s with heap := h, toks := tk })
    (hl : cenv.locals = C) (hk : cenv.scope.kind = .function) (hx : cenv.kindOf x = some .local) : codeAny (model PG w) A (.compLoop e k (.ref I) (.ref acc) cenv) R s := by
  refine comp_gen heq hq hfr hund W hI (fun i D => X5 fun oC mC ys n' D' => A4 (D = (C, oC) :: (acc, listOf ys.toArray n') :: D') (NsObj oC mC) (Off3 I C acc D') (K i mC ys D')) ?_ F N hIn hIL ?_ h0 ⟨oC, mC, ys, n', D, rfl, hC, off, hK⟩ ?_ ?_ (fun v => rfl)
  · rintro i _ ⟨oC, mC, ys, n', D', rfl, _, _, hK⟩ p hp
    exact .tail _ (.tail _ (hsrc _ _ _ _ hK p hp))
  · intro p hp
    rcases List.mem_cons.mp hp with rfl | hp
    · exact Ne.symm hIC
    · rcases List.mem_cons.mp hp with rfl | hp
      · exact Ne.symm hIa
      · exact (off p hp).1
  · rintro i v _ oi h tk hi hP ⟨oC, mC, ys, n', D', rfl, hC, off, hK⟩ F N off'
    refine comp_store (D₁ := [(I, oi)]) F N (fun p hp => by rw [List.mem_singleton.mp hp]; exact hIC) (fun p hp => ?_) hC hl hk hx fun h' oC' tk' F' N' hC' => ?_
    · rcases List.mem_cons.mp hp with rfl | hp
      · exact haC
      · exact (off p hp).2.1
    refine wpAny_mono (turn i v oi oC' mC ys n' D' h' tk' hi hP hK F' N' hC' off) (fun ok s₃ h₃ => ?_) fun _ _ e => e
    have go : ∀ s₄, CompNext h₀ L m I oi C acc (K (i + 1)) s s₄ → NextC h₀ L m I oi (fun D => X5 fun oC mC ys n' D' => A4 (D = (C, oC) :: (acc, listOf ys.toArray n') :: D') (NsObj oC mC) (Off3 I C acc D') (K (i + 1) mC ys D')) s s₄ := by
      rintro s₄ ⟨h4, tk4, oC4, mC4, ys4, n4, D4, e4, F4, N4, hC4, off4, K4⟩
      refine ⟨h4, tk4, _, e4, F4, N4, fun p hp => ?_, oC4, mC4, ys4, n4, D4, rfl, hC4, off4, K4⟩
      rcases List.mem_cons.mp hp with rfl | hp
      · exact Ne.symm hIC
      · rcases List.mem_cons.mp hp with rfl | hp
        · exact Ne.symm hIa
        · exact (off4 p hp).1
    cases ok with
    | false => exact go _ h₃
    | true => exact wpAny_mono h₃ (fun _ s₄ h₄ => go _ h₄) fun _ _ e => e
  · rintro _ h tk ⟨oC, mC, ys, n', D', rfl, hC, off, hK⟩ F N
    exact done oC mC ys n' D' h tk hK F N hC off

/-- an element's end -/
noncomputable def EltEnd (h₀ : Heap) (L : Addr) (m : Str → Option Value) (I : Addr) (oi : Obj) (C : Addr) (oC : Obj) (acc : Addr) (ys : List Value) (n : Nat) (D : Led) (K : List Value → Led → Prop) (s : Shared) (y : Value) (s₁ : Shared) : Prop :=
  X4 fun h tk Z Dn => A7 (s₁ = { s with heap := h, toks := tk }) (Fr h₀ L h m) (News h₀ L h (Z ++ (I, oi) :: (C, oC) :: (acc, listOf ys.toArray n) :: D)) (Off3 I C acc Z) (ys.length ≤ sizeLine) ((∀ p ∈ Dn, p ∈ Z ++ D)) (K (ys ++ [y]) Dn)
theorem EltEnd.mk {I C acc : Addr} {oi oC : Obj} {ys : List Value} {n : Nat} {K : List Value → Led → Prop} {y : Value} {h : Heap} {tk : Nat} (Z : Led) (F : Fr h₀ L h m) (N : News h₀ L h (Z ++ (I, oi) :: (C, oC) :: (acc, listOf ys.toArray n) :: D)) (off : Off3 I C acc Z) (hz : ys.length ≤ sizeLine) (hK : K (ys ++ [y]) (Z ++ D)) :
    EltEnd h₀ L m I oi C oC acc ys n D K s y { s with heap := h, toks := tk } := ⟨h, tk, Z, Z ++ D, rfl, F, N, off, hz, fun _ h => h, hK⟩
theorem EltEnd.mk2 {I C acc : Addr} {oi oC : Obj} {ys : List Value} {n : Nat} {K : List Value → Led → Prop} {y : Value} {h : Heap} {tk : Nat} {q : Addr × Obj} (Z : Led) (F : Fr h₀ L h m) (N : News h₀ L h (Z ++ (I, oi) :: (C, oC) :: (acc, listOf ys.toArray n) :: q :: D)) (off : Off3 I C acc Z) (hz : ys.length ≤ sizeLine) (hK : K (ys ++ [y]) (q :: (Z ++ D))) :
    EltEnd h₀ L m I oi C oC acc ys n (q :: D) K s y { s with heap := h, toks := tk } := ⟨h, tk, Z, q :: (Z ++ D), rfl, F, N, off, hz, fun p hp => by
      simp only [List.mem_cons, List.mem_append] at hp ⊢; rcases hp with h | h | h <;> simp [h], hK⟩

theorem emit_next {elt : PySem.Expr} {I C acc : Addr} {oi oC : Obj} {mC : Str → Option Value} {ys : List Value} {n : Nat} {K : (Str → Option Value) → List Value → Led → Prop} {cenv : Env} {s₀ : Shared} (hC : NsObj oC mC) (off : Off3 I C acc D) (hIa : I ≠ acc) (haC : acc ≠ C)
    (h : wpAny (model PG w) A (eval elt cenv) (EltEnd h₀ L m I oi C oC acc ys n D (fun ys D => K mC ys D) s₀) E s) :
    wpAny (model PG w) A (emit elt (.ref acc) cenv) (fun _ s₄ => CompNext h₀ L m I oi C acc K s₀ s₄) E s := by
  refine emit_at (h₀ := h₀) (L := L) (ys := ys) (n' := n) (wpAny_mono h (fun y s₁ h₁ => ?_) fun _ _ e => e)
  obtain ⟨h, tk, Z, Dn, rfl, F, N, offZ, hz, hDn, hK⟩ := h₁
  refine ⟨Z ++ [(I, oi), (C, oC)], D, m, F, by simpa using N, fun p hp => ?_, fun p hp => (off p hp).2.2, hz, fun h' F' N' => ?_⟩
  · rcases List.mem_append.mp hp with hp | hp
    · exact (offZ p hp).2.2
    · rcases List.mem_cons.mp hp with rfl | hp
      · exact hIa
      · rw [List.mem_singleton.mp hp]; exact Ne.symm haC
  · refine ⟨h', tk, oC, mC, ys ++ [y], n + 1, Dn, rfl, F', fun p hp => N' p ?_, hC, fun p hp => ?_, hK⟩
    · simp only [List.mem_append, List.mem_cons, List.not_mem_nil, or_false] at hp ⊢
      rcases hp with h | h | h | h
      · exact .inl (.inr (.inl h))
      · exact .inl (.inr (.inr h))
      · exact .inr (.inl h)
      · rcases List.mem_append.mp (hDn p h) with h | h
        · exact .inl (.inl h)
        · exact .inr (.inr h)
    · rcases List.mem_append.mp (hDn p hp) with hp | hp
      · exact offZ p hp
      · exact off p hp

theorem assign_comp {elt : PySem.Expr} {g : Comprehension} {gs : List Comprehension} {scope : Scope} {cl : List (Str × Addr)} {pos py spos : Pos} {y : Str} {env : Env} {Q : Flow → Shared → Prop}
    (hsw : swapsWith (.ListComp elt (g :: gs) scope pos) (some (.Name y py)) spos.line env = pure true) (hs : ∀ x, foldedSetIterable g.iter env x = pure x) (hclos : closureFor scope env = pure cl) (hkind : scope.kind = .function)
    (hnames : ∀ x ∈ scope.names, x.2 = .local → scope.names.lookup x.1 = some .local) (ha : firstAsync (g :: gs) = false)
    (h : ∀ Qn : Value → Shared → Prop, (∀ v s', Q .next s' → Qn v s') → wpAny (model PG w) A (eval g.iter env) (fun x s₁ => wpAny (model PG w) A (pyIter x) (fun it s₂ => wpAny (model PG w) A (newList []) (fun acc s₃ => wpAny (model PG w) A (newFunctionEnv scope env.globals cl [] env.qual none .none (some env)) (fun cenv s₄ =>
        codeAny (model PG w) A (.compStart (.ListComp elt (g :: gs) scope pos) 0 it acc { cenv with scope := relabel scope env }) (compPost (model PG w) A E (some (assign (.Name y py) env)) Qn acc cenv.locals) s₄) E s₃) E s₂) E s₁) E s) :
    wpAny (model PG w) A (exec (.Assign [.Name y py] (.ListComp elt (g :: gs) scope pos) spos) env) Q E s := by
  rw [exec_Assign_Name_used _ _ _ _ hsw]
  refine wpAny_bind (wpAny_standAt (wpAny_bind ?_))
  show wpAny _ A (do let _ ← comprehension (.ListComp elt (g :: gs) scope pos) scope env _ (newList []) (firstAsync (g :: gs)) (firstIter (g :: gs) env) (some (assign (.Name y py) env))) _ _ s
  rw [ha]
  refine wpAny_bind (wpAny_mono (wpAny_comprehension_free (use := some (assign (.Name y py) env)) (Q := fun _ s' => Q .next s') rfl hs hclos hkind hnames ?_) (fun _ s' hq => wpAny_pure (wpAny_pure hq)) fun _ _ e => e)
  obtain ⟨t, i, f, as⟩ := g
  exact h _ fun _ _ x => x
theorem eval_comp {elt : PySem.Expr} {g : Comprehension} {gs : List Comprehension} {scope : Scope} {cl : List (Str × Addr)} {pos : Pos} {env : Env} {Q : Value → Shared → Prop}
    (hs : ∀ x, foldedSetIterable g.iter env x = pure x) (hclos : closureFor scope env = pure cl) (hkind : scope.kind = .function)
    (hnames : ∀ x ∈ scope.names, x.2 = .local → scope.names.lookup x.1 = some .local) (ha : firstAsync (g :: gs) = false)
    (h : ∀ Qn : Value → Shared → Prop, (∀ v s', Q v s' → Qn v s') → wpAny (model PG w) A (eval g.iter env) (fun x s₁ => wpAny (model PG w) A (pyIter x) (fun it s₂ => wpAny (model PG w) A (newList []) (fun acc s₃ => wpAny (model PG w) A (newFunctionEnv scope env.globals cl [] env.qual none .none (some env)) (fun cenv s₄ =>
        codeAny (model PG w) A (.compStart (.ListComp elt (g :: gs) scope pos) 0 it acc { cenv with scope := relabel scope env }) (compPost (model PG w) A E none Qn acc cenv.locals) s₄) E s₃) E s₂) E s₁) E s) :
    wpAny (model PG w) A (eval (.ListComp elt (g :: gs) scope pos) env) Q E s := by
  rw [eval_ListComp, ha]
  obtain ⟨t, i, f, as⟩ := g
  exact wpAny_comprehension_free (use := none) rfl hs hclos hkind hnames (h Q fun _ _ x => x)

theorem compStart_at {R : Result → Shared → Prop} {elt : PySem.Expr} {gens : List Comprehension} {scope : Scope} {pos : Pos} {k : Nat} {it acc : Value} {env : Env} (ha : ((clausesOf (.ListComp elt gens scope pos))[k]?).elim false (·.is_async != 0) = false)
    (h0 : codeAny (model PG w) A (.compLoop (.ListComp elt gens scope pos) k it acc env) R s)
    (h : wpAny (model PG w) A (pyIter it) (fun it' s' => codeAny (model PG w) A (.compLoop (.ListComp elt gens scope pos) k it' acc env) R s') (notedBy (model PG w) A env fun x s' => R (.error x) s') s) :
    codeAny (model PG w) A (.compStart (.ListComp elt gens scope pos) k it acc env) R s := by
  refine codeAny_of_tree ?_
  show wpAny _ _ ((compStart (.ListComp elt gens scope pos) k it acc env).onRaise (fun x => do noteFrame x env; standAt theWindowsPlace)) _ _ s
  refine wpAny_notedAt ?_
  unfold compStart
  rw [ha]
  simp only [Bool.false_eq_true, if_false]
  refine wpAny_bind (wpAny_askSetting (wpAny_ite ?_))
  have fin : wpAny (model PG w) A (pyIter it >>= fun it' => again (.compLoop (.ListComp elt gens scope pos) k it' acc env)) (fun fin s' => match fin with | .done f => R (.ok f) s' | .again c' => c'.quiet = true ∧ codeAny (model PG w) A c' R s') (notedBy (model PG w) A env fun x s' => R (.error x) s') s :=
    wpAny_bind (wpAny_mono h (fun it' s' h' => wpAny_pure ⟨rfl, h'⟩) fun _ _ x => x)
  split
  · exact wpAny_pure ⟨rfl, h0⟩
  · refine wpAny_bind (wpAny_rule ?_)
    cases (clausesOf (.ListComp elt gens scope pos))[k]? with
    | none => exact fin
    | some g => exact wpAny_bind (wpAny_standAt fin)

noncomputable def cEnv (scope : Scope) (cl : List (Str × Addr)) (C : Addr) (env : Env) : Env := compEnvC scope cl C env
theorem cname_B {K : Frag} {mg mb : Str → Option Value} {p : Program} {loose : List Str} {x : Str} {pos : Pos} {v : Value} {env : Env} {Q : Value → Shared → Prop} (F : Fr h₀ L s.heap m) (X : K.In h₀) (T : TopRead p loose mg mb h₀)
    (e : nsIn K mainGlobals x = some none) (hv : bootBuiltins x = some v) (hn : x ≠ "__name__") (h : Q v s) (hg : env.globals = mainGlobals) (hb : env.builtins = builtinsNs) (hk : env.scope.kind = .function) (hx : env.kindOf x = some .globalImplicit) (hd : (x == ("__debug__" : Str)) = false) :
    wpAny (model PG w) A (eval (.Name x pos) env) Q E s :=
  Calls.Name_function_global hk hx (Calls.loadGlobal_builtin (env := env) (by rw [hg]; exact T.g.keeps F.keep) (mg_none_of X T.g e) (by rw [hb]; exact T.b.keeps F.keep) ((T.builtins x hn).trans hv) h) hd

/-- a block over a list of data -/
theorem comp_ld {RR : Value → Addr → Result → Shared → Prop} {a : Addr} {ds : List Dat} {elt iter : PySem.Expr} {x : Str} {px : Pos} {ifs : List PySem.Expr} {gs : List Comprehension} {scope : Scope} {cl : List (Str × Addr)} {pos p : Pos} {env : Env} {inner : Addr → Addr → Sem Unit}
    (heq : ∀ I acc C, compTurn (.ListComp elt (⟨.Name x px, iter, ifs, 0⟩ :: gs) scope pos) 0 (.ref I) (.ref acc) (cEnv scope cl C env) = (do
      standAt p
      match ← pyNext (.ref I) with
      | none => pure (.done .next)
      | some v =>
        letOwnedTupleGo (.Name x px) (.ref I) v
        assign (.Name x px) (cEnv scope cl C env) v
        let mut ok := true
        for c in ifs do
          if ok then ok ← isTrue c (cEnv scope cl C env) (eval c (cEnv scope cl C env))
        if ok then inner acc C
        again (.compLoop (.ListComp elt (⟨.Name x px, iter, ifs, 0⟩ :: gs) scope pos) 0 (.ref I) (.ref acc) (cEnv scope cl C env))))
    (hh : A.handled = none) (F : Fr h₀ L s.heap m) (N : News h₀ L s.heap D) (hl : LD X a ds) (hs : ∀ p ∈ X, p ∈ D)
    (K : Nat → (Str → Option Value) → List Value → Led → Prop) (hX : ∀ i mC ys D, K i mC ys D → ∀ p ∈ X, p ∈ D) (hK : K 0 (fun _ => none) [] D)
    (turn : ∀ I oi acc C, (∀ p ∈ D, p.1 < I) → ∀ i v oC mC ys n' D h tk, (hi : i < ds.length) → DatIn X v ds[i] → K i mC ys D → Fr h₀ L h m → News h₀ L h ((I, oi) :: (C, oC) :: (acc, listOf ys.toArray n') :: D) → NsObj oC (fun z => if z = x then some v else mC z) → Off3 I C acc D → I < acc → acc < C →
      wpAny (model PG w) A (tests ifs (cEnv scope cl C env)) (fun ok s₃ => if ok = true then wpAny (model PG w) A (inner acc C) (fun _ s₄ => CompNext h₀ L m I oi C acc (K (i + 1)) s s₄) (NB w A (cEnv scope cl C env) (RR (.ref acc) C)) s₃
        else CompNext h₀ L m I oi C acc (K (i + 1)) s s₃) (NB w A (cEnv scope cl C env) (RR (.ref acc) C)) { s with heap := h, toks := tk })
    (done : ∀ acc C, (∀ p ∈ D, p.1 < acc) → ∀ oC mC ys n' D h tk, K ds.length mC ys D → Fr h₀ L h m → News h₀ L h ((C, oC) :: (acc, listOf ys.toArray n') :: D) → NsObj oC mC → (∀ p ∈ (acc, listOf ys.toArray n') :: D, p.1 ≠ C) → (∀ p ∈ D, p.1 ≠ acc) → RR (.ref acc) C (.ok .next) { s with heap := h, toks := tk })
    (hcell : ∀ y ∈ scope.names, y.2 ≠ .cell) (hkind : scope.kind = .function) (hx : scope.names.lookup x = some .local) :
    wpAny (model PG w) A (pyIter (.ref a)) (fun it s₂ => wpAny (model PG w) A (newList []) (fun acc s₃ => wpAny (model PG w) A (newFunctionEnv scope env.globals cl [] env.qual none .none (some env)) (fun cenv s₄ =>
      codeAny (model PG w) A (.compStart (.ListComp elt (⟨.Name x px, iter, ifs, 0⟩ :: gs) scope pos) 0 it acc { cenv with scope := relabel scope env }) (RR acc cenv.locals) s₄) E s₃) E s₂) E s := by
  obtain ⟨vs, n, hm, hd⟩ := id hl
  have hm' := hs _ hm
  have hls : s.heap.IsList a vs.toArray := ⟨_, (N _ hm').1, rfl, n, rfl⟩
  have hlt : a < s.heap.objs.size := Heap.lt_size (N _ hm').1
  refine wpAny_pyIter_list hls ?_
  have up : ∀ b o, s.heap.get? b = some o → (s.heap.push { cls := .type "list_iterator", data := .fields #[.ref a, .int 0 0] }).get? b = some o := fun b o e => Heap.get?_push_of_some _ e
  have W := Walks.list (prog := PG) (w := w) hh s.heap.objs.size a (Nat.ne_of_lt hlt) vs.toArray
  have hIn := next_is_new F
  have hIL : s.heap.objs.size ≠ L := Ne.symm (Nat.ne_of_lt F.ns.lt)
  have lt : ∀ p ∈ D, p.1 < s.heap.objs.size := fun p hp => Heap.lt_size (N p hp).1
  refine comp_begin (g := (.Name x px, iter, ifs)) (D := D) (oi := { cls := .type "list_iterator", data := .fields #[.ref a, .int 0 0] }) W hcell hkind ⟨⟨_, Heap.get?_push_size _ rfl, rfl, rfl⟩, hls.push _⟩ (F.keeps up) (fun p hp => ?_) fun acc C oC h tk st F' N' hC l1 l2 => ?_
  · rcases List.mem_cons.mp hp with rfl | hp
    · exact ⟨Heap.get?_push_size _ rfl, hIL, hIn⟩
    · exact ⟨up _ _ (N p hp).1, (N p hp).2⟩
  have hIa : s.heap.objs.size < acc := l1 (s.heap.objs.size, _) (.head _)
  show codeAny (model PG w) A (.compLoop _ 0 (.ref s.heap.objs.size) (.ref acc) (cEnv scope cl C env)) _ _
  refine comp_loop (n' := 0) (src := [(a, listOf vs.toArray n)]) (heq _ _ _) rfl rfl rfl W (fun i h st => by obtain ⟨o, e, _⟩ := st.1; exact ⟨o, e⟩) K (fun i mC ys D hK p hp => by rw [List.mem_singleton.mp hp]; exact hX i mC ys D hK _ hm)
    F' (fun p hp => ?_) hIn hIL hC (fun p hp => ?_) (Nat.ne_of_lt hIa) (Nat.ne_of_lt (Nat.lt_trans hIa l2)) (Nat.ne_of_lt l2) st hK ?_ ?_ rfl hkind (lookup_relabel_local hx)
  · rcases List.mem_cons.mp hp with rfl | hp
    · exact N' _ (.head _)
    · rcases List.mem_cons.mp hp with rfl | hp
      · exact N' _ (.tail _ (.head _))
      · exact N' p (.tail _ (.tail _ (.tail _ hp)))
  · have h1 := lt p hp
    have h2 := l1 p (.tail _ hp)
    exact ⟨Nat.ne_of_lt h1, Nat.ne_of_lt (Nat.lt_trans h2 l2), Nat.ne_of_lt h2⟩
  · intro i v oi oC mC ys n' D h tk hi hP hK F N hC off
    have hi' : i < ds.length := by rw [← hd.length]; simpa using hi
    obtain ⟨v', hv', hD⟩ := hd.get hi'
    have : v' = v := by
      have e : vs[i]? = some v := by simpa using hP
      rw [hv'] at e; exact Option.some.inj e
    subst this
    exact turn _ oi acc C lt i v' oC mC ys n' D h tk hi' hD hK F N hC off hIa l2
  · intro oC mC ys n' D h tk hK F N hC off
    have e : vs.toArray.size = ds.length := by rw [List.size_toArray, hd.length]
    rw [e] at hK
    refine done acc C (fun p hp => l1 p (.tail _ hp)) oC mC ys n' D h tk hK F N hC (fun p hp => ?_) fun p hp => (off p hp).2.2
    rcases List.mem_cons.mp hp with rfl | hp
    · exact Nat.ne_of_lt l2
    · exact (off p hp).2.1

/-- the inner clause of a block with two -/
noncomputable abbrev nestI (e : PySem.Expr) (g' : Comprehension) (acc : Value) (cenv : Env) : Sem Unit := do
  let x ← eval g'.iter cenv
  standAt g'.iter.pos
  let x ← foldedSetIterable g'.iter cenv x
  let _ ← runOwn (.compStart e 1 (← holding [x] (pyIter x)) acc cenv) cenv
theorem nest_at {e : PySem.Expr} {g' : Comprehension} {acc : Value} {cenv : Env} {Q : Unit → Shared → Prop} (hs : ∀ x, foldedSetIterable g'.iter cenv x = pure x)
    (h : wpAny (model PG w) A (eval g'.iter cenv) (fun x s₁ => wpAny (model PG w) A (pyIter x) (fun it s₂ => codeAny (model PG w) A (.compStart e 1 it acc cenv) (fun r s' => match r with | .ok _ => Q () s' | .error x => cameBackBy (model PG w) A cenv E x s') s₂) E s₁) E s) :
    wpAny (model PG w) A (nestI e g' acc cenv) Q E s := by
  refine wpAny_bind (wpAny_mono h (fun x s₁ h₁ => wpAny_bind (wpAny_standAt (wpAny_bind (wpAny_of_eq (hs x) (wpAny_bind (wpAny_holding (wpAny_mono h₁ (fun it s₂ h₂ => wpAny_bind (wpAny_runOwn (Q := fun _ s' => wpAny (model PG w) A (pure ()) Q E s') (codeAny_mono h₂ fun r s' hr => ?_))) fun _ _ e => e))))))) fun _ _ e => e)
  cases r with
  | ok f => exact wpAny_pure hr
  | error x => exact hr

/-- the inner loop, over a range -/
theorem inner_range {R : Result → Shared → Prop} {elt : PySem.Expr} {g : Comprehension} {iter : PySem.Expr} {x : Str} {px : Pos} {scope : Scope} {pos : Pos} {cenv : Env} {r I₀ C acc : Addr} {oi₀ oC : Obj} {mC : Str → Option Value} {ys : List Value} {n' : Nat} {a b : Int} {t u v : Tok} {n : Nat}
    (hh : A.handled = none) (F : Fr h₀ L s.heap m) (N : News h₀ L s.heap ((I₀, oi₀) :: (C, oC) :: (acc, listOf ys.toArray n') :: D)) (hC : NsObj oC mC) (off : Off3 I₀ C acc D) (hIa : I₀ < acc) (haC : acc < C)
    (hr : IsRange s.heap r a b 1 t u v) (hsm : Builtin.Range.small a b 1 = true) (hn : Builtin.Range.rangeSize a b 1 = ((n : Nat) : Int))
    (K : Nat → (Str → Option Value) → List Value → Led → Prop) (hK : K 0 mC ys D)
    (elts : ∀ I oi i t oC mC ys n' D h tk, i < n → K i mC ys D → Fr h₀ L h m → News h₀ L h ((I, oi) :: (C, oC) :: (acc, listOf ys.toArray n') :: (I₀, oi₀) :: D) → NsObj oC (fun z => if z = x then some (.int (a + (i : Int)) t) else mC z) → Off3 I C acc ((I₀, oi₀) :: D) → Off3 I₀ C acc D → C < I →
      wpAny (model PG w) A (eval elt cenv) (EltEnd h₀ L m I oi C oC acc ys n' ((I₀, oi₀) :: D) (fun ys D => X1 fun D' => A3 (D = (I₀, oi₀) :: D') (Off3 I₀ C acc D') (K (i + 1) (fun z => if z = x then some (.int (a + (i : Int)) t) else mC z) ys D')) s) (NB w A cenv R) { s with heap := h, toks := tk })
    (done : ∀ oC mC ys n' D h tk, K n mC ys D → Fr h₀ L h m → News h₀ L h ((I₀, oi₀) :: (C, oC) :: (acc, listOf ys.toArray n') :: D) → NsObj oC mC → Off3 I₀ C acc D → R (.ok .next) { s with heap := h, toks := tk })
    (hl : cenv.locals = C) (hk : cenv.scope.kind = .function) (hx : cenv.kindOf x = some .local) :
    wpAny (model PG w) A (pyIter (.ref r)) (fun it s₂ => codeAny (model PG w) A (.compStart (.ListComp elt [g, ⟨.Name x px, iter, [], 0⟩] scope pos) 1 it (.ref acc) cenv) R s₂) E s := by
  refine wpAny_pyIter_range hr hsm ?_
  have up : ∀ c o, s.heap.get? c = some o → (s.heap.push { cls := .type "range_iterator", data := .fields #[rawInt a, rawInt (Builtin.Range.rangeSize a b 1), rawInt 1] }).get? c = some o := fun c o e => Heap.get?_push_of_some _ e
  have W := LCg.range_walks (prog := PG) (w := w) (I := s.heap.objs.size) hh a n
  have hIn := next_is_new F
  have hIL : s.heap.objs.size ≠ L := Ne.symm (Nat.ne_of_lt F.ns.lt)
  have hCI : C < s.heap.objs.size := Heap.lt_size (N (C, oC) (.tail _ (.head _))).1
  have st0 : IsRangeIter (s.heap.push { cls := .type "range_iterator", data := .fields #[rawInt a, rawInt (Builtin.Range.rangeSize a b 1), rawInt 1] }) s.heap.objs.size (a + ((0 : Nat) : Int) * 1) ((n : Int) - ((0 : Nat) : Int)) 1 := by
    show Heap.get? _ _ = _; rw [hn]; simpa using Heap.get?_push_size _ rfl
  have lt : ∀ p ∈ (I₀, oi₀) :: D, p.1 < s.heap.objs.size := fun p hp => by
    rcases List.mem_cons.mp hp with rfl | hp
    · exact Heap.lt_size (N _ (.head _)).1
    · exact Heap.lt_size (N _ (.tail _ (.tail _ (.tail _ hp)))).1
  have offI : Off3 s.heap.objs.size C acc ((I₀, oi₀) :: D) := fun p hp => by
    refine ⟨Nat.ne_of_lt (lt p hp), ?_⟩
    rcases List.mem_cons.mp hp with rfl | hp
    · exact ⟨Nat.ne_of_lt (Nat.lt_trans hIa haC), Nat.ne_of_lt hIa⟩
    · exact (off p hp).2
  have loop : codeAny (model PG w) A (.compLoop (.ListComp elt [g, ⟨.Name x px, iter, [], 0⟩] scope pos) 1 (.ref s.heap.objs.size) (.ref acc) cenv) R { s with heap := s.heap.push { cls := .type "range_iterator", data := .fields #[rawInt a, rawInt (Builtin.Range.rangeSize a b 1), rawInt 1] } } := by
    refine comp_loop (n' := n') (ys := ys) (oC := oC) (mC := mC) (D := (I₀, oi₀) :: D) (src := []) (p := iter.pos) (x := x) (px := px) (ifs := []) (inner := emit elt (.ref acc) cenv) rfl rfl rfl rfl W (fun i h st => ⟨_, st⟩) (fun i mC ys D => X1 fun D' => A3 (D = (I₀, oi₀) :: D') (Off3 I₀ C acc D') (K i mC ys D')) (fun i mC ys D hK p hp => (nomatch hp))
      (F.keeps up) (fun p hp => ?_) hIn hIL hC offI (Nat.ne_of_gt (Nat.lt_trans haC hCI)) (Nat.ne_of_gt hCI) (Nat.ne_of_lt haC) st0 ⟨D, rfl, off, hK⟩ ?_ ?_ hl hk hx
    · have : p ∈ (I₀, oi₀) :: (C, oC) :: (acc, listOf ys.toArray n') :: D := by
        simp only [List.mem_cons] at hp ⊢; rcases hp with h | h | h | h <;> simp [h]
      exact ⟨up _ _ (N p this).1, (N p this).2⟩
    · rintro i v oi oC mC ys n' _ h tk hi ⟨t, rfl⟩ ⟨D', rfl, off', hK⟩ F N hC offI
      refine wpAny_tests_nil ?_
      rw [if_pos rfl]
      exact emit_next hC offI (Nat.ne_of_gt (Nat.lt_trans haC hCI)) (Nat.ne_of_lt haC) (elts _ oi i t oC mC ys n' D' h tk hi hK F N hC offI off' hCI)
    · rintro oC mC ys n' _ h tk ⟨D', rfl, off', hK⟩ F N hC offI
      exact done oC mC ys n' D' h tk hK F (fun p hp => N p (by simp only [List.mem_cons] at hp ⊢; rcases hp with h | h | h | h <;> simp [h])) hC off'
  exact compStart_at rfl loop (W.self 0 _ _ _ st0 loop)
theorem turn0 (elt : PySem.Expr) (x : Str) (px : Pos) (iter : PySem.Expr) (ifs : List PySem.Expr) (t1 i1 : PySem.Expr) (f1 : List PySem.Expr) (scope : Scope) (pos : Pos) (I : Addr) (acc : Value) (cenv : Env) :
   compTurn (.ListComp elt [⟨.Name x px, iter, ifs, 0⟩, ⟨t1, i1, f1, 0⟩] scope pos) 0 (.ref I) acc cenv = (do
      standAt iter.pos
      match ← pyNext (.ref I) with
      | none => pure (.done .next)
      | some v =>
        letOwnedTupleGo (.Name x px) (.ref I) v
        assign (.Name x px) cenv v
        let mut ok := true
        for c in ifs do
          if ok then ok ← isTrue c cenv (eval c cenv)
        if ok then nestI (.ListComp elt [⟨.Name x px, iter, ifs, 0⟩, ⟨t1, i1, f1, 0⟩] scope pos) ⟨t1, i1, f1, 0⟩ acc cenv
        again (.compLoop (.ListComp elt [⟨.Name x px, iter, ifs, 0⟩, ⟨t1, i1, f1, 0⟩] scope pos) 0 (.ref I) acc cenv)) := by
  unfold compTurn
  simp only [nestI, bind_assoc]
  rfl
end
end Mine

namespace Mine
open PySem PySem.W PyProof.Rows
set_option Elab.async false
set_option maxRecDepth 100000
set_option maxHeartbeats 8000000
theorem allLt_mem {d : Nat} : ∀ {l : Led}, AllLt d l → ∀ p ∈ l, @LT.lt Nat _ p.1 d
  | [], _, _, h => nomatch h
  | _ :: _, ⟨h1, h2⟩, p, h => by
    rcases List.mem_cons.mp h with rfl | h
    · exact h1
    · exact allLt_mem h2 p h

theorem small_n {n : Nat} (h : n ≤ 1000) : Builtin.Range.small 0 (n : Int) 1 = true := small_one (by decide) (by decide) (Int.le_trans (by decide) (Int.natCast_nonneg n)) (Int.lt_of_le_of_lt (Int.ofNat_le.mpr h) (by decide))
theorem small_nn {i n : Nat} (g : i ≤ 1000) (h : n ≤ 1000) : Builtin.Range.small (i : Int) (n : Int) 1 = true := small_one (Int.le_trans (by decide) (Int.natCast_nonneg i)) (Int.lt_of_le_of_lt (Int.ofNat_le.mpr g) (by decide)) (Int.le_trans (by decide) (Int.natCast_nonneg n)) (Int.lt_of_le_of_lt (Int.ofNat_le.mpr h) (by decide))
section
variable {w : World} {A : Around} {E : Value → Shared → Prop} {s : Shared} {L : Addr} {h₀ : Heap} {m : Str → Option Value} {D X : Led} {R : Result → Shared → Prop}
theorem len_nl {a : Addr} {nss : List (List Nat)} {Q : Value → Shared → Prop} (N : News h₀ L s.heap D) (hl : LD X a (dNL nss)) (hs : ∀ p ∈ X, p ∈ D) (hz : nss.length ≤ 1000000)
    (h : Q (.int (nss.length : Int) (s.toks + 1)) { s with toks := s.toks + 1 + 1 }) : wpAny (model PG w) A (call (.builtin "len") [.ref a]) Q E s :=
  len_ld N hl hs (by simp; exact o4 hz) (by simpa using h)
theorem append_u {a : Addr} {vs : List Value} {n : Nat} {v : Value} {D' : Led} {Q : Value → Shared → Prop} (F : Fr h₀ L s.heap m) (N : News h₀ L s.heap D) (U : Upd a (listOf vs.toArray n) (listOf (vs ++ [v]).toArray (n + 1)) D D') (hz : vs.length ≤ 1000000)
    (h : ∀ h', Fr h₀ L h' m → News h₀ L h' D' → Q .none { s with heap := h' }) : wpAny (model PG w) A (call (.builtin "list.append") [.ref a, v]) Q E s := by
  obtain ⟨pre, post, rfl, rfl, h1, h2⟩ := U.split
  have hm := N (a, listOf vs.toArray n) (List.mem_append_right _ (.head _))
  refine append_at (hsz := by simp [sizeLine_eq]; exact o21 hz) hm.1 fun h₅ hs₅ hD₅ => h h₅ (F.change hs₅ hm.2.1 hm.2.2) fun p hp => ?_
  rcases List.mem_append.mp hp with q | q
  · have := N p (List.mem_append_left _ q); exact ⟨hs₅.extBut _ _ (h1 p q) this.1, this.2⟩
  · rcases List.mem_cons.mp q with rfl | q
    · refine ⟨hD₅.trans ?_, hm.2⟩
      simp
    · have := N p (List.mem_append_right _ (.tail _ q)); exact ⟨hs₅.extBut _ _ (h2 p q) this.1, this.2⟩
theorem len_tup {a : Addr} {vs : List Value} {Q : Value → Shared → Prop} (N : News h₀ L s.heap D) (hm : (a, tupOf vs) ∈ D) (hz : vs.length ≤ 1000000)
    (h : Q (.int (vs.length : Int) (s.toks + 1)) { s with toks := s.toks + 1 + 1 }) : wpAny (model PG w) A (call (.builtin "len") [.ref a]) Q E s := by
  refine PyProof.Rows.len_tuple (items := vs.toArray) ⟨_, (N _ hm).1, rfl, 0, rfl⟩ (by simp; exact o4 hz) (by simpa using h)
end
end Mine

namespace Mine
section
open PySem PySem.W PyProof.Rows
local macro_rules | `(tactic| walk_at "maps") => `(tactic| ((first | (show upds emp [] = upds emp _) | (show upds emp _ = upds emp _) | (show upds emp ((_, _) :: _) = upds emp _) | (show upds emp ((_, _) :: (_, _) :: _) = upds emp _) | (show upds emp ((_, _) :: (_, _) :: (_, _) :: _) = upds emp _)); refine upds_eq ?_ ?_ <;> (repeat' (first | exact trivial | refine And.intro rfl ?_))))
local macro_rules | `(tactic| walk_at "sub") => `(tactic| (repeat (first | assumption | exact (fun _ h => h) | refine sub_tail ?_)))
local macro_rules | `(tactic| walk_at "num") => `(tactic| first | assumption | exact Nat.le_of_ble_eq_true rfl | (refine Nat.le_trans (by assumption) ?_; exact Nat.le_of_ble_eq_true rfl) | (refine Nat.lt_of_le_of_lt (by assumption) ?_; exact Nat.le_of_ble_eq_true rfl) | omega | (simp only [List.length_map]; omega))
local macro_rules | `(tactic| k_mem) => `(tactic| (refine List.mem_append_right _ ?_; k_mem))
local macro_rules | `(tactic| k_mem) => `(tactic| assumption)
local macro_rules | `(tactic| k_all) => `(tactic| assumption)
local macro_rules | `(tactic| walk_at "eval Name") => `(tactic| (k_here; (with_reducible show wpAny _ _ (eval _ (cEnv _ _ _ _)) _ _ _); (with_reducible rename Fr _ _ _ _ => kF); k_dflt (refine cname_B kF (by k_asm) (by k_asm) (by k_is) (by boot_by_name) (by decide) ?_ rfl rfl rfl rfl (by decide); k_whole)))
local macro_rules | `(tactic| walk_at "eval Name") => `(tactic| (k_here; (with_reducible show wpAny _ _ (eval _ (cEnv _ _ _ _)) _ _ _); k_dflt (refine comp_cell (by k_asm) (by exact rfl) (by k_mem) (by assumption) ?_ rfl rfl (by decide); k_whole)))
local macro_rules | `(tactic| walk_at "eval Name") => `(tactic| (k_here; (with_reducible show wpAny _ _ (eval _ (cEnv _ _ _ _)) _ _ _); k_dflt (refine comp_name (by k_asm) (by k_mem) (by assumption) (by exact rfl) ?_ rfl rfl rfl (by decide); k_whole)))
local macro_rules | `(tactic| walk_at "exec Assign cons ListComp") => `(tactic| (k_here; refine stop_intro ?_))
local macro_rules | `(tactic| walk_at "exec For") => `(tactic| (k_here; k_dflt (refine wpAny_For ?_)))
local macro_rules | `(tactic| walk_at "exec For Name Name cons nil") => `(tactic| (k_here; k_dflt (refine wpAny_For ?_)))
local macro_rules | `(tactic| walk_at "exec For Name Call cons nil") => `(tactic| (k_here; k_dflt (refine wpAny_For ?_)))
local macro_rules | `(tactic| walk_at "exec For Name Attribute cons nil") => `(tactic| (k_here; k_dflt (refine wpAny_For ?_)))
local macro_rules | `(tactic| walk_at "pyIter ref") => `(tactic| (k_here; refine stop_intro ?_))
local macro_rules | `(tactic| walk_at "subscriptTail Name Name ref int") => `(tactic| (k_here; refine item_nl (by k_asm) (by assumption) (by walk_at "sub") _ rfl (by walk_at "num") (by walk_at "num") ?_; intro _ _))
local macro_rules | `(tactic| walk_at "call builtin:len") => `(tactic| (k_here; refine len_n (by k_asm) (by assumption) (by walk_at "sub") (by walk_at "num") ?_))
local macro_rules | `(tactic| walk_at "call builtin:len") => `(tactic| (k_here; refine len_nl (by k_asm) (by assumption) (by walk_at "sub") (by walk_at "num") ?_))
local macro_rules | `(tactic| walk_at "call builtin:list.append") => `(tactic| (k_here; k_dflt (refine append_u (by k_asm) (by k_asm) (by k_upd) (by walk_at "num") ?_; k_whole); intro h' F' N'))
local macro_rules | `(tactic| walk_at "STOP") => `(tactic| (refine stop_intro ?_))
local macro_rules | `(tactic| walk_at "call builtin:len") => `(tactic| (k_here; refine len_tup (by k_asm) (by k_mem) (by walk_at "num") ?_))
local macro_rules | `(tactic| k_ne) => `(tactic| first | assumption | (refine Ne.symm ?_; assumption) | exact Nat.ne_of_lt (by assumption) | exact Nat.ne_of_gt (by assumption) | (refine Nat.ne_of_gt (allLt_mem (by assumption) (_, _) ?_); k_mem) | (refine neN ?_; (try dsimp only); omega))
local macro_rules | `(tactic| k_all) => `(tactic| first | exact List.forall_mem_nil _ | (refine' List.forall_mem_cons.mpr ⟨?a, ?b⟩; (case a => k_ne); (case b => k_all)) | assumption | (exact fun p hp => Nat.ne_of_lt (allLt_mem (by assumption) p hp)))

section
set_option Elab.async false
set_option maxRecDepth 100000
set_option maxHeartbeats 8000000
noncomputable def wordsN (first last : Nat) : Nat → List (List Nat)
  | 0 => [[]]
  | n + 1 => (wordsN first last n).flatMap fun w => (List.range' first (last + 1 - first)).map fun s => w ++ [s]
open LCg (NsObj)
section
variable {w : World} {A : Around} {E : Value → Shared → Prop} {s : Shared} {L : Addr} {h₀ : Heap} {m : Str → Option Value} {news : List (Addr × Obj)}
theorem enterC {R : Result → Shared → Prop} {name qual : Str} {params : Arguments} {body : List Stmt} {scope : Scope} {dV kV doc pm cdv ct oc : Value} {an od : Option Addr} {osl : Array (Option Value)} {f : Addr} {args : Args} {binds : List (Str × Value)} {ents : List (Str × Option Value)}
    (C : Cx w A h₀ L) (F : Fr h₀ L s.heap m) (N : News h₀ L s.heap news)
    (ho : (heapK w.params).lookup f = some ⟨oc, od, .func (fnOf name qual params body scope dV kV doc pm an cdv ct), osl⟩) (hcd : codeIn (heapK w.params) cdv qual = true) (hroom : A.depth < recursionLimit)
    (hbind : BindsTo s (fnOf name qual params body scope dV kV doc pm an cdv ct) args binds) (hkind : (binds.all fun y => scope.names.lookup y.1 == some .local || scope.names.lookup y.1 == some .cell) = true)
    (hnd : ((cellsFrom 0 scope.names []).map (·.1)).Nodup) (hents : ∀ L', bindL (envOfC qual scope L' f cdv).kindOf binds (fun _ => none) = upds emp ents)
    (h : ∀ g L' h₁ hm mg mb tk cells, Fr h₀ L g m → Fr g L' h₁ (upds emp ents) → News g L' h₁ (cells ++ news) → CellsAre (bindC (envOfC qual scope L' f cdv).kindOf binds fun _ => none) (cellsFrom (L' + 1) scope.names []) cells → (∀ p ∈ news, p.1 < L') →
      Cx w (A.deeper (envOfC qual scope L' f cdv)) g L' → (heapK w.params).In g → TopAt hm mg mb g →
      wpAny (model PG w) (A.deeper (envOfC qual scope L' f cdv)) (execs body (envOfC qual scope L' f cdv))
        (fun fl s' => LeaveK h₀ L m g R (match fl with | .ret v => v | _ => .none) s')
        (fun e s' => wpAny (model PG w) (A.deeper (envOfC qual scope L' f cdv)) (leaving (envOfC qual scope L' f cdv) e) (fun _ s'' => R (.error e) s'') (fun e' s'' => R (.error e') s'') s')
        { s with heap := h₁, toks := tk })
    (hco : scope.isCoroutine = false) (hgen : scope.isGenerator = false) (hk : scope.kind = .function) : codeAny (model PG w) A (.call (.ref f) args) R s := by
  obtain ⟨A₀, base, outer, env, hm, mg, mb, B, hA, hf, hke, T, XB, TB, D⟩ := C.ex
  refine code_defC B F C.X N T hA hf hke ho hcd hroom hbind hkind hnd (fun g L' h₁ tk cells FG F' N' Y B' X' T' l => ?_) hco hgen hk
  rw [hents] at F'
  refine h g L' h₁ hm mg mb tk cells FG F' N' Y l ⟨⟨A, base, env :: outer, envOfC qual scope L' f cdv, hm, mg, mb, B', ?_, rfl, hk, T', XB, TB, dicts_push FG hf D⟩, X', C.hh⟩ X' T'
  show A.frames.map _ = _
  rw [hA]; rfl
end

theorem ints_free {X Y : Led} : ∀ {vs : List Value} {ns : List Nat}, DatAll X vs (dN ns) → DatAll Y vs (dN ns)
  | _, [], .nil => .nil
  | _, _ :: _, .cons h r => .cons (by obtain ⟨t, rfl⟩ := dat_int h; exact .int _ _) (ints_free r)
theorem words_len (first last : Nat) (ws : List (List Nat)) : (ws.flatMap fun w => (List.range' first (last + 1 - first)).map fun s => w ++ [s]).length = ws.length * (last + 1 - first) := by
  induction ws with
  | nil => simp
  | cons w r ih => rw [List.flatMap_cons, List.length_append, ih, List.length_map, List.length_range', List.length_cons, Nat.succ_mul]; exact o362
theorem words_size (first last : Nat) : ∀ n, ∀ w ∈ wordsN first last n, w.length = n
  | 0, w, h => by simp [wordsN] at h; simp [h]
  | n + 1, w, h => by
    obtain ⟨v, hv, hw⟩ := List.mem_flatMap.mp h
    obtain ⟨s, _, rfl⟩ := List.mem_map.mp hw
    simp [words_size first last n v hv]
section
variable {w : World} {A : Around} {E : Value → Shared → Prop} {s : Shared} {L : Addr} {h₀ : Heap} {m : Str → Option Value} {D X : Led} {R : Result → Shared → Prop}


theorem add_at {l b : Addr} {vs ws : List Value} {n1 n2 : Nat} {Q : Value → Shared → Prop} (F : Fr h₀ L s.heap m) (N : News h₀ L s.heap D) (h1 : (l, listOf vs.toArray n1) ∈ D) (h2 : (b, listOf ws.toArray n2) ∈ D) (hsz : vs.length + ws.length ≤ sizeLine)
    (h : ∀ q h', Fr h₀ L h' m → News h₀ L h' ((q, listOf (vs ++ ws).toArray 0) :: D) → (∀ p ∈ D, p.1 < q) → Q (.ref q) { s with heap := h' }) : wpAny (model PG w) A (binaryOp .Add (.ref l) (.ref b)) Q E s :=
  add_lists F N ⟨_, (N _ h1).1, rfl, n1, rfl⟩ ⟨_, (N _ h2).1, rfl, n2, rfl⟩ (fun h' F' N' => h _ h' F' N' fun p hp => Heap.lt_size (N p hp).1) hsz

theorem words_spec {first last size : Nat} {t1 t2 t3 : Tok} (C : Cx w A h₀ L) (F : Fr h₀ L s.heap m) (N : News h₀ L s.heap D) (hroom : A.depth + 5 < recursionLimit)
    (hb : ∀ k ≤ size, (wordsN first last k).length ≤ 100000) (hz : size ≤ 100) (hz2 : last ≤ 100) (hz3 : first ≤ 100)
    (k : ∀ h' tk Z a, Fr h₀ L h' m → News h₀ L h' (Z ++ D) → Above D Z → LD Z a (dNL (wordsN first last size)) → R (.ok (.ret (.ref a))) { s with heap := h', toks := tk }) :
    codeAny (model PG w) A (.call (.ref 146) ⟨[.int first t1, .int last t2, .int size t3], []⟩) R s := by
  have X₀ := C.X; have hPG : PG = Challenge.rw_dm0132_06.row.prog := rfl; revert hPG X₀; k_fill; intro X₀ hPG; clear hPG
  refine' enterC (ents := [(Str.ofString "size", some (.int (size : Nat) t3))]) C F N ?k6 ?k7 ?kr ?k9 ?kB ?kD ?ke ?_ ?c2 ?c3 ?c4
  case k6 => k_is
  case k7 => k_is
  case kr => exact o29 hroom
  case k9 => exact BindsTo.of_eq rfl
  case kB => exact rfl
  case kD => decide +kernel
  case ke => exact fun _ => rfl
  case c2 => exact rfl
  case c3 => exact rfl
  case c4 => exact rfl
  intro g' L' h' hm mg mb tk' cells' FG' F' N' Y' l1 C' X' T'
  obtain ⟨oB, oA, hE, d1, d2⟩ := CellsAre.two Y'
  subst hE
  replace d1 : oB.data = .cell (some (.int (last : Nat) t2)) := d1
  replace d2 : oA.data = .cell (some (.int (first : Nat) t1)) := d2
  (try simp only [List.cons_append, List.nil_append] at N')
  clear Y' F N C X₀
  (try k_unmd); (try k_fold)
  k_steps
  rename_i l0 _ ll0 l1' _ ll1 h2 F2 N2 h3 tk3 t4 u4 v4 hr F3 N3 hk3
  unfold Stopped
  have base : ∃ Z a, (((l1', listOf #[Value.ref l0] 0) :: (l0, listOf #[] 0) :: (L' + 1 + 1, oB) :: (L' + 1, oA) :: D) = Z ++ ((L' + 1 + 1, oB) :: (L' + 1, oA) :: D)) ∧ (∀ q ∈ Z, @LT.lt Nat _ (L' + 1 + 1) q.1) ∧ LD Z a (dNL (wordsN first last 0)) ∧ a = l1' := by
    refine ⟨[(l1', listOf #[Value.ref l0] 0), (l0, listOf #[] 0)], l1', rfl, ?_, ⟨[.ref l0], 0, .head _, .cons (.list (vs := []) (n := 0) (.tail _ (.head _)) .nil) .nil⟩, rfl⟩
    intro q hq
    rcases List.mem_cons.mp hq with rfl | hq
    · exact ll1.2.1
    · rw [List.mem_singleton.mp hq]; exact ll0.1
  obtain ⟨Z, a, hZ, hlt, hld, rfl⟩ := base
  rw [hZ] at N3
  refine for_rangeN (n := size) C'.hh F3 N3 hr (small_n (Nat.le_trans hz (Nat.le_of_ble_eq_true rfl))) (by rw [rangeSize_nat]; simp)
    (fun i m' D' => X3 fun Z a u => A4 (D' = Z ++ ((L' + 1 + 1, oB) :: (L' + 1, oA) :: D)) ((∀ q ∈ Z, @LT.lt Nat _ (L' + 1 + 1) q.1)) (LD Z a (dNL (wordsN first last i))) (m' = upds emp [(Str.ofString "words", some (.ref a)), (Str.ofString "turn", u), (Str.ofString "size", some (.int (size : Nat) t3))]))
    ⟨Z, a, none, rfl, hlt, hld, by walk_at "maps"⟩ ?_ ?_
  · rintro I oi lt0 i t m D' h tk hi Rn1 nx1 rt1 ⟨Z, a, u, rfl, hlt, hld, rfl⟩ F N off
    (try k_unmd); k_fold
    k_steps
    unfold Stopped
    refine assign_comp (cl := [(Str.ofString "last", L' + 1 + 1), (Str.ofString "first", L' + 1)]) rfl (fun _ => rfl) rfl rfl (by decide) rfl ?_
    intro Qn1 qn1
    k_steps
    unfold Stopped
    have hlt' : ∀ q ∈ Z ++ ((L' + 1 + 1, oB) :: (L' + 1, oA) :: D), q ∈ Z ++ ((L' + 1 + 1, oB) :: (L' + 1, oA) :: D) := fun _ h => h
    let sg : List Nat → List (List Nat) := fun w => (List.range' first (last + 1 - first)).map fun s => w ++ [s]
    refine comp_ld (fun _ _ _ => turn0 _ _ _ _ _ _ _ _ _ _ _ _ _) C'.hh (by k_asm) (by k_asm) hld (fun p hp => .tail _ (List.mem_append_left _ hp))
      (fun j mC ys D' => X1 fun Z' => A4 (D' = Z' ++ ((I, oi) :: (Z ++ ((L' + 1 + 1, oB) :: (L' + 1, oA) :: D)))) ((∀ q ∈ Z', @LT.lt Nat _ I q.1)) (DatAll Z' ys (dNL (((wordsN first last i).take j).flatMap sg))) (∃ u u', mC = upds emp [(Str.ofString "sign", u), (Str.ofString "word", u')]))
      (fun j mC ys D' hK p hp => by obtain ⟨Z', rfl, _⟩ := hK; exact List.mem_append_right _ (.tail _ (List.mem_append_left _ hp))) ⟨[], rfl, (fun _ h => nomatch h), .nil, none, none, by walk_at "maps"⟩ ?_ ?_ (by decide) rfl rfl
    · rintro I2 oi2 acc C lt2 j v oC mC ys n' _ h2 tk2 hj hv ⟨Z', rfl, hlt2, hys, u2, u2', rfl⟩ F N hC off hIa haC
      refine wpAny_tests_nil ?_
      rw [if_pos rfl]
      refine nest_at (fun _ => rfl) ?_
      (try k_unmd); k_fold
      k_steps
      rename_i h5 tk5 t5 u5 v5 hr5 F5 N5 hk5
      unfold Stopped
      rw [List.getElem_map] at hv
      obtain ⟨aw, rfl, hw⟩ := dat_ld hv
      obtain ⟨wv, wn, hwm, hwd⟩ := hw
      have hj' : j < (wordsN first last i).length := by simpa using hj
      generalize hwj : (wordsN first last i)[j] = wj at hwd
      have htk : (wordsN first last i).take (j + 1) = (wordsN first last i).take j ++ [wj] := by rw [List.take_add_one, List.getElem?_eq_getElem hj', hwj]; rfl
      refine inner_range (n := last + 1 - first) C'.hh (by k_asm) (by k_asm) hC off hIa haC hr5 (small_nn (n := last + 1) (Nat.le_trans hz3 (Nat.le_of_ble_eq_true rfl)) (Nat.le_trans (Nat.succ_le_succ hz2) (Nat.le_of_ble_eq_true rfl))) (by rw [rangeSize_nat]; exact o363)
        (fun l mC ys D' => X1 fun Z' => A4 (D' = Z' ++ ((I, oi) :: (Z ++ ((L' + 1 + 1, oB) :: (L' + 1, oA) :: D)))) ((∀ q ∈ Z', @LT.lt Nat _ I q.1)) (DatAll Z' ys (dNL (((wordsN first last i).take j).flatMap sg ++ ((List.range' first (last + 1 - first)).take l).map fun s => wj ++ [s]))) (∃ u, mC = upds emp [(Str.ofString "sign", u), (Str.ofString "word", some (.ref aw))]))
        ⟨Z', rfl, hlt2, by simpa using hys, u2, by walk_at "maps"⟩ ?_ ?_ rfl rfl rfl
      · rintro I3 oi3 l t6 oC mC ys n' _ h6 tk6 hl6 ⟨Z', rfl, hlt2, hys, u3, rfl⟩ F N hC off off2 hCI
        (try k_unmd); k_fold
        k_steps
        rename_i l6 h7 F7 N7 ll7
        refine add_at (by k_asm) (by k_asm) (.tail _ (.tail _ (.tail _ (.tail _ (.tail _ (List.mem_append_right _ (.tail _ (List.mem_append_left _ hwm)))))))) (by k_mem) ?_ fun q h8 F8 N8 lq => ?_
        · have := hwd.length
          have h9 := words_size first last i wj (hwj ▸ List.getElem_mem hj')
          simp only [List.length_map] at this
          rw [sizeLine_eq]; simp only [List.length_cons, List.length_nil]; exact o364 hi this h9 hz
        have lq0 : ∀ p ∈ Z' ++ (I, oi) :: (Z ++ ((L' + 1 + 1, oB) :: (L' + 1, oA) :: D)), p.1 < q ∧ p.1 < l6 := fun p hp => ⟨lq p (.tail _ (.tail _ (.tail _ (.tail _ (.tail _ hp))))), allLt_mem ll7.2.2.2.2 p hp⟩
        have lqI := lq0 (I, oi) (List.mem_append_right _ (.head _))
        have lq1 : @LT.lt Nat _ l6 q := lq (l6, _) (.head _)
        have hn : (⟨l6, listOf #[Value.int (↑first + ↑l) t6] 0⟩ : Addr × Obj).1 = l6 := rfl
        have offZ : ∀ (I C acc : Nat), I < l6 → C < l6 → acc < l6 → Off3 I C acc [(q, listOf (wv ++ [Value.int (↑first + ↑l) t6]).toArray 0), (l6, listOf #[Value.int (↑first + ↑l) t6] 0)] := by
          intro I C acc h1 h2 h3 p hp
          rcases List.mem_cons.mp hp with rfl | hp
          · refine ⟨neN ?_, neN ?_, neN ?_⟩ <;> dsimp only <;> (first | exact o81 h1 lq1 | exact o81 h2 lq1 | exact o81 h3 lq1 | assumption)
          · rw [List.mem_singleton.mp hp]; refine ⟨neN ?_, neN ?_, neN ?_⟩ <;> dsimp only <;> (first | exact o64 h1 | exact o64 h2 | exact o64 h3 | assumption)
        have hys2 := hys.length
        refine EltEnd.mk2 [(q, _), (l6, _)] F8 N8 (offZ _ _ _ ll7.1 ll7.2.1 ll7.2.2.1) ?_ ⟨_, rfl, ?_, (q, _) :: (l6, _) :: Z', rfl, ?_, ?_, some (.int (↑first + ↑l) t6), by walk_at "maps"⟩
        · rw [hys2, sizeLine_eq]
          have h9 := hb (i + 1) (by exact o191 hi)
          rw [wordsN, words_len] at h9
          simp only [List.length_map, List.length_append, sg, words_len, List.length_take, List.length_range']
          have h10 : j * (last + 1 - first) + (last + 1 - first) ≤ (wordsN first last i).length * (last + 1 - first) := by
            rw [← Nat.succ_mul]; exact Nat.mul_le_mul_right _ hj'
          have h11 : min j (wordsN first last i).length = j := Nat.min_eq_left (Nat.le_of_lt hj')
          have h12 : min l (last + 1 - first) ≤ last + 1 - first := Nat.min_le_right _ _
          rw [h11]; exact o365 h10 h9
        · intro p hp
          rcases List.mem_append.mp (show p ∈ [(q, _), (l6, _)] ++ _ from hp) with hp | hp
          · exact offZ _ _ _ ll7.2.2.2.1 ll7.2.1 ll7.2.2.1 p hp
          · exact off2 p hp
        · intro p hp
          rcases List.mem_cons.mp hp with rfl | hp
          · exact lqI.1
          rcases List.mem_cons.mp hp with rfl | hp
          · exact lqI.2
          · exact hlt2 p hp
        · have htl : (List.range' first (last + 1 - first)).take (l + 1) = (List.range' first (last + 1 - first)).take l ++ [first + l] := by
            rw [List.take_add_one, List.getElem?_range' (by assumption)]; simp
          have h13 : DatAll ((q, listOf (wv ++ [Value.int (↑first + ↑l) t6]).toArray 0) :: (l6, listOf #[Value.int (↑first + ↑l) t6] 0) :: Z') (ys ++ [.ref q]) (dNL (((wordsN first last i).take j).flatMap sg ++ ((List.range' first (last + 1 - first)).take l).map fun s => wj ++ [s]) ++ [Dat.list (dN (wj ++ [first + l]))]) := by
            refine (hys.mono fun p hp => .tail _ (.tail _ hp)).append (.one (.list (.head _) ?_))
            unfold dN; rw [List.map_append]
            refine (ints_free hwd).append ?_
            refine .one ?_
            have : ((first + l : Nat) : Int) = (first : Int) + (l : Int) := by exact o366
            show DatIn _ _ (Dat.int ((first + l : Nat) : Int))
            rw [this]; exact .int _ _
          rw [htl]
          simpa using h13
      · rintro oC mC ys n' _ h6 tk6 ⟨Z', rfl, hlt2, hys, u3, rfl⟩ F N hC off
        refine ⟨h6, tk6, oC, _, ys, n', _, rfl, F, N, hC, off, Z', rfl, hlt2, ?_, _, _, rfl⟩
        rw [List.take_of_length_le (l := List.range' first (last + 1 - first)) (by simp)] at hys
        rw [htk, List.flatMap_append]
        simpa [sg] using hys
    · rintro acc C lt3 oC mC ys n' _ h9 tk9 ⟨Z', rfl, hlt2, hys, u9, u9', rfl⟩ F N hC off1 off2
      refine comp_fin_use F N hC off1 rfl rfl rfl fun h10 tk10 F10 N10 => qn1 _ _ ?_
      have hI : @LT.lt Nat _ (L' + 1 + 1) I := lt0 (L' + 1 + 1, oB) (List.mem_append_right _ (.head _))
      (try dsimp only)
      k_steps
      refine nx1 _ _ _ ((acc, listOf ys.toArray n') :: (Z' ++ (Z ++ ((L' + 1 + 1, oB) :: (L' + 1, oA) :: D)))) F10 (fun p hp => N10 p ?_) ?_ ⟨(acc, listOf ys.toArray n') :: (Z' ++ Z), acc, _, by simp, ?_, ?_, by walk_at "maps"⟩
      · simp only [List.mem_cons, List.mem_append] at hp ⊢; rcases hp with h | h | h | h | h | h | h <;> simp [h]
      · intro p hp
        rcases List.mem_cons.mp hp with rfl | hp
        · exact Nat.ne_of_gt (lt3 (I, oi) (.head _))
        · rcases List.mem_append.mp hp with hp | hp
          · exact Nat.ne_of_gt (hlt2 p hp)
          · exact off p hp
      · intro p hp
        rcases List.mem_cons.mp hp with rfl | hp
        · exact Nat.lt_trans hI (lt3 (I, oi) (.head _))
        · rcases List.mem_append.mp hp with hp | hp
          · exact Nat.lt_trans hI (hlt2 p hp)
          · exact hlt p hp
      · rw [List.take_of_length_le (by simp)] at hys
        exact ⟨ys, n', .head _, hys.mono fun p hp => .tail _ (List.mem_append_left _ hp)⟩
  · rintro m D' h tk ⟨Z, a, u, rfl, hlt, hld, rfl⟩ F N
    (try dsimp only)
    k_steps
    (try dsimp only)
    refine leaveK_ (by k_asm) (by k_asm) fun kF kN => k _ _ (Z ++ [(L' + 1 + 1, oB), (L' + 1, oA)]) a kF (by simpa using kN) ?_ (hld.mono fun p hp => List.mem_append_left _ hp)
    intro q hq p hp
    have h1 := l1 p hp
    rcases List.mem_append.mp hq with hq | hq
    · exact Nat.lt_trans h1 (Nat.lt_trans (Nat.lt_trans (Nat.lt_succ_self _) (Nat.lt_succ_self _)) (hlt q hq))
    · rcases List.mem_cons.mp hq with rfl | hq
      · exact Nat.lt_trans h1 (Nat.lt_trans (Nat.lt_succ_self _) (Nat.lt_succ_self _))
      · rw [List.mem_singleton.mp hq]; exact Nat.lt_trans h1 (Nat.lt_succ_self _)
end
end

section
set_option Elab.async false
set_option maxRecDepth 100000
set_option maxHeartbeats 8000000
noncomputable def addEnd (due : List Nat) : Option Nat → List Nat
  | some p => if p ∈ due then due else due ++ [p]
  | none => due
noncomputable def leastAt (ways : List (List Nat)) (size : Nat) (due : List Nat) (place : Nat) : List Nat := (wordsN 0 ways.length size).foldl (fun d w => addEnd d (endN ways place w)) due
noncomputable def leastN (ways : List (List Nat)) (size : Nat) : List Nat := (List.range ways.length).foldl (leastAt ways size) []
theorem addEnd_in {n : Nat} {due : List Nat} {o : Option Nat} (hd : due.Nodup ∧ ∀ x ∈ due, x < n) (ho : ∀ p, o = some p → p < n) : (addEnd due o).Nodup ∧ ∀ x ∈ addEnd due o, x < n := by
  cases o with
  | none => exact hd
  | some p =>
    unfold addEnd
    dsimp only
    split
    · exact hd
    · rename_i hp
      refine ⟨?_, fun x hx => ?_⟩
      · rw [List.nodup_append]
        exact ⟨hd.1, by simp, fun a ha b hb => by simp only [List.mem_singleton] at hb; rw [hb]; exact fun e => hp (e ▸ ha)⟩
      · rcases List.mem_append.mp hx with h | h
        · exact hd.2 x h
        · rw [List.mem_singleton.mp h]; exact ho p rfl
theorem endN_in {ways : List (List Nat)} (W : Ways ways) : ∀ (word : List Nat) (p : Nat), p < ways.length → ∀ q, endN ways p word = some q → q < ways.length
  | [], p, hp, q, h => by simp only [endN, Option.some.injEq] at h; rw [← h]; exact hp
  | s :: r, p, hp, q, h => by
    simp only [endN] at h
    split at h
    · cases h
    · exact endN_in W r _ (W.step hp (by exact o17 (by assumption))) q h
theorem foldEnd_in {ways : List (List Nat)} (W : Ways ways) {p : Nat} (hp : p < ways.length) : ∀ (ws : List (List Nat)) (due : List Nat), (due.Nodup ∧ ∀ x ∈ due, x < ways.length) → (ws.foldl (fun d w => addEnd d (endN ways p w)) due).Nodup ∧ ∀ x ∈ ws.foldl (fun d w => addEnd d (endN ways p w)) due, x < ways.length
  | [], _, h => h
  | w :: r, due, h => foldEnd_in W hp r _ (addEnd_in h fun q hq => endN_in W w p hp q hq)
theorem leastAt_in {ways : List (List Nat)} (W : Ways ways) {size : Nat} : ∀ i, i ≤ ways.length → ((List.range i).foldl (leastAt ways size) []).Nodup ∧ ∀ x ∈ (List.range i).foldl (leastAt ways size) [], x < ways.length
  | 0, _ => ⟨List.nodup_nil, fun _ h => nomatch h⟩
  | i + 1, h => by
    rw [List.range_succ, List.foldl_append, List.foldl_cons, List.foldl_nil]
    exact foldEnd_in W h _ _ (leastAt_in W i (by exact o18 h))
theorem due_short {ways : List (List Nat)} (W : Ways ways) {size i j : Nat} (hi : i < ways.length) : (((wordsN 0 ways.length size).take j).foldl (fun d w => addEnd d (endN ways i w)) ((List.range i).foldl (leastAt ways size) [])).length ≤ 6 := by
  have h := foldEnd_in W hi ((wordsN 0 ways.length size).take j) _ (leastAt_in W (size := size) i (by exact o19 hi))
  exact Nat.le_trans (nodup_few h.1 h.2) W.few
theorem dec_t {p : Prop} {i : Decidable p} (h : @decide p i = true) : p := @of_decide_eq_true p i h
theorem dec_f {p : Prop} {i : Decidable p} (h : @decide p i = false) : ¬ p := @of_decide_eq_false p i h
theorem mem_dN {e : Nat} {ns : List Nat} : (Dat.int (e : Int) ∈ dN ns) ↔ e ∈ ns := by
  constructor
  · intro h3; obtain ⟨k, hk, he⟩ := List.mem_map.mp h3
    have : (k : Int) = e := Dat.int.inj he
    rw [show e = k by exact o20 this]; exact hk
  · exact fun h => List.mem_map.mpr ⟨e, h, rfl⟩
section
variable {w : World} {A : Around} {E : Value → Shared → Prop} {s : Shared} {L : Addr} {h₀ : Heap} {m : Str → Option Value} {D X : Led} {R : Result → Shared → Prop}

theorem least_spec {ways : List (List Nat)} {size : Nat} {aw : Addr} {t : Tok} (C : Cx w A h₀ L) (F : Fr h₀ L s.heap m) (N : News h₀ L s.heap D) (hw : LD X aw (dNL ways)) (hs : ∀ p ∈ X, p ∈ D) (W : Ways ways)
    (hroom : A.depth + 10 < recursionLimit) (hu : A.units + 100 < cLine) (hb : ∀ k ≤ size, (wordsN 0 ways.length k).length ≤ 100000) (hz : size ≤ 100)
    (k : ∀ h' tk a vs n, Fr h₀ L h' m → News h₀ L h' ((a, listOf vs.toArray n) :: D) → (∀ p ∈ D, p.1 < a) → DatAll [] vs (dN (leastN ways size)) → R (.ok (.ret (.ref a))) { s with heap := h', toks := tk }) :
    codeAny (model PG w) A (.call (.ref 160) ⟨[.ref aw, .int size t], []⟩) R s := by
  have X₀ := C.X; have hPG : PG = Challenge.rw_dm0132_06.row.prog := rfl; revert hPG X₀; k_fill; intro X₀ hPG; clear hPG
  refine' enterU (ents := [(Str.ofString "size", some (.int (size : Nat) t)), (Str.ofString "ways", some (.ref aw))]) C F N ?k6 ?k7 ?kr ?k9 ?ke ?kB ?_ ?c2 ?c3 ?c4 ?c5
  case k6 => k_is
  case k7 => k_is
  case kr => exact o22 hroom
  case k9 => exact BindsTo.of_eq rfl
  case ke => exact rfl
  case c5 => decide
  case kB => exact locs rfl
  case c2 => exact rfl
  case c3 => exact rfl
  case c4 => exact rfl
  intro g' L' h' hm mg mb tk0 FG' F' N' C' X' T'
  (try k_unmd); (try k_fold)
  clear F X₀ C N
  have hwf := W.few
  k_steps
  unfold Stopped
  rename_i due h1 l1 h2 F2 N2 h3 tk3 t4 u4 v4 hr F3 N3 hk3
  have ld : ∀ p ∈ D, p.1 < due := l1
  have od : ∀ p ∈ D, p.1 ≠ due := fun p hp => Nat.ne_of_lt (ld p hp)
  refine for_rangeN (n := ways.length) C'.hh F3 N3 hr (small_n (Nat.le_trans hwf (Nat.le_of_ble_eq_true rfl))) (by rw [rangeSize_nat]; simp)
    (fun i m' D' => X5 fun vs n u1 u2 u3 => A3 (D' = (due, listOf vs.toArray n) :: D) (DatAll [] vs (dN ((List.range i).foldl (leastAt ways size) []))) (m' = upds emp [(Str.ofString "due", some (.ref due)), (Str.ofString "place", u1), (Str.ofString "word", u2), (Str.ofString "end", u3), (Str.ofString "size", some (.int (size : Nat) t)), (Str.ofString "ways", some (.ref aw))]))
    ⟨[], 0, none, none, none, rfl, .nil, by walk_at "maps"⟩ ?_ ?_
  · rintro I oi lt0 i t5 m D' h tk hi Rn1 nx1 rt1 ⟨vs, n, u1, u2, u3, rfl, hvs, rfl⟩ F N off
    have hId : @LT.lt Nat _ due I := lt0 _ (.head _)
    (try k_unmd); k_fold
    k_steps
    refine wpAny_call (words_spec (first := 0) C' (by k_asm) (by k_asm) (by rw [depth_deeper]; exact o23 hroom) hb hz (by exact o24 hwf) (by exact o25) fun h5 tk5 Z a5 F5 N5 hZ hl5 => ?_)
    dsimp only
    have hZ1 : ∀ p ∈ Z ++ D, p.1 ≠ due := fun p hp => by
      rcases List.mem_append.mp hp with hp | hp
      · exact Nat.ne_of_gt (hZ p hp (due, _) (.tail _ (.head _)))
      · exact od p hp
    have hZ2 : ∀ p ∈ Z ++ D, p.1 ≠ I := fun p hp => by
      rcases List.mem_append.mp hp with hp | hp
      · exact Nat.ne_of_gt (hZ p hp (I, _) (.head _))
      · exact off p (.tail _ hp)
    have N6 : News g' L' h5 ((due, listOf vs.toArray n) :: (I, oi) :: (Z ++ D)) := fun p hp => N5 p (by simp only [List.mem_cons, List.mem_append] at hp ⊢; rcases hp with h | h | h | h <;> simp [h])
    have hws : ∀ w ∈ wordsN 0 ways.length size, w.length ≤ 100 := fun w hw => by rw [words_size 0 _ _ w hw]; exact hz
    refine for_ldN C'.hh F5 N6 hl5 (fun p hp => .tail _ (.tail _ (List.mem_append_left _ hp)))
      (fun j m' D' => X4 fun vs n u2 u3 => A3 (D' = (due, listOf vs.toArray n) :: (I, oi) :: (Z ++ D)) (DatAll [] vs (dN (((wordsN 0 ways.length size).take j).foldl (fun d w => addEnd d (endN ways i w)) ((List.range i).foldl (leastAt ways size) [])))) (m' = upds emp [(Str.ofString "due", some (.ref due)), (Str.ofString "place", some (.int (i : Nat) t5)), (Str.ofString "word", u2), (Str.ofString "end", u3), (Str.ofString "size", some (.int (size : Nat) t)), (Str.ofString "ways", some (.ref aw))]))
      (fun j m D' hJ p hp => by obtain ⟨_, _, _, _, rfl, _⟩ := hJ; exact .tail _ (.tail _ (List.mem_append_left _ hp))) ⟨vs, n, u2, u3, rfl, hvs, ?_⟩ ?_ ?_
    · rw [show (0 : Int) + (i : Int) = (i : Int) by exact o26]
      walk_at "maps"
    · rintro I2 oi2 lt2 j v m D' h tk hj hv Rn2 nx2 rt2 ⟨vs, n, u2, u3, rfl, hvs, rfl⟩ F N off2
      rw [List.getElem_map] at hv
      obtain ⟨ax, rfl, hx⟩ := dat_ld hv
      have hId2 : @LT.lt Nat _ due I2 := lt2 _ (.head _)
      have hvl := hvs.length
      have hdl := due_short (ways := ways) (i := i) (size := size) (j := j) W hi
      simp only [List.length_map] at hvl
      (try k_unmd); k_fold
      k_steps
      refine wpAny_call (end_spec (X := Z ++ D) C' (by k_asm) (by k_asm) (hw.mono fun p hp => List.mem_append_right _ (hs p hp)) (hx.mono fun p hp => List.mem_append_left _ hp) (fun p hp => .tail _ (.tail _ (.tail _ hp))) W hi (by rw [depth_deeper]; exact o23 hroom) fun h7 tk7 t7 F7 N7 => ?_)
      have htk : (wordsN 0 ways.length size).take (j + 1) = (wordsN 0 ways.length size).take j ++ [(wordsN 0 ways.length size)[j]'(by simpa using hj)] := by rw [List.take_add_one, List.getElem?_eq_getElem (by simpa using hj)]; rfl
      have hst : ∀ e, endN ways i ((wordsN 0 ways.length size)[j]'(by simpa using hj)) = e → ((wordsN 0 ways.length size).take (j + 1)).foldl (fun d w => addEnd d (endN ways i w)) ((List.range i).foldl (leastAt ways size) []) = addEnd (((wordsN 0 ways.length size).take j).foldl (fun d w => addEnd d (endN ways i w)) ((List.range i).foldl (leastAt ways size) [])) e := by
        intro e he; rw [htk, List.foldl_append, List.foldl_cons, List.foldl_nil, he]
      have offD : ∀ p ∈ (due, listOf vs.toArray n) :: (I, oi) :: (Z ++ D), p.1 ≠ I2 := off2
      generalize ((wordsN 0 ways.length size).take j).foldl (fun d w => addEnd d (endN ways i w)) ((List.range i).foldl (leastAt ways size) []) = du at hvs hdl hvl hst
      cases he : endN ways i ((wordsN 0 ways.length size)[j]'(by simpa using hj)) with
      | none =>
        (try dsimp only [optI])
        k_steps
        refine nx2 _ _ _ _ (by k_asm) (by k_asm) offD ⟨vs, n, _, _, rfl, ?_, by walk_at "maps"⟩
        rw [hst _ he]; exact hvs
      | some e =>
        (try dsimp only [optI])
        k_steps
        · rename_i hin
          refine nx2 _ _ _ _ (by k_asm) (by k_asm) offD ⟨vs, n, _, _, rfl, ?_, by walk_at "maps"⟩
          rw [hst _ he, addEnd, if_pos (mem_dN.mp (dec_t hin))]; exact hvs
        · rename_i hin _ _ _ _
          refine nx2 _ _ _ ((due, _) :: (I, oi) :: (Z ++ D)) (by k_asm) (by k_asm) (fun p hp => ?_) ⟨_, _, _, _, rfl, ?_, by walk_at "maps"⟩
          · rcases List.mem_cons.mp hp with rfl | hp
            · exact Nat.ne_of_lt hId2
            · exact offD p (.tail _ hp)
          · rw [hst _ he, addEnd, if_neg (fun q => dec_f hin (mem_dN.mpr q))]
            unfold dN; rw [List.map_append]
            exact hvs.append (.one (.int _ _))
    · rintro m D' h tk ⟨vs, n, u2, u3, rfl, hvs, rfl⟩ F N
      (try dsimp only)
      k_steps
      refine nx1 _ _ _ ((due, listOf vs.toArray n) :: D) F (fun p hp => N p (by simp only [List.mem_cons, List.mem_append] at hp ⊢; rcases hp with h | h | h <;> simp [h])) (fun p hp => ?_) ⟨vs, n, _, _, _, rfl, ?_, by walk_at "maps"⟩
      · rcases List.mem_cons.mp hp with rfl | hp
        · exact Nat.ne_of_lt hId
        · exact off p (.tail _ hp)
      rw [List.range_succ, List.foldl_append, List.foldl_cons, List.foldl_nil]
      rw [List.take_of_length_le (by simp)] at hvs
      exact hvs
  · rintro m D' h tk ⟨vs, n, u1, u2, u3, rfl, hvs, rfl⟩ F N
    (try dsimp only)
    k_steps
    (try dsimp only)
    exact leaveK_ (by k_asm) (by k_asm) fun kF kN => k _ _ _ _ _ kF kN ld hvs
end
end

section
set_option Elab.async false
set_option maxRecDepth 100000
set_option maxHeartbeats 8000000
theorem words_pow (first last : Nat) : ∀ n, (wordsN first last n).length = (last + 1 - first) ^ n
  | 0 => rfl
  | n + 1 => by rw [wordsN, words_len, words_pow first last n, Nat.pow_succ]
theorem words_few {first last n : Nat} (h1 : last + 1 - first ≤ 7) (h2 : n ≤ 5) : (wordsN first last n).length ≤ 100000 := by
  rw [words_pow]
  calc (last + 1 - first) ^ n ≤ 7 ^ n := Nat.pow_le_pow_left h1 n
    _ ≤ 7 ^ 5 := Nat.pow_le_pow_right (by exact o179) h2
    _ ≤ 100000 := by decide
noncomputable def nearAt (ways : List (List Nat)) (root : Nat) (due : List Nat) (size : Nat) : List Nat := (wordsN 1 ways.length size).foldl (fun d w => addEnd d (endN ways root w)) due
noncomputable def nearRoot (ways : List (List Nat)) (due : List Nat) (root : Nat) : List Nat := if root ∈ due then due else (List.range ways.length).foldl (nearAt ways root) due
noncomputable def nearN (ways : List (List Nat)) : List Nat := (List.range ways.length).foldl (nearRoot ways) []
noncomputable abbrev InN (n : Nat) (due : List Nat) : Prop := due.Nodup ∧ ∀ x ∈ due, x < n
theorem nearAt_in {ways : List (List Nat)} (W : Ways ways) {root : Nat} (hr : root < ways.length) : ∀ (l : List Nat) (due : List Nat), InN ways.length due → InN ways.length (l.foldl (nearAt ways root) due)
  | [], _, h => h
  | _ :: r, _, h => nearAt_in W hr r _ (foldEnd_in W hr _ _ h)
theorem nearRoot_in {ways : List (List Nat)} (W : Ways ways) : ∀ i, i ≤ ways.length → InN ways.length ((List.range i).foldl (nearRoot ways) [])
  | 0, _ => ⟨List.nodup_nil, fun _ h => nomatch h⟩
  | i + 1, h => by
    rw [List.range_succ, List.foldl_append, List.foldl_cons, List.foldl_nil]
    unfold nearRoot
    split
    · exact nearRoot_in W i (by exact o18 h)
    · exact nearAt_in W h _ _ (nearRoot_in W i (by exact o18 h))
theorem InN.short {n : Nat} {due : List Nat} (h : InN n due) (hn : n ≤ 6) : due.length ≤ 6 := Nat.le_trans (nodup_few h.1 h.2) hn
section
variable {w : World} {A : Around} {E : Value → Shared → Prop} {s : Shared} {L : Addr} {h₀ : Heap} {m : Str → Option Value} {D X : Led} {R : Result → Shared → Prop}

theorem near_spec {ways : List (List Nat)} {aw : Addr} (C : Cx w A h₀ L) (F : Fr h₀ L s.heap m) (N : News h₀ L s.heap D) (hw : LD X aw (dNL ways)) (hs : ∀ p ∈ X, p ∈ D) (W : Ways ways)
    (hroom : A.depth + 10 < recursionLimit) (hu : A.units + 100 < cLine)
    (k : ∀ h' tk a vs n, Fr h₀ L h' m → News h₀ L h' ((a, listOf vs.toArray n) :: D) → (∀ p ∈ D, p.1 < a) → DatAll [] vs (dN (nearN ways)) → R (.ok (.ret (.ref a))) { s with heap := h', toks := tk }) :
    codeAny (model PG w) A (.call (.ref 167) ⟨[.ref aw], []⟩) R s := by
  have X₀ := C.X; have hPG : PG = Challenge.rw_dm0132_06.row.prog := rfl; revert hPG X₀; k_fill; intro X₀ hPG; clear hPG
  refine' enterU (ents := [(Str.ofString "ways", some (.ref aw))]) C F N ?k6 ?k7 ?kr ?k9 ?ke ?kB ?_ ?c2 ?c3 ?c4 ?c5
  case k6 => k_is
  case k7 => k_is
  case kr => exact o22 hroom
  case k9 => exact BindsTo.of_eq rfl
  case ke => exact rfl
  case c5 => decide
  case kB => exact locs rfl
  case c2 => exact rfl
  case c3 => exact rfl
  case c4 => exact rfl
  intro g' L' h' hm mg mb tk0 FG' F' N' C' X' T'
  (try k_unmd); (try k_fold)
  clear F X₀ C N
  have hwf := W.few
  k_steps
  unfold Stopped
  rename_i due h1 l1 h2 F2 N2 h3 tk3 t4 u4 v4 hr F3 N3 hk3
  have ld : ∀ p ∈ D, p.1 < due := l1
  have od : ∀ p ∈ D, p.1 ≠ due := fun p hp => Nat.ne_of_lt (ld p hp)
  refine for_rangeN (n := ways.length) C'.hh F3 N3 hr (small_n (Nat.le_trans hwf (Nat.le_of_ble_eq_true rfl))) (by rw [rangeSize_nat]; simp)
    (fun i m' D' => X6 fun vs n u1 u2 u3 u4 => A3 (D' = (due, listOf vs.toArray n) :: D) (DatAll [] vs (dN ((List.range i).foldl (nearRoot ways) []))) (m' = upds emp [(Str.ofString "due", some (.ref due)), (Str.ofString "root", u1), (Str.ofString "word", u2), (Str.ofString "end", u3), (Str.ofString "size", u4), (Str.ofString "ways", some (.ref aw))]))
    ⟨[], 0, none, none, none, none, rfl, .nil, by walk_at "maps"⟩ ?_ ?_
  · rintro I oi lt0 i t5 m D' h tk hi Rn1 nx1 rt1 ⟨vs, n, u1, u2, u3, u4, rfl, hvs, rfl⟩ F N off
    have hId : @LT.lt Nat _ due I := lt0 _ (.head _)
    rw [show (0 : Int) + (i : Int) = (i : Int) by exact o26] at F
    have hin := nearRoot_in W i (by exact o19 hi)
    have hst : (List.range (i + 1)).foldl (nearRoot ways) [] = nearRoot ways ((List.range i).foldl (nearRoot ways) []) i := by rw [List.range_succ, List.foldl_append]; rfl
    generalize (List.range i).foldl (nearRoot ways) [] = du at hvs hin hst
    (try k_unmd); k_fold
    k_steps
    · rename_i hin2
      refine nx1 _ _ _ _ (by k_asm) (by k_asm) off ⟨vs, n, _, _, _, _, rfl, ?_, by walk_at "maps"⟩
      rw [hst, nearRoot, if_pos (mem_dN.mp (dec_t hin2))]; exact hvs
    rename_i hin2 h4 tk4 t6 u6 v6 hr4 F4 N4 hk4
    unfold Stopped
    rw [nearRoot, if_neg (fun q => dec_f hin2 (mem_dN.mpr q))] at hst
    refine for_rangeN (n := ways.length) C'.hh F4 (D := (due, listOf vs.toArray n) :: (I, oi) :: D) (fun p hp => N4 p (by simp only [List.mem_cons] at hp ⊢; rcases hp with h | h | h <;> simp [h])) hr4 (small_n (Nat.le_trans hwf (Nat.le_of_ble_eq_true rfl))) (by rw [rangeSize_nat]; simp)
      (fun l m' D' => X5 fun vs n u2 u3 u4 => A3 (D' = (due, listOf vs.toArray n) :: (I, oi) :: D) (DatAll [] vs (dN ((List.range l).foldl (nearAt ways i) du))) (m' = upds emp [(Str.ofString "due", some (.ref due)), (Str.ofString "root", some (.int (i : Nat) t5)), (Str.ofString "word", u2), (Str.ofString "end", u3), (Str.ofString "size", u4), (Str.ofString "ways", some (.ref aw))]))
      ⟨vs, n, _, _, _, rfl, hvs, by walk_at "maps"⟩ ?_ ?_
    · rintro I3 oi3 lt3 l t8 m D' h tk hl Rn2 nx2 rt2 ⟨vs, n, u2, u3, u4, rfl, hvs, rfl⟩ F N off3
      have hId3 : @LT.lt Nat _ due I3 := lt3 _ (.head _)
      rw [show (0 : Int) + (l : Int) = (l : Int) by exact o26] at F
      have hin := nearAt_in W hi (List.range l) _ hin
      have hst3 : (List.range (l + 1)).foldl (nearAt ways i) du = nearAt ways i ((List.range l).foldl (nearAt ways i) du) l := by rw [List.range_succ, List.foldl_append]; rfl
      generalize (List.range l).foldl (nearAt ways i) du = du at hvs hin hst3
      (try k_unmd); k_fold
      k_steps
      refine wpAny_call (words_spec (first := 1) C' (by k_asm) (by k_asm) (by rw [depth_deeper]; exact o23 hroom) (fun q hq => words_few (by exact o180 hwf) (by exact o181 hl hq hwf)) (by exact o182 hl hwf) (by exact o24 hwf) (by exact o183) fun h5 tk5 Z a5 F5 N5 hZ hl5 => ?_)
      dsimp only
      have hZ1 : ∀ p ∈ (I, oi) :: (Z ++ D), p.1 ≠ due := fun p hp => by
        rcases List.mem_cons.mp hp with rfl | hp
        · exact Nat.ne_of_gt hId
        rcases List.mem_append.mp hp with hp | hp
        · exact Nat.ne_of_gt (hZ p hp (due, _) (.tail _ (.head _)))
        · exact od p hp
      have N6 : News g' L' h5 ((due, listOf vs.toArray n) :: (I3, oi3) :: (I, oi) :: (Z ++ D)) := fun p hp => N5 p (by simp only [List.mem_cons, List.mem_append] at hp ⊢; rcases hp with h | h | h | h | h <;> simp [h])
      refine for_ldN C'.hh F5 N6 hl5 (fun p hp => .tail _ (.tail _ (.tail _ (List.mem_append_left _ hp))))
        (fun j m' D' => X4 fun vs n u2 u3 => A3 (D' = (due, listOf vs.toArray n) :: (I3, oi3) :: (I, oi) :: (Z ++ D)) (DatAll [] vs (dN (((wordsN 1 ways.length l).take j).foldl (fun d w => addEnd d (endN ways i w)) du))) (m' = upds emp [(Str.ofString "due", some (.ref due)), (Str.ofString "root", some (.int (i : Nat) t5)), (Str.ofString "word", u2), (Str.ofString "end", u3), (Str.ofString "size", some (.int (l : Nat) t8)), (Str.ofString "ways", some (.ref aw))]))
        (fun j m D' hJ p hp => by obtain ⟨_, _, _, _, rfl, _⟩ := hJ; exact .tail _ (.tail _ (.tail _ (List.mem_append_left _ hp)))) ⟨vs, n, u2, u3, rfl, hvs, by walk_at "maps"⟩ ?_ ?_
      · rintro I2 oi2 lt2 j v m D' h tk hj hv Rn3 nx3 rt3 ⟨vs, n, u2, u3, rfl, hvs, rfl⟩ F N off2
        rw [List.getElem_map] at hv
        obtain ⟨ax, rfl, hx⟩ := dat_ld hv
        have hId2 : @LT.lt Nat _ due I2 := lt2 _ (.head _)
        have hvl := hvs.length
        have hdl := InN.short (foldEnd_in W hi ((wordsN 1 ways.length l).take j) _ hin) hwf
        simp only [List.length_map] at hvl
        (try k_unmd); k_fold
        k_steps
        refine wpAny_call (end_spec (X := Z ++ D) C' (by k_asm) (by k_asm) (hw.mono fun p hp => List.mem_append_right _ (hs p hp)) (hx.mono fun p hp => List.mem_append_left _ hp) (fun p hp => .tail _ (.tail _ (.tail _ (.tail _ hp)))) W hi (by rw [depth_deeper]; exact o23 hroom) fun h7 tk7 t7 F7 N7 => ?_)
        have htk : (wordsN 1 ways.length l).take (j + 1) = (wordsN 1 ways.length l).take j ++ [(wordsN 1 ways.length l)[j]'(by simpa using hj)] := by rw [List.take_add_one, List.getElem?_eq_getElem (by simpa using hj)]; rfl
        have hst : ∀ e, endN ways i ((wordsN 1 ways.length l)[j]'(by simpa using hj)) = e → ((wordsN 1 ways.length l).take (j + 1)).foldl (fun d w => addEnd d (endN ways i w)) du = addEnd (((wordsN 1 ways.length l).take j).foldl (fun d w => addEnd d (endN ways i w)) du) e := by
          intro e he; rw [htk, List.foldl_append, List.foldl_cons, List.foldl_nil, he]
        have offD : ∀ p ∈ (due, listOf vs.toArray n) :: (I3, oi3) :: (I, oi) :: (Z ++ D), p.1 ≠ I2 := off2
        generalize ((wordsN 1 ways.length l).take j).foldl (fun d w => addEnd d (endN ways i w)) du = du at hvs hdl hvl hst
        cases he : endN ways i ((wordsN 1 ways.length l)[j]'(by simpa using hj)) with
        | none =>
          (try dsimp only [optI])
          k_steps
          refine nx3 _ _ _ _ (by k_asm) (by k_asm) offD ⟨vs, n, _, _, rfl, ?_, by walk_at "maps"⟩
          rw [hst _ he]; exact hvs
        | some e =>
          (try dsimp only [optI])
          k_steps
          · rename_i hin
            refine nx3 _ _ _ _ (by k_asm) (by k_asm) offD ⟨vs, n, _, _, rfl, ?_, by walk_at "maps"⟩
            rw [hst _ he, addEnd, if_pos (mem_dN.mp (dec_t hin))]; exact hvs
          · rename_i hin _ _ _ _
            refine nx3 _ _ _ ((due, _) :: (I3, oi3) :: (I, oi) :: (Z ++ D)) (by k_asm) (by k_asm) (fun p hp => ?_) ⟨_, _, _, _, rfl, ?_, by walk_at "maps"⟩
            · rcases List.mem_cons.mp hp with rfl | hp
              · exact Nat.ne_of_lt hId2
              · exact offD p (.tail _ hp)
            · rw [hst _ he, addEnd, if_neg (fun q => dec_f hin (mem_dN.mpr q))]
              unfold dN; rw [List.map_append]
              exact hvs.append (.one (.int _ _))
      · rintro m D' h tk ⟨vs, n, u2, u3, rfl, hvs, rfl⟩ F N
        (try dsimp only)
        k_steps
        refine nx2 _ _ _ ((due, listOf vs.toArray n) :: (I, oi) :: D) F (fun p hp => N p (by simp only [List.mem_cons, List.mem_append] at hp ⊢; rcases hp with h | h | h | h <;> simp [h])) (fun p hp => ?_) ⟨vs, n, _, _, _, rfl, ?_, by walk_at "maps"⟩
        · rcases List.mem_cons.mp hp with rfl | hp
          · exact Nat.ne_of_lt hId3
          · exact off3 p (.tail _ hp)
        · rw [hst3]
          rw [List.take_of_length_le (by simp)] at hvs
          exact hvs
    · rintro m D' h tk ⟨vs, n, u2, u3, u4, rfl, hvs, rfl⟩ F N
      (try dsimp only)
      k_steps
      refine nx1 _ _ _ ((due, listOf vs.toArray n) :: D) F (fun p hp => N p (by simp only [List.mem_cons] at hp ⊢; rcases hp with h | h | h <;> simp [h])) (fun p hp => ?_) ⟨vs, n, _, _, _, _, rfl, ?_, by walk_at "maps"⟩
      · rcases List.mem_cons.mp hp with rfl | hp
        · exact Nat.ne_of_lt hId
        · exact off p (.tail _ hp)
      · rw [hst]; exact hvs
  · rintro m D' h tk ⟨vs, n, u1, u2, u3, u4, rfl, hvs, rfl⟩ F N
    (try dsimp only)
    k_steps
    (try dsimp only)
    exact leaveK_ (by k_asm) (by k_asm) fun kF kN => k _ _ _ _ _ kF kN ld hvs
end
end

section
set_option Elab.async false
set_option maxRecDepth 100000
set_option maxHeartbeats 8000000
noncomputable def modAbs (q : Nat) (f : Int × List Nat → Int × List Nat) (a : Abs) : Abs := a.map fun e => if e.1 = q then (e.1, f e.2) else e
noncomputable def addPred (p : Nat) (a : Abs) (q : Nat) : Abs := modAbs q (fun e => (e.1, e.2 ++ [p])) (getInfo q a)
noncomputable def addP (p : Nat) (preds : List Nat) (a : Abs) : Abs := preds.foldl (addPred p) (modAbs p (fun e => (e.1 + preds.length, e.2)) (getInfo p a))

noncomputable def SuccLe (b : Nat) (a : Abs) : Prop := ∀ e ∈ a, e.2.2.length ≤ b
theorem SuccLe.mono {b c : Nat} {a : Abs} (h : SuccLe b a) (hc : b ≤ c) : SuccLe c a := fun e he => Nat.le_trans (h e he) hc
theorem SuccLe.getInfo {b p : Nat} {a : Abs} (h : SuccLe b a) : SuccLe b (getInfo p a) := by
  unfold Mine.getInfo
  split
  · exact h
  · intro e he
    rcases List.mem_append.mp he with he | he
    · exact h e he
    · rw [List.mem_singleton.mp he]; exact Nat.zero_le _
theorem SuccLe.modAbs {b c q : Nat} {f : Int × List Nat → Int × List Nat} {a : Abs} (h : SuccLe b a) (hf : ∀ e, e.2.length ≤ b → (f e).2.length ≤ c) (hbc : b ≤ c) : SuccLe c (modAbs q f a) := by
  intro e he
  obtain ⟨d, hd, rfl⟩ := List.mem_map.mp he
  have := h d hd
  show (if d.1 = q then (d.1, f d.2) else d).2.2.length ≤ c
  split
  · exact hf _ this
  · exact Nat.le_trans this hbc
theorem SuccLe.addPreds {p : Nat} : ∀ (l : List Nat) {b : Nat} {a : Abs}, SuccLe b a → SuccLe (b + l.length) (l.foldl (addPred p) a)
  | [], _, _, h => h
  | q :: r, b, a, h => by
    have h1 : SuccLe (b + 1) (addPred p a q) := SuccLe.modAbs h.getInfo (fun e he => by simp; assumption) (by exact o2)
    have := SuccLe.addPreds (p := p) r h1
    rw [List.foldl_cons, List.length_cons]
    exact this.mono (by exact o3)
theorem SuccLe.first {b p : Nat} {l : List Nat} {a : Abs} (h : SuccLe b a) : SuccLe b (Mine.modAbs p (fun e => (e.1 + l.length, e.2)) (Mine.getInfo p a)) := SuccLe.modAbs h.getInfo (fun _ he => he) (Nat.le_refl _)
theorem SuccLe.addP {b p : Nat} {l : List Nat} {a : Abs} (h : SuccLe b a) : SuccLe (b + l.length) (addP p l a) := SuccLe.addPreds l h.first
theorem keys_cons {a : Addr} {o : Obj} {l : Led} : Keys ((a, o) :: l) ↔ (∀ p ∈ l, p.1 ≠ a) ∧ Keys l := ⟨fun h => ⟨h.off, h.tail⟩, fun h => h.2.cons h.1⟩
theorem keys_addr {l l' : Led} (h : Keys l) (e : l.map (·.1) = l'.map (·.1)) : Keys l' := by unfold Keys at h ⊢; rw [← e]; exact h

theorem cells_push (w : World) (σ : Sor) (q : Addr × Obj) (X : Led) : (q :: σ.cells w X).Perm (σ.cells w (q :: X)) := by
  unfold Sor.cells
  have h : ∀ (a b c : Addr × Obj) (l r : Led), (q :: a :: b :: c :: (l ++ r)).Perm (a :: b :: c :: (l ++ q :: r)) := fun a b c l r => by
    have h1 : ([q] ++ ([a, b, c] ++ l)).Perm ([a, b, c] ++ l ++ [q]) := List.perm_append_comm
    have := h1.append_right r
    simpa using this
  exact h _ _ _ _ _
theorem Sor.Ok.push {w : World} {σ : Sor} {X : Led} (ok : σ.Ok w X) (q : Addr × Obj) (h : ∀ p ∈ σ.cells w X, p.1 ≠ q.1) : σ.Ok w (q :: X) :=
  ⟨ok.dict, (ok.keys.cons (a := q.1) (o := q.2) h).perm (cells_push w σ q X), ok.lo, ok.good, ok.apart⟩
theorem Sor.Ok.drop {w : World} {σ : Sor} {X : Led} {q : Addr × Obj} (ok : σ.Ok w (q :: X)) : σ.Ok w X ∧ ∀ p ∈ σ.cells w X, p.1 ≠ q.1 := by
  have K : Keys ((q.1, q.2) :: σ.cells w X) := ok.keys.perm (cells_push w σ q X).symm
  exact ⟨⟨ok.dict, K.tail, ok.lo, ok.good, ok.apart⟩, K.off⟩

/-- what a record in focus stands off from -/
structure FocOff (w : World) (σ : Sor) (pre : List Info) (i : Info) (post : List Info) (X : Led) : Prop where
  x1 : σ.self ≠ i.x
  x2 : σ.dx ≠ i.x
  x3 : σ.n2i ≠ i.x
  x4 : i.dx ≠ i.x
  x5 : i.sl ≠ i.x
  x6 : ∀ p ∈ infosL pre ++ infosL post ++ X, p.1 ≠ i.x
  s1 : σ.self ≠ i.sl
  s2 : σ.dx ≠ i.sl
  s3 : σ.n2i ≠ i.sl
  s4 : i.dx ≠ i.sl
  s6 : ∀ p ∈ infosL pre ++ infosL post ++ X, p.1 ≠ i.sl
theorem foc_off {w : World} {σ : Sor} {pre : List Info} {i : Info} {post : List Info} {X : Led} (K : Keys (Sor.foc w σ pre i post X)) : FocOff w σ pre i post X := by
  unfold Sor.foc at K
  simp only [keys_cons, List.forall_mem_cons] at K
  obtain ⟨⟨_, _, a3, a4, a5, _⟩, ⟨_, b3, b4, b5, _⟩, ⟨c3, c4, c5, _⟩, ⟨d4, d5, d6⟩, ⟨e5, _⟩, f6, _⟩ := K
  exact ⟨Ne.symm a3, Ne.symm b3, Ne.symm c3, d4, d5, d6, Ne.symm a5, Ne.symm b5, Ne.symm c5, Ne.symm e5, f6⟩
theorem Sor.Ok.upd {w : World} {σ : Sor} {pre : List Info} {i i' : Info} {post : List Info} {X : Led} (ok : Sor.Ok w { σ with infos := pre ++ i :: post } X) (hp : i'.p = i.p) (hx : i'.x = i.x) (hd : i'.dx = i.dx) (hs : i'.sl = i.sl) (hg : i'.Good) :
    Sor.Ok w { σ with infos := pre ++ i' :: post } X := by
  obtain ⟨d, K, lo, good, apart⟩ := ok
  refine ⟨?_, keys_addr K ?_, lo, fun j hj => ?_, ?_⟩
  · have e : (pre ++ i' :: post).map Info.kv = (pre ++ i :: post).map Info.kv := by simp [Info.kv, hp, hx]
    show σ.o.IsDictOf _ ((pre ++ i' :: post).map Info.kv)
    rw [e]; exact d
  · simp [Sor.cells, infosL, Info.cells, hx, hd, hs]
  · rcases List.mem_append.mp hj with h | h
    · exact good j (List.mem_append_left _ h)
    · rcases List.mem_cons.mp h with rfl | h
      · exact hg
      · exact good j (List.mem_append_right _ (.tail _ h))
  · have e : (pre ++ i' :: post).map Info.p = (pre ++ i :: post).map Info.p := by simp [hp]
    show ((pre ++ i' :: post).map Info.p).Nodup
    rw [e]; exact apart
theorem abs_upd {pre : List Info} {i i' : Info} {post : List Info} {f : Int × List Nat → Int × List Nat} (apart : ((pre ++ i :: post).map Info.p).Nodup) (hi : i'.abs = (i.p, f i.abs.2)) :
    (pre ++ i' :: post).map Info.abs = modAbs i.p f ((pre ++ i :: post).map Info.abs) := by
  simp only [modAbs, List.map_append, List.map_cons, List.map_map]
  rw [List.map_append, List.map_cons, List.nodup_append] at apart
  obtain ⟨_, h2, h3⟩ := apart
  have hne1 : ∀ j ∈ pre, j.p ≠ i.p := fun j hj => h3 _ (List.mem_map_of_mem hj) _ (.head _)
  have hne2 : ∀ j ∈ post, j.p ≠ i.p := fun j hj e => (List.nodup_cons.mp h2).1 (e ▸ List.mem_map_of_mem hj)
  have e1 : pre.map Info.abs = pre.map ((fun e : Nat × Int × List Nat => if e.1 = i.p then (e.1, f e.2) else e) ∘ Info.abs) := List.map_congr_left fun j hj => by
    show j.abs = if j.p = i.p then _ else _
    rw [if_neg (hne1 j hj)]
  have e2 : post.map Info.abs = post.map ((fun e : Nat × Int × List Nat => if e.1 = i.p then (e.1, f e.2) else e) ∘ Info.abs) := List.map_congr_left fun j hj => by
    show j.abs = if j.p = i.p then _ else _
    rw [if_neg (hne2 j hj)]
  rw [← e1, ← e2]
  have e3 : (if i.abs.1 = i.p then (i.abs.1, f i.abs.2) else i.abs) = i'.abs := by rw [hi]; exact if_pos rfl
  rw [e3]

section
variable {w : World} {A : Around} {E : Value → Shared → Prop} {s : Shared} {L : Addr} {h₀ : Heap} {m : Str → Option Value} {D X : Led} {R : Result → Shared → Prop}
theorem for_tupN {Q : Flow → Shared → Prop} {a : Addr} {vs : List Value} {x : Str} {px : Pos} {body : List Stmt} {env : Env} (hh : A.handled = none) (F : Fr h₀ L s.heap m) (N : News h₀ L s.heap D) (hm : (a, tupOf vs) ∈ D)
    (J : Nat → (Str → Option Value) → Led → Prop) (hX : ∀ i m D, J i m D → (a, tupOf vs) ∈ D) (hj : J 0 m D)
    (turn : ∀ I oi, (∀ p ∈ D, p.1 < I) → ∀ i m D h tk, (hi : i < vs.length) → ∀ Rn : Flow → Shared → Prop, NextTo h₀ L I oi (J (i + 1)) s Rn → RetTo Q Rn → J i m D → Fr h₀ L h (fun y => if y = x then some vs[i] else m y) → News h₀ L h ((I, oi) :: D) → (∀ p ∈ D, p.1 ≠ I) →
      wpAny (model PG w) A (execs body env) (PostOf Rn) (LoopErr w A env E) { s with heap := h, toks := tk })
    (done : ∀ m D h tk, J vs.length m D → Fr h₀ L h m → News h₀ L h D → Q .next { s with heap := h, toks := tk })
    (hL : env.locals = L := by rfl) (hk : env.scope.kind = .function := by rfl) (hx : env.kindOf x = some .local := by rfl) :
    wpAny (model PG w) A (pyIter (.ref a)) (fun it s₂ => ForGoal w A (.Name x px) body env Q E it s₂) E s := by
  have hls : s.heap.IsTuple a vs.toArray := ⟨_, (N _ hm).1, rfl, 0, rfl⟩
  have hlt : a < s.heap.objs.size := Heap.lt_size (N _ hm).1
  have lt0 : ∀ p ∈ D, p.1 < s.heap.objs.size := fun p hp => Heap.lt_size (N p hp).1
  refine wpAny_pyIter_tuple hls ?_
  have up : ∀ b o, s.heap.get? b = some o → (s.heap.push { cls := .type "tuple_iterator", data := .fields #[.ref a, .int 0 0] }).get? b = some o := fun b o e => Heap.get?_push_of_some _ e
  refine for_walkQ (src := [(a, tupOf vs)]) (Walks.tuple hh s.heap.objs.size a (Nat.ne_of_lt hlt) vs.toArray) (fun i h st => by obtain ⟨o, e, _⟩ := st.1; exact ⟨o, e⟩) J
    (fun i m D hJ p hp => by rw [List.mem_singleton.mp hp]; exact hX i m D hJ) (F.keeps up) (N.grown up) (next_is_new F) (Ne.symm (Nat.ne_of_lt F.ns.lt)) (fun p hp => Nat.ne_of_lt (Heap.lt_size (N p hp).1))
    ⟨⟨_, Heap.get?_push_size _ rfl, rfl, rfl⟩, hls.at fun o e => up _ o e⟩ hj ?_ ?_ (fun _ => rfl)
  · intro i v m D oi h tk hi hP Rn nx rt hJ F N off
    have hi' : i < vs.length := by simpa using hi
    have : v = vs[i] := by
      have e : vs[i]? = some v := by simpa using hP
      rw [List.getElem?_eq_getElem hi'] at e; exact (Option.some.inj e).symm
    subst this
    exact store_n F N hL hk hx fun h' tk' F' N' => turn _ oi lt0 i m D h' tk' hi' Rn nx rt hJ F' N' off
  · intro m D h tk hJ F N
    rw [List.size_toArray] at hJ
    exact done m D h tk hJ F N

theorem add_spec {σ : Sor} {p : Nat} {key : Value} {vs : List (Nat × Value)} (C : Cx w A h₀ L) (F : Fr h₀ L s.heap m) (N : News h₀ L s.heap (σ.cells w X)) (ok : σ.Ok w X) (V : nmIs p key = true) (hp : p < 6) (hvs : ∀ q ∈ vs, q.1 < 6 ∧ nmIs q.1 q.2 = true) (hz : vs.length ≤ 1000) (hr : σ.rn = .none)
    (hroom : A.depth + 30 < recursionLimit) {b : Nat} (hb : SuccLe b σ.abs) (hbz : b + vs.length ≤ 100000)
    (k : ∀ h' tk o' infos', Fr h₀ L h' m → News h₀ L h' (Sor.cells w { σ with o := o', infos := infos' } X) → Sor.Ok w { σ with o := o', infos := infos' } X → infos'.map Info.abs = addP p (vs.map (·.1)) σ.abs → R (.ok (.ret .none)) { s with heap := h', toks := tk }) :
    codeAny (model PG w) A (.call (.ref 87) ⟨.ref σ.self :: key :: vs.map (·.2), []⟩) R s := by
  have X₀ := C.X; have hPG : PG = Challenge.rw_dm0132_06.row.prog := rfl; revert hPG X₀; k_fill; intro X₀ hPG; clear hPG
  refine' enter_rest C F N ?k6 ?k7 ?k8 ?kP ?kV ?kB ?_ ?c2 ?c3 ?c4 ?c5
  case k6 => k_is
  case k7 => k_is
  case k8 => exact o1 hroom
  case kP => exact bind_rest2 rfl
  case kV => rw [sizeLine_eq]; simp; exact o5 hz
  case kB => exact fun _ => locs rfl
  case c5 => decide
  case c2 => exact rfl
  case c3 => exact rfl
  case c4 => exact rfl
  intro T g' L' h' hm mg mb tk' FG' F' N' lT C' X' T'
  rw [lookup_upds] at F'
  replace F' : Fr g' L' h' (upds emp [(Str.ofString "predecessors", some (.ref T)), (Str.ofString "node", some key), (Str.ofString "self", some (.ref σ.self))]) := F'
  have ok1 := ok.push (T, tupOf (vs.map (·.2))) (fun p hp => Nat.ne_of_lt (lT p hp))
  have N1 : News g' L' h' (σ.cells w ((T, tupOf (vs.map (·.2))) :: X)) := Mine.News.perm N' (cells_push w σ _ X)
  obtain ⟨self, dx, n2i, n, t1, t2, t3, t4, rn, v3, v4, o, infos⟩ := σ
  dsimp only at hr
  subst hr
  clear F N C X₀ N' ok
  (try k_unmd); (try k_fold)
  have N1' := N1
  unfold Sor.cells at N1
  k_steps
  refine wpAny_call (get_nodeinfo (σ := ⟨self, dx, n2i, n, t1, t2, t3, t4, .none, v3, v4, o, infos⟩) (X := (T, tupOf (vs.map (·.2))) :: X) (p := p) C' (by k_asm) (by k_asm) ok1 V hp (by rw [depth_deeper]; exact o6 hroom) fun h5 tk5 o5 pre i post hip F5 N5 ok5 ab5 => ?_)
  clear N1' N1
  obtain ⟨x1, x2, x3, x4, x5, x6, s1, s2, s3, s4, s6⟩ := foc_off (ok5.keys.perm (foc_perm w ⟨self, dx, n2i, n, t1, t2, t3, t4, .none, v3, v4, o5, pre ++ i :: post⟩ pre i post _).symm)
  unfold Sor.foc at N5
  obtain ⟨ip, ix, idx, isl, inp, it, ind, isu, iep⟩ := i
  dsimp only at hip x1 x2 x3 x4 x5 x6 s1 s2 s3 s4 s6 N5 ⊢
  subst hip
  have hvl : (vs.map (·.2)).length = vs.length := List.length_map _
  k_steps
  rename_i h6 F6 N6
  unfold Stopped
  replace F6 : Fr g' L' h6 (upds emp [(Str.ofString "nodeinfo", some (.ref ix)), (Str.ofString "predecessors", some (.ref T)), (Str.ofString "node", some key), (Str.ofString "self", some (.ref self))]) := F6
  generalize hnt : (Value.int (inp + ↑(List.map (fun x => x.snd) vs).length) _ : Value) = nt at N6
  obtain ⟨tt, rfl⟩ : ∃ tt, nt = .int (inp + (vs.map (·.2)).length) tt := ⟨_, hnt.symm⟩
  clear hnt
  have ok6 : Sor.Ok w ⟨self, dx, n2i, n, t1, t2, t3, t4, .none, v3, v4, o5, pre ++ ⟨ip, ix, idx, isl, inp + (vs.map (·.2)).length, tt, ind, isu, iep⟩ :: post⟩ ((T, tupOf (vs.map (·.2))) :: X) :=
    Sor.Ok.upd (σ := ⟨self, dx, n2i, n, t1, t2, t3, t4, .none, v3, v4, o5, []⟩) ok5 rfl rfl rfl rfl (by have := ok5.good ⟨ip, ix, idx, isl, inp, it, ind, isu, iep⟩ (List.mem_append_right _ (.head _)); exact ⟨this.few, this.nd, this.succ⟩)
  have ab6 : (pre ++ ⟨ip, ix, idx, isl, inp + (vs.map (·.2)).length, tt, ind, isu, iep⟩ :: post).map Info.abs = modAbs ip (fun e => (e.1 + (vs.map (·.1)).length, e.2)) (getInfo ip (infos.map Info.abs)) := by
    rw [abs_upd (i := ⟨ip, ix, idx, isl, inp, it, ind, isu, iep⟩) (f := fun e => (e.1 + (vs.map (·.1)).length, e.2)) ok5.apart (by simp [Info.abs]), ab5]; rfl
  have N7 : News g' L' h6 (Sor.cells w ⟨self, dx, n2i, n, t1, t2, t3, t4, .none, v3, v4, o5, pre ++ ⟨ip, ix, idx, isl, inp + (vs.map (·.2)).length, tt, ind, isu, iep⟩ :: post⟩ ((T, tupOf (vs.map (·.2))) :: X)) :=
    Mine.News.perm N6 (foc_perm w ⟨self, dx, n2i, n, t1, t2, t3, t4, .none, v3, v4, o5, pre ++ ⟨ip, ix, idx, isl, inp + (vs.map (·.2)).length, tt, ind, isu, iep⟩ :: post⟩ pre ⟨ip, ix, idx, isl, inp + (vs.map (·.2)).length, tt, ind, isu, iep⟩ post _)
  generalize (pre ++ ⟨ip, ix, idx, isl, inp + (vs.map (·.2)).length, tt, ind, isu, iep⟩ :: post) = infos6 at ok6 ab6 N7
  clear N6 ok5 ab5 x1 x2 x3 x4 x5 x6 s1 s2 s3 s4 s6
  have memT : ∀ (σ : Sor), (T, tupOf (vs.map (·.2))) ∈ σ.cells w ((T, tupOf (vs.map (·.2))) :: X) := fun σ => .tail _ (.tail _ (.tail _ (List.mem_append_right _ (.head _))))
  refine for_tupN C'.hh F6 N7 (memT _)
    (fun j m' D' => X4 fun o' infos' u1 u2 => A4 (D' = Sor.cells w ⟨self, dx, n2i, n, t1, t2, t3, t4, .none, v3, v4, o', infos'⟩ ((T, tupOf (vs.map (·.2))) :: X)) (Sor.Ok w ⟨self, dx, n2i, n, t1, t2, t3, t4, .none, v3, v4, o', infos'⟩ ((T, tupOf (vs.map (·.2))) :: X)) (infos'.map Info.abs = ((vs.map (·.1)).take j).foldl (addPred ip) (modAbs ip (fun e => (e.1 + (vs.map (·.1)).length, e.2)) (getInfo ip (infos.map Info.abs)))) (m' = upds emp [(Str.ofString "pred", u1), (Str.ofString "pred_info", u2), (Str.ofString "nodeinfo", some (.ref ix)), (Str.ofString "predecessors", some (.ref T)), (Str.ofString "node", some key), (Str.ofString "self", some (.ref self))]))
    (fun j m D hJ => by obtain ⟨_, _, _, _, rfl, _⟩ := hJ; exact memT _) ⟨o5, infos6, none, none, rfl, ok6, ab6, by walk_at "maps"⟩ ?_ ?_
  · rintro I oi lt0 j m D' h tk hj Rn1 nx1 rt1 ⟨o', infos', u1, u2, rfl, ok', ab', rfl⟩ F N off
    have hj' : j < vs.length := by simpa using hj
    obtain ⟨hq6, hqn⟩ := hvs vs[j] (List.getElem_mem hj')
    rw [List.getElem_map] at F
    have ok7 := ok'.push (I, oi) off
    have N8 : News g' L' h (Sor.cells w ⟨self, dx, n2i, n, t1, t2, t3, t4, .none, v3, v4, o', infos'⟩ ((I, oi) :: (T, tupOf (vs.map (·.2))) :: X)) := Mine.News.perm N (cells_push w _ _ _)
    clear N N7 F6 
    have N9 := N8
    unfold Sor.cells at N9
    (try k_unmd); k_fold
    k_steps
    refine wpAny_call (get_nodeinfo (σ := ⟨self, dx, n2i, n, t1, t2, t3, t4, .none, v3, v4, o', infos'⟩) (X := (I, oi) :: (T, tupOf (vs.map (·.2))) :: X) (p := vs[j].1) C' (by k_asm) (by k_asm) ok7 hqn hq6 (by rw [depth_deeper]; exact o6 hroom) fun h5 tk5 o5 pre i post hip F5 N5 ok5 ab5 => ?_)
    clear N8 N9
    obtain ⟨x1, x2, x3, x4, x5, x6, s1, s2, s3, s4, s6⟩ := foc_off (ok5.keys.perm (foc_perm w ⟨self, dx, n2i, n, t1, t2, t3, t4, .none, v3, v4, o5, pre ++ i :: post⟩ pre i post _).symm)
    unfold Sor.foc at N5
    have hsl : i.succ.length ≤ 100000 := by
      have h1 : SuccLe (b + vs.length) (infos'.map Info.abs) := by
        rw [ab']; exact (SuccLe.addPreds _ (SuccLe.first hb)).mono (by simp; exact o7)
      have h2 := h1.getInfo (p := vs[j].1)
      have h3 : i.abs ∈ getInfo vs[j].1 (infos'.map Info.abs) := by
        have : i.abs ∈ (pre ++ i :: post).map Info.abs := List.mem_map_of_mem (List.mem_append_right _ (.head _))
        rw [ab5] at this; exact this
      have h4 := h2 _ h3
      simp only [Info.abs, List.length_map] at h4
      exact o8 h4 hbz
    obtain ⟨jp, jx, jdx, jsl, jnp, jt, jnd, jsu, jep⟩ := i
    dsimp only at hip x1 x2 x3 x4 x5 x6 s1 s2 s3 s4 s6 N5 hsl ⊢
    have hvl2 : (jsu.map (·.2)).length = jsu.length := List.length_map _
    k_steps
    rename_i h9 F9 N9
    have hkg : ip < 6 ∧ nmIs ip key = true := ⟨hp, V⟩
    have ok9 : Sor.Ok w ⟨self, dx, n2i, n, t1, t2, t3, t4, .none, v3, v4, o5, pre ++ ⟨jp, jx, jdx, jsl, jnp, jt, jnd, jsu ++ [(ip, key)], jep + 1⟩ :: post⟩ ((I, oi) :: (T, tupOf (vs.map (·.2))) :: X) :=
      Sor.Ok.upd (σ := ⟨self, dx, n2i, n, t1, t2, t3, t4, .none, v3, v4, o5, []⟩) ok5 rfl rfl rfl rfl (by
        have := ok5.good ⟨jp, jx, jdx, jsl, jnp, jt, jnd, jsu, jep⟩ (List.mem_append_right _ (.head _))
        refine ⟨this.few, this.nd, fun q hq => ?_⟩
        rcases List.mem_append.mp hq with h | h
        · exact this.succ q h
        · rw [List.mem_singleton.mp h]; exact hkg)
    have N10 : News g' L' h9 (Sor.cells w ⟨self, dx, n2i, n, t1, t2, t3, t4, .none, v3, v4, o5, pre ++ ⟨jp, jx, jdx, jsl, jnp, jt, jnd, jsu ++ [(ip, key)], jep + 1⟩ :: post⟩ ((I, oi) :: (T, tupOf (vs.map (·.2))) :: X)) :=
      Mine.News.perm (l := Sor.foc w ⟨self, dx, n2i, n, t1, t2, t3, t4, .none, v3, v4, o5, pre ++ ⟨jp, jx, jdx, jsl, jnp, jt, jnd, jsu ++ [(ip, key)], jep + 1⟩ :: post⟩ pre ⟨jp, jx, jdx, jsl, jnp, jt, jnd, jsu ++ [(ip, key)], jep + 1⟩ post ((I, oi) :: (T, tupOf (vs.map (·.2))) :: X))
        (by unfold Sor.foc; simpa using N9) (foc_perm w _ pre _ post _)
    refine nx1 _ _ _ _ F9 (Mine.News.perm N10 (cells_push w _ _ _).symm) ok9.drop.2 ⟨_, _, _, _, rfl, ok9.drop.1, ?_, by walk_at "maps"⟩
    rw [abs_upd (i := ⟨jp, jx, jdx, jsl, jnp, jt, jnd, jsu, jep⟩) (f := fun e => (e.1, e.2 ++ [ip])) ok5.apart (by simp [Info.abs]), ab5]
    have htk : (vs.map (·.1)).take (j + 1) = (vs.map (·.1)).take j ++ [vs[j].1] := by rw [List.take_add_one, List.getElem?_eq_getElem (by simpa using hj')]; simp
    rw [htk, List.foldl_append, List.foldl_cons, List.foldl_nil, ← ab']
    show modAbs jp _ _ = modAbs vs[j].1 _ _
    rw [← hip]; rfl
  · rintro m D' h tk ⟨o', infos', u1, u2, rfl, ok', ab', rfl⟩ F N
    (try dsimp only)
    k_steps
    refine leaveK_ F N fun kF kN => k _ _ o' infos' kF (fun p hp => kN p ?_) ok'.drop.1 ?_
    · exact (cells_push w _ _ _).mem_iff.mp (.tail _ hp)
    · rw [List.take_of_length_le (by simp)] at ab'
      exact ab'
end
end

section
set_option Elab.async false
set_option maxRecDepth 100000
set_option maxHeartbeats 8000000
section
variable {w : World} {A : Around} {E : Value → Shared → Prop} {s : Shared} {L : Addr} {h₀ : Heap} {m : Str → Option Value} {D X : Led} {R : Result → Shared → Prop}
noncomputable abbrev NK6 (w : World) : KeyKind PG w Nat := nmKind PG w
noncomputable abbrev viewOf (d : Addr) : Obj := { cls := .type "dict_items", data := .fields #[.ref d] }

/-- a for over a dict's items, two names -/
theorem for_items {Q : Flow → Shared → Prop} {vw d : Addr} {od : Obj} {kvs : List (Nat × Value)} {xk xv : Str} {pk pv pt : Pos} {x1} {body : List Stmt} {env : Env} (hh : A.handled = none) (F : Fr h₀ L s.heap m) (N : News h₀ L s.heap D) (hvw : (vw, viewOf d) ∈ D) (hm : (d, od) ∈ D) (hod : od.IsDictOf (NK6 w) kvs)
    (J : Nat → (Str → Option Value) → Led → Prop) (hX : ∀ i m D, J i m D → (d, od) ∈ D) (hj : J 0 m D)
    (turn : ∀ I oi, (∀ p ∈ D, p.1 < I) → ∀ i k v key m D h tk, kvs[i]? = some (k, v) → nmIs k key = true → ∀ Rn : Flow → Shared → Prop, NextTo h₀ L I oi (J (i + 1)) s Rn → RetTo Q Rn → J i m D → Fr h₀ L h (fun y => if y = xv then some v else if y = xk then some key else m y) → News h₀ L h ((I, oi) :: D) → (∀ p ∈ D, p.1 ≠ I) →
      wpAny (model PG w) A (execs body env) (PostOf Rn) (LoopErr w A env E) { s with heap := h, toks := tk })
    (done : ∀ m D h tk, J kvs.length m D → Fr h₀ L h m → News h₀ L h D → Q .next { s with heap := h, toks := tk })
    (hL : env.locals = L := by rfl) (hk : env.scope.kind = .function := by rfl) (hxk : env.kindOf xk = some .local := by rfl) (hxv : env.kindOf xv = some .local := by rfl) :
    wpAny (model PG w) A (pyIter (.ref vw)) (fun it s₂ => ForGoal w A (.Tuple [.Name xk pk, .Name xv pv] x1 pt) body env Q E it s₂) E s := by
  subst hL
  obtain ⟨es, ep, hde, hdd, hdk, hdp, hdn⟩ := id hod
  have DA : ∀ h : Heap, h.get? d = some od → h.DictAt (NK6 w) d kvs ep := fun h e => ⟨od, es, e, hde, hdd, hdk, hdp, hdn⟩
  have hp : (env.scope.kind == .class || (env.scope.kind == .module && env.locals != env.globals)) = false := by rw [hk]; rfl
  have lt0 : ∀ p ∈ D, p.1 < s.heap.objs.size := fun p hp => Heap.lt_size (N p hp).1
  refine wpAny_pyIter_items (knd := NK6 w) ⟨_, (N _ hvw).1, rfl, rfl⟩ (DA _ (N _ hm).1) ?_
  have up : ∀ b o, s.heap.get? b = some o → (s.heap.push { cls := .type "dict_itemiterator", data := .fields #[.none, .bool false, .ref d, .int 0 0, .int kvs.length 0, .int ep 0, .none, .none] }).get? b = some o := fun b o e => Heap.get?_push_of_some _ e
  have hIn := next_is_new F
  have hIL : s.heap.objs.size ≠ env.locals := Ne.symm (Nat.ne_of_lt F.ns.lt)
  have hst0 : IsItemIter (s.heap.push { cls := .type "dict_itemiterator", data := .fields #[.none, .bool false, .ref d, .int 0 0, .int kvs.length 0, .int ep 0, .none, .none] }) s.heap.objs.size d 0 kvs.length ep .none .none := Heap.get?_push_size _ rfl
  generalize s.heap.objs.size = I at lt0 hIn hIL hst0 ⊢
  have hdI : d ≠ I := Nat.ne_of_lt (lt0 _ hm)
  refine codeAny_forLoop_any (fun n s₁ => X7 fun i h tk m D ok ov => A7 (n + i = kvs.length) (s₁ = { s with heap := h, toks := tk }) (Fr h₀ env.locals h m) (News h₀ env.locals h D) ((∀ p ∈ D, p.1 ≠ I)) (IsItemIter h I d i kvs.length ep ok ov) (J i m D)) ?_ kvs.length
    ⟨0, _, s.toks, m, D, .none, .none, rfl, rfl, F.keeps up, N.grown up, fun p hp => Nat.ne_of_lt (lt0 p hp), hst0, hj⟩
  rintro n s' ⟨i, H, tk, m', D', ok, ov, hn, rfl, F', N', off, hit, hJ⟩
  have hdm := N' _ (hX _ _ _ hJ)
  have hiH : I < H.objs.size := Heap.lt_size hit
  have hLH : env.locals < H.objs.size := F'.ns.lt
  cases hv : kvs[i]? with
  | none =>
    have hsz : i = kvs.length := by have : kvs.length ≤ i := by simpa using hv
                                    exact o62 hn this
    subst hsz
    refine wpAny_pyNext_items_end hh hit (DA _ hdm.1) hv fun h₁ he₁ => wpAny_execs_nil ?_
    exact done m' D' h₁ tk hJ (Mine.Fr.ext F' he₁ hIL hIn) (Mine.News.ext N' off he₁)
  | some kv =>
    obtain ⟨k, v⟩ := kv
    have hlt : i < kvs.length := (List.getElem?_eq_some_iff.mp hv).1
    refine wpAny_pyNext_items_item hit (DA _ hdm.1) hv fun key h₁ hkey heo ht₁ hz₁ hk₁ => ?_
    refine wpAny_letOwnedTupleGo_items heo fun h₂ he₂ hs₂ => ?_
    replace hs₂ : Heap.SameBut I h₁ h₂ := hs₂
    have ht₂ : h₂.IsTuple H.objs.size #[key, v] := ⟨_, (hs₂.2 _ (Nat.ne_of_gt hiH)).trans ht₁, rfl, _, rfl⟩
    have hz₂ : h₂.objs.size = H.objs.size + 1 := hs₂.1.trans hz₁
    refine wpAny_assign_Tuple hh ht₂ rfl rfl fun h₃ hx₃ => ?_
    replace hx₃ : Heap.ExtBut h₂.objs.size h₂ h₃ := hx₃
    have old₃ : ∀ b o, b < H.objs.size → h₂.get? b = some o → h₃.get? b = some o := fun b o hb x => hx₃ b o (by rw [hz₂]; exact Nat.ne_of_lt (Nat.lt_succ_of_lt hb)) x
    have up₃ : ∀ b o, b ∉ [I] → H.get? b = some o → h₃.get? b = some o := fun b o hb x => old₃ b o (Heap.lt_size x) (hs₂.extBut b o (by simpa using hb) (hk₁ b o (by simpa using hb) x))
    have F₃ := fr_but F' up₃ hIL hIn
    obtain ⟨oi, hoi, hback⟩ : ∃ oi, h₂.get? I = some oi ∧ ∀ h : Heap, h.get? I = some oi → IsItemIter h I d (i + 1) kvs.length ep key v := ⟨_, he₂, fun _ e => e⟩
    have N₃ : News h₀ env.locals h₃ ((I, oi) :: D') := fun p hp => by
      rcases List.mem_cons.mp hp with rfl | hp
      · exact ⟨old₃ _ _ hiH hoi, hIL, hIn⟩
      · exact ⟨up₃ _ _ (by simpa using off p hp) (N' p hp).1, (N' p hp).2⟩
    show wpAny _ _ (do holding [v] (assign (.Name xk pk) env key); do holding [] (assign (.Name xv pv) env v); pure ()) _ _ _
    refine wpAny_bind (wpAny_holding (store_n F₃ N₃ rfl hk hxk fun h₄ tk₄ F₄ N₄ => ?_))
    refine wpAny_bind (wpAny_holding (store_n F₄ N₄ rfl hk hxv fun h₅ tk₅ F₅ N₅ => wpAny_pure ?_))
    refine wpAny_mono (turn I oi lt0 i k v key m' D' h₅ tk₅ hv hkey _ NextTo.loop RetTo.loop hJ F₅ N₅ off) (fun fl s₃ h₃ => ?_) fun _ _ e => e
    have go : NextOk' h₀ env.locals I oi (J (i + 1)) s s₃ → ∃ k', k' < n ∧ (X7 fun i h tk m D ok ov => A7 (k' + i = kvs.length) (s₃ = { s with heap := h, toks := tk }) (Fr h₀ env.locals h m) (News h₀ env.locals h D) ((∀ p ∈ D, p.1 ≠ I)) (IsItemIter h I d i kvs.length ep ok ov) (J i m D)) := by
      rintro ⟨h3, tk3, m3, D3, e, F3, N3, off3, J3⟩
      exact ⟨n - 1, by exact o47 hlt hn, i + 1, h3, tk3, m3, D3, key, v, by exact o48 hlt hn, e, F3, fun p hp => N3 p (.tail _ hp), off3, hback _ (N3 _ (.head _)).1, J3⟩
    cases fl with
    | next => exact go h₃
    | cont => exact go h₃
    | brk => exact h₃
    | ret v => exact h₃
end
end

section
set_option Elab.async false
set_option maxRecDepth 100000
set_option maxHeartbeats 8000000
set_option genInjectivity false in
set_option genSizeOf false in
structure GRow where
  p : Nat
  a : Nat
  n : Nat
  vs : List (Nat × Value)
structure GRow.Good (X : Led) (r : GRow) : Prop where
  mem : (r.a, listOf (r.vs.map (·.2)).toArray r.n) ∈ X
  few : r.p < 6
  short : r.vs.length ≤ 100
  vs : ∀ q ∈ r.vs, q.1 < 6 ∧ nmIs q.1 q.2 = true
structure GraphIn (w : World) (X : Led) (ag : Addr) (og : Obj) (g : List GRow) : Prop where
  mem : (ag, og) ∈ X
  dict : og.IsDictOf (NK6 w) (g.map fun r => (r.p, .ref r.a))
  lo : (ag == sysModules) = false
  rows : ∀ r ∈ g, r.Good X
noncomputable def GRow.abs (r : GRow) : Nat × List Nat := (r.p, r.vs.map (·.1))
noncomputable def initP (g : List (Nat × List Nat)) : Abs := g.foldl (fun a r => addP r.1 r.2 a) []
theorem dict_nil {w : World} {K : Type} [DecidableEq K] {knd : KeyKind PG w K} {o : Obj} (h : o.IsDictOf knd []) : o.IsDictOf (NK6 w) [] := by
  obtain ⟨es, ep, he, hd, _, hp, _⟩ := h
  have : es.toList = [] := by
    cases hq : es.toList with
    | nil => rfl
    | cons a b => rw [hq] at hp; cases hp
  have hes : es = #[] := by simpa using this
  subst hes
  exact ⟨#[], ep, he, hd, fun e h => by simp at h, .nil, List.nodup_nil⟩
theorem init_cells {w : World} {h₀ h : Heap} {L x dx n2i vw ag : Addr} {o : Obj} {D : Led} {t1 t2 t3 t4 t5 t6 : Tok} (N : News h₀ L h ((vw, viewOf ag) :: (n2i, o) :: (x, instObj 137 dx) :: (dx, dictOf (selfEs w t1 t2 t3 t4 n2i .none (.int 0 t5) (.int 0 t6)) 4) :: D)) :
    ∃ t1 t2 t3 t4 t5 t6, News h₀ L h (Sor.cells w ⟨x, dx, n2i, 4, t1, t2, t3, t4, .none, .int 0 t5, .int 0 t6, o, []⟩ ((vw, viewOf ag) :: D)) := by
  refine ⟨t1, t2, t3, t4, t5, t6, fun p hp => N p ?_⟩
  simp only [Sor.cells, infosL_nil, List.nil_append, List.mem_cons] at hp ⊢
  rcases hp with h | h | h | h | h
  · exact .inr (.inr (.inl h))
  · exact .inr (.inr (.inr (.inl h)))
  · exact .inr (.inl h)
  · exact .inl h
  · exact .inr (.inr (.inr (.inr h)))
theorem initP_succ : ∀ (g : List GRow), (∀ r ∈ g, r.vs.length ≤ 100) → SuccLe (100 * g.length) (initP (g.map GRow.abs)) := by
  intro g
  have key : ∀ (g : List GRow) (a : Abs) (b : Nat), (∀ r ∈ g, r.vs.length ≤ 100) → SuccLe b a → SuccLe (b + 100 * g.length) ((g.map GRow.abs).foldl (fun a r => addP r.1 r.2 a) a) := by
    intro g
    induction g with
    | nil => intro a b _ h; exact h
    | cons r g ih =>
      intro a b hs h
      have h1 : SuccLe (b + (r.vs.map (·.1)).length) (addP r.p (r.vs.map (·.1)) a) := h.addP
      have h2 := ih _ (b + 100) (fun q hq => hs q (.tail _ hq)) (h1.mono (by simp; have := hs r (.head _); omega))
      rw [List.map_cons, List.foldl_cons]
      exact h2.mono (by simp; exact o244)
  intro hs
  have := key g [] 0 hs (fun _ h => nomatch h)
  rwa [Nat.zero_add] at this
section
variable {w : World} {A : Around} {E : Value → Shared → Prop} {s : Shared} {L : Addr} {h₀ : Heap} {m : Str → Option Value} {D X : Led} {R : Result → Shared → Prop} {Q : Value → Shared → Prop}
theorem MethodCall_star {o : PySem.Expr} {name : Str} {apos pos : Pos} {args : List PySem.Expr} {env : Env} (h : wpAny (model PG w) A (eval o env) (fun ov s₁ => wpAny (model PG w) A (getAttr ov name true) (fun f s₂ => wpAny (model PG w) A (callWith pos f [] (backTo pos (starEach args env)) []) Q E s₂) E s₁) E s)
    (hb : attributeBase o name env (eval o env) = eval o env) (hf : methodCallForm (args.length + 0) (backTo pos (starEach args env)) [] = false) : wpAny (model PG w) A (eval (.Call (.Attribute o name apos) args [] pos) env) Q E s := by
  rw [arm_eval_Call, hb]
  refine wpAny_bind (wpAny_mono h (fun ov s₁ h₁ => wpAny_bind (wpAny_standAt ?_)) fun _ _ e => e)
  unfold methodCall
  show wpAny _ _ (holding [ov] (calleeOf (methodCallForm (args.length + 0) (backTo pos (starEach args env)) []) o env ov name) >>= _) _ _ _
  rw [hf]
  refine wpAny_bind (wpAny_holding (wpAny_bind (wpAny_mono h₁ (fun f s₂ h₂ => wpAny_pure ?_) fun _ _ e => e)))
  show wpAny _ _ (methodCallPos (methodCallForm (args.length + 0) (backTo pos (starEach args env)) []) o env apos pos >>= _) _ _ _
  rw [hf]
  exact wpAny_bind (wpAny_pure h₂)
theorem callWith_MS2 {K : Frag} {q g : Addr} {self : Value} {pos : Pos} {e : PySem.Expr} {rest : List PySem.Expr} {env : Env} (_X : K.In h₀) (_N : News h₀ L s.heap D) (_q : (q, methodObj (.ref g) self) ∈ D) (hf : fnIn K g = true) (h : wpAny (model PG w) A (spliced (backTo pos (starEach (e :: rest) env))) (fun vs s₁ => MethP K q g self s₁.heap ∧ wpAny (model PG w) A (call (.ref q) ([] ++ vs)) Q E s₁) E s)
    (he : starEach (e :: rest) env = (false, eval e env) :: starEach rest env := by rfl) (hst : (backTo pos (starEach rest env)).any (·.1) = true := by rfl) : wpAny (model PG w) A (callWith pos (.ref q) [] (backTo pos (starEach (e :: rest) env)) []) Q E s := by
  rw [he] at h ⊢
  exact ks_call (by show (false || (backTo pos (starEach rest env)).any (·.1)) = true; rw [hst]; rfl) (keeps_M hf) (Calls.evalArgs_plain h)
theorem callWith_MS1 {K : Frag} {q g : Addr} {self : Value} {pos p : Pos} {e : PySem.Expr} {env : Env} (_X : K.In h₀) (_N : News h₀ L s.heap D) (_q : (q, methodObj (.ref g) self) ∈ D) (hf : fnIn K g = true) (h : wpAny (model PG w) A (eval e env) (fun v s₁ => StarOf (model PG w) A E v (fun vs s₂ => MethP K q g self s₂.heap ∧ wpAny (model PG w) A (call (.ref q) ([] ++ vs)) Q E s₂) s₁) E s)
    (he : starEach [.Starred e p] env = [(true, eval e env)] := by rfl) : wpAny (model PG w) A (callWith pos (.ref q) [] (backTo pos (starEach [.Starred e p] env)) []) Q E s := by
  rw [he]
  exact ks_call rfl (keeps_M hf) (ks_lone h)
theorem items_at {d : Addr} {od : Obj} {kvs : List (Nat × Value)} (F : Fr h₀ L s.heap m) (N : News h₀ L s.heap D) (hm : (d, od) ∈ D) (hd : od.IsDictOf (NK6 w) kvs) (lo : (d == sysModules) = false)
    (h : ∀ v h', Fr h₀ L h' m → News h₀ L h' ((v, viewOf d) :: D) → (∀ p ∈ D, p.1 < v) → Q (.ref v) { s with heap := h' }) : wpAny (model PG w) A (call (.builtin "dict.items") [.ref d]) Q E s :=
  have hD := kda_dict N hm hd
  call_meetsIn PySem.F.slot_dict_items hD.typeIs PySem.F.entry_dict_items (PySem.F.args_dict_items_1 _) (meets_dict_items (NK6 w) d lo) ⟨⟨kvs, hD⟩, h _ _ (F.push _) (News.push F N _ rfl) fun p hp => Heap.lt_size (N p hp).1⟩

local macro_rules | `(tactic| walk_at "getMethod ref") => `(tactic| (k_here; (with_reducible show wpAny _ _ (getMethod (Value.ref _) (Str.ofString "items") _) _ _ _); refine kob_method PySem.F.slot_dict_items PySem.F.type_dict_items (by k_asm) (by k_mem) (by assumption) ?_))
local macro_rules | `(tactic| walk_at "call builtin:dict.items") => `(tactic| (k_here; refine items_at (by k_asm) (by k_asm) (by k_mem) (by assumption) (by assumption) ?_; intro vw' h' F' N' lv'))
local macro_rules | `(tactic| walk_at "eval Call Attribute") => `(tactic| (k_here; k_dflt (refine MethodCall_star ?_ rfl rfl)))
local macro_rules | `(tactic| walk_at "callWith ref") => `(tactic| (k_here; (with_reducible show wpAny _ _ (callWith _ (Value.ref _) [] (backTo _ (starEach (_ :: _ :: _) _)) []) _ _ _); k_dflt (refine callWith_MS2 (by k_asm) (by k_asm) (by k_mem) (by k_is) ?_; k_whole)))
local macro_rules | `(tactic| walk_at "StarOf ref") => `(tactic| (k_here; k_dflt (refine star_seq (by k_asm) (by k_asm) (by k_mem) (by exact rfl) (by exact rfl) (by first | exact .inl rfl | exact .inr rfl) (by exact List.toList_toArray) (by rw [sizeLine_eq]; simp; omega) ?_; k_whole); intro h' F' N'; try dsimp only [List.nil_append, List.cons_append]))
local macro_rules | `(tactic| walk_at "exec For Tuple Call cons nil") => `(tactic| (k_here; k_dflt (refine wpAny_For ?_)))
theorem new_sorter {ag : Addr} {og : Obj} {g : List GRow} (C : Cx w A h₀ L) (F : Fr h₀ L s.heap m) (N : News h₀ L s.heap D) (G : GraphIn w D ag og g) (hg : g.length ≤ 6) (KD : Keys D) (hroom : A.depth + 60 < recursionLimit)
    (hQ : ∀ (σ : Sor) h' tk t5 t6, Fr h₀ L h' m → News h₀ L h' (σ.cells w D) → σ.Ok w D → σ.rn = .none → σ.v3 = .int 0 t5 → σ.v4 = .int 0 t6 → σ.n = 4 → σ.abs = initP (g.map GRow.abs) → Q (.ref σ.self) { s with heap := h', toks := tk }) :
    wpAny (model PG w) A (call (.ref 137) [.ref ag]) Q E s := by
  have X₀ := C.X; have hPG : PG = Challenge.rw_dm0132_06.row.prog := rfl; revert hPG X₀; k_fill; intro X₀ hPG; clear hPG
  refine' call_cls F X₀ N ?k4 ?k5 ?k6 ?_
  case k4 => k_is
  case k5 => k_is
  case k6 => k_is
  intro x dx h' F' N' l1 l2
  have d1 : ∀ p ∈ D, p.1 ≠ dx := fun p hp => Nat.ne_of_lt (l1 p hp)
  have d2 : ∀ p ∈ D, p.1 ≠ x := fun p hp => Nat.ne_of_lt (Nat.lt_trans (l1 p hp) l2)
  replace l2 := ltN l2
  refine' enterU (ents := [(Str.ofString "graph", some (.ref ag)), (Str.ofString "self", some (.ref x))]) C.under F' N' ?k6 ?k7 ?kr ?k9 ?ke ?kB ?_ ?c2 ?c3 ?c4 ?c5
  case k6 => k_is
  case k7 => k_is
  case kr => rw [depth_under]; exact o241 hroom
  case k9 => exact binds_K (C.X.keeps F'.keep) rfl (by k_is) rfl rfl rfl
  case ke => exact rfl
  case c5 => decide
  case kB => exact locs rfl
  case c2 => exact rfl
  case c3 => exact rfl
  case c4 => exact rfl
  intro g' L' h1 hm mg mb tk0 FG' F1 N1 C' X' T'
  clear F X₀ N F' N'
  obtain ⟨Gm, Gd, Gl, Gr⟩ := G
  (try k_unmd); (try k_fold)
  k_steps
  rename_i n2i _ o1 lo1 hs1 _ _ _ ll1 _ _ _ _ _ _ vw h2 F2 N2 lv
  unfold Stopped
  have hd1 : o1.IsDictOf (NK6 w) [] := dict_nil hs1
  clear hs1
  obtain ⟨t1, t2, t3, t4, t5, t6, N3⟩ := init_cells N2
  have lvw := fun p hp => Nat.ne_of_lt (lv p (List.Mem.tail _ (List.Mem.tail _ (List.Mem.tail _ hp))))
  have lv1 : @LT.lt Nat _ n2i vw := lv _ (.head _)
  have ok3 : Sor.Ok w ⟨x, dx, n2i, 4, t1, t2, t3, t4, .none, .int 0 t5, .int 0 t6, o1, []⟩ ((vw, viewOf ag) :: D) := by
    refine ⟨hd1, ?_, lo1, (fun _ h => nomatch h), List.nodup_nil⟩
    have dn : ∀ p ∈ D, p.1 ≠ n2i := fun p hp => Nat.ne_of_lt (allLt_mem ll1.2.2 p hp)
    unfold Sor.cells
    rw [infosL_nil, List.nil_append]
    simp only [keys_cons, List.forall_mem_cons]
    have hx1 := ll1.1; have hx2 := ll1.2.1
    exact ⟨⟨neN (by exact o83 l2), neN (by exact o64 ll1.1), neN (by exact o81 ll1.1 lv1), d2⟩, ⟨neN (by exact o64 ll1.2.1), neN (by exact o81 ll1.2.1 lv1), d1⟩, ⟨neN (by exact o64 lv1), dn⟩, lvw, KD⟩
  clear N2
  refine for_items (od := og) (kvs := g.map fun r => (r.p, .ref r.a)) C'.hh F2 N3 (.tail _ (.tail _ (.tail _ (.head _)))) (.tail _ (.tail _ (.tail _ (.tail _ Gm)))) Gd
    (fun j m' D' => X4 fun o' infos' u1 u2 => A4 (D' = Sor.cells w ⟨x, dx, n2i, 4, t1, t2, t3, t4, .none, .int 0 t5, .int 0 t6, o', infos'⟩ ((vw, viewOf ag) :: D)) (Sor.Ok w ⟨x, dx, n2i, 4, t1, t2, t3, t4, .none, .int 0 t5, .int 0 t6, o', infos'⟩ ((vw, viewOf ag) :: D)) (infos'.map Info.abs = initP ((g.take j).map GRow.abs)) (m' = upds emp [(Str.ofString "node", u1), (Str.ofString "predecessors", u2), (Str.ofString "graph", some (.ref ag)), (Str.ofString "self", some (.ref x))]))
    (fun j m D hJ => by obtain ⟨_, _, _, _, rfl, _⟩ := hJ; exact .tail _ (.tail _ (.tail _ (List.mem_append_right _ (.tail _ Gm))))) ⟨o1, [], none, none, rfl, ok3, rfl, by walk_at "maps"⟩ ?_ ?_
  · rintro I oi lt0 j kk v key m D' h tk hj hkey Rn1 nx1 rt1 ⟨o', infos', u1, u2, rfl, ok', ab', rfl⟩ F N off
    have hj' : j < g.length := by have := (List.getElem?_eq_some_iff.mp hj).1; simpa using this
    rw [List.getElem?_map, List.getElem?_eq_getElem hj'] at hj
    obtain ⟨hr1, hr2⟩ := Prod.mk.inj (Option.some.inj hj)
    generalize hrj : g[j] = r at hr1 hr2
    subst hr1 hr2
    obtain ⟨rm, rf, rs, rv⟩ := Gr r (hrj ▸ List.getElem_mem hj')
    have ok7 := ok'.push (I, oi) off
    have N8 : News g' L' h (Sor.cells w ⟨x, dx, n2i, 4, t1, t2, t3, t4, .none, .int 0 t5, .int 0 t6, o', infos'⟩ ((I, oi) :: (vw, viewOf ag) :: D)) := Mine.News.perm N (cells_push w _ _ _)
    clear N
    have N9 := N8
    unfold Sor.cells at N9
    (try k_unmd); k_fold
    k_steps
    rename_i q7 h7 F7 N7 l7 h8 F8 N8
    refine call_meth (by k_asm) (by k_mem) ?_
    rw [List.append_nil]
    have l8 : ∀ p ∈ Sor.cells w ⟨x, dx, n2i, 4, t1, t2, t3, t4, .none, .int 0 t5, .int 0 t6, o', infos'⟩ ((I, oi) :: (vw, viewOf ag) :: D), @LT.lt Nat _ p.1 q7 := allLt_mem (l := Sor.cells w ⟨x, dx, n2i, 4, t1, t2, t3, t4, .none, .int 0 t5, .int 0 t6, o', infos'⟩ ((I, oi) :: (vw, viewOf ag) :: D)) l7
    have ok8 := ok7.push (q7, methodObj (.ref 87) (.ref x)) fun p hp => Nat.ne_of_lt (l8 p hp)
    have hsb : SuccLe (100 * j) (infos'.map Info.abs) := by
      rw [ab']
      refine (initP_succ (g.take j) fun r hr => ?_).mono ?_
      · exact (Gr r (List.mem_of_mem_take hr)).short
      · rw [List.length_take]; exact Nat.mul_le_mul_left _ (Nat.min_le_left _ _)
    refine add_spec (σ := ⟨x, dx, n2i, 4, t1, t2, t3, t4, .none, .int 0 t5, .int 0 t6, o', infos'⟩) (X := (q7, methodObj (.ref 87) (.ref x)) :: (I, oi) :: (vw, viewOf ag) :: D) (p := r.p) C' F8 (Mine.News.perm N8 (cells_push w _ _ _)) ok8 hkey rf rv (by exact o131 rs) rfl ?_ hsb ?_ fun h9 tk9 o9 infos9 F9 N9 ok9 ab9 => ?_
    · rw [depth_deeper, depth_under]; exact o245 hroom
    · have : j ≤ 5 := by exact o246 hj' hg
      exact o247 this rs
    dsimp only
    k_steps
    have ok10 := ok9.drop.1.drop
    refine nx1 _ _ _ (Sor.cells w ⟨x, dx, n2i, 4, t1, t2, t3, t4, .none, .int 0 t5, .int 0 t6, o9, infos9⟩ ((vw, viewOf ag) :: D)) F9 (fun p hp => N9 p ?_) ok10.2 ⟨o9, infos9, _, _, rfl, ok10.1, ?_, by walk_at "maps"⟩
    · exact (cells_push w _ _ _).mem_iff.mp (.tail _ ((cells_push w _ _ _).mem_iff.mp hp))
    · rw [ab9]
      have htk : g.take (j + 1) = g.take j ++ [r] := by rw [List.take_add_one, List.getElem?_eq_getElem hj', hrj]; rfl
      rw [htk, List.map_append, initP, List.foldl_append]
      show addP r.p _ (infos'.map Info.abs) = _
      rw [ab']; rfl
  · rintro m D' h tk ⟨o', infos', u1, u2, rfl, ok', ab', rfl⟩ F N
    (try dsimp only)
    k_steps
    refine leaveK_ F N fun kF kN => ⟨rfl, ?_⟩
    refine hQ ⟨x, dx, n2i, 4, t1, t2, t3, t4, .none, .int 0 t5, .int 0 t6, o', infos'⟩ _ _ t5 t6 kF (fun p hp => kN p ?_) ok'.drop.1 rfl rfl rfl rfl ?_
    · exact (cells_push w _ _ _).mem_iff.mp (.tail _ hp)
    · rw [List.take_of_length_le (by simp)] at ab'
      exact ab'
end
end

section
set_option Elab.async false
set_option maxRecDepth 100000
set_option maxHeartbeats 8000000
theorem p_inj : ∀ {is : List Info}, (is.map Info.p).Nodup → ∀ {i j : Info}, i ∈ is → j ∈ is → j.p = i.p → j = i
  | [], _, _, _, h, _, _ => nomatch h
  | a :: r, hn, i, j, hi, hj, e => by
    rw [List.map_cons, List.nodup_cons] at hn
    rcases List.mem_cons.mp hi with h1 | h1 <;> rcases List.mem_cons.mp hj with h2 | h2
    · rw [h1, h2]
    · subst h1; exact absurd (e ▸ List.mem_map_of_mem h2) hn.1
    · subst h2; exact absurd (e.symm ▸ List.mem_map_of_mem h1) hn.1
    · exact p_inj hn.2 h1 h2 e
theorem valueAt_of {is : List Info} (apart : (is.map Info.p).Nodup) {i : Info} (hi : i ∈ is) : valueAt (is.map Info.kv) i.p = some (.ref i.x) := by
  cases h : valueAt (is.map Info.kv) i.p with
  | none => exact absurd rfl (valueAt_kv_none h i hi)
  | some v =>
    obtain ⟨j, hj, hp, rfl⟩ := valueAt_kv h
    rw [p_inj apart hi hj hp]
theorem focus {is : List Info} {p : Nat} (apart : (is.map Info.p).Nodup) (h : hasP (is.map Info.abs) p = true) : ∃ pre i post, is = pre ++ i :: post ∧ i.p = p ∧ valueAt (is.map Info.kv) p = some (.ref i.x) := by
  obtain ⟨i, hi, rfl⟩ := abs_hasP.mp h
  obtain ⟨pre, post, e⟩ := List.append_of_mem hi
  exact ⟨pre, i, post, e, rfl, valueAt_of apart hi⟩
theorem hasP_mod {a : Abs} {p q : Nat} {f : Int × List Nat → Int × List Nat} : hasP (modAbs q f a) p = hasP a p := by
  unfold hasP modAbs
  rw [List.any_map]
  congr 1
  funext e
  show ((if e.1 = q then (e.1, f e.2) else e).1 == p) = _
  split <;> rfl
noncomputable def outAll (ps : List Nat) (a : Abs) : Abs := ps.foldl (fun a q => modAbs q (fun e => (-1, e.2)) a) a
theorem hasP_out {p : Nat} : ∀ {ps : List Nat} {a : Abs}, hasP (outAll ps a) p = hasP a p
  | [], _ => rfl
  | q :: r, a => by unfold outAll; rw [List.foldl_cons]; exact (hasP_out (ps := r)).trans hasP_mod
section
variable {w : World} {A : Around} {E : Value → Shared → Prop} {s : Shared} {L : Addr} {h₀ : Heap} {m : Str → Option Value} {D X : Led} {R : Result → Shared → Prop} {Q : Value → Shared → Prop}
theorem clear_u {a : Addr} {its : List Value} {n : Nat} {D' : Nat → Led} (F : Fr h₀ L s.heap m) (N : News h₀ L s.heap D) (U : ∀ n', Upd a (listOf its.toArray n) (listOf ([] : List Value).toArray n') D (D' n')) (hz : its.length ≤ 1000000)
    (h : ∀ h' n', Fr h₀ L h' m → News h₀ L h' (D' n') → Q .none { s with heap := h' }) : wpAny (model PG w) A (call (.builtin "list.clear") [.ref a]) Q E s := by
  obtain ⟨n', hn'⟩ : ∃ n', (listOf its.toArray n).mapSeq (fun _ => (#[] : Array Value)) = listOf ([] : List Value).toArray n' := ⟨_, rfl⟩
  obtain ⟨pre, post, rfl, e2, h1, h2⟩ := (U n').split
  have z := N (a, listOf its.toArray n) (List.mem_append.mpr (.inr (.head _)))
  refine call_meets PySem.F.slot_list_clear ⟨_, z.1, rfl⟩ PySem.F.entry_list_clear (PySem.F.args_list_clear_1 _) (PySem.AutoSeq1.list_clear_list_0 a its.toArray n (by simp [sizeLine_eq]; exact o21 hz)) ⟨z.1, h _ n' (F.change (Heap.SameBut.update ..) z.2.1 z.2.2) ?_⟩
  rw [e2]
  intro p hp
  rcases List.mem_append.mp hp with q | q
  · have := N p (List.mem_append_left _ q); exact ⟨(Heap.get?_update_ne _ _ _ _ (h1 p q)).trans this.1, this.2⟩
  · rcases List.mem_cons.mp q with rfl | q
    · refine ⟨?_, z.2⟩
      rw [Heap.get?_update_self _ z.1 rfl]
      exact congrArg some hn'
    · have := N p (List.mem_append_right _ (.tail _ q)); exact ⟨(Heap.get?_update_ne _ _ _ _ (h2 p q)).trans this.1, this.2⟩
theorem sub_d {d : Addr} {od : Obj} {kvs : List (Nat × Value)} {key v : Value} {k : Nat} {value slice : PySem.Expr} (N : News h₀ L s.heap D) (hp : (d, od) ∈ D) (hd : od.IsDictOf (NK6 w) kvs) (hkey : nmIs k key = true) (hl : valueAt kvs k = some v) (h : ∀ tk, Q v { s with toks := tk })
    (hs : subscripted slice false (.ref d) key = operate [.ref d, key] (getItem (.ref d) key) := by with_unfolding_all rfl) : wpAny (model PG w) A (subscriptTail value slice (.ref d) key) Q E s :=
  kdt_tail N hp hd (kdt_getItem N hp hd hkey hl (h _)) hs

local macro_rules | `(tactic| walk_at "subscriptTail Name Name ref") => `(tactic| (k_here; k_dflt (refine sub_d (by k_asm) (by k_mem) (by assumption) (by assumption) (by assumption) ?_); intro tk'))
local macro_rules | `(tactic| walk_at "call builtin:list.clear") => `(tactic| (k_here; k_dflt (refine clear_u (by k_asm) (by k_asm) (by (intro _; k_upd)) (by walk_at "num") ?_); intro h' n' F' N'))
local macro_rules | `(tactic| walk_at "call type:tuple") => `(tactic| (k_here; k_dflt (refine kde_tupleOf (by k_asm) (by k_asm) (by exact News.isList (by k_asm) (by k_mem)) (by simp; omega) (by exact List.toList_toArray) ?_; k_whole); intro T' h' F' N' lT'))
theorem get_ready_spec {σ : Sor} {ar n : Nat} {rd : List (Nat × Value)} {a : Int} {t : Tok} (C : Cx w A h₀ L) (F : Fr h₀ L s.heap m) (N : News h₀ L s.heap (σ.cells w ((ar, listOf (rd.map (·.2)).toArray n) :: X))) (ok : σ.Ok w ((ar, listOf (rd.map (·.2)).toArray n) :: X)) (hr : σ.rn = .ref ar) (h3 : σ.v3 = .int a t) (h4 : σ.n = 4)
    (hrd : ∀ q ∈ rd, nmIs q.1 q.2 = true ∧ hasP σ.abs q.1 = true) (hz : rd.length ≤ 1000) (hroom : A.depth + 30 < recursionLimit)
    (k : ∀ h' tk T n' t' infos', Fr h₀ L h' m → News h₀ L h' (Sor.cells w { σ with v3 := .int (a + rd.length) t', infos := infos' } ((T, tupOf (rd.map (·.2))) :: (ar, listOf ([] : List Value).toArray n') :: X)) →
      Sor.Ok w { σ with v3 := .int (a + rd.length) t', infos := infos' } ((T, tupOf (rd.map (·.2))) :: (ar, listOf ([] : List Value).toArray n') :: X) → infos'.map Info.abs = outAll (rd.map (·.1)) σ.abs → R (.ok (.ret (.ref T))) { s with heap := h', toks := tk }) :
    codeAny (model PG w) A (.call (.ref 99) ⟨[.ref σ.self], []⟩) R s := by
  have X₀ := C.X; have hPG : PG = Challenge.rw_dm0132_06.row.prog := rfl; revert hPG X₀; k_fill; intro X₀ hPG; clear hPG
  refine' enterU (ents := [(Str.ofString "self", some (.ref σ.self))]) C F N ?k6 ?k7 ?kr ?k9 ?ke ?kB ?_ ?c2 ?c3 ?c4 ?c5
  case k6 => k_is
  case k7 => k_is
  case kr => exact o1 hroom
  case k9 => exact BindsTo.of_eq rfl
  case ke => exact rfl
  case c5 => decide
  case kB => exact locs rfl
  case c2 => exact rfl
  case c3 => exact rfl
  case c4 => exact rfl
  intro g' L' h' hm mg mb tk0 FG' F' N' C' X' T'
  obtain ⟨self, dx, n2i, nn, t1, t2, t3, t4, rn, v3, v4, o, infos⟩ := σ
  dsimp only at hr h3 h4
  subst hr h3 h4
  clear F N C X₀
  have N1 := N'
  unfold Sor.cells at N1
  dsimp only at N1
  (try k_unmd); (try k_fold)
  k_steps
  rename_i T _ lT _ h3 F3 N3
  unfold Stopped
  have ok1 := ok.push (T, tupOf (rd.map (·.2))) fun p hp => Nat.ne_of_lt (lT p hp)
  have N4 : News g' L' h3 (Sor.cells w ⟨self, dx, n2i, 4, t1, t2, t3, t4, .ref ar, .int a t, v4, o, infos⟩ ((T, tupOf (rd.map (·.2))) :: (ar, listOf (rd.map (·.2)).toArray n) :: X)) := Mine.News.perm (l := (T, tupOf (rd.map (·.2))) :: Sor.cells w ⟨self, dx, n2i, 4, t1, t2, t3, t4, .ref ar, .int a t, v4, o, infos⟩ ((ar, listOf (rd.map (·.2)).toArray n) :: X)) N3 (cells_push w _ _ _)
  clear N3
  have memT : ∀ (σ : Sor), (T, tupOf (rd.map (·.2))) ∈ σ.cells w ((T, tupOf (rd.map (·.2))) :: (ar, listOf (rd.map (·.2)).toArray n) :: X) := fun σ => .tail _ (.tail _ (.tail _ (List.mem_append_right _ (.head _))))
  refine for_tupN C'.hh F3 N4 (memT _)
    (fun j m' D' => X2 fun infos' u => A4 (D' = Sor.cells w ⟨self, dx, n2i, 4, t1, t2, t3, t4, .ref ar, .int a t, v4, o, infos'⟩ ((T, tupOf (rd.map (·.2))) :: (ar, listOf (rd.map (·.2)).toArray n) :: X)) (Sor.Ok w ⟨self, dx, n2i, 4, t1, t2, t3, t4, .ref ar, .int a t, v4, o, infos'⟩ ((T, tupOf (rd.map (·.2))) :: (ar, listOf (rd.map (·.2)).toArray n) :: X)) (infos'.map Info.abs = outAll ((rd.map (·.1)).take j) (infos.map Info.abs)) (m' = upds emp [(Str.ofString "node", u), (Str.ofString "n2i", some (.ref n2i)), (Str.ofString "result", some (.ref T)), (Str.ofString "self", some (.ref self))]))
    (fun j m D hJ => by obtain ⟨_, _, rfl, _⟩ := hJ; exact memT _) ⟨infos, none, rfl, ok1, rfl, by walk_at "maps"⟩ ?_ ?_
  · rintro I oi lt0 j m D' h tk hj Rn1 nx1 rt1 ⟨infos', u, rfl, ok', ab', rfl⟩ F N off
    have hj' : j < rd.length := by simpa using hj
    obtain ⟨hq1, hq2⟩ := hrd rd[j] (List.getElem_mem hj')
    rw [List.getElem_map] at F
    have ok7 := ok'.push (I, oi) off
    have hq3 : hasP (infos'.map Info.abs) rd[j].1 = true := by rw [ab', hasP_out]; exact hq2
    obtain ⟨pre, i, post, hi, hip, hval⟩ := focus ok'.apart hq3
    have hdict : o.IsDictOf (NK6 w) (infos'.map Info.kv) := ok'.dict
    dsimp only at hi
    subst hi
    have N8 : News g' L' h (Sor.foc w ⟨self, dx, n2i, 4, t1, t2, t3, t4, .ref ar, .int a t, v4, o, pre ++ i :: post⟩ pre i post ((I, oi) :: (T, tupOf (rd.map (·.2))) :: (ar, listOf (rd.map (·.2)).toArray n) :: X)) := Mine.News.perm (Mine.News.perm N (cells_push w _ _ _)) (foc_perm w ⟨self, dx, n2i, 4, t1, t2, t3, t4, .ref ar, .int a t, v4, o, pre ++ i :: post⟩ pre i post _).symm
    clear N N4 F3
    obtain ⟨x1, x2, x3, x4, x5, x6, s1, s2, s3, s4, s6⟩ := foc_off (ok7.keys.perm (foc_perm w ⟨self, dx, n2i, 4, t1, t2, t3, t4, .ref ar, .int a t, v4, o, pre ++ i :: post⟩ pre i post _).symm)
    unfold Sor.foc at N8
    obtain ⟨ip, ix, idx, isl, inp, it, ind, isu, iep⟩ := i
    dsimp only at hip x1 x2 x3 x4 x5 x6 s1 s2 s3 s4 s6 N8 hval
    subst hip
    (try k_unmd); k_fold
    k_steps
    rename_i h9 F9 N9
    generalize hnt : (Value.int (-1) _ : Value) = nt at N9
    obtain ⟨tt, rfl⟩ : ∃ tt, nt = .int (-1) tt := ⟨_, hnt.symm⟩
    clear hnt
    have ok9 : Sor.Ok w ⟨self, dx, n2i, 4, t1, t2, t3, t4, .ref ar, .int a t, v4, o, pre ++ ⟨rd[j].1, ix, idx, isl, -1, tt, ind, isu, iep⟩ :: post⟩ ((I, oi) :: (T, tupOf (rd.map (·.2))) :: (ar, listOf (rd.map (·.2)).toArray n) :: X) :=
      Sor.Ok.upd (σ := ⟨self, dx, n2i, 4, t1, t2, t3, t4, .ref ar, .int a t, v4, o, []⟩) ok7 rfl rfl rfl rfl (by
        have := ok7.good ⟨rd[j].1, ix, idx, isl, inp, it, ind, isu, iep⟩ (List.mem_append_right _ (.head _))
        exact ⟨this.few, this.nd, this.succ⟩)
    have N9' : News g' L' h9 (Sor.foc w ⟨self, dx, n2i, 4, t1, t2, t3, t4, .ref ar, .int a t, v4, o, pre ++ ⟨rd[j].1, ix, idx, isl, -1, tt, ind, isu, iep⟩ :: post⟩ pre ⟨rd[j].1, ix, idx, isl, -1, tt, ind, isu, iep⟩ post ((I, oi) :: (T, tupOf (rd.map (·.2))) :: (ar, listOf (rd.map (·.2)).toArray n) :: X)) := N9
    have N10 : News g' L' h9 (Sor.cells w ⟨self, dx, n2i, 4, t1, t2, t3, t4, .ref ar, .int a t, v4, o, pre ++ ⟨rd[j].1, ix, idx, isl, -1, tt, ind, isu, iep⟩ :: post⟩ ((I, oi) :: (T, tupOf (rd.map (·.2))) :: (ar, listOf (rd.map (·.2)).toArray n) :: X)) :=
      Mine.News.perm N9' (foc_perm w _ pre _ post _)
    refine nx1 _ _ _ _ F9 (Mine.News.perm N10 (cells_push w _ _ _).symm) ok9.drop.2 ⟨_, _, rfl, ok9.drop.1, ?_, by walk_at "maps"⟩
    rw [abs_upd (i := ⟨rd[j].1, ix, idx, isl, inp, it, ind, isu, iep⟩) (f := fun e => (-1, e.2)) ok'.apart (by simp [Info.abs]), ab']
    have htk : (rd.map (·.1)).take (j + 1) = (rd.map (·.1)).take j ++ [rd[j].1] := by rw [List.take_add_one, List.getElem?_eq_getElem (by simpa using hj')]; simp
    rw [htk, outAll, outAll, List.foldl_append]; rfl
  · rintro m D' h tk ⟨infos', u, rfl, ok', ab', rfl⟩ F N
    (try dsimp only)
    have N9 : News g' L' h ((ar, listOf (rd.map (·.2)).toArray n) :: Sor.cells w ⟨self, dx, n2i, 4, t1, t2, t3, t4, .ref ar, .int a t, v4, o, infos'⟩ ((T, tupOf (rd.map (·.2))) :: X)) := fun p hp => N p (by
      simp only [Sor.cells, List.mem_cons, List.mem_append] at hp ⊢
      rcases hp with h | h | h | h | h | h | h <;> simp [h])
    have K9 : Keys ((ar, listOf (rd.map (·.2)).toArray n) :: Sor.cells w ⟨self, dx, n2i, 4, t1, t2, t3, t4, .ref ar, .int a t, v4, o, infos'⟩ ((T, tupOf (rd.map (·.2))) :: X)) := by
      have h1 := ok'.keys
      refine h1.perm ?_
      have h2 := (cells_push w ⟨self, dx, n2i, 4, t1, t2, t3, t4, .ref ar, .int a t, v4, o, infos'⟩ (T, tupOf (rd.map (·.2))) ((ar, listOf (rd.map (·.2)).toArray n) :: X)).symm
      have h3 := ((cells_push w ⟨self, dx, n2i, 4, t1, t2, t3, t4, .ref ar, .int a t, v4, o, infos'⟩ (ar, listOf (rd.map (·.2)).toArray n) X).symm.cons (T, tupOf (rd.map (·.2))))
      have h4 := (cells_push w ⟨self, dx, n2i, 4, t1, t2, t3, t4, .ref ar, .int a t, v4, o, infos'⟩ (T, tupOf (rd.map (·.2))) X).cons (ar, listOf (rd.map (·.2)).toArray n)
      exact h2.trans (h3.trans ((List.Perm.swap _ _ _).trans h4))
    clear N N4 F3
    have K10 := K9
    unfold Sor.cells at N9 K10
    dsimp only at N9 K10
    simp only [keys_cons, List.forall_mem_cons] at K10
    obtain ⟨⟨y1, y2, y3, y4⟩, ⟨z1, z2, z3⟩, ⟨w1, w2⟩, _⟩ := K10
    replace y1 : @Ne Nat self ar := y1
    replace y2 : @Ne Nat dx ar := y2
    replace y3 : @Ne Nat n2i ar := y3
    replace z1 : @Ne Nat dx self := z1
    replace z2 : @Ne Nat n2i self := z2
    replace w1 : @Ne Nat n2i dx := w1
    k_steps
    rename_i h8 n8 F8 N8 tk8 h9 F9 N9
    dsimp only
    rw [List.length_map] at N9
    generalize hnt : (Value.int (a + ↑rd.length) _ : Value) = nt at N9
    obtain ⟨tt, rfl⟩ : ∃ tt, nt = .int (a + rd.length) tt := ⟨_, hnt.symm⟩
    clear hnt
    refine leaveK_ F9 N9 fun kF kN => k _ _ T tk8 tt infos' kF (fun p hp => kN p ?_) ?_ ?_
    · simp only [Sor.cells, List.mem_cons, List.mem_append] at hp ⊢
      rcases hp with h | h | h | h | h | h | h <;> simp [h]
    · refine ⟨ok'.dict, ?_, ok'.lo, ok'.good, ok'.apart⟩
      exact keys_addr ok'.keys (by simp [Sor.cells])
    · rw [List.take_of_length_le (by simp)] at ab'
      exact ab'
end
end

section
set_option Elab.async false
set_option maxRecDepth 100000
set_option maxHeartbeats 8000000
section
variable {w : World} {A : Around} {E : Value → Shared → Prop} {s : Shared} {L : Addr} {h₀ : Heap} {m : Str → Option Value} {D X : Led} {R : Result → Shared → Prop} {Q : Value → Shared → Prop}
theorem meets_bool_new_list (a : Addr) (items : Array Value) (hfit : (items.size : Int) < 2 ^ 63) :
    Meets (PySem.Builtin.«bool.__new__» ⟨[.type "bool", .ref a], []⟩) (fun _ R s => s.heap.IsList a items ∧ R (.ok (.ret (.bool (!items.isEmpty)))) { s with toks := s.toks + 1 + 1 }) :=
  Meets.of_wp fun prog w A R s hs => by
    obtain ⟨hl, hs⟩ := hs
    obtain ⟨hp, g, d, tk, os⟩ := s
    have f1 := PySem.F.conv_sub_bool
    repeat (any_goals (first | assumption | (with_reducible refine wpAny_truthy_list hl hfit ?_) | wp_step))
    all_goals first | exact ⟨_, rfl, hs⟩ | exact hs | skip
theorem bool_list {a : Addr} {its : List Value} {n : Nat} (N : News h₀ L s.heap D) (hp : (a, listOf its.toArray n) ∈ D) (hz : its.length ≤ 1000000) (h : ∀ tk, Q (.bool (!its.isEmpty)) { s with toks := tk }) :
    wpAny (model PG w) A (call (.type "bool") [.ref a]) Q E s :=
  call_bool_1 (meets_bool_new_list a its.toArray (by show (its.length : Int) < _; omega)) ⟨⟨_, (N _ hp).1, rfl, n, rfl⟩, show wants (fun obj s₁ => s₁.TypeIs obj "bool" ∧ Q obj s₁) E _ _ from ⟨rfl, by have := h (s.toks + 1 + 1); rwa [List.isEmpty_toArray]⟩⟩

local macro_rules | `(tactic| walk_at "call type:bool") => `(tactic| (k_here; k_dflt (refine bool_list (by k_asm) (by k_mem) (by walk_at "num") ?_); intro tk'))
theorem is_active_spec {σ : Sor} {ar n : Nat} {rd : List (Nat × Value)} {a b : Int} {t u : Tok} (C : Cx w A h₀ L) (F : Fr h₀ L s.heap m) (N : News h₀ L s.heap (σ.cells w ((ar, listOf (rd.map (·.2)).toArray n) :: X))) (hr : σ.rn = .ref ar) (h3 : σ.v3 = .int a t) (h4 : σ.v4 = .int b u) (hz : rd.length ≤ 1000000)
    (hroom : A.depth + 30 < recursionLimit)
    (k : ∀ h' tk, Fr h₀ L h' m → News h₀ L h' (σ.cells w ((ar, listOf (rd.map (·.2)).toArray n) :: X)) → R (.ok (.ret (.bool (decide (b < a) || !rd.isEmpty)))) { s with heap := h', toks := tk }) :
    codeAny (model PG w) A (.call (.ref 106) ⟨[.ref σ.self], []⟩) R s := by
  have X₀ := C.X; have hPG : PG = Challenge.rw_dm0132_06.row.prog := rfl; revert hPG X₀; k_fill; intro X₀ hPG; clear hPG
  refine' enterU (ents := [(Str.ofString "self", some (.ref σ.self))]) C F N ?k6 ?k7 ?kr ?k9 ?ke ?kB ?_ ?c2 ?c3 ?c4 ?c5
  case k6 => k_is
  case k7 => k_is
  case kr => exact o1 hroom
  case k9 => exact BindsTo.of_eq rfl
  case ke => exact rfl
  case c5 => decide
  case kB => exact locs rfl
  case c2 => exact rfl
  case c3 => exact rfl
  case c4 => exact rfl
  intro g' L' h' hm mg mb tk0 FG' F' N' C' X' T'
  obtain ⟨self, dx, n2i, nn, t1, t2, t3, t4, rn, v3, v4, o, infos⟩ := σ
  dsimp only at hr h3 h4
  subst hr h3 h4
  clear F N C X₀
  have N1 := N'
  unfold Sor.cells at N1
  dsimp only at N1
  (try k_unmd); (try k_fold)
  k_steps
  · rename_i hlt
    dsimp only
    k_steps
    have e : decide (b < a) = (decide (b < a) || !rd.isEmpty) := by rw [decide_eq_true hlt]; rfl
    rw [e]
    exact leaveK_ (by k_asm) (by k_asm) fun kF kN => k _ _ kF kN
  · have e : (!(rd.map (·.2)).isEmpty) = (decide (b < a) || !rd.isEmpty) := by
      have hlt : ¬ b < a := by assumption
      rw [decide_eq_false hlt]; cases rd <;> rfl
    rw [e]
    exact leaveK_ (by k_asm) (by k_asm) fun kF kN => k _ _ kF kN
end
end

section
set_option Elab.async false
set_option maxRecDepth 100000
set_option maxHeartbeats 8000000
noncomputable def entryOf (a : Abs) (p : Nat) : Int × List Nat := match a.find? (fun e => e.1 == p) with | some e => e.2 | none => (0, [])
noncomputable abbrev DSt := Abs × List Nat
noncomputable def doneStep (st : DSt) (q : Nat) : DSt := (modAbs q (fun e => (e.1 - 1, e.2)) st.1, if (entryOf st.1 q).1 = 1 then st.2 ++ [q] else st.2)
noncomputable def doneP (st : DSt) (q : Nat) : DSt := (entryOf st.1 q).2.foldl doneStep (modAbs q (fun e => (-2, e.2)) st.1, st.2)
theorem doneStep_len {st : DSt} {q : Nat} : st.2.length ≤ (doneStep st q).2.length := by
  unfold doneStep; dsimp only; split <;> simp
theorem doneSteps_len : ∀ {l : List Nat} {st : DSt}, st.2.length ≤ (l.foldl doneStep st).2.length
  | [], _ => Nat.le_refl _
  | _ :: _, _ => Nat.le_trans doneStep_len doneSteps_len
theorem doneP_len {st : DSt} {q : Nat} : st.2.length ≤ (doneP st q).2.length := by
  unfold doneP; exact doneSteps_len (st := (modAbs q (fun e => (-2, e.2)) st.1, st.2))
theorem doneAll_len : ∀ {l : List Nat} {st : DSt}, st.2.length ≤ (l.foldl doneP st).2.length
  | [], _ => Nat.le_refl _
  | _ :: _, _ => Nat.le_trans doneP_len doneAll_len
noncomputable def Closed (a : Abs) : Prop := ∀ e ∈ a, ∀ q ∈ e.2.2, hasP a q = true
theorem Closed.modAbs {a : Abs} {q : Nat} {f : Int × List Nat → Int × List Nat} (h : Closed a) (hf : ∀ e, (f e).2 = e.2) : Closed (modAbs q f a) := by
  intro e he r hr
  rw [hasP_mod]
  obtain ⟨d, hd, rfl⟩ := List.mem_map.mp he
  refine h d hd r ?_
  split at hr
  · have : r ∈ (f d.2).2 := hr
    rwa [hf] at this
  · exact hr
theorem Closed.step {st : DSt} {q : Nat} (h : Closed st.1) : Closed (doneStep st q).1 := Closed.modAbs (a := st.1) (q := q) (f := fun e => (e.1 - 1, e.2)) h fun _ => rfl
theorem Closed.steps : ∀ {l : List Nat} {st : DSt}, Closed st.1 → Closed (l.foldl doneStep st).1
  | [], _, h => h
  | q :: l, st, h => Closed.steps (l := l) (st := doneStep st q) h.step
theorem Closed.doneP {st : DSt} {q : Nat} (h : Closed st.1) : Closed (doneP st q).1 := Closed.steps (st := (Mine.modAbs q (fun e => (-2, e.2)) st.1, st.2)) (Closed.modAbs (a := st.1) (q := q) (f := fun e => (-2, e.2)) h fun _ => rfl)
theorem Closed.doneAll : ∀ {l : List Nat} {st : DSt}, Closed st.1 → Closed (l.foldl Mine.doneP st).1
  | [], _, h => h
  | q :: l, st, h => Closed.doneAll (l := l) (st := Mine.doneP st q) h.doneP
theorem hasP_steps {p : Nat} : ∀ {l : List Nat} {st : DSt}, hasP (l.foldl doneStep st).1 p = hasP st.1 p
  | [], _ => rfl
  | q :: l, st => by rw [List.foldl_cons, hasP_steps (l := l)]; exact hasP_mod (a := st.1) (q := q) (f := fun e => (e.1 - 1, e.2))
theorem hasP_doneP {p q : Nat} {st : DSt} : hasP (doneP st q).1 p = hasP st.1 p := by unfold doneP; rw [hasP_steps]; exact hasP_mod (a := st.1) (q := q) (f := fun e => (-2, e.2))
theorem hasP_done {p : Nat} : ∀ {l : List Nat} {st : DSt}, hasP (l.foldl doneP st).1 p = hasP st.1 p
  | [], _ => rfl
  | q :: l, st => by rw [List.foldl_cons, hasP_done (l := l)]; exact hasP_doneP
theorem entryOf_at {pre : List Info} {i : Info} {post : List Info} (apart : ((pre ++ i :: post).map Info.p).Nodup) : entryOf ((pre ++ i :: post).map Info.abs) i.p = (i.np, i.succ.map (·.1)) := by
  unfold entryOf
  have h1 : ∀ j ∈ pre, j.p ≠ i.p := by
    rw [List.map_append, List.map_cons, List.nodup_append] at apart
    exact fun j hj => apart.2.2 _ (List.mem_map_of_mem hj) _ (.head _)
  have h2 : (pre.map Info.abs).find? (fun e => e.1 == i.p) = none := by
    rw [List.find?_eq_none]
    intro e he
    obtain ⟨j, hj, rfl⟩ := List.mem_map.mp he
    have := h1 j hj
    simpa [Info.abs] using this
  rw [List.map_append, List.find?_append, h2, List.map_cons, Option.none_or, List.find?_cons_of_pos (by simp [Info.abs])]
  rfl
theorem cells_perm (w : World) (σ : Sor) {X Y : Led} (h : X.Perm Y) : (σ.cells w X).Perm (σ.cells w Y) := by
  unfold Sor.cells
  exact ((h.append_left _).cons _).cons _ |>.cons _
theorem Sor.Ok.perm {w : World} {σ : Sor} {X Y : Led} (ok : σ.Ok w X) (h : X.Perm Y) : σ.Ok w Y := ⟨ok.dict, ok.keys.perm (cells_perm w σ h), ok.lo, ok.good, ok.apart⟩
theorem perm4 {q1 q2 q3 a : Addr × Obj} {X : Led} : (q1 :: q2 :: q3 :: a :: X).Perm (a :: q1 :: q2 :: q3 :: X) :=
  (((List.Perm.swap _ _ _).cons _).cons _).trans (((List.Perm.swap _ _ _).cons _).trans (List.Perm.swap _ _ _))
theorem mem_cells {w : World} {σ : Sor} {X : Led} {i : Info} (hi : i ∈ σ.infos) : (i.sl, listOf (i.succ.map (·.2)).toArray i.ep) ∈ σ.cells w X :=
  .tail _ (.tail _ (.tail _ (List.mem_append_left _ (List.mem_flatMap.mpr ⟨i, hi, .tail _ (.tail _ (.head _))⟩))))
section
variable {w : World} {A : Around} {E : Value → Shared → Prop} {s : Shared} {L : Addr} {h₀ : Heap} {m : Str → Option Value} {D X : Led} {R : Result → Shared → Prop} {Q : Value → Shared → Prop}
theorem for_listN {Q : Flow → Shared → Prop} {a : Addr} {vs : List Value} {n : Nat} {x : Str} {px : Pos} {body : List Stmt} {env : Env} (hh : A.handled = none) (F : Fr h₀ L s.heap m) (N : News h₀ L s.heap D) (hm : (a, listOf vs.toArray n) ∈ D)
    (J : Nat → (Str → Option Value) → Led → Prop) (hX : ∀ i m D, J i m D → (a, listOf vs.toArray n) ∈ D) (hj : J 0 m D)
    (turn : ∀ I oi, (∀ p ∈ D, p.1 < I) → ∀ i m D h tk, (hi : i < vs.length) → ∀ Rn : Flow → Shared → Prop, NextTo h₀ L I oi (J (i + 1)) s Rn → RetTo Q Rn → J i m D → Fr h₀ L h (fun y => if y = x then some vs[i] else m y) → News h₀ L h ((I, oi) :: D) → (∀ p ∈ D, p.1 ≠ I) →
      wpAny (model PG w) A (execs body env) (PostOf Rn) (LoopErr w A env E) { s with heap := h, toks := tk })
    (done : ∀ m D h tk, J vs.length m D → Fr h₀ L h m → News h₀ L h D → Q .next { s with heap := h, toks := tk })
    (hL : env.locals = L := by rfl) (hk : env.scope.kind = .function := by rfl) (hx : env.kindOf x = some .local := by rfl) :
    wpAny (model PG w) A (pyIter (.ref a)) (fun it s₂ => ForGoal w A (.Name x px) body env Q E it s₂) E s := by
  have hls : s.heap.IsList a vs.toArray := ⟨_, (N _ hm).1, rfl, n, rfl⟩
  have hlt : a < s.heap.objs.size := Heap.lt_size (N _ hm).1
  have lt0 : ∀ p ∈ D, p.1 < s.heap.objs.size := fun p hp => Heap.lt_size (N p hp).1
  refine wpAny_pyIter_list hls ?_
  have up : ∀ b o, s.heap.get? b = some o → (s.heap.push { cls := .type "list_iterator", data := .fields #[.ref a, .int 0 0] }).get? b = some o := fun b o e => Heap.get?_push_of_some _ e
  refine for_walkQ (src := [(a, listOf vs.toArray n)]) (Walks.list hh s.heap.objs.size a (Nat.ne_of_lt hlt) vs.toArray) (fun i h st => by obtain ⟨o, e, _⟩ := st.1; exact ⟨o, e⟩) J
    (fun i m D hJ p hp => by rw [List.mem_singleton.mp hp]; exact hX i m D hJ) (F.keeps up) (N.grown up) (next_is_new F) (Ne.symm (Nat.ne_of_lt F.ns.lt)) (fun p hp => Nat.ne_of_lt (Heap.lt_size (N p hp).1))
    ⟨⟨_, Heap.get?_push_size _ rfl, rfl, rfl⟩, hls.push _⟩ hj ?_ ?_ (fun _ => rfl)
  · intro i v m D oi h tk hi hP Rn nx rt hJ F N off
    have hi' : i < vs.length := by simpa using hi
    have : v = vs[i] := by
      have e : vs[i]? = some v := by simpa using hP
      rw [List.getElem?_eq_getElem hi'] at e; exact (Option.some.inj e).symm
    subst this
    exact store_n F N hL hk hx fun h' tk' F' N' => turn _ oi lt0 i m D h' tk' hi' Rn nx rt hJ F' N' off
  · intro m D h tk hJ F N
    rw [List.size_toArray] at hJ
    exact done m D h tk hJ F N

local macro_rules | `(tactic| walk_at "subscriptTail Name Name ref") => `(tactic| (k_here; k_dflt (refine sub_d (by k_asm) (by k_mem) (by assumption) (by assumption) (by assumption) ?_); intro tk'))
local macro_rules | `(tactic| walk_at "getMethod ref") => `(tactic| (k_here; (with_reducible show wpAny _ _ (getMethod (Value.ref _) (Str.ofString "get") _) _ _ _); refine kdg_method (by k_asm) (by k_mem) (by assumption) ?_))
local macro_rules | `(tactic| walk_at "call builtin:dict.get") => `(tactic| (k_here; refine kdg_get1 (by k_asm) (by k_mem) (by assumption) (by assumption) (by assumption) _ (by assumption) ?_; (try simp only [Option.getD_none, Option.getD_some])))
theorem done_spec {σ : Sor} {ar n : Nat} {rd vs : List (Nat × Value)} {b : Int} {t : Tok} (C : Cx w A h₀ L) (F : Fr h₀ L s.heap m) (N : News h₀ L s.heap (σ.cells w ((ar, listOf (rd.map (·.2)).toArray n) :: X))) (ok : σ.Ok w ((ar, listOf (rd.map (·.2)).toArray n) :: X)) (hr : σ.rn = .ref ar) (h4 : σ.v4 = .int b t) (hn : σ.n = 4)
    (hvs : ∀ q ∈ vs, nmIs q.1 q.2 = true ∧ hasP σ.abs q.1 = true) (hrd : ∀ q ∈ rd, nmIs q.1 q.2 = true ∧ hasP σ.abs q.1 = true) (hz : vs.length ≤ 1000) (hroom : A.depth + 30 < recursionLimit)
    (hcl : Closed σ.abs) (hlen : ((vs.map (·.1)).foldl doneP (σ.abs, rd.map (·.1))).2.length ≤ 100000)
    (hout : ∀ j (hj : j < vs.length), (entryOf (((vs.map (·.1)).take j).foldl doneP (σ.abs, rd.map (·.1))).1 vs[j].1).1 = -1)
    (k : ∀ h' tk n' t' infos' (rd' : List (Nat × Value)), Fr h₀ L h' m → News h₀ L h' (Sor.cells w { σ with v4 := .int (b + vs.length) t', infos := infos' } ((ar, listOf (rd'.map (·.2)).toArray n') :: X)) →
      Sor.Ok w { σ with v4 := .int (b + vs.length) t', infos := infos' } ((ar, listOf (rd'.map (·.2)).toArray n') :: X) → (infos'.map Info.abs, rd'.map (·.1)) = (vs.map (·.1)).foldl doneP (σ.abs, rd.map (·.1)) → (∀ q ∈ rd', nmIs q.1 q.2 = true ∧ hasP σ.abs q.1 = true) → R (.ok (.ret .none)) { s with heap := h', toks := tk }) :
    codeAny (model PG w) A (.call (.ref 120) ⟨.ref σ.self :: vs.map (·.2), []⟩) R s := by
  have X₀ := C.X; have hPG : PG = Challenge.rw_dm0132_06.row.prog := rfl; revert hPG X₀; k_fill; intro X₀ hPG; clear hPG
  refine' enter_rest C F N ?k6 ?k7 ?k8 ?kP ?kV ?kB ?_ ?c2 ?c3 ?c4 ?c5
  case k6 => k_is
  case k7 => k_is
  case k8 => exact o1 hroom
  case kP => exact bind_rest1
  case kV => rw [sizeLine_eq]; simp; exact o5 hz
  case kB => exact fun _ => locs rfl
  case c5 => decide
  case c2 => exact rfl
  case c3 => exact rfl
  case c4 => exact rfl
  intro T g' L' h' hm mg mb tk' FG' F' N' lT C' X' T'
  rw [lookup_upds] at F'
  replace F' : Fr g' L' h' (upds emp [(Str.ofString "nodes", some (.ref T)), (Str.ofString "self", some (.ref σ.self))]) := F'
  have ok1 := ok.push (T, tupOf (vs.map (·.2))) (fun p hp => Nat.ne_of_lt (lT p hp))
  have N1 : News g' L' h' (σ.cells w ((T, tupOf (vs.map (·.2))) :: (ar, listOf (rd.map (·.2)).toArray n) :: X)) := Mine.News.perm N' (cells_push w σ _ _)
  obtain ⟨self, dx, n2i, nn, t1, t2, t3, t4, rn, v3, v4, o, infos⟩ := σ
  dsimp only at hr h4 hn
  subst hr h4 hn
  clear F N C X₀ N'
  (try k_unmd); (try k_fold)
  unfold Sor.cells at N1
  dsimp only at N1
  k_steps
  rename_i h2 F2 N2
  unfold Stopped
  replace F2 : Fr g' L' h2 (upds emp [(Str.ofString "n2i", some (.ref n2i)), (Str.ofString "nodes", some (.ref T)), (Str.ofString "self", some (.ref self))]) := F2
  have N3 : News g' L' h2 (Sor.cells w ⟨self, dx, n2i, 4, t1, t2, t3, t4, .ref ar, v3, .int b t, o, infos⟩ ((T, tupOf (vs.map (·.2))) :: (ar, listOf (rd.map (·.2)).toArray n) :: X)) := N2
  clear N2
  have memT : ∀ (σ : Sor) (o : Addr × Obj), (T, tupOf (vs.map (·.2))) ∈ σ.cells w ((T, tupOf (vs.map (·.2))) :: o :: X) := fun σ _ => .tail _ (.tail _ (.tail _ (List.mem_append_right _ (.head _))))
  refine for_tupN C'.hh F2 N3 (memT _ _)
    (fun j m' D' => X9 fun infos' (rd' : List (Nat × Value)) n' t' u1 u2 u3 u4 u5 => A5 (D' = Sor.cells w ⟨self, dx, n2i, 4, t1, t2, t3, t4, .ref ar, v3, .int (b + (j : Int)) t', o, infos'⟩ ((T, tupOf (vs.map (·.2))) :: (ar, listOf (rd'.map (·.2)).toArray n') :: X)) (Sor.Ok w ⟨self, dx, n2i, 4, t1, t2, t3, t4, .ref ar, v3, .int (b + (j : Int)) t', o, infos'⟩ ((T, tupOf (vs.map (·.2))) :: (ar, listOf (rd'.map (·.2)).toArray n') :: X)) ((infos'.map Info.abs, rd'.map (·.1)) = ((vs.map (·.1)).take j).foldl doneP (infos.map Info.abs, rd.map (·.1))) ((∀ q ∈ rd', nmIs q.1 q.2 = true ∧ hasP (infos.map Info.abs) q.1 = true)) (m' = upds emp [(Str.ofString "node", u1), (Str.ofString "nodeinfo", u2), (Str.ofString "stat", u3), (Str.ofString "successor", u4), (Str.ofString "successor_info", u5), (Str.ofString "n2i", some (.ref n2i)), (Str.ofString "nodes", some (.ref T)), (Str.ofString "self", some (.ref self))]))
    (fun j m D hJ => by obtain ⟨_, _, _, _, _, _, _, _, _, rfl, _⟩ := hJ; exact memT _ _) ⟨infos, rd, n, t, none, none, none, none, none, ?i1, ?i2, rfl, hrd, by walk_at "maps"⟩ ?_ ?_
  case i1 => rw [Int.natCast_zero, Int.add_zero]
  case i2 => rw [Int.natCast_zero, Int.add_zero]; exact ok1
  · rintro I oi lt0 j m D' h tk hj Rn1 nx1 rt1 ⟨infos', rd', n', t', u1, u2, u3, u4, u5, rfl, ok', ab', hrd', rfl⟩ F N off
    have hj' : j < vs.length := by simpa using hj
    obtain ⟨hq1, hq2⟩ := hvs vs[j] (List.getElem_mem hj')
    rw [List.getElem_map] at F
    have hout' : (entryOf (((vs.map (·.1)).take j).foldl doneP (infos.map Info.abs, rd.map (·.1))).1 vs[j].1).1 = -1 := hout j hj'
    have ok7 := ok'.push (I, oi) off
    have hq3 : hasP (infos'.map Info.abs) vs[j].1 = true := by rw [show infos'.map Info.abs = _ from congrArg Prod.fst ab', hasP_done]; exact hq2
    obtain ⟨pre, i, post, hi, hip, hval⟩ := focus ok'.apart hq3
    have hdict : o.IsDictOf (NK6 w) (infos'.map Info.kv) := ok'.dict
    have hlo := ok'.lo
    dsimp only at hi hlo
    have hnp : i.np = -1 := by
      rw [← ab'] at hout'
      dsimp only at hout'
      rw [hi, ← hip, entryOf_at (hi ▸ ok'.apart)] at hout'
      exact hout'
    subst hi
    have N8 : News g' L' h (Sor.foc w ⟨self, dx, n2i, 4, t1, t2, t3, t4, .ref ar, v3, .int (b + (j : Int)) t', o, pre ++ i :: post⟩ pre i post ((I, oi) :: (T, tupOf (vs.map (·.2))) :: (ar, listOf (rd'.map (·.2)).toArray n') :: X)) := Mine.News.perm (Mine.News.perm N (cells_push w _ _ _)) (foc_perm w ⟨self, dx, n2i, 4, t1, t2, t3, t4, .ref ar, v3, .int (b + (j : Int)) t', o, pre ++ i :: post⟩ pre i post _).symm
    clear N N3 F2
    obtain ⟨x1, x2, x3, x4, x5, x6, s1, s2, s3, s4, s6⟩ := foc_off (ok7.keys.perm (foc_perm w ⟨self, dx, n2i, 4, t1, t2, t3, t4, .ref ar, v3, .int (b + (j : Int)) t', o, pre ++ i :: post⟩ pre i post _).symm)
    unfold Sor.foc at N8
    obtain ⟨ip, ix, idx, isl, inp, it, ind, isu, iep⟩ := i
    dsimp only at hip x1 x2 x3 x4 x5 x6 s1 s2 s3 s4 s6 N8 hval hnp
    subst hip hnp
    (try k_unmd); k_fold
    k_steps
    rename_i h9 F9 N9
    unfold Stopped
    generalize hnt : (Value.int (-2) _ : Value) = nt at N9
    obtain ⟨tt, rfl⟩ : ∃ tt, nt = .int (-2) tt := ⟨_, hnt.symm⟩
    clear hnt
    have ok9 : Sor.Ok w ⟨self, dx, n2i, 4, t1, t2, t3, t4, .ref ar, v3, .int (b + (j : Int)) t', o, pre ++ ⟨vs[j].1, ix, idx, isl, -2, tt, ind, isu, iep⟩ :: post⟩ ((I, oi) :: (T, tupOf (vs.map (·.2))) :: (ar, listOf (rd'.map (·.2)).toArray n') :: X) :=
      Sor.Ok.upd (σ := ⟨self, dx, n2i, 4, t1, t2, t3, t4, .ref ar, v3, .int (b + (j : Int)) t', o, []⟩) ok7 rfl rfl rfl rfl (by
        have := ok7.good ⟨vs[j].1, ix, idx, isl, -1, it, ind, isu, iep⟩ (List.mem_append_right _ (.head _))
        exact ⟨this.few, this.nd, this.succ⟩)
    have N9' : News g' L' h9 (Sor.foc w ⟨self, dx, n2i, 4, t1, t2, t3, t4, .ref ar, v3, .int (b + (j : Int)) t', o, pre ++ ⟨vs[j].1, ix, idx, isl, -2, tt, ind, isu, iep⟩ :: post⟩ pre ⟨vs[j].1, ix, idx, isl, -2, tt, ind, isu, iep⟩ post ((I, oi) :: (T, tupOf (vs.map (·.2))) :: (ar, listOf (rd'.map (·.2)).toArray n') :: X)) := N9
    have N10 := Mine.News.perm N9' (foc_perm w _ pre _ post _)
    have isuG : ∀ q ∈ isu, q.1 < 6 ∧ nmIs q.1 q.2 = true := (ok9.good ⟨vs[j].1, ix, idx, isl, -2, tt, ind, isu, iep⟩ (List.mem_append_right _ (.head _))).succ
    have ab9 : (pre ++ ⟨vs[j].1, ix, idx, isl, -2, tt, ind, isu, iep⟩ :: post).map Info.abs = modAbs vs[j].1 (fun e => (-2, e.2)) ((pre ++ ⟨vs[j].1, ix, idx, isl, -1, it, ind, isu, iep⟩ :: post).map Info.abs) :=
      abs_upd (i := ⟨vs[j].1, ix, idx, isl, -1, it, ind, isu, iep⟩) (f := fun e => (-2, e.2)) ok'.apart (by simp [Info.abs])
    have hen : entryOf ((pre ++ ⟨vs[j].1, ix, idx, isl, -1, it, ind, isu, iep⟩ :: post).map Info.abs) vs[j].1 = (-1, isu.map (·.1)) := entryOf_at (i := ⟨vs[j].1, ix, idx, isl, -1, it, ind, isu, iep⟩) ok'.apart
    have hst : ((vs.map (·.1)).take (j + 1)).foldl doneP (infos.map Info.abs, rd.map (·.1)) = (isu.map (·.1)).foldl doneStep ((pre ++ ⟨vs[j].1, ix, idx, isl, -2, tt, ind, isu, iep⟩ :: post).map Info.abs, rd'.map (·.1)) := by
      have htk : (vs.map (·.1)).take (j + 1) = (vs.map (·.1)).take j ++ [vs[j].1] := by rw [List.take_add_one, List.getElem?_eq_getElem (by simpa using hj')]; simp
      rw [htk, List.foldl_append, ← ab', List.foldl_cons, List.foldl_nil, doneP]
      dsimp only
      rw [hen, ab9]
    have hcl9 : Closed ((pre ++ ⟨vs[j].1, ix, idx, isl, -2, tt, ind, isu, iep⟩ :: post).map Info.abs) := by
      rw [ab9]
      refine Closed.modAbs ?_ fun _ => rfl
      rw [show ((pre ++ ⟨vs[j].1, ix, idx, isl, -1, it, ind, isu, iep⟩ :: post).map Info.abs) = _ from congrArg Prod.fst ab']
      exact Closed.doneAll hcl
    have hhp : ∀ p, hasP ((pre ++ ⟨vs[j].1, ix, idx, isl, -2, tt, ind, isu, iep⟩ :: post).map Info.abs) p = hasP (infos.map Info.abs) p := by
      intro p
      rw [ab9, hasP_mod, show ((pre ++ ⟨vs[j].1, ix, idx, isl, -1, it, ind, isu, iep⟩ :: post).map Info.abs) = _ from congrArg Prod.fst ab', hasP_done]
    have hsuH : ∀ q ∈ isu, hasP ((pre ++ ⟨vs[j].1, ix, idx, isl, -2, tt, ind, isu, iep⟩ :: post).map Info.abs) q.1 = true := fun q hq =>
      hcl9 _ (List.mem_map_of_mem (f := Info.abs) (a := ⟨vs[j].1, ix, idx, isl, -2, tt, ind, isu, iep⟩) (List.mem_append_right _ (.head _))) q.1 (List.mem_map_of_mem hq)
    have hlen' : ((isu.map (·.1)).foldl doneStep ((pre ++ ⟨vs[j].1, ix, idx, isl, -2, tt, ind, isu, iep⟩ :: post).map Info.abs, rd'.map (·.1))).2.length ≤ 100000 := by
      rw [← hst]
      refine Nat.le_trans ?_ hlen
      have e := List.take_append_drop (j + 1) (vs.map (·.1))
      show _ ≤ ((vs.map (·.1)).foldl doneP (infos.map Info.abs, rd.map (·.1))).2.length
      conv => rhs; rw [← e, List.foldl_append]
      exact doneAll_len
    have hmem : ∃ i ∈ pre ++ ⟨vs[j].1, ix, idx, isl, -2, tt, ind, isu, iep⟩ :: post, i.sl = isl ∧ i.succ = isu ∧ i.ep = iep := ⟨_, List.mem_append_right _ (.head _), rfl, rfl, rfl⟩
    generalize hgi : pre ++ ⟨vs[j].1, ix, idx, isl, -2, tt, ind, isu, iep⟩ :: post = infos9 at ok9 N10 ab9 hst hcl9 hhp hsuH hlen' hmem
    clear N9 N9' hgi ok7 x1 x2 x3 x4 x5 x6 s1 s2 s3 s4 s6
    refine for_listN C'.hh F9 N10 (a := isl) (vs := isu.map (·.2)) (n := iep) (by obtain ⟨i, hi, rfl, rfl, rfl⟩ := hmem; exact mem_cells hi)
      (fun l m' D' => X8 fun infos2 (rd2 : List (Nat × Value)) n2 u1 u2 u3 u4 u5 => A6 (D' = Sor.cells w ⟨self, dx, n2i, 4, t1, t2, t3, t4, .ref ar, v3, .int (b + (j : Int)) t', o, infos2⟩ ((I, oi) :: (T, tupOf (vs.map (·.2))) :: (ar, listOf (rd2.map (·.2)).toArray n2) :: X)) (Sor.Ok w ⟨self, dx, n2i, 4, t1, t2, t3, t4, .ref ar, v3, .int (b + (j : Int)) t', o, infos2⟩ ((I, oi) :: (T, tupOf (vs.map (·.2))) :: (ar, listOf (rd2.map (·.2)).toArray n2) :: X)) ((infos2.map Info.abs, rd2.map (·.1)) = ((isu.map (·.1)).take l).foldl doneStep (infos9.map Info.abs, rd'.map (·.1))) ((∀ q ∈ rd2, nmIs q.1 q.2 = true ∧ hasP (infos.map Info.abs) q.1 = true)) ((∃ i ∈ infos2, i.sl = isl ∧ i.succ = isu ∧ i.ep = iep)) (m' = upds emp [(Str.ofString "node", u1), (Str.ofString "nodeinfo", u2), (Str.ofString "stat", u3), (Str.ofString "successor", u4), (Str.ofString "successor_info", u5), (Str.ofString "n2i", some (.ref n2i)), (Str.ofString "nodes", some (.ref T)), (Str.ofString "self", some (.ref self))]))
      (fun l m D hJ => by obtain ⟨_, _, _, _, _, _, _, _, rfl, _, _, _, ⟨i, hi, rfl, rfl, rfl⟩, _⟩ := hJ; exact mem_cells hi) ⟨infos9, rd', n', _, _, _, _, _, rfl, ok9, rfl, hrd', hmem, by walk_at "maps"⟩ ?_ ?_
    · clear N10 F9 hmem ok9 
      rintro I2 oi2 lt2 l m D' h tk hl Rn2 nx2 rt2 ⟨infos2, rd2, n2, u1, u2, u3, u4, u5, rfl, ok2, ab2, hrd2, hmem, rfl⟩ F N off2
      have hl' : l < isu.length := by simpa using hl
      obtain ⟨hs6, hs1⟩ := isuG isu[l] (List.getElem_mem hl')
      have hs2 := hsuH isu[l] (List.getElem_mem hl')
      rw [List.getElem_map] at F
      have hs3 : hasP (infos2.map Info.abs) isu[l].1 = true := by rw [show infos2.map Info.abs = _ from congrArg Prod.fst ab2, hasP_steps]; exact hs2
      have htl : (isu.map (·.1)).take (l + 1) = (isu.map (·.1)).take l ++ [isu[l].1] := by rw [List.take_add_one, List.getElem?_eq_getElem (by simpa using hl')]; simp
      have ok7 := (ok2.push (I2, oi2) off2).perm perm4
      have hrl : rd2.length ≤ 100000 := by
        have e := List.take_append_drop l (isu.map (·.1))
        have h1 : rd2.length = (((isu.map (·.1)).take l).foldl doneStep (infos9.map Info.abs, rd'.map (·.1))).2.length := by rw [← ab2]; simp
        rw [h1]
        refine Nat.le_trans ?_ hlen'
        conv => rhs; rw [← e, List.foldl_append]
        exact doneSteps_len
      obtain ⟨pre2, i, post2, hi, hip, hval2⟩ := focus ok2.apart hs3
      have hdict2 : o.IsDictOf (NK6 w) (infos2.map Info.kv) := ok2.dict
      dsimp only at hi
      subst hi
      have K7 := ok7.keys.perm ((cells_push w _ _ _).symm.trans ((foc_perm w ⟨self, dx, n2i, 4, t1, t2, t3, t4, .ref ar, v3, .int (b + (j : Int)) t', o, pre2 ++ i :: post2⟩ pre2 i post2 _).symm.cons _))
      have N8 := Mine.News.perm N ((((cells_push w _ _ _).trans (cells_perm w _ perm4)).trans (cells_push w _ _ _).symm).trans ((foc_perm w ⟨self, dx, n2i, 4, t1, t2, t3, t4, .ref ar, v3, .int (b + (j : Int)) t', o, pre2 ++ i :: post2⟩ pre2 i post2 _).symm.cons _))
      clear N
      obtain ⟨x1, x2, x3, x4, x5, x6, s1, s2, s3, s4, s6⟩ := foc_off K7.tail
      have K8 := K7.off
      clear K7
      unfold Sor.foc at N8 K8
      simp only [List.forall_mem_cons] at K8
      obtain ⟨y1, y2, y3, y4, y5, y6, y7⟩ := K8
      obtain ⟨ip2, ix2, idx2, isl2, inp2, it2, ind2, isu2, iep2⟩ := i
      dsimp only at hip x1 x2 x3 x4 x5 x6 s1 s2 s3 s4 s6 N8 hval2 y1 y2 y3 y4 y5 y6 y7
      subst hip
      replace y4 : @Ne Nat ix2 ar := y4
      have hvl2 : (rd2.map (·.2)).length = rd2.length := List.length_map _
      have okN : ∀ (tt : Tok) (rd3 : List (Nat × Value)) n3, Sor.Ok w ⟨self, dx, n2i, 4, t1, t2, t3, t4, .ref ar, v3, .int (b + (j : Int)) t', o, pre2 ++ ⟨isu[l].1, ix2, idx2, isl2, inp2 - 1, tt, ind2, isu2, iep2⟩ :: post2⟩ ((I2, oi2) :: (I, oi) :: (T, tupOf (vs.map (·.2))) :: (ar, listOf (rd3.map (·.2)).toArray n3) :: X) := by
        intro tt rd3 n3
        have h1 := Sor.Ok.upd (σ := ⟨self, dx, n2i, 4, t1, t2, t3, t4, .ref ar, v3, .int (b + (j : Int)) t', o, []⟩) (i' := ⟨isu[l].1, ix2, idx2, isl2, inp2 - 1, tt, ind2, isu2, iep2⟩) ok7 rfl rfl rfl rfl (by
          have := ok7.good ⟨isu[l].1, ix2, idx2, isl2, inp2, it2, ind2, isu2, iep2⟩ (List.mem_append_right _ (.head _))
          exact ⟨this.few, this.nd, this.succ⟩)
        have h2 := h1.perm perm4.symm
        exact ⟨h2.dict, keys_addr h2.keys (by simp [Sor.cells]), h2.lo, h2.good, h2.apart⟩
      have abN : ∀ (tt : Tok), (pre2 ++ ⟨isu[l].1, ix2, idx2, isl2, inp2 - 1, tt, ind2, isu2, iep2⟩ :: post2).map Info.abs = modAbs isu[l].1 (fun e => (e.1 - 1, e.2)) ((pre2 ++ ⟨isu[l].1, ix2, idx2, isl2, inp2, it2, ind2, isu2, iep2⟩ :: post2).map Info.abs) := fun tt =>
        abs_upd (i := ⟨isu[l].1, ix2, idx2, isl2, inp2, it2, ind2, isu2, iep2⟩) (f := fun e => (e.1 - 1, e.2)) ok2.apart (by simp [Info.abs])
      have hen2 : entryOf ((pre2 ++ ⟨isu[l].1, ix2, idx2, isl2, inp2, it2, ind2, isu2, iep2⟩ :: post2).map Info.abs) isu[l].1 = (inp2, isu2.map (·.1)) := entryOf_at (i := ⟨isu[l].1, ix2, idx2, isl2, inp2, it2, ind2, isu2, iep2⟩) ok2.apart
      have hmemN : ∀ (tt : Tok), ∃ i ∈ pre2 ++ ⟨isu[l].1, ix2, idx2, isl2, inp2 - 1, tt, ind2, isu2, iep2⟩ :: post2, i.sl = isl ∧ i.succ = isu ∧ i.ep = iep := by
        intro tt
        obtain ⟨i0, hi0, e1, e2, e3⟩ := hmem
        rcases List.mem_append.mp hi0 with h | h
        · exact ⟨i0, List.mem_append_left _ h, e1, e2, e3⟩
        · rcases List.mem_cons.mp h with rfl | h
          · exact ⟨_, List.mem_append_right _ (.head _), e1, e2, e3⟩
          · exact ⟨i0, List.mem_append_right _ (.tail _ h), e1, e2, e3⟩
      have stN : ∀ (tt : Tok) (rd3 : List (Nat × Value)), rd3.map (·.1) = (if inp2 = 1 then rd2.map (·.1) ++ [isu[l].1] else rd2.map (·.1)) →
          ((pre2 ++ ⟨isu[l].1, ix2, idx2, isl2, inp2 - 1, tt, ind2, isu2, iep2⟩ :: post2).map Info.abs, rd3.map (·.1)) = ((isu.map (·.1)).take (l + 1)).foldl doneStep (infos9.map Info.abs, rd'.map (·.1)) := by
        intro tt rd3 h3
        rw [htl, List.foldl_append, ← ab2, List.foldl_cons, List.foldl_nil, doneStep]
        dsimp only
        rw [hen2, abN tt, h3]
      (try k_unmd); k_fold
      k_steps
      · rename_i h8 hz0 h9 F9 N9
        generalize hnt : (Value.int (inp2 - 1) _ : Value) = nt at N9
        obtain ⟨tt, rfl⟩ : ∃ tt, nt = .int (inp2 - 1) tt := ⟨_, hnt.symm⟩
        clear hnt
        have N9' : News g' L' h9 ((ar, listOf ((rd2 ++ [isu[l]]).map (·.2)).toArray (n2 + 1)) :: Sor.foc w ⟨self, dx, n2i, 4, t1, t2, t3, t4, .ref ar, v3, .int (b + (j : Int)) t', o, pre2 ++ ⟨isu[l].1, ix2, idx2, isl2, inp2 - 1, tt, ind2, isu2, iep2⟩ :: post2⟩ pre2 ⟨isu[l].1, ix2, idx2, isl2, inp2 - 1, tt, ind2, isu2, iep2⟩ post2 ((I2, oi2) :: (I, oi) :: (T, tupOf (vs.map (·.2))) :: X)) := by
          rw [List.map_append]; exact N9
        have N10 := Mine.News.perm N9' ((((foc_perm w _ pre2 _ post2 _).cons _).trans ((cells_push w _ _ _).trans (cells_perm w _ perm4.symm))).trans (cells_push w _ _ _).symm)
        refine nx2 _ _ _ _ F9 N10 (okN tt (rd2 ++ [isu[l]]) (n2 + 1)).drop.2 ⟨_, rd2 ++ [isu[l]], _, _, _, _, _, _, rfl, (okN tt (rd2 ++ [isu[l]]) (n2 + 1)).drop.1, stN tt _ ?_, fun q hq => ?_, hmemN tt, by walk_at "maps"⟩
        · rw [if_pos (by exact o15 h8), List.map_append]; rfl
        · rcases List.mem_append.mp hq with h | h
          · exact hrd2 q h
          · rw [List.mem_singleton.mp h]; exact ⟨hs1, (hhp _).symm.trans hs2⟩
      · rename_i h9 F9 N9 hz0
        generalize hnt : (Value.int (inp2 - 1) _ : Value) = nt at N9
        obtain ⟨tt, rfl⟩ : ∃ tt, nt = .int (inp2 - 1) tt := ⟨_, hnt.symm⟩
        clear hnt
        have N9' : News g' L' h9 ((ar, listOf (rd2.map (·.2)).toArray n2) :: Sor.foc w ⟨self, dx, n2i, 4, t1, t2, t3, t4, .ref ar, v3, .int (b + (j : Int)) t', o, pre2 ++ ⟨isu[l].1, ix2, idx2, isl2, inp2 - 1, tt, ind2, isu2, iep2⟩ :: post2⟩ pre2 ⟨isu[l].1, ix2, idx2, isl2, inp2 - 1, tt, ind2, isu2, iep2⟩ post2 ((I2, oi2) :: (I, oi) :: (T, tupOf (vs.map (·.2))) :: X)) := N9
        have N10 := Mine.News.perm N9' ((((foc_perm w _ pre2 _ post2 _).cons _).trans ((cells_push w _ _ _).trans (cells_perm w _ perm4.symm))).trans (cells_push w _ _ _).symm)
        refine nx2 _ _ _ _ F9 N10 (okN tt rd2 n2).drop.2 ⟨_, rd2, _, _, _, _, _, _, rfl, (okN tt rd2 n2).drop.1, stN tt _ ?_, hrd2, hmemN tt, by walk_at "maps"⟩
        rw [if_neg (by exact o16 hz0)]
    · clear N10 F9 hmem ok9
      rintro m D' h tk ⟨infos2, rd2, n2, u1, u2, u3, u4, u5, rfl, ok2, ab2, hrd2, -, rfl⟩ F N
      have K2 := ok2.keys
      unfold Sor.cells at N K2
      dsimp only at N K2
      simp only [keys_cons, List.forall_mem_cons] at K2
      obtain ⟨⟨z1, z2, z3⟩, ⟨w1, w2⟩, _⟩ := K2
      replace z1 : @Ne Nat dx self := z1
      replace z2 : @Ne Nat n2i self := z2
      replace w1 : @Ne Nat n2i dx := w1
      (try dsimp only)
      k_steps
      rename_i h9 F9 N9
      generalize hnt : (Value.int (b + ↑j + 1) _ : Value) = nt at N9
      obtain ⟨tt, rfl⟩ : ∃ tt, nt = .int (b + ((j + 1 : Nat) : Int)) tt := ⟨_, hnt.symm.trans (by rw [Int.natCast_add, Int.add_assoc]; rfl)⟩
      clear hnt
      have okE : Sor.Ok w ⟨self, dx, n2i, 4, t1, t2, t3, t4, .ref ar, v3, .int (b + ((j + 1 : Nat) : Int)) tt, o, infos2⟩ ((I, oi) :: (T, tupOf (vs.map (·.2))) :: (ar, listOf (rd2.map (·.2)).toArray n2) :: X) := ⟨ok2.dict, keys_addr ok2.keys (by simp [Sor.cells]), ok2.lo, ok2.good, ok2.apart⟩
      have N10 : News g' L' h9 (Sor.cells w ⟨self, dx, n2i, 4, t1, t2, t3, t4, .ref ar, v3, .int (b + ((j + 1 : Nat) : Int)) tt, o, infos2⟩ ((I, oi) :: (T, tupOf (vs.map (·.2))) :: (ar, listOf (rd2.map (·.2)).toArray n2) :: X)) := N9
      refine nx1 _ _ _ _ F9 (Mine.News.perm N10 (cells_push w _ _ _).symm) okE.drop.2 ⟨_, rd2, _, _, _, _, _, _, _, rfl, okE.drop.1, ?_, hrd2, by walk_at "maps"⟩
      rw [hst, ab2, List.take_of_length_le (by simp)]
  · rintro m D' h tk ⟨infos', rd', n', t', u1, u2, u3, u4, u5, rfl, ok', ab', hrd', rfl⟩ F N
    (try dsimp only)
    k_steps
    refine leaveK_ F N fun kF kN => k _ _ n' t' infos' rd' kF (fun p hp => kN p ?_) ?_ ?_ hrd'
    · rw [List.length_map]
      exact (cells_push w _ _ _).mem_iff.mp (.tail _ hp)
    · have := ok'.drop.1
      rwa [List.length_map] at this
    · rw [List.take_of_length_le (by simp)] at ab'
      exact ab'
end
end

section
set_option Elab.async false
set_option maxRecDepth 100000
set_option maxHeartbeats 8000000
theorem slot_li_ga : Slot "list_iterator" "__getattribute__" "object.__getattribute__" :=
  .of (owner := "object") (n := "__getattribute__") (by rw [typeLookup_type, builtinLookup_eq_fast]; kernel_rfl) (by decide +kernel) (by decide +kernel) (by decide +kernel)
    (by first | exact .inl (by decide +kernel) | exact .inr (by decide +kernel)) (by rw [isSubtype_type]; kernel_rfl)
theorem entry_obj_ga : entryFor table "object.__getattribute__" = some PySem.Builtin.«object.__getattribute__» := entryFor_of_tree (by kernel_rfl)
theorem args_obj_ga (a b : Value) : argsOk "object.__getattribute__" ⟨[a, b], []⟩ := by unfold argsOk; kernel_rfl
theorem type_li_next : typeOf (.builtin "list_iterator.__next__") = pure (.type "wrapper_descriptor") := by show builtinType _ = _; rw [builtinType_eq_fast]; kernel_rfl
theorem slot_wd_get : Slot "wrapper_descriptor" "__get__" "wrapper_descriptor.__get__" :=
  .of (owner := "wrapper_descriptor") (n := "__get__") (by rw [typeLookup_type, builtinLookup_eq_fast]; kernel_rfl) (by decide +kernel) (by decide +kernel) (by decide +kernel)
    (by first | exact .inl (by decide +kernel) | exact .inr (by decide +kernel)) (by rw [isSubtype_type]; kernel_rfl)
theorem lk_wd_set : typeLookup (.type "wrapper_descriptor") "__set__" = pure none := by rw [typeLookup_type, builtinLookup_eq_fast]; kernel_rfl
theorem lk_wd_del : typeLookup (.type "wrapper_descriptor") "__delete__" = pure none := by rw [typeLookup_type, builtinLookup_eq_fast]; kernel_rfl
theorem entry_wd_get : entryFor table "wrapper_descriptor.__get__" = some PySem.Builtin.«wrapper_descriptor.__get__» := entryFor_of_tree (by kernel_rfl)
theorem args_wd_get (a b c : Value) : argsOk "wrapper_descriptor.__get__" ⟨[a, b, c], []⟩ := by unfold argsOk; kernel_rfl
theorem owner_li_next : (".".intercalate ("list_iterator.__next__".cutAt '.').dropLast) = "list_iterator" := by
  have e0 : "list_iterator.__next__".cutAt '.' = ["list_iterator", "__next__"] := by first | rfl | decide +kernel
  rw [e0]; decide +kernel
theorem sub_li_owner : isSubtype (.type "list_iterator") (.type (".".intercalate ("list_iterator.__next__".cutAt '.').dropLast)) = pure true := by
  rw [owner_li_next, isSubtype_type]; kernel_rfl
noncomputable abbrev mwObj (it : Addr) : Obj := { cls := .type "method-wrapper", data := .fields #[.builtin "list_iterator.__next__", .ref it] }
section
variable {prog : Program} {w : World} {A : Around} {E : Value → Shared → Prop} {h : Heap} {g : Array GenState} {d : Drawn} {t : Nat} {os : OsState} {a : Addr} {o : Obj}
theorem wd_get {R : Result → Shared → Prop} (hx : h.get? a = some o) (hc : o.cls = .type "list_iterator") (hq : R (.ok (.ret (.ref h.objs.size))) ⟨h.push (mwObj a), g, d, t, os⟩) :
    codeAny (model prog w) A (.call (.builtin "wrapper_descriptor.__get__") ⟨[.builtin "list_iterator.__next__", .ref a, .type "list_iterator"], []⟩) R ⟨h, g, d, t, os⟩ := by
  have hT : (⟨h, g, d, t, os⟩ : Shared).TypeIs (.ref a) "list_iterator" := ⟨_, hx, hc⟩
  have hT5 : (⟨h, g, d, t, os⟩ : Shared).TypeIs (.builtin "list_iterator.__next__") "wrapper_descriptor" := type_li_next
  have f8 := sub_li_owner
  refine codeAny_call_builtin slot_wd_get.plain entry_wd_get (slot_wd_get.check _ _ _ _ _ _ _ _ hT5 (args_wd_get _ _ _) ?_)
  repeat (any_goals (first | assumption | wp_step))
theorem li_lk_next : typeLookup (.type "list_iterator") "__next__" = pure (some (.builtin "list_iterator.__next__")) := by rw [typeLookup_type, builtinLookup_eq_fast]; kernel_rfl
theorem li_entry {tk : Tok} {vs : Array Value} {Q : Fin → Shared → Prop} (hx : h.get? a = some { cls := .type "list_iterator", data := .fields vs }) (hq : Q (.done (.ret (.ref h.objs.size))) ⟨h.push (mwObj a), g, d, t, os⟩) :
    wpAny (model prog w) A (PySem.Builtin.«object.__getattribute__» ⟨[.ref a, .str "__next__" tk], []⟩) Q E ⟨h, g, d, t, os⟩ := by
  have hT : (⟨h, g, d, t, os⟩ : Shared).TypeIs (.ref a) "list_iterator" := ⟨_, hx, rfl⟩
  have hT5 : (⟨h, g, d, t, os⟩ : Shared).TypeIs (.builtin "list_iterator.__next__") "wrapper_descriptor" := type_li_next
  have f4 := li_lk_next
  have f5 := type_li_next
  have f6 := slot_wd_get.lookup
  have f7 := lk_wd_set
  have f8 := lk_wd_del
  repeat (any_goals (first | assumption | wp_step))
  refine wd_get hx rfl ?_
  repeat (any_goals (first | assumption | wp_step))
theorem li_call {tk : Tok} {vs : Array Value} {R : Result → Shared → Prop} (hx : h.get? a = some { cls := .type "list_iterator", data := .fields vs }) (hq : R (.ok (.ret (.ref h.objs.size))) ⟨h.push (mwObj a), g, d, t, os⟩) :
    codeAny (model prog w) A (.call (.builtin "object.__getattribute__") ⟨[.ref a, .str "__next__" tk], []⟩) R ⟨h, g, d, t, os⟩ :=
  codeAny_call_builtin slot_li_ga.plain entry_obj_ga (slot_li_ga.check _ _ _ _ _ _ _ _ (show (⟨h, g, d, t, os⟩ : Shared).TypeIs (.ref a) "list_iterator" from ⟨_, hx, rfl⟩) (args_obj_ga _ _) (li_entry hx hq))
theorem li_by {tk : Tok} {b : Bool} {vs : Array Value} {Q : Value → Shared → Prop} (hx : h.get? a = some { cls := .type "list_iterator", data := .fields vs }) (hq : Q (.ref h.objs.size) ⟨h.push (mwObj a), g, d, t, os⟩) : wpAny (model prog w) A (getAttrBy (.ref a) (.str "__next__" tk) true b) Q E ⟨h, g, d, t, os⟩ := by
  have hT : (⟨h, g, d, t, os⟩ : Shared).TypeIs (.ref a) "list_iterator" := ⟨_, hx, rfl⟩
  have f2 := slot_li_ga.lookup
  have f3 := slot_li_ga.bind (.ref a)
  cases b <;> (repeat (any_goals (first | assumption | wp_step)))
  all_goals (refine li_call hx ?_)
  all_goals dsimp only
  all_goals (have hn : (h.push (mwObj a)).get? h.objs.size = some (mwObj a) := Heap.get?_push_size _ rfl)
  all_goals (repeat (any_goals (first | assumption | wp_step)))
theorem li_attr {b : Bool} {vs : Array Value} {Q : Value → Shared → Prop} (hx : h.get? a = some { cls := .type "list_iterator", data := .fields vs }) (hq : Q (.ref h.objs.size) ⟨h.push (mwObj a), g, d, t + 1, os⟩) : wpAny (model prog w) A (getAttr (.ref a) (Str.ofString "__next__") b) Q E ⟨h, g, d, t, os⟩ := by
  unfold getAttr
  repeat (any_goals (first | assumption | with_reducible apply li_by hx | wp_step))
end
theorem check_next {it : Addr} : checkBoundCall "list_iterator.__next__" ⟨[.ref it], []⟩ = pure () := by first | kernel_rfl | rfl
theorem quiet_next {as : Args} : (Code.builtin "list_iterator.__next__" as).quiet = true := Code.quiet_builtin _ (by decide +kernel)
noncomputable abbrev liObj (l : Addr) (i : Nat) : Obj := { cls := .type "list_iterator", data := .fields #[.ref l, .int i 0] }
noncomputable abbrev liEnd (i : Nat) : Obj := { cls := .type "list_iterator", data := .fields #[.none, .int i 0] }
section
variable {prog : Program} {w : World} {A : Around} {E : Value → Shared → Prop} {s : Shared} {q it l : Addr} {i : Nat} {items : Array Value} {Q : Value → Shared → Prop}
theorem mw_call (hq : s.heap.get? q = some (mwObj it))
    (h : wpAny (model prog w) (A.under (.builtin "list_iterator.__next__" ⟨[.ref it], []⟩)) (PySem.Builtin.«list_iterator.__next__» ⟨[.ref it], []⟩) (fun f s' => ∃ v, f = .done (.ret v) ∧ Q v s') E s) :
    wpAny (model prog w) A (call (.ref q) []) Q E s := by
  refine wpAny_call (codeAny_of_tree ?_)
  show wpAny _ A.in1 (callAny (.ref q) ⟨[], []⟩) _ _ s
  show wpAny _ _ (load q >>= _) _ _ s
  refine wpAny_bind (wpAny_load hq ?_)
  simp only [show (Value.type "method-wrapper" == Value.type "method" || Value.type "method-wrapper" == Value.type "builtin_function_or_method" || Value.type "method-wrapper" == Value.type "method-wrapper") = true by decide, if_true]
  refine KFB.if_so (by decide) ?_
  refine wpAny_bind (wpAny_of_eq (a := ()) check_next ?_)
  refine wpAny_bind (wpAny_pure (wpAny_pure ?_))
  refine ⟨quiet_next, codeAny_builtin entry_listiter_next ?_⟩
  exact wpAny_mono h (fun f s' hv => by obtain ⟨v, rfl, hv⟩ := hv; exact hv) fun _ _ z => z
theorem mw_item {x : Value} (hq : s.heap.get? q = some (mwObj it)) (ho : s.heap.get? it = some (liObj l i)) (hl : s.heap.IsList l items) (hx : items[i]? = some x)
    (h : ∀ h', h'.get? it = some (liObj l (i + 1)) → Heap.SameBut it s.heap h' → Q x { s with heap := h' }) : wpAny (model prog w) A (call (.ref q) []) Q E s := by
  refine mw_call hq ?_
  obtain ⟨ol, hol, _, nl, hdl⟩ := hl
  show wpAny _ _ (field (.ref it) 0 >>= _) _ _ s
  refine wpAny_bind (wpAny_field ho rfl (x := .ref l) rfl ?_)
  show wpAny _ _ (if (Value.ref l == Value.none) = true then _ else _) _ _ s
  rw [if_neg (show ¬ ((Value.ref l == Value.none) = true) from Bool.false_ne_true)]
  show wpAny _ _ (field (.ref it) 1 >>= _) _ _ s
  refine wpAny_bind (wpAny_field ho rfl (x := .int i 0) rfl ?_)
  show wpAny _ _ (seqItems? (.ref l) >>= _) _ _ s
  refine wpAny_bind (wpAny_seqItems hol hdl ?_)
  simp only [Int.toNat_natCast, hx]
  refine wpAny_bind (wpAny_setField ho rfl (by simp) (wpAny_pure ⟨x, rfl, h _ ?_ (Heap.SameBut.update ..)⟩))
  exact (Heap.get?_update_self _ ho (Obj.isFreed_of_fields (Obj.data_mapFields rfl _))).trans (by simp [Obj.mapFields, rawInt])
theorem mw_end (hh : A.handled = none) (hq : s.heap.get? q = some (mwObj it)) (ho : s.heap.get? it = some (liObj l i)) (hl : s.heap.IsList l items) (hx : items[i]? = none)
    (h : ∀ h₁ h' e, h₁.get? it = some (liEnd i) → Heap.SameBut it s.heap h₁ → (∀ b o, h₁.get? b = some o → h'.get? b = some o) → h₁.get? e = none → (∃ ob vs a0, h'.get? e = some ob ∧ ob.cls = .type "StopIteration" ∧ ob.data = .fields vs ∧ vs[1]? = some .none ∧ vs[0]? = some a0) → E (.ref e) { s with heap := h' }) :
    wpAny (model prog w) A (call (.ref q) []) Q E s := by
  refine mw_call hq ?_
  obtain ⟨ol, hol, _, nl, hdl⟩ := hl
  show wpAny _ _ (field (.ref it) 0 >>= _) _ _ s
  refine wpAny_bind (wpAny_field ho rfl (x := .ref l) rfl ?_)
  show wpAny _ _ (if (Value.ref l == Value.none) = true then _ else _) _ _ s
  rw [if_neg (show ¬ ((Value.ref l == Value.none) = true) from Bool.false_ne_true)]
  show wpAny _ _ (field (.ref it) 1 >>= _) _ _ s
  refine wpAny_bind (wpAny_field ho rfl (x := .int i 0) rfl ?_)
  show wpAny _ _ (seqItems? (.ref l) >>= _) _ _ s
  refine wpAny_bind (wpAny_seqItems hol hdl ?_)
  simp only [Int.toNat_natCast, hx]
  refine wpAny_bind (wpAny_rule (wpAny_bind (wpAny_setField ho rfl (by simp) ?_)))
  show wpAny _ _ (newExc (.type "StopIteration") [] >>= _) _ _ _
  refine wpAny_bind ?_
  simp only [newExc, newTuple]
  refine wpAny_bind (wpAny_newObj_type ?_ (by size_fits))
  refine wpAny_bind (m := firstArgMember _ _) (wpAny_of_eq (a := Value.none) (by first | rfl | (simp only [firstArgMember]; rfl)) ?_)
  refine wpAny_newObj_type ?_ (by size_fits)
  show wpAny _ _ (handled >>= _) _ _ _
  refine wpAny_bind (wpAny_handled ?_)
  rw [show (A.under (.builtin "list_iterator.__next__" ⟨[.ref it], []⟩)).handled = none from hh]
  refine wpAny_bind (wpAny_pure (wpAny_throw ?_))
  refine h (s.heap.update it (Obj.mapFields (·.setIfInBounds 0 .none))) _ _ ?_ (Heap.SameBut.update ..) (fun b o e => Heap.get?_push_of_some _ (Heap.get?_push_of_some _ e)) ?_ ⟨_, _, _, Heap.get?_push_size _ rfl, rfl, rfl, rfl, rfl⟩
  · exact (Heap.get?_update_self _ ho (Obj.isFreed_of_fields (Obj.data_mapFields rfl _))).trans (by simp [Obj.mapFields, rawInt])
  · exact Heap.get?_none_of_le (by simp [Heap.push])
end
end

section
set_option Elab.async false
set_option maxRecDepth 100000
set_option maxHeartbeats 8000000
/-- the frames that stand beneath the present one -/
noncomputable def outerF (A : Around) : List Addr := ((A.frames.getD []).tail).filterMap (·.frame)
theorem outerF_eq {A : Around} {env : Env} {outer : List Env} (h : A.frames = some (env :: outer)) : outerF A = outer.filterMap (·.frame) := by unfold outerF; rw [h]; rfl
theorem outerF_deeper {A : Around} {env : Env} {fr : List Env} (h : A.frames = some fr) : outerF (A.deeper env) = fr.filterMap (·.frame) := outerF_eq (by show A.frames.map _ = _; rw [h]; rfl)
theorem below_any {A₀ A : Around} {base h₀ h : Heap} {env : Env} {outer : List Env} {L : Addr} {m : Str → Option Value} (B : Below A₀ base outer h₀) (F : Fr h₀ L h m) (hA : A.frames = some (env :: outer)) (hf : env.frame = some L) (hke : env.scope.kind = .function) :
    Below A base (env :: outer) h := by
  have hnew : base.get? L = none := by
    cases hq : base.get? L with
    | none => rfl
    | some o => exact absurd (Nat.lt_of_lt_of_le (Heap.lt_size (B.stays L o hq)) F.above) (Nat.lt_irrefl _)
  exact ⟨hA, fun b o e => F.keep b o (B.stays b o e), .cons (by rw [hke]; decide) hf F.ns hnew (B.frames.of_keeps fun b o e _ => ⟨o, F.keep b o e, rfl⟩)⟩
theorem mem_fr {env : Env} {outer : List Env} {L b : Addr} (hf : env.frame = some L) (hm : b ∈ (env :: outer).filterMap (·.frame)) : b = L ∨ b ∈ outer.filterMap (·.frame) := by
  rw [List.filterMap_cons, hf] at hm
  exact List.mem_cons.mp hm
theorem Cx.turn {w : World} {A : Around} {h₀ h₀' : Heap} {L : Addr} (C : Cx w A h₀ L) (T : KtsTurn (outerF A) h₀ h₀') : Cx w A h₀' L := by
  obtain ⟨A₀, base, outer, env, hm, mg, mb, B, hA, hf, hke, T', XB, TB, D⟩ := C.ex
  rw [outerF_eq hA] at T
  have B' : Below A₀ base outer h₀' := ⟨B.stack, fun b o e => T.other b o (B.stays b o e) (fun hm => by rw [(B.frames.mem hm).1] at e; cases e), B.frames.of_keeps fun b o e _ => by
    obtain ⟨sl', hs'⟩ := T.up e
    exact ⟨_, hs', rfl⟩⟩
  exact ⟨⟨A₀, base, outer, env, hm, mg, mb, B', hA, hf, hke, TB.keeps B'.stays, XB, TB, D.turn T⟩, XB.keeps B'.stays, C.hh⟩
noncomputable def LeaveT (w : World) (A A' : Around) (h₀ : Heap) (L : Addr) (m : Str → Option Value) (g : Heap) (R : Result → Shared → Prop) (v : Value) (s' : Shared) : Prop :=
  X4 fun g' L' m' news' => A4 (KtsTurn (outerF A') g g') (Fr g' L' s'.heap m') (News g' L' s'.heap news') (∀ h₀', KtsTurn (outerF A) h₀ h₀' → Cx w A h₀' L → Fr h₀' L s'.heap m → News h₀' L s'.heap news' → R (.ok (.ret v)) s')
theorem leaveT_ {w : World} {A A' : Around} {h₀ g g' : Heap} {L L' : Addr} {m m' : Str → Option Value} {news' : List (Addr × Obj)} {R : Result → Shared → Prop} {v : Value} {s' : Shared} (T : KtsTurn (outerF A') g g') (F' : Fr g' L' s'.heap m') (N' : News g' L' s'.heap news')
    (k : ∀ h₀', KtsTurn (outerF A) h₀ h₀' → Cx w A h₀' L → Fr h₀' L s'.heap m → News h₀' L s'.heap news' → R (.ok (.ret v)) s') : LeaveT w A A' h₀ L m g R v s' := ⟨g', L', m', news', T, F', N', k⟩
section
variable {w : World} {A : Around} {E : Value → Shared → Prop} {s : Shared} {L : Addr} {h₀ : Heap} {m : Str → Option Value} {news : List (Addr × Obj)}
theorem enterT {R : Result → Shared → Prop} {name qual : Str} {params : Arguments} {body : List Stmt} {scope : Scope} {dV kV doc pm cdv ct oc : Value} {an od : Option Addr} {osl : Array (Option Value)} {f : Addr} {args : Args} {binds : List (Str × Value)}
    (C : Cx w A h₀ L) (F : Fr h₀ L s.heap m) (N : News h₀ L s.heap news)
    (ho : (heapK w.params).lookup f = some ⟨oc, od, .func (fnOf name qual params body scope dV kV doc pm an cdv ct), osl⟩) (hcd : codeIn (heapK w.params) cdv qual = true) (hroom : A.depth < recursionLimit)
    (hbind : BindsTo s (fnOf name qual params body scope dV kV doc pm an cdv ct) args binds) (hloc : ∀ y ∈ binds, scope.names.lookup y.1 = some .local)
    (h : ∀ g L' h₁ hm mg mb, Fr h₀ L g m → Fr g L' h₁ (fun y => binds.reverse.lookup y) → News g L' h₁ news → Cx w (A.deeper (envOf qual scope L' f cdv)) g L' → (heapK w.params).In g → TopAt hm mg mb g →
      wpAny (model Challenge.rw_dm0132_06.row.prog w) (A.deeper (envOf qual scope L' f cdv)) (execs body (envOf qual scope L' f cdv))
        (fun fl s' => LeaveT w A (A.deeper (envOf qual scope L' f cdv)) h₀ L m g R (match fl with | .ret v => v | _ => .none) s')
        (fun e s' => wpAny (model Challenge.rw_dm0132_06.row.prog w) (A.deeper (envOf qual scope L' f cdv)) (leaving (envOf qual scope L' f cdv) e) (fun _ s'' => R (.error e) s'') (fun e' s'' => R (.error e') s'') s')
        { s with heap := h₁, toks := s.toks + binds.length })
    (hco : scope.isCoroutine = false) (hgen : scope.isGenerator = false) (hk : scope.kind = .function)
    (hcell : ∀ x ∈ scope.names, x.2 ≠ .cell) : codeAny (model Challenge.rw_dm0132_06.row.prog w) A (.call (.ref f) args) R s := by
  obtain ⟨A₀, base, outer, env, hm, mg, mb, B, hA, hf, hke, T, XB, TB, D⟩ := C.ex
  have X := C.X.keeps F.keep
  refine codeAny_call_def (fd := fnOf name qual params body scope dV kV doc pm an cdv ct) (body := body) (binds := binds) hroom (X _ _ ho) rfl (T.nolimit.keeps F.keep) (codeRec_of X hcd) rfl hbind hcell hloc (fun h₁ hns hk₁ => ?_) hco hgen hk
  have nm : ∀ b o, h₀.get? b = some o → b ∉ news.map (·.1) := fun b o e q => by
    obtain ⟨p, hp, rfl⟩ := List.mem_map.mp q
    rw [(N p hp).2.2] at e; cases e
  have st : h₀.StaysIn (hideAll s.heap (news.map (·.1))) := fun b o e => hideAll_get _ (F.keep b o e) (nm b o e)
  obtain ⟨oL, es, ep, hL, hLd, hLk, hLf⟩ := F.ns
  have nL : L ∉ news.map (·.1) := fun q => by
    obtain ⟨p, hp, e⟩ := List.mem_map.mp q
    exact (N p hp).2.1 e
  have hLg := hideAll_get (news.map (·.1)) hL nL
  have FG : Fr h₀ L (hideAll s.heap (news.map (·.1))) m := ⟨⟨oL, es, ep, hLg, hLd, hLk, hLf⟩, st, F.above⟩
  have B₂ : Below A base (env :: outer) (hideAll s.heap (news.map (·.1))) := below_any B FG hA hf hke
  have nL₀ : h₀.get? L = none := kts_self F
  refine wpAny_mono (h _ s.heap.objs.size h₁ hm mg mb FG ⟨hns, fun b o e => hk₁ b o (of_hideAll _ e), Nat.le_of_eq (hideAll_size _ _)⟩
    (fun p hp => ⟨hk₁ _ _ (N p hp).1, Nat.ne_of_lt (Heap.lt_size (N p hp).1), hideAll_none _ (List.mem_map_of_mem hp)⟩)
    ⟨⟨A, base, env :: outer, envOf qual scope s.heap.objs.size f cdv, hm, mg, mb, B₂, by show A.frames.map _ = _; rw [hA]; rfl, rfl, hk, T.keeps st, XB, TB, dicts_push FG hf D⟩, C.X.keeps st, C.hh⟩ (C.X.keeps st) (T.keeps st)) (fun fl s' hl => ?_) fun _ _ y => y
  obtain ⟨g', L', m', news', T', F', N', k⟩ := hl
  rw [outerF_deeper hA] at T'
  obtain ⟨sl, hs⟩ := T'.up hLg
  obtain ⟨T₁, S₁⟩ := kts_turn_at (h := s'.heap) (fs := outer.filterMap (·.frame)) (g := h₀)
    (fun b hb => by
      obtain ⟨_, o, ho', _⟩ := B.frames.mem hb
      exact ⟨o, ho'⟩)
    (fun b o e nmem => F'.keep b o (T'.other b o (st b o e) (fun q => by
      rcases mem_fr hf q with z | z
      · rw [z, nL₀] at e
        cases e
      · exact nmem z)))
    (fun b o e hm => by
      obtain ⟨sl', hs'⟩ := T'.up (st b o e)
      exact ⟨sl', F'.keep _ _ hs'⟩)
  have T₁' : KtsTurn (outerF A) h₀ (ktsHeap s'.heap (outer.filterMap (·.frame)) h₀) := by rw [outerF_eq hA]; exact T₁
  refine k _ T₁' (C.turn T₁') ⟨⟨_, es, ep, F'.keep _ _ hs, hLd, hLk, hLf⟩, S₁, by rw [T₁.size]; exact F.above⟩ (fun p hp => ⟨(N' p hp).1, fun q => ?_, ?_⟩)
  · have := (N' p hp).2.2; rw [q, hs] at this; cases this
  · refine T₁.none_ _ ?_
    cases q : h₀.get? p.1 with
    | none => rfl
    | some o =>
      obtain ⟨sl', hs'⟩ := T'.up (st _ _ q)
      have := (N' p hp).2.2
      rw [hs'] at this
      cases this
end
end

section
set_option Elab.async false
set_option maxRecDepth 100000
set_option maxHeartbeats 8000000
theorem ground_any {A₀ : Around} {base g G B h₅ : Heap} {env : Env} {outer : List Env} {L : Addr} {m : Str → Option Value} (hf : env.frame = some L) (K : Below A₀ base outer g) (F : Fr g L G m)
    (hBG : ∀ b o, G.get? b = some o → b ∉ (env :: outer).filterMap (·.frame) → B.get? b = some o) (hBh : B.StaysIn h₅) (hsm : G.UpToSlots h₅) :
    ∃ g', KtsTurn (outer.filterMap (·.frame)) g g' ∧ Fr g' L h₅ m ∧ Below A₀ base outer g' := by
  obtain ⟨T, S⟩ := kts_turn_at (h := h₅) (fs := outer.filterMap (·.frame)) (g := g)
    (fun b hb => by
      obtain ⟨_, o, ho, _⟩ := K.frames.mem hb
      exact ⟨o, ho⟩)
    (fun b o e nm => hBh b o (hBG b o (F.keep b o e) (fun hm => by
      rcases mem_fr hf hm with z | z
      · rw [z, kts_self F] at e
        cases e
      · exact nm z)))
    (fun b o e hm => by
      obtain ⟨_, o', ho', hd⟩ := K.frames.mem hm
      rw [e] at ho'
      cases ho'
      exact hsm b o (F.keep b o e) hd)
  refine ⟨_, T, ⟨hsm.ns F.ns, S, by rw [T.size]; exact F.above⟩, ⟨K.stack, fun b o e => T.other b o (K.stays b o e) (fun hm => by
    rw [(K.frames.mem hm).1] at e
    cases e), K.frames.of_keeps fun b o e _ => ?_⟩⟩
  obtain ⟨sl, hs⟩ := T.up e
  exact ⟨_, hs, rfl⟩
section
variable {w : World} {A : Around} {E : Value → Shared → Prop} {s' : Shared} {h₀ h : Heap} {L a e : Addr} {m : Str → Option Value} {name : Str} {scope : Scope} {cd : Value}
  {b₀ : Stmt} {suite : List Stmt} {pos np : Pos} {rest : List ExceptHandler} {Q : Flow → Shared → Prop} {D : List (Addr × Obj)} {x : Str} {X T' : String}
/-- an exception that a builtin raised in a frame is caught in this frame -/
theorem caught_own (C : Cx w (A.deeper (envOf name scope L a cd)) h₀ L) (F : Fr h₀ L h m) (N : News h₀ L h D) (keeps : ∀ b o, h.get? b = some o → s'.heap.get? b = some o) (new : h.get? e = none)
    (there : ∃ ob vs a0, s'.heap.get? e = some ob ∧ ob.cls = .type X ∧ ob.data = .fields vs ∧ vs[1]? = some .none ∧ vs[0]? = some a0)
    (ex : nsIn (heapK w.params) mainGlobals x = some none) (hv : bootBuiltins x = some (.type T')) (hn' : x ≠ "__name__")
    (hexc : isSubtype (.type T') (.type "BaseException") = pure true) (hnt : isSubtype (.type ((Manifest.find? T').elim "type" fun y => y.metatype)) (.type "tuple") = pure false) (hsub : isSubtype (.type X) (.type T') = pure true)
    (k : ∀ h' h₀', KtsTurn (outerF (A.deeper (envOf name scope L a cd))) h₀ h₀' → Cx w (A.deeper (envOf name scope L a cd)) h₀' L → Fr h₀' L h' m → News h₀' L h' D →
      wpAny (model Challenge.rw_dm0132_06.row.prog w) ((A.deeper (envOf name scope L a cd)).mark (some (.ref e))) (execs (b₀ :: suite) (envOf name scope L a cd)) Q E { s' with heap := h' })
    (hk : scope.kind = .function := by rfl) (hx : (envOf name scope L a cd).kindOf x = some .globalImplicit := by rfl) (hd : (x == ("__debug__" : Str)) = false := by decide)
    (hE : PassesOwnAt (model Challenge.rw_dm0132_06.row.prog w) ((A.deeper (envOf name scope L a cd)).mark (some (.ref e))) (A.deeper (envOf name scope L a cd)) (envOf name scope L a cd) E := by passes_own) :
    wpAny (model Challenge.rw_dm0132_06.row.prog w) (A.deeper (envOf name scope L a cd)) (noteFrame (.ref e) (envOf name scope L a cd))
      (fun _ s₂ => wpAny (model Challenge.rw_dm0132_06.row.prog w) (A.deeper (envOf name scope L a cd)) (setFlight (.ref e) none) (fun _ s₃ =>
        wpAny (model Challenge.rw_dm0132_06.row.prog w) (A.deeper (envOf name scope L a cd)) (handleBy (.ref e) (envOf name scope L a cd) (.ExceptHandler (some (.Name x np)) none (b₀ :: suite) pos :: rest)) Q E s₃) E s₂) E s' := by
  obtain ⟨A₀, base, outer, env, hm, mg, mb, B, hA, hf, hke, T, XB, TB, Dd⟩ := id C.ex
  have hfr : (A.deeper (envOf name scope L a cd)).frames = some (envOf name scope L a cd :: outer) := by
    have h1 : A.frames.map (envOf name scope L a cd :: ·) = some (env :: outer) := hA
    cases hAf : A.frames with
    | none => rw [hAf] at h1; cases h1
    | some l =>
      rw [hAf] at h1
      have h2 := Option.some.inj h1
      show A.frames.map _ = _
      rw [hAf]
      show some (envOf name scope L a cd :: l) = _
      rw [(List.cons.inj h2).2]
  have hfL : (envOf name scope L a cd).frame = some L := rfl
  obtain ⟨ob, vs, a0, he, hcls, hdt, h1, h0⟩ := there
  have K' : Below (A.deeper (envOf name scope L a cd)) base (envOf name scope L a cd :: outer) h := below_any B F hfr rfl hk
  have hin : ∀ env' ∈ (envOf name scope L a cd :: outer), ∀ b, env'.frame = some b → b ∈ (envOf name scope L a cd :: outer).filterMap (·.frame) := fun env' he' b hb => List.mem_filterMap.mpr ⟨env', he', hb⟩
  have hBG : ∀ b o, h.get? b = some o → b ∉ (envOf name scope L a cd :: outer).filterMap (·.frame) → (hideAll h ((envOf name scope L a cd :: outer).filterMap (·.frame))).get? b = some o := fun b o q nm => hideAll_get _ q nm
  have hkb : (hideAll h ((envOf name scope L a cd :: outer).filterMap (·.frame))).StaysIn s'.heap := fun b o hb => keeps b o (of_hideAll _ hb)
  have hen : (hideAll h ((envOf name scope L a cd :: outer).filterMap (·.frame))).get? e = none := by
    cases q : (hideAll h ((envOf name scope L a cd :: outer).filterMap (·.frame))).get? e with
    | none => rfl
    | some o => have := of_hideAll _ q; rw [new] at this; cases this
  have hl : s'.heap.FunFrames (hideAll h ((envOf name scope L a cd :: outer).filterMap (·.frame))) (envOf name scope L a cd :: outer) := (funFrames_hide K'.frames hin).of_keeps fun b o hb _ => ⟨o, keeps b o hb, rfl⟩
  have hLn : (hideAll h ((envOf name scope L a cd :: outer).filterMap (·.frame))).get? L = none := hideAll_none _ (hin _ (.head _) _ rfl)
  have hsm : h.UpToSlots s'.heap := Heap.UpToSlots.of_keeps keeps
  generalize hBdef : hideAll h ((envOf name scope L a cd :: outer).filterMap (·.frame)) = BB at hBG hkb hen hl hLn
  unfold noteFrame
  simp only [hfL]
  refine wpAny_bind (wpAny_field he hdt h1 ?_)
  rw [if_neg (by decide)]
  refine wpAny_entryW hfr hl rfl he hkb hen hdt (Array.getElem?_eq_some_iff.mp h1).1 h0 fun h₄ hN => ?_
  obtain ⟨y1, y2, y3, y4⟩ := hN
  rw [hcls] at y3
  have hheld₄ : Heap.HeldW BB (envOf name scope L a cd :: outer) e (.type X) a0 L h₄ := ⟨y1, hen, y2, y3⟩
  refine wpAny_landsW hheld₄ fun h₅ hheld hsm₅' => ?_
  have hsm₅ : s'.heap.UpToSlots h₅ := Heap.UpToSlots.trans y4 hsm₅'
  obtain ⟨g₅, T₅, F₅, K₅⟩ := ground_any rfl B F hBG hheld.1 (hsm.trans hsm₅)
  have X₅ : (heapK w.params).In g₅ := XB.keeps K₅.stays
  have P₅ := topRead_of (TB.keeps K₅.stays)
  obtain ⟨ob, hob, hobc⟩ := hheld.there
  refine wpAny_handleBy_builtin (X := X) (T := T') (b := true) hexc hnt hsub (name_B F₅ X₅ P₅ ex hv hn' ⟨rfl, ⟨ob, hob, hobc⟩, ?_⟩ hk hx hd)
  refine lands_againW hheld fun h₆ hfl₆ hsm₆ => ?_
  obtain ⟨g₆, T₆, F₆, K₆⟩ := ground_any rfl B F hBG hfl₆.1 ((hsm.trans hsm₅).trans hsm₆)
  have Nl : News g₆ L h₆ D := fun q hq => by
    have hq1 := N q hq
    have hnf : q.1 ∉ (envOf name scope L a cd :: outer).filterMap (·.frame) := fun hmm => by
      rcases mem_fr hfL hmm with z | z
      · exact hq1.2.1 z
      · obtain ⟨_, o, ho, _⟩ := B.frames.mem z
        rw [hq1.2.2] at ho; cases ho
    exact ⟨hfl₆.1 _ _ (hBG _ _ hq1.1 hnf), hq1.2.1, T₆.none_ _ hq1.2.2⟩
  have T₆' : KtsTurn (outerF (A.deeper (envOf name scope L a cd))) h₀ g₆ := by rw [outerF_eq hfr]; exact T₆
  exact wpAny_passesOwnAt hE (k h₆ g₆ T₆' (C.turn T₆') F₆ Nl)
end
end

section
set_option Elab.async false
set_option maxRecDepth 100000
set_option maxHeartbeats 8000000
section
variable {w : World} {A : Around} {E : Value → Shared → Prop} {s : Shared} {L : Addr} {h₀ : Heap} {m : Str → Option Value} {D X : Led} {R : Result → Shared → Prop} {Q : Value → Shared → Prop}
theorem enterTU {R : Result → Shared → Prop} {name qual : Str} {params : Arguments} {body : List Stmt} {scope : Scope} {dV kV doc pm cdv ct oc : Value} {an od : Option Addr} {osl : Array (Option Value)} {f : Addr} {args : Args} {binds : List (Str × Value)} {ents : List (Str × Option Value)}
    (C : Cx w A h₀ L) (F : Fr h₀ L s.heap m) (N : News h₀ L s.heap D)
    (ho : (heapK w.params).lookup f = some ⟨oc, od, .func (fnOf name qual params body scope dV kV doc pm an cdv ct), osl⟩) (hcd : codeIn (heapK w.params) cdv qual = true) (hroom : A.depth < recursionLimit)
    (hbind : BindsTo s (fnOf name qual params body scope dV kV doc pm an cdv ct) args binds) (hents : (binds.reverse.map fun p => (p.1, some p.2)) = ents) (hloc : ∀ y ∈ binds, scope.names.lookup y.1 = some .local)
    (h : ∀ g L' h₁ hm mg mb tk, Fr h₀ L g m → Fr g L' h₁ (upds emp ents) → News g L' h₁ D → Cx w (A.deeper (envOf qual scope L' f cdv)) g L' → (heapK w.params).In g → TopAt hm mg mb g →
      wpAny (model Challenge.rw_dm0132_06.row.prog w) (A.deeper (envOf qual scope L' f cdv)) (execs body (envOf qual scope L' f cdv))
        (fun fl s' => LeaveT w A (A.deeper (envOf qual scope L' f cdv)) h₀ L m g R (match fl with | .ret v => v | _ => .none) s')
        (fun e s' => wpAny (model Challenge.rw_dm0132_06.row.prog w) (A.deeper (envOf qual scope L' f cdv)) (leaving (envOf qual scope L' f cdv) e) (fun _ s'' => R (.error e) s'') (fun e' s'' => R (.error e') s'') s')
        { s with heap := h₁, toks := tk })
    (hco : scope.isCoroutine = false) (hgen : scope.isGenerator = false) (hk : scope.kind = .function)
    (hcell : ∀ x ∈ scope.names, x.2 ≠ .cell) : codeAny (model Challenge.rw_dm0132_06.row.prog w) A (.call (.ref f) args) R s := by
  refine enterT C F N ho hcd hroom hbind hloc (fun g L' h₁ hm mg mb FG F' N' C' X' T' => ?_) hco hgen hk hcell
  rw [lookup_upds, hents] at F'
  exact h g L' h₁ hm mg mb _ FG F' N' C' X' T'

/-! loops on a ground that may turn -/
noncomputable def NextT (fs : List Addr) (h₀ : Heap) (L I : Addr) (oi : Obj) (J : Heap → (Str → Option Value) → Led → Prop) (s s₃ : Shared) : Prop :=
  X5 fun g h tk m D => A6 (s₃ = { s with heap := h, toks := tk }) (KtsTurn fs h₀ g) (Fr g L h m) (News g L h ((I, oi) :: D)) ((∀ p ∈ D, p.1 ≠ I)) (J g m D)
noncomputable def LoopPostT (fs : List Addr) (h₀ : Heap) (L I : Addr) (oi : Obj) (J : Heap → (Str → Option Value) → Led → Prop) (s : Shared) (Q : Flow → Shared → Prop) (fl : Flow) (s₃ : Shared) : Prop := match fl with
  | .next | .cont => NextT fs h₀ L I oi J s s₃
  | .brk => Q .next s₃
  | .ret v => Q (.ret v) s₃
theorem for_keysT {Q : Flow → Shared → Prop} {fs : List Addr} {d : Addr} {od : Obj} {kvs : List (Nat × Value)} {x : Str} {px : Pos} {body : List Stmt} {env : Env} (hh : A.handled = none) (F : Fr h₀ L s.heap m) (N : News h₀ L s.heap D) (hm : (d, od) ∈ D) (hod : od.IsDictOf (NK6 w) kvs) (lo : (d == sysModules) = false)
    (J : Nat → Heap → (Str → Option Value) → Led → Prop) (hX : ∀ i g m D, J i g m D → (d, od) ∈ D) (hj : J 0 h₀ m D)
    (turn : ∀ I oi, (∀ p ∈ D, p.1 < I) → ∀ i k v key g m D h tk, kvs[i]? = some (k, v) → nmIs k key = true → J i g m D → KtsTurn fs h₀ g → Fr g L h (fun y => if y = x then some key else m y) → News g L h ((I, oi) :: D) → (∀ p ∈ D, p.1 ≠ I) →
      wpAny (model PG w) A (execs body env) (LoopPostT fs h₀ L I oi (J (i + 1)) s Q) (LoopErr w A env E) { s with heap := h, toks := tk })
    (done : ∀ g m D h tk, J kvs.length g m D → KtsTurn fs h₀ g → Fr g L h m → News g L h D → Q .next { s with heap := h, toks := tk })
    (hL : env.locals = L := by rfl) (hk : env.scope.kind = .function := by rfl) (hx : env.kindOf x = some .local := by rfl) :
    wpAny (model PG w) A (pyIter (.ref d)) (fun it s₂ => ForGoal w A (.Name x px) body env Q E it s₂) E s := by
  subst hL
  obtain ⟨es, ep, hde, hdd, hdk, hdp, hdn⟩ := id hod
  have DA : ∀ h : Heap, h.get? d = some od → h.DictAt (NK6 w) d kvs ep := fun h e => ⟨od, es, e, hde, hdd, hdk, hdp, hdn⟩
  have lt0 : ∀ p ∈ D, p.1 < s.heap.objs.size := fun p hp => Heap.lt_size (N p hp).1
  refine wpAny_pyIter_dict (knd := NK6 w) lo (DA _ (N _ hm).1) ?_
  have up : ∀ b o, s.heap.get? b = some o → (s.heap.push { cls := .type "dict_keyiterator", data := .fields #[.ref d, .int 0 0, .int kvs.length 0, .int ep 0] }).get? b = some o := fun b o e => Heap.get?_push_of_some _ e
  have hIn := next_is_new F
  have hIL : s.heap.objs.size ≠ env.locals := Ne.symm (Nat.ne_of_lt F.ns.lt)
  have hst0 : (s.heap.push { cls := .type "dict_keyiterator", data := .fields #[.ref d, .int 0 0, .int kvs.length 0, .int ep 0] }).IsKeyIter s.heap.objs.size d 0 kvs.length ep := ⟨_, Heap.get?_push_size _ rfl, rfl, rfl⟩
  have hd0 := DA _ (up _ _ (N _ hm).1)
  have F0 := F.keeps up
  have N0 := N.grown up
  generalize s.heap.objs.size = I at lt0 hIn hIL hst0 ⊢
  have hdI : d ≠ I := Nat.ne_of_lt (lt0 _ hm)
  have W := Walks.dictKeys (prog := PG) (w := w) (A := A) (knd := NK6 w) hh I d hdI kvs ep
  refine codeAny_forLoop (fun n s₁ => X6 fun i g h tk m D => A8 (n + i = kvs.length) (s₁ = { s with heap := h, toks := tk }) (KtsTurn fs h₀ g) (Fr g env.locals h m) (News g env.locals h D) ((∀ p ∈ D, p.1 ≠ I)) ((h.IsKeyIter I d i kvs.length ep ∧ h.DictAt (NK6 w) d kvs ep)) (J i g m D)) ?_ kvs.length
    ⟨0, h₀, _, s.toks, m, D, rfl, rfl, KtsTurn.refl, F0, N0, fun p hp => Nat.ne_of_lt (lt0 p hp), ⟨hst0, hd0⟩, hj⟩ (fun _ => rfl)
  rintro n s' ⟨i, g, H, tk, m', D', hn, rfl, T, F', N', off, st, hJ⟩
  have hgI := T.none_ _ hIn
  by_cases hi : i < kvs.length
  · refine W.item i _ _ _ hi st fun v h' tk' hP st' hb => ?_
    obtain ⟨k, xv, hkv, hkey⟩ := hP
    obtain ⟨oi, hoi, hoc, hod'⟩ := id st'.1
    have F2 := fr_but F' hb hIL hgI
    have N2 : News g env.locals h' ((I, oi) :: D') := fun p hp => by
      rcases List.mem_cons.mp hp with rfl | hp
      · exact ⟨hoi, hIL, hgI⟩
      · exact ⟨hb _ _ (by simpa using off p hp) (N' p hp).1, (N' p hp).2⟩
    refine store_n (s := { s with heap := h', toks := tk' }) F2 N2 rfl hk hx fun h3 tk3 F3 N3 => ?_
    refine wpAny_mono (turn I oi lt0 i k xv v g m' D' h3 tk3 hkv hkey hJ T F3 N3 off) (fun fl s₃ h₃ => ?_) fun _ _ e => e
    have go : NextT fs h₀ env.locals I oi (J (i + 1)) s s₃ → ∃ k', k' < n ∧ (X6 fun i g h tk m D => A8 (k' + i = kvs.length) (s₃ = { s with heap := h, toks := tk }) (KtsTurn fs h₀ g) (Fr g env.locals h m) (News g env.locals h D) ((∀ p ∈ D, p.1 ≠ I)) ((h.IsKeyIter I d i kvs.length ep ∧ h.DictAt (NK6 w) d kvs ep)) (J i g m D)) := by
      rintro ⟨g4, h4, tk4, m4, D4, e, T4, F4, N4, off4, J4⟩
      refine ⟨n - 1, by exact o47 hi hn, i + 1, g4, h4, tk4, m4, D4, by exact o48 hi hn, e, T4, F4, fun p hp => N4 p (.tail _ hp), off4, ?_, J4⟩
      exact ⟨⟨oi, (N4 _ (.head _)).1, hoc, hod'⟩, DA _ (N4 _ (.tail _ (hX _ _ _ _ J4))).1⟩
    cases fl with
    | next => exact go h₃
    | cont => exact go h₃
    | brk => exact h₃
    | ret v => exact h₃
  · obtain rfl : i = kvs.length := by exact o49 hn hi
    refine W.done _ _ _ st fun h' tk' hb => ?_
    exact wpAny_execs_nil (done g m' D' h' tk' hJ T (fr_but F' hb hIL hgI) fun p hp => ⟨hb _ _ (by simpa using off p hp) (N' p hp).1, (N' p hp).2⟩)
theorem whl_inv {prog : Program} {env : Env} {test : PySem.Expr} {body orelse : List Stmt} {Q : Flow → Shared → Prop} (I : Nat → Shared → Prop) (hE : PassesOwn (model prog w) A env E)
    (turn : ∀ n s, I n s → wpAny (model prog w) A (isTrue test env (eval test env)) (fun b s₂ => WhlIf b (wpAny (model prog w) A (execs body env) (fun f s₃ => match f with | .next => ∃ m, m < n ∧ I m s₃ | .cont => ∃ m, m < n ∧ I m s₃ | .brk => Q .next s₃ | .ret v => Q (.ret v) s₃) E s₂) (wpAny (model prog w) A (execs orelse env) Q E s₂)) E s) :
    ∀ n s, I n s → WhlRest prog w A E env test body orelse Q 0 s := by
  intro n
  induction n using Nat.strongRecOn with
  | ind n ih =>
    intro s hI
    have key := turn n s hI
    refine whl_turn (k := 0) hE (wpAny_mono key (fun b s₂ h₂ => ?_) fun _ _ e => e)
    cases b with
    | false => exact h₂
    | true =>
      refine WhlIf.yes rfl (wpAny_mono (show wpAny _ _ _ _ _ _ from h₂) (fun f s₃ h₃ => ?_) fun _ _ e => e)
      cases f with
      | next => obtain ⟨m, hm, hI'⟩ := h₃; exact ih m hm s₃ hI'
      | cont => obtain ⟨m, hm, hI'⟩ := h₃; exact ih m hm s₃ hI'
      | brk => exact h₃
      | ret v => exact h₃
end
end

section
set_option Elab.async false
/-! depth first search, in plain words: an entry is (node, how many of its successors were taken); the top stands first -/
noncomputable def Chain (g : Nat → List Nat) (fin : List Nat) : Option Nat → List (Nat × Nat) → Prop
  | _, [] => True
  | none, e :: r => e.2 ≤ (g e.1).length ∧ (∀ q ∈ (g e.1).take e.2, q ∈ fin) ∧ Chain g fin (some e.1) r
  | some c, e :: r => (∃ j, e.2 = j + 1 ∧ (g e.1)[j]? = some c ∧ ∀ q ∈ (g e.1).take j, q ∈ fin) ∧ Chain g fin (some e.1) r
noncomputable def Topo (g : Nat → List Nat) : List Nat → Prop
  | [] => True
  | x :: fin => (∀ q ∈ g x, q ∈ fin) ∧ Topo g fin
theorem Chain.mono {g : Nat → List Nat} {fin fin' : List Nat} (h : ∀ q ∈ fin, q ∈ fin') : ∀ {pend : Option Nat} {st : List (Nat × Nat)}, Chain g fin pend st → Chain g fin' pend st
  | none, [], _ => trivial
  | some _, [], _ => trivial
  | none, _ :: _, ⟨h1, h2, h3⟩ => ⟨h1, fun q hq => h q (h2 q hq), Chain.mono h h3⟩
  | some _, _ :: _, ⟨⟨j, h1, h2, h3⟩, h4⟩ => ⟨⟨j, h1, h2, fun q hq => h q (h3 q hq)⟩, Chain.mono h h4⟩
structure Dfs (g : Nat → List Nat) (S : Nat → Bool) (fin : List Nat) (pend : Option Nat) (st : List (Nat × Nat)) : Prop where
  chain : Chain g fin pend st
  topo : Topo g fin
  nodup : (st.map (·.1) ++ fin).Nodup
  seen : ∀ q, S q = true ↔ q ∈ st.map (·.1) ++ fin
noncomputable def mark (S : Nat → Bool) (p : Nat) : Nat → Bool := fun q => if q = p then true else S q
theorem Dfs.start {g : Nat → List Nat} {S : Nat → Bool} {fin : List Nat} {pend pend' : Option Nat} (h : Dfs g S fin pend []) : Dfs g S fin pend' [] :=
  ⟨by cases pend' <;> trivial, h.topo, h.nodup, h.seen⟩
theorem Dfs.push {g : Nat → List Nat} {S : Nat → Bool} {fin : List Nat} {p : Nat} {st : List (Nat × Nat)} (h : Dfs g S fin (some p) st) (hp : S p = false) : Dfs g (mark S p) fin none ((p, 0) :: st) := by
  refine ⟨⟨Nat.zero_le _, (fun q hq => by rw [List.take_zero] at hq; cases hq), h.chain⟩, h.topo, ?_, fun q => ?_⟩
  · rw [List.map_cons, List.cons_append, List.nodup_cons]
    refine ⟨fun hm => ?_, h.nodup⟩
    have := (h.seen p).mpr hm
    rw [hp] at this; cases this
  · unfold mark
    rw [List.map_cons, List.cons_append, List.mem_cons]
    split
    · next e => exact ⟨fun _ => .inl e, fun _ => rfl⟩
    · next e => exact ⟨fun hs => .inr ((h.seen q).mp hs), fun hs => (h.seen q).mpr (hs.resolve_left e)⟩
theorem take_succ_mem {l : List Nat} {j c : Nat} (h : l[j]? = some c) {q : Nat} (hq : q ∈ l.take (j + 1)) : q ∈ l.take j ∨ q = c := by
  rw [List.take_add_one, h] at hq
  rcases List.mem_append.mp hq with h1 | h1
  · exact .inl h1
  · exact .inr (by simpa using h1)
theorem Dfs.old {g : Nat → List Nat} {S : Nat → Bool} {fin : List Nat} {p : Nat} {st : List (Nat × Nat)} (h : Dfs g S fin (some p) st) (hp : S p = true) (hs : p ∉ st.map (·.1)) : Dfs g S fin none st := by
  have hf : p ∈ fin := (List.mem_append.mp ((h.seen p).mp hp)).resolve_left hs
  refine ⟨?_, h.topo, h.nodup, h.seen⟩
  match st, h.chain with
  | [], _ => trivial
  | e :: r, ⟨⟨j, h1, h2, h3⟩, h4⟩ =>
    refine ⟨?_, fun q hq => ?_, h4⟩
    · rw [h1]; exact (List.getElem?_eq_some_iff.mp h2).1
    · rw [h1] at hq
      rcases take_succ_mem h2 hq with h5 | h5
      · exact h3 q h5
      · exact h5 ▸ hf
theorem ring_of {g : Nat → List Nat} {fin : List Nat} {t : Nat} : ∀ {p : Nat} {st : List (Nat × Nat)}, Chain g fin (some p) st → t ∈ st.map (·.1) →
    ∃ c : List Nat, t ∈ c ∧ (∀ q ∈ c, q ∈ st.map (·.1)) ∧ (∃ q' ∈ c, p ∈ g q') ∧ ∀ q ∈ c, q ≠ t → ∃ q' ∈ c, q ∈ g q'
  | _, [], _, h => nomatch h
  | p, e :: r, ⟨⟨j, _, h2, _⟩, h4⟩, ht => by
    have hpe : p ∈ g e.1 := List.mem_of_getElem? h2
    by_cases he : t = e.1
    · exact ⟨[t], .head _, fun q hq => by rw [List.mem_singleton.mp hq, he]; exact .head _, ⟨t, .head _, he ▸ hpe⟩, fun q hq hne => absurd (List.mem_singleton.mp hq) hne⟩
    · have ht' : t ∈ r.map (·.1) := by
        rw [List.map_cons] at ht
        exact (List.mem_cons.mp ht).resolve_left he
      obtain ⟨c, c1, c2, ⟨q0, c3, c4⟩, c5⟩ := ring_of h4 ht'
      refine ⟨e.1 :: c, .tail _ c1, fun q hq => ?_, ⟨e.1, .head _, hpe⟩, fun q hq hne => ?_⟩
      · rcases List.mem_cons.mp hq with h | h
        · rw [h]; exact .head _
        · exact .tail _ (c2 q h)
      · rcases List.mem_cons.mp hq with h | h
        · exact ⟨q0, .tail _ c3, h ▸ c4⟩
        · obtain ⟨q', h6, h7⟩ := c5 q h hne
          exact ⟨q', .tail _ h6, h7⟩
/-- a ring: each of its nodes is the successor of one of its nodes -/
noncomputable def Ring (g : Nat → List Nat) (c : List Nat) : Prop := c ≠ [] ∧ ∀ q ∈ c, ∃ q' ∈ c, q ∈ g q'
theorem Dfs.ring {g : Nat → List Nat} {S : Nat → Bool} {fin : List Nat} {p : Nat} {st : List (Nat × Nat)} (h : Dfs g S fin (some p) st) (hs : p ∈ st.map (·.1)) : ∃ c, Ring g c ∧ ∀ q ∈ c, q ∈ st.map (·.1) := by
  obtain ⟨c, c1, c2, c3, c4⟩ := ring_of h.chain hs
  refine ⟨c, ⟨fun e => (by rw [e] at c1; exact nomatch c1), fun q hq => ?_⟩, c2⟩
  by_cases e : q = p
  · exact e ▸ c3
  · exact c4 q hq e
theorem Dfs.item {g : Nat → List Nat} {S : Nat → Bool} {fin : List Nat} {q i c : Nat} {st : List (Nat × Nat)} (h : Dfs g S fin none ((q, i) :: st)) (hc : (g q)[i]? = some c) : Dfs g S fin (some c) ((q, i + 1) :: st) :=
  ⟨⟨⟨i, rfl, hc, h.chain.2.1⟩, h.chain.2.2⟩, h.topo, h.nodup, h.seen⟩
theorem Dfs.pop {g : Nat → List Nat} {S : Nat → Bool} {fin : List Nat} {q i : Nat} {st : List (Nat × Nat)} (h : Dfs g S fin none ((q, i) :: st)) (hc : (g q)[i]? = none) : Dfs g S (q :: fin) none st := by
  obtain ⟨h1, h2, h3⟩ := h.chain
  have hall : ∀ r ∈ g q, r ∈ fin := by
    have h1' : i ≤ (g q).length := h1
    have h4 : (g q).length ≤ i := List.getElem?_eq_none_iff.mp hc
    have h2' : ∀ r ∈ (g q).take i, r ∈ fin := h2
    rwa [List.take_of_length_le h4] at h2'
  have hn := h.nodup
  have hse := h.seen
  simp only [List.map_cons, List.cons_append] at hn hse
  refine ⟨?_, ⟨hall, h.topo⟩, ?_, fun r => ?_⟩
  · match st, h3 with
    | [], _ => trivial
    | e :: r, ⟨⟨j, k1, k2, k3⟩, k4⟩ =>
      refine ⟨?_, fun y hy => ?_, Chain.mono (fun _ h => .tail _ h) k4⟩
      · rw [k1]; exact (List.getElem?_eq_some_iff.mp k2).1
      · rw [k1] at hy
        rcases take_succ_mem k2 hy with k5 | k5
        · exact .tail _ (k3 y k5)
        · rw [k5]; exact .head _
  · exact (List.perm_middle.nodup_iff).mpr hn
  · rw [hse r]
    exact (List.perm_middle (l₁ := st.map (·.1)) (a := q) (l₂ := fin)).mem_iff.symm
/-! how much is left -/
noncomputable def unseenW (g : Nat → List Nat) (nodes : List Nat) (S : Nat → Bool) : Nat := (nodes.map fun q => if S q then 0 else (g q).length + 2).sum
noncomputable def stW (g : Nat → List Nat) (st : List (Nat × Nat)) : Nat := (st.map fun e => (g e.1).length - e.2 + 1).sum
theorem unseen_mono {g : Nat → List Nat} {S : Nat → Bool} {p : Nat} : ∀ (nodes : List Nat), unseenW g nodes (mark S p) ≤ unseenW g nodes S
  | [] => Nat.le_refl _
  | q :: r => by
    have ih := unseen_mono (g := g) (S := S) (p := p) r
    unfold unseenW at ih ⊢
    simp only [List.map_cons, List.sum_cons]
    have : (if mark S p q = true then 0 else (g q).length + 2) ≤ (if S q = true then 0 else (g q).length + 2) := by
      unfold mark
      by_cases e : q = p
      · rw [if_pos e]; exact Nat.zero_le _
      · rw [if_neg e]; exact Nat.le_refl _
    omega
theorem unseen_push {g : Nat → List Nat} {S : Nat → Bool} {p : Nat} (hp : S p = false) : ∀ {nodes : List Nat}, p ∈ nodes → unseenW g nodes (mark S p) + ((g p).length + 2) ≤ unseenW g nodes S
  | q :: r, hm => by
    unfold unseenW
    simp only [List.map_cons, List.sum_cons]
    by_cases e : q = p
    · subst e
      have ih := unseen_mono (g := g) (S := S) (p := q) r
      unfold unseenW at ih
      have h1 : mark S q q = true := if_pos rfl
      rw [h1, hp]
      simp only [if_true]
      show 0 + _ + _ ≤ (if false = true then 0 else _) + _
      rw [if_neg Bool.false_ne_true]
      omega
    · have hm' : p ∈ r := (List.mem_cons.mp hm).resolve_left fun h => e h.symm
      have ih := unseen_push (g := g) (S := S) (p := p) hp hm'
      unfold unseenW at ih
      have h1 : mark S p q = S q := if_neg e
      rw [h1]
      omega
end

section
set_option Elab.async false
set_option maxRecDepth 100000
set_option maxHeartbeats 8000000
set_option genInjectivity false in
set_option genSizeOf false in
structure Fe where
  p : Nat
  v : Value
  mw : Nat
  it : Nat
  sl : Nat
  i : Nat
noncomputable abbrev Fe.cells (f : Fe) : Led := [(f.mw, mwObj f.it), (f.it, liObj f.sl f.i)]
set_option genInjectivity false in
set_option genSizeOf false in
structure Fst where
  ld : Nat
  ls : Nat
  lb : Nat
  la : Nat
  od : Obj
  os : Obj
  nb : Nat
  na : Nat
  fs : List Fe
noncomputable def Fst.cells (w : World) (z : Fst) (σ : Sor) (X : Led) : Led :=
  (z.ld, z.od) :: (z.ls, z.os) :: (z.lb, listOf (z.fs.reverse.map fun f => Value.ref f.mw).toArray z.nb) :: (z.la, listOf (z.fs.reverse.map Fe.v).toArray z.na) :: σ.cells w (z.fs.flatMap Fe.cells ++ X)
/-- the graph of the records -/
noncomputable def gOf (σ : Sor) (q : Nat) : List Nat := (entryOf σ.abs q).2
structure Fst.Ok (w : World) (z : Fst) (σ : Sor) (S : Nat → Bool) (fin : List Nat) (pend : Option Nat) : Prop where
  dict : ∃ kvs, z.od.IsDictOf (NK6 w) kvs ∧ (∀ e ∈ kvs, ∃ k t, e.2 = .int k t ∧ 0 ≤ k ∧ k ≤ 1000000) ∧ ∀ q, (valueAt kvs q).isSome = true ↔ q ∈ z.fs.map Fe.p
  lo : (z.ld == sysModules) = false
  set : z.os.SetObjOf (NK6 w) S (z.fs.length + fin.length)
  fes : ∀ f ∈ z.fs, nmIs f.p f.v = true ∧ ∃ i ∈ σ.infos, i.p = f.p ∧ i.sl = f.sl
  dfs : Dfs (gOf σ) S fin pend (z.fs.map fun f => (f.p, f.i))
  few : ∀ q ∈ z.fs.map Fe.p ++ fin, q < 6
theorem nodup_lt : ∀ (n : Nat) {l : List Nat}, l.Nodup → (∀ q ∈ l, q < n) → l.length ≤ n
  | 0, [], _, _ => Nat.le_refl _
  | 0, a :: _, _, h => absurd (h a (.head _)) (Nat.not_lt_zero _)
  | n + 1, l, hn, h => by
    have h1 : (l.erase n).length ≤ n := nodup_lt n (hn.erase n) fun q hq => by
      have := (List.Nodup.mem_erase_iff hn).mp hq
      have h2 := h q this.2
      have h3 : q ≠ n := this.1
      exact o50 h2 h3
    have h2 := List.length_erase (a := n) (l := l)
    split at h2 <;> (first | exact o51 h2 h1 | exact o52 h2 h1 | assumption)
theorem Fst.Ok.small {w : World} {z : Fst} {σ : Sor} {S : Nat → Bool} {fin : List Nat} {pend : Option Nat} (ok : z.Ok w σ S fin pend) : z.fs.length + fin.length ≤ 6 := by
  have h1 := ok.dfs.nodup
  have e : (z.fs.map fun f => (f.p, f.i)).map (·.1) = z.fs.map Fe.p := by rw [List.map_map]; rfl
  rw [e] at h1
  have := nodup_lt 6 h1 ok.few
  simpa using this
section
variable {w : World} {A : Around} {E : Value → Shared → Prop} {s : Shared} {L : Addr} {h₀ : Heap} {m : Str → Option Value} {D X : Led} {R : Result → Shared → Prop} {Q : Value → Shared → Prop}
theorem nm_scan {p : Nat} {v : Value} (h : nmIs p v = true) : v.scannable = true := by
  obtain ⟨k, _, h2⟩ := nmIs_key h
  rcases NK.is_shape h2 with ⟨n, t, _, rfl⟩ | ⟨x, t, _, rfl⟩ <;> rfl
theorem in_set {a : Addr} {o : Obj} {S : Nat → Bool} {n p : Nat} {v : Value} (N : News h₀ L s.heap D) (hp : (a, o) ∈ D) (hs : o.SetObjOf (NK6 w) S n) (hn : n ≤ 6) (hv : nmIs p v = true) (b : Bool) (hb : S p = b) (h : ∀ tk, Q (.bool b) { s with toks := tk }) :
    wpAny (model PG w) A (compareOp .In v (.ref a)) Q E s :=
  wpAny_inSet_of (knd := NK6 w) hv (nm_scan hv) (hs.setOf (N _ hp).1 (by show n < 4096; exact o53 hn)) (by rw [hb]; exact h _)
theorem in_dict {a : Addr} {o : Obj} {kvs : List (Nat × Value)} {p : Nat} {v : Value} (N : News h₀ L s.heap D) (hp : (a, o) ∈ D) (hs : o.IsDictOf (NK6 w) kvs) (lo : (a == sysModules) = false) (hv : nmIs p v = true) (b : Bool) (hb : (valueAt kvs p).isSome = b) (h : ∀ tk, Q (.bool b) { s with toks := tk }) :
    wpAny (model PG w) A (compareOp .In v (.ref a)) Q E s := kda_in N hp hs lo hv b hb (h _)
theorem set_add {a : Addr} {o : Obj} {S : Nat → Bool} {n p : Nat} {v : Value} {f : Obj → Led} (F : Fr h₀ L s.heap m) (N : News h₀ L s.heap D) (U : UpdF a o D f) (hs : o.SetObjOf (NK6 w) S n) (hn : n ≤ 6) (hv : nmIs p v = true) (hS : S p = false)
    (h : ∀ h' o' tk, Fr h₀ L h' m → News h₀ L h' (f o') → o'.SetObjOf (NK6 w) (mark S p) (n + 1) → Q .none { s with heap := h', toks := tk }) :
    wpAny (model PG w) A (call (.builtin "set.add") [.ref a, v]) Q E s := by
  obtain ⟨pre, post, rfl, hg, x, y⟩ := U.split
  have hm := N (a, o) (List.mem_append_right _ (.head _))
  refine call_set_add (knd := NK6 w) hv (nm_scan hv) (hs.setOf hm.1 (by show n < 4096; exact o53 hn)) (by show n + 1 < 4096; exact o54 hn) fun h' hsb hS' => ?_
  obtain ⟨o', ho', hd'⟩ := hS'.objOf
  rw [hS, if_neg Bool.false_ne_true] at hd'
  refine h h' o' _ (F.change hsb hm.2.1 hm.2.2) (hg o' ▸ N.setIn x y hsb ho') ?_
  have e : (fun k' => S k' || decide (k' = p)) = mark S p := by
    funext q
    unfold mark
    by_cases hq : q = p
    · rw [if_pos hq, decide_eq_true hq, Bool.or_true]
    · rw [if_neg hq, decide_eq_false hq, Bool.or_false]
  rw [← e]; exact hd'
theorem iter_list {a : Addr} {its : List Value} {n : Nat} (F : Fr h₀ L s.heap m) (N : News h₀ L s.heap D) (hm : (a, listOf its.toArray n) ∈ D)
    (h : ∀ x h' tk, Fr h₀ L h' m → News h₀ L h' ((x, liObj a 0) :: D) → (∀ p ∈ D, p.1 < x) → Q (.ref x) { s with heap := h', toks := tk }) : wpAny (model PG w) A (call (.builtin "iter") [.ref a]) Q E s := by
  refine PySem.Calls.call_function_entry (by decide +kernel) (by decide +kernel) kdk_entry_iter (kdk_args_iter _) ?_
  unfold PySem.Builtin.«iter»
  refine wpAny_bind (m := someArgs "iter" 1 2 _) (wpAny_of_eq (a := [Value.ref a]) (by first | rfl | kernel_rfl!) ?_)
  show wpAny _ _ (pyIter (.ref a) >>= _) _ _ _
  refine wpAny_bind (wpAny_pyIter_list ⟨_, (N _ hm).1, rfl, n, rfl⟩ ?_)
  exact wpAny_pure ⟨_, rfl, h _ _ _ (F.push _) (News.push F N _ rfl) (fun q hq => Heap.lt_size (N q hq).1)⟩
theorem next_attr {a b : Addr} {i : Nat} {bb : Bool} (F : Fr h₀ L s.heap m) (N : News h₀ L s.heap D) (hm : (a, liObj b i) ∈ D)
    (h : ∀ x h' tk, Fr h₀ L h' m → News h₀ L h' ((x, mwObj a) :: D) → (∀ p ∈ D, p.1 < x) → Q (.ref x) { s with heap := h', toks := tk }) : wpAny (model PG w) A (getAttr (.ref a) (Str.ofString "__next__") bb) Q E s := by
  obtain ⟨hp, g, d, t, os⟩ := s
  exact li_attr (N _ hm).1 (h _ _ _ (F.push _) (News.push F N _) fun p hp => Heap.lt_size (N p hp).1)
theorem call_next {q it l : Addr} {i : Nat} {its : List Value} {n : Nat} {x : Value} {D' : Led} (F : Fr h₀ L s.heap m) (N : News h₀ L s.heap D) (hq : (q, mwObj it) ∈ D) (hl : (l, listOf its.toArray n) ∈ D) (hx : its[i]? = some x) (U : Upd it (liObj l i) (liObj l (i + 1)) D D')
    (h : ∀ h', Fr h₀ L h' m → News h₀ L h' D' → Q x { s with heap := h' }) : wpAny (model PG w) A (call (.ref q) []) Q E s := by
  obtain ⟨pre, post, rfl, rfl, x1, x2⟩ := U.split
  have hm := N (it, liObj l i) (List.mem_append_right _ (.head _))
  refine mw_item (N _ hq).1 hm.1 ⟨_, (N _ hl).1, rfl, n, rfl⟩ (by simpa using hx) fun h' hi hs => ?_
  exact h h' (F.change hs hm.2.1 hm.2.2) (N.setIn x1 x2 hs hi)
theorem len_raw {a : Addr} {vs : List Value} {n : Nat} (N : News h₀ L s.heap D) (hm : (a, listOf vs.toArray n) ∈ D) (hz : vs.length ≤ 1000000)
    (h : ∀ tk tk', Q (.int (vs.length : Int) tk) { s with toks := tk' }) : wpAny (model PG w) A (call (.builtin "len") [.ref a]) Q E s := by
  have e : vs.toArray.size = vs.length := by rw [List.size_toArray]
  exact len_list ⟨_, (N _ hm).1, rfl, n, rfl⟩ (by rw [e]; omega) (by rw [e]; exact h _ _)
theorem set_d {d : Addr} {o : Obj} {kvs : List (Nat × Value)} {p : Nat} {key v : Value} {f : Obj → Led} {Q : Unit → Shared → Prop} (F : Fr h₀ L s.heap m) (N : News h₀ L s.heap D) (U : UpdF d o D f) (hd : o.IsDictOf (NK6 w) kvs) (hkey : nmIs p key = true) (hz : kvs.length ≤ 1000)
    (h : ∀ h' o' tk, Fr h₀ L h' m → News h₀ L h' (f o') → o'.IsDictOf (NK6 w) (stored kvs p v) → Q () { s with heap := h', toks := tk }) : wpAny (model PG w) A (setItem (.ref d) key v) Q E s :=
  kda_set F N U hd hkey (by rw [sizeLine_eq]; exact o5 hz) fun h' o' F' N' hd' => h h' o' _ F' N' hd'
end
theorem dict_nodup {w : World} {o : Obj} {kvs : List (Nat × Value)} (h : o.IsDictOf (NK6 w) kvs) : (kvs.map (·.1)).Nodup := by
  obtain ⟨_, _, _, _, _, _, hn⟩ := h
  exact hn
theorem valueAt_mem {kvs : List (Nat × Value)} {q : Nat} (h : q ∈ kvs.map (·.1)) : (valueAt kvs q).isSome = true := by
  cases e : valueAt kvs q with
  | some v => rfl
  | none =>
    obtain ⟨kv, hm, rfl⟩ := List.mem_map.mp h
    exact absurd rfl (valueAt_none e kv hm)
theorem mem_valueAt {kvs : List (Nat × Value)} {q : Nat} (h : (valueAt kvs q).isSome = true) : q ∈ kvs.map (·.1) := by
  cases e : valueAt kvs q with
  | none => rw [e] at h; cases h
  | some v => exact List.mem_map.mpr ⟨_, valueAt_some e, rfl⟩
theorem dict_small {w : World} {o : Obj} {kvs : List (Nat × Value)} {l fin : List Nat} (h : o.IsDictOf (NK6 w) kvs) (hk : ∀ q, (valueAt kvs q).isSome = true ↔ q ∈ l) (hf : ∀ q ∈ l ++ fin, q < 6) : kvs.length ≤ 1000 := by
  have := nodup_lt 6 (dict_nodup h) fun q hq => hf q (List.mem_append_left _ ((hk q).mp (valueAt_mem hq)))
  rw [List.length_map] at this
  exact o55 this
end

section
set_option Elab.async false
set_option maxRecDepth 100000
set_option maxHeartbeats 8000000
theorem valueAt_app {kvs : List (Nat × Value)} {p q : Nat} {v : Value} : (valueAt (kvs ++ [(p, v)]) q).isSome = true ↔ (valueAt kvs q).isSome = true ∨ q = p := by
  constructor
  · intro h
    have := mem_valueAt h
    rw [List.map_append] at this
    rcases List.mem_append.mp this with h1 | h1
    · exact .inl (valueAt_mem h1)
    · exact .inr (by simpa using h1)
  · intro h
    refine valueAt_mem ?_
    rw [List.map_append]
    rcases h with h | h
    · exact List.mem_append_left _ (mem_valueAt h)
    · exact List.mem_append_right _ (by simp [h])
theorem stored_new {kvs : List (Nat × Value)} {p : Nat} {v : Value} (h : (valueAt kvs p).isSome = false) : stored kvs p v = kvs ++ [(p, v)] := by
  unfold stored
  rw [if_neg]
  simp only [List.any_eq_true, decide_eq_true_eq, not_exists, not_and]
  intro kv hm e
  have := valueAt_mem (List.mem_map.mpr ⟨kv, hm, e⟩)
  rw [h] at this; cases this
theorem valueAt_without {kvs : List (Nat × Value)} {p q : Nat} : (valueAt (without kvs p) q).isSome = true ↔ (valueAt kvs q).isSome = true ∧ q ≠ p := by
  constructor
  · intro h
    obtain ⟨kv, hm, e⟩ := List.mem_map.mp (mem_valueAt h)
    unfold without at hm
    obtain ⟨h1, h2⟩ := List.mem_filter.mp hm
    exact ⟨valueAt_mem (List.mem_map.mpr ⟨kv, h1, e⟩), fun e' => by simp at h2; exact h2 (e.trans e')⟩
  · rintro ⟨h, hne⟩
    obtain ⟨kv, hm, e⟩ := List.mem_map.mp (mem_valueAt h)
    exact valueAt_mem (List.mem_map.mpr ⟨kv, List.mem_filter.mpr ⟨hm, by simp; exact fun e' => hne (e.symm.trans e')⟩, e⟩)
theorem without_sub {kvs : List (Nat × Value)} {p : Nat} : ∀ e ∈ without kvs p, e ∈ kvs := fun e he => (List.mem_filter.mp he).1
theorem last_app : ∀ (p : List Value) (y : Value), kl_last (p ++ [y]) = some (p, y)
  | [], _ => rfl
  | x :: p, y => by
    show (match kl_last (p ++ [y]) with | some (p, y) => some (x :: p, y) | none => some ([], x)) = _
    rw [last_app p y]
theorem pick_len (l : List Value) (lo hi : Option Int) : (kms_pick l lo hi).length ≤ l.length := by
  unfold kms_pick
  simp only [List.length_take, List.length_drop]
  exact o56
section
variable {w : World} {A : Around} {E : Value → Shared → Prop} {s : Shared} {L : Addr} {h₀ : Heap} {m : Str → Option Value} {D X : Led} {R : Result → Shared → Prop} {Q : Value → Shared → Prop}
theorem truthy_raw {a : Addr} {vs : List Value} {n : Nat} {Q : Bool → Shared → Prop} (N : News h₀ L s.heap D) (hm : (a, listOf vs.toArray n) ∈ D) (hz : vs.length ≤ 1000000)
    (h : ∀ tk, Q (!vs.isEmpty) { s with toks := tk }) : wpAny (model PG w) A (truthy (.ref a)) Q E s :=
  wpAny_truthy_list ⟨_, (N _ hm).1, rfl, n, rfl⟩ (by show (vs.length : Int) < _; omega) (by have := h (s.toks + 1 + 1); rwa [List.isEmpty_toArray])
theorem item_back {a : Addr} {p : List Value} {y : Value} {n : Nat} {u : Tok} {value slice : PySem.Expr} (N : News h₀ L s.heap D) (hm : (a, listOf (p ++ [y]).toArray n) ∈ D)
    (h : Q y s) (hsl : subscripted slice false (.ref a) (.int (-1) u) = operate [.ref a, .int (-1) u] (getItem (.ref a) (.int (-1) u)) := by with_unfolding_all rfl) :
    wpAny (model PG w) A (subscriptTail value slice (.ref a) (.int (-1) u)) Q E s := by
  have hl : s.heap.IsList a (p ++ [y]).toArray := ⟨_, (N _ hm).1, rfl, n, rfl⟩
  have hs : (p ++ [y]).toArray.size = p.length + 1 := by simp
  refine tail_any hl.typeIs slot_list_getitem.lookup (wpAny_getItem_list_neg hl (by decide) (by rw [hs]; exact o57) (by decide) ?_ h) hsl
  rw [hs, show ((-1 : Int) + ((p.length + 1 : Nat) : Int)).toNat = p.length by exact o58]
  simp
theorem pop_u {a : Addr} {p : List Value} {y : Value} {n : Nat} {D' : Led} (F : Fr h₀ L s.heap m) (N : News h₀ L s.heap D) (U : Upd a (listOf (p ++ [y]).toArray n) (listOf p.toArray (n + 1)) D D') (hz : p.length ≤ 1000)
    (h : ∀ h', Fr h₀ L h' m → News h₀ L h' D' → Q y { s with heap := h' }) : wpAny (model PG w) A (call (.builtin "list.pop") [.ref a]) Q E s :=
  kl_pop F N (last_app p y) U (by rw [sizeLine_eq]; simp; exact o59 hz) h
theorem del_d {d : Addr} {o : Obj} {kvs : List (Nat × Value)} {p : Nat} {key : Value} {f : Obj → Led} {Q : Unit → Shared → Prop} (F : Fr h₀ L s.heap m) (N : News h₀ L s.heap D) (U : UpdF d o D f) (hd : o.IsDictOf (NK6 w) kvs) (hkey : nmIs p key = true) (hz : kvs.length ≤ 1000) (hp : (valueAt kvs p).isSome = true)
    (h : ∀ h' o' tk, Fr h₀ L h' m → News h₀ L h' (f o') → o'.IsDictOf (NK6 w) (without kvs p) → Q () { s with heap := h', toks := tk }) : wpAny (model PG w) A (delItem (.ref d) key) Q E s := by
  obtain ⟨pre, post, rfl, hg, a, b⟩ := U.split
  have hm := N (d, o) (List.mem_append_right _ (.head _))
  have hD : s.heap.DictOf (NK6 w) d kvs := Heap.dictOf_iff.mpr ⟨o, hm.1, hd⟩
  unfold delItem
  try with_reducible refine wpAny_holding ?_
  refine wpAny_bind (wpAny_sequenceKey hD.typeIs (by decide) ?_)
  refine wpAny_bind (wpAny_callSpecial?_slot (name := Str.ofString "__delitem__") hD.typeIs PySem.F.slot_dict_delitem
    (call_meetsIn PySem.F.slot_dict_delitem hD.typeIs PySem.F.entry_dict_delitem (PySem.F.args_dict_delitem_2 _ _) (meets_dict_delitem_pairs (NK6 w) d hkey) ⟨kvs, hD, (by rw [sizeLine_eq]; exact o5 hz), hp, fun h' hmm hs => ?_⟩))
  obtain ⟨o', ho', hd'⟩ := Heap.dictOf_iff.mp hmm
  exact wpAny_pure (h h' o' _ (F.change hs hm.2.1 hm.2.2) (hg o' ▸ N.setIn a b hs ho') hd')
theorem slice_raw {a : Addr} {vs : List Value} {n : Nat} {vl vu : Value} {lo hi : Option Int} {value slice : PySem.Expr} (F : Fr h₀ L s.heap m) (N : News h₀ L s.heap D) (hm : (a, listOf vs.toArray n) ∈ D) (pl : IsPart vl lo) (pu : IsPart vu hi) (hz : vs.length ≤ 1000000)
    (h : ∀ q h' zs, zs = kms_pick vs lo hi → zs.length ≤ vs.length → Fr h₀ L h' m → News h₀ L h' ((q, listOf zs.toArray 0) :: D) → (∀ p ∈ D, p.1 < q) → Q (.ref q) { s with heap := h' })
    (hs : subscripted slice false (.ref a) (.ref s.heap.objs.size) = operate [.ref s.heap.objs.size, .ref a] (getItem (.ref a) (.ref s.heap.objs.size))) (ht : ∀ r, letTemporaryGo value (.ref a) r = pure ()) :
    wpAny (model PG w) A (subscriptTail value slice (.ref a) (.ref s.heap.objs.size)) Q E { s with heap := s.heap.push { cls := .type "slice", data := .fields #[vl, vu, .none] } } :=
  kms_slice_lit F N ⟨_, (N _ hm).1, rfl, n, rfl⟩ pl pu (zs := kms_pick vs lo hi) rfl (fun q h' F' N' l => h q h' _ rfl (pick_len _ _ _) F' N' l) hs ht (by rw [sizeLine_eq]; simp; exact o21 hz)
theorem add_raw {l b : Addr} {vs ws : List Value} {n1 n2 : Nat} (F : Fr h₀ L s.heap m) (N : News h₀ L s.heap D) (h1 : (l, listOf vs.toArray n1) ∈ D) (h2 : (b, listOf ws.toArray n2) ∈ D) (hz : vs.length + ws.length ≤ 1000000)
    (h : ∀ q h', Fr h₀ L h' m → News h₀ L h' ((q, listOf (vs ++ ws).toArray 0) :: D) → (∀ p ∈ D, p.1 < q) → Q (.ref q) { s with heap := h' }) : wpAny (model PG w) A (binaryOp .Add (.ref l) (.ref b)) Q E s :=
  add_at F N h1 h2 (by rw [sizeLine_eq]; exact o21 hz) h
theorem callWith_mw0 {q it : Addr} {pos : Pos} {env : Env} (X : s.heap.get? q = some (mwObj it)) (h : wpAny (model PG w) A (call (.ref q) []) Q E s) : wpAny (model PG w) A (callWith pos (.ref q) [] (backTo pos (starEach [] env)) []) Q E s :=
  callWith_of (P := fun h => h.get? q = some (mwObj it)) rfl (fun h X => ⟨.machine, .inr (.inl rfl), (Looks.ld (part := none) X).andThen .now⟩) (PyProof.Rows.evalArgs_none ⟨X, h⟩)
noncomputable def WNext (I : Nat → Shared → Prop) (n : Nat) (s : Shared) : Prop := ∃ m, m < n ∧ I m s
theorem whl_inv2 {prog : Program} {env : Env} {test : PySem.Expr} {body orelse : List Stmt} {Q : Flow → Shared → Prop} (I : Nat → Shared → Prop) (hE : PassesOwn (model prog w) A env E)
    (turn : ∀ n s, I n s → wpAny (model prog w) A (isTrue test env (eval test env)) (fun b s₂ => WhlIf b (wpAny (model prog w) A (execs body env) (fun f s₃ => match f with | .next => WNext I n s₃ | .cont => WNext I n s₃ | .brk => Q .next s₃ | .ret v => Q (.ret v) s₃) E s₂) (wpAny (model prog w) A (execs orelse env) Q E s₂)) E s) :
    ∀ n s, I n s → WhlRest prog w A E env test body orelse Q 0 s := whl_inv I hE turn
end
theorem isExc_StopIt : isSubtype (.type "StopIteration") (.type "BaseException") = pure true := by rw [isSubtype_type]; kernel_rfl
theorem notTuple_StopIt : isSubtype (.type ((Manifest.find? "StopIteration").elim "type" fun y => y.metatype)) (.type "tuple") = pure false := by
  have e : (Manifest.find? "StopIteration").elim "type" (fun y => y.metatype) = "type" := by first | decide +kernel | kernel_rfl
  rw [e, isSubtype_type]; kernel_rfl
end

section
set_option Elab.async false
set_option maxRecDepth 100000
set_option maxHeartbeats 8000000
noncomputable def StopIf : Prop := True
theorem cells_mono (w : World) (σ : Sor) {X Y : Led} (h : ∀ p ∈ X, p ∈ Y) : ∀ p ∈ σ.cells w X, p ∈ σ.cells w Y := by
  intro p hp
  unfold Sor.cells at hp ⊢
  rcases hp with _ | ⟨_, _ | ⟨_, _ | ⟨_, hp⟩⟩⟩
  · exact .head _
  · exact .tail _ (.head _)
  · exact .tail _ (.tail _ (.head _))
  · refine .tail _ (.tail _ (.tail _ ?_))
    rcases List.mem_append.mp hp with h1 | h1
    · exact List.mem_append_left _ h1
    · exact List.mem_append_right _ (h p h1)
theorem perm_in (w : World) (σ : Sor) {a b c1 c2 c3 c4 c5 : Addr × Obj} {rest Y : Led} (h : rest.Perm (σ.cells w Y)) : (a :: b :: c1 :: c2 :: c3 :: c4 :: c5 :: rest).Perm (c1 :: c2 :: c3 :: c4 :: c5 :: σ.cells w (a :: b :: Y)) := by
  have h1 : ([a, b] ++ [c1, c2, c3, c4, c5] ++ rest).Perm ([c1, c2, c3, c4, c5] ++ [a, b] ++ rest) := List.perm_append_comm.append_right _
  refine (show (a :: b :: c1 :: c2 :: c3 :: c4 :: c5 :: rest).Perm (c1 :: c2 :: c3 :: c4 :: c5 :: a :: b :: rest) from h1).trans ?_
  refine ((((List.Perm.cons _ ?_).cons _).cons _).cons _).cons _
  exact ((h.cons b).cons a).trans (((cells_push w σ b Y).cons a).trans (cells_push w σ a (b :: Y)))
theorem foc_perm' (w : World) {σ : Sor} {pre : List Info} {i : Info} {post : List Info} (h : σ.infos = pre ++ i :: post) (X : Led) : (Sor.foc w σ pre i post X).Perm (σ.cells w X) := by
  have e : σ.cells w X = Sor.cells w { σ with infos := pre ++ i :: post } X := by unfold Sor.cells; rw [h]
  rw [e]
  exact foc_perm w { σ with infos := pre ++ i :: post } pre i post X
noncomputable abbrev Cx.fs {w : World} {A : Around} {h₀ : Heap} {L : Addr} (_ : Cx w A h₀ L) : List Addr := outerF A
theorem Fr.cast' {h₀ h : Heap} {L : Addr} {m m' : Str → Option Value} (F : Fr h₀ L h m) (e : m = m') : Fr h₀ L h m' := e ▸ F
section
variable {w : World} {A : Around} {E : Value → Shared → Prop} {s : Shared} {L : Addr} {h₀ : Heap} {m : Str → Option Value} {D X : Led} {R : Result → Shared → Prop} {Q : Value → Shared → Prop}

local macro_rules | `(tactic| walk_at "compareOp In") => `(tactic| (k_here; k_dflt (refine in_set (by k_asm) (by k_mem) (by assumption) (by assumption) (by assumption) _ (by assumption) ?_); intro tk'))
local macro_rules | `(tactic| walk_at "compareOp In") => `(tactic| (k_here; k_dflt (refine in_dict (by k_asm) (by k_mem) (by assumption) (by assumption) (by assumption) _ (by assumption) ?_); intro tk'))
local macro_rules | `(tactic| walk_at "exec While Constant cons nil") => `(tactic| (k_here; refine stop_intro ?_))
local macro_rules | `(tactic| walk_at "exec While Name cons cons") => `(tactic| (k_here; refine stop_intro ?_))
local macro_rules | `(tactic| walk_at "exec If") => `(tactic| (k_here; (rename StopIf => kSI); clear kSI; refine stop_intro ?_))
local macro_rules | `(tactic| walk_at "subscriptTail Name Name ref") => `(tactic| (k_here; k_dflt (refine sub_d (by k_asm) (by k_mem) (by assumption) (by assumption) (by assumption) ?_); intro tk'))
local macro_rules | `(tactic| walk_at "call builtin:set.add") => `(tactic| (k_here; k_dflt (refine set_add (by k_asm) (by k_asm) (by k_updF) (by assumption) (by assumption) (by assumption) (by assumption) ?_); intro h' o' tk' F' N' hs'))
local macro_rules | `(tactic| walk_at "call builtin:iter") => `(tactic| (k_here; k_dflt (refine iter_list (by k_asm) (by k_asm) (by k_mem) ?_); intro x' h' tk' F' N' lx'; (try k_lt lx')))
local macro_rules | `(tactic| walk_at "getAttr ref") => `(tactic| (k_here; (with_reducible show wpAny _ _ (getAttr (Value.ref _) (Str.ofString "__next__") _) _ _ _); k_dflt (refine next_attr (by k_asm) (by k_asm) (by k_mem) ?_); intro x' h' tk' F' N' lx'; (try k_lt lx')))
local macro_rules | `(tactic| k_ne) => `(tactic| first | assumption | (refine Ne.symm ?_; assumption))
local macro_rules | `(tactic| walk_at "num") => `(tactic| (simp only [List.length_map, List.length_reverse]; walk_at "num"))
local macro_rules | `(tactic| walk_at "num") => `(tactic| (simp only [List.length_append, List.length_cons, List.length_nil, List.length_map, List.length_reverse]; walk_at "num"))
local macro_rules | `(tactic| walk_at "call builtin:len") => `(tactic| (k_here; k_dflt (refine len_raw (by k_asm) (by k_mem) (by walk_at "num") ?_); intro tk1' tk2'))
local macro_rules | `(tactic| walk_at "setItem ref int") => `(tactic| (k_here; k_dflt (refine set_d (by k_asm) (by k_asm) (by k_updF) (by assumption) (by assumption) (by assumption) ?_); intro h' o' tk' F' N' hd'))
local macro_rules | `(tactic| walk_at "subscriptTail Name Slice ref ref") => `(tactic| (k_here; k_dflt (refine slice_raw (by k_asm) (by k_asm) (by k_mem) (by kmk_part) (by kmk_part) (by walk_at "num") ?_ (by with_unfolding_all rfl) (by kmk_pure)); intro q' h' zs' ez' lz' F' N' lq'))
local macro_rules | `(tactic| walk_at "binaryOp Add ref ref") => `(tactic| (k_here; k_dflt (refine add_raw (by k_asm) (by k_asm) (by k_mem) (by k_mem) (by ((try simp only [List.length_map, List.length_reverse, List.length_cons, List.length_nil] at *); omega)) ?_); intro q' h' F' N' lq'))
local macro_rules | `(tactic| walk_at "truthy ref") => `(tactic| (k_here; k_dflt (refine truthy_raw (by k_asm) (by k_mem) (by walk_at "num") ?_); intro tk'))
local macro_rules | `(tactic| walk_at "exec Try") => `(tactic| (k_here; k_dflt (refine wpAny_Try_except ?_)))
local macro_rules | `(tactic| walk_at "callWith ref") => `(tactic| (k_here; (with_reducible show wpAny _ _ (callWith _ (Value.ref _) [] (backTo _ (starEach [] _)) []) _ _ _); refine stop_intro ?_))
local macro_rules | `(tactic| walk_at "subscriptTail Name UnaryOp ref int") => `(tactic| (k_here; k_dflt (refine item_back (by k_asm) (by k_mem) ?_)))
local macro_rules | `(tactic| walk_at "call builtin:list.pop") => `(tactic| (k_here; k_dflt (refine pop_u (by k_asm) (by k_asm) (by k_upd) (by walk_at "num") ?_); intro h' F' N'))
local macro_rules | `(tactic| walk_at "delItem ref") => `(tactic| (k_here; k_dflt (refine del_d (by k_asm) (by k_asm) (by k_updF) (by assumption) (by assumption) (by assumption) (by assumption) ?_); intro h' o' tk' F' N' hd'))
theorem find_cycle_spec {σ : Sor} (C : Cx w A h₀ L) (F : Fr h₀ L s.heap m) (N : News h₀ L s.heap (σ.cells w X)) (ok : σ.Ok w X) (hcl : Closed σ.abs)
    (hroom : A.depth + 30 < recursionLimit)
    (k1 : ∀ h' h₀' tk fin, KtsTurn (outerF A) h₀ h₀' → Cx w A h₀' L → Fr h₀' L h' m → News h₀' L h' (σ.cells w X) → fin.Nodup → Topo (gOf σ) fin → (∀ i ∈ σ.infos, i.p ∈ fin) → R (.ok (.ret .none)) { s with heap := h', toks := tk })
    (k2 : ∀ h' h₀' tk b vs n c, KtsTurn (outerF A) h₀ h₀' → Cx w A h₀' L → Fr h₀' L h' m → News h₀' L h' ((b, listOf vs n) :: σ.cells w X) → (∀ p ∈ σ.cells w X, p.1 ≠ b) → (vs.isEmpty = false ∧ vs.size ≤ 100) → Ring (gOf σ) c → (∀ q ∈ c, hasP σ.abs q = true) → R (.ok (.ret (.ref b))) { s with heap := h', toks := tk }) :
    codeAny (model PG w) A (.call (.ref 127) ⟨[.ref σ.self], []⟩) R s := by
  have X₀ := C.X; have hPG : PG = Challenge.rw_dm0132_06.row.prog := rfl; revert hPG X₀; k_fill; intro X₀ hPG; clear hPG
  refine' enterTU (ents := [(Str.ofString "self", some (.ref σ.self))]) C F N ?k6 ?k7 ?kr ?k9 ?ke ?kB ?_ ?c2 ?c3 ?c4 ?c5
  case k6 => k_is
  case k7 => k_is
  case kr => exact o1 hroom
  case k9 => exact BindsTo.of_eq rfl
  case ke => exact rfl
  case c5 => decide
  case kB => exact locs rfl
  case c2 => exact rfl
  case c3 => exact rfl
  case c4 => exact rfl
  intro g' L' h' hm mg mb tk0 FG' F' N' C' X' T'
  refine wpAny_mono (E := fun _ _ => False) ?_ (fun _ _ z => z) (fun _ _ z => z.elim)
  have hself : ∀ Y, σ.cells w Y = (σ.self, instObj 137 σ.dx) :: (σ.dx, dictOf (selfEs w σ.t1 σ.t2 σ.t3 σ.t4 σ.n2i σ.rn σ.v3 σ.v4) σ.n) :: (σ.n2i, σ.o) :: (infosL σ.infos ++ Y) := fun _ => rfl
  clear F N C X₀
  have N1 := N'
  rw [hself] at N1
  (try k_unmd); (try k_fold)
  k_steps
  rename_i _ la _ l1a _ _ lb _ l1b _ ls _ led hs1 hz1 l1s _ ld _ od lod hsd fsd hid fid l1d h2 F2 N2
  unfold Stopped
  replace F2 : Fr g' L' h2 (upds emp [(Str.ofString "node2stacki", some (.ref ld)), (Str.ofString "seen", some (.ref ls)), (Str.ofString "itstack", some (.ref lb)), (Str.ofString "stack", some (.ref la)), (Str.ofString "n2i", some (.ref σ.n2i)), (Str.ofString "self", some (.ref σ.self))]) := F2
  have N3 : News g' L' h2 (Fst.cells w ⟨ld, ls, lb, la, od, { cls := .type "set", data := .set #[] 0 (.fresh 0 0 led) }, 0, 0, []⟩ σ X) := N2
  have K3 : Keys (Fst.cells w ⟨ld, ls, lb, la, od, { cls := .type "set", data := .set #[] 0 (.fresh 0 0 led) }, 0, 0, []⟩ σ X) := by
    refine Keys.cons (Keys.cons (Keys.cons (Keys.cons (show Keys (σ.cells w ([] ++ X)) from ok.keys) ?_) ?_) ?_) ?_ <;> intro q hq <;> refine Nat.ne_of_lt (allLt_mem ?_ q hq)
    · exact l1a
    · exact l1b
    · exact l1s
    · exact l1d
  have ok3 : Fst.Ok w ⟨ld, ls, lb, la, od, { cls := .type "set", data := .set #[] 0 (.fresh 0 0 led) }, 0, 0, []⟩ σ (fun _ => false) [] none := by
    refine ⟨⟨[], dict_nil hsd, fun e he => (nomatch he), fun q => ?_⟩, lod, ?_, fun f hf => (nomatch hf), ⟨trivial, trivial, .nil, fun q => ?_⟩, fun q hq => (nomatch hq)⟩
    · exact ⟨fun h => (by cases h), fun h => (nomatch h)⟩
    · exact setObjOf_fresh led
    · exact ⟨fun h => (by cases h), fun h => (nomatch h)⟩
  clear N2 hs1 hz1 hsd fsd hid fid
  obtain ⟨J, Jin, Jout⟩ := hide4 (fun (i : Nat) (_ : Heap) (m' : Str → Option Value) (D' : Led) => X4 fun z S fin u => A10 (D' = Fst.cells w z σ X) (ld = z.ld) (ls = z.ls) (lb = z.lb) (la = z.la) (z.fs = []) (z.Ok w σ S fin none) (Keys D') ((∀ q ∈ (σ.infos.map Info.p).take i, S q = true)) (m' = upds emp [(Str.ofString "node", u), (Str.ofString "node2stacki", some (.ref ld)), (Str.ofString "seen", some (.ref ls)), (Str.ofString "itstack", some (.ref lb)), (Str.ofString "stack", some (.ref la)), (Str.ofString "n2i", some (.ref σ.n2i)), (Str.ofString "self", some (.ref σ.self))]))
  refine for_keysT (fs := C'.fs) C'.hh F2 N3 (d := σ.n2i) (od := σ.o) (kvs := σ.infos.map Info.kv) ?hm1 ok.dict ok.lo
    J
    ?hX (Jin _ _ _ _ ⟨_, _, _, none, rfl, rfl, rfl, rfl, rfl, rfl, ok3, K3, fun q hq => (nomatch hq), by walk_at "maps"⟩) ?_ ?_
  case hm1 => exact .tail _ (.tail _ (.tail _ (.tail _ (.tail _ (.tail _ (.head _))))))
  case hX =>
    intro i g m' D' hJ
    obtain ⟨z, S, fin, u, rfl, _⟩ := Jout _ _ _ _ hJ
    exact .tail _ (.tail _ (.tail _ (.tail _ (.tail _ (.tail _ (.head _))))))
  · clear N3 K3 ok3 F2
    intro I oi ltI i k v key g m' D' h tk hkv hkey hJ T F N off
    obtain ⟨z, S, fin, u, rfl, e1, e2, e3, e4, e5, okz, Kz, hpre, rfl⟩ := Jout _ _ _ _ hJ
    clear hJ Jout
    obtain ⟨ld, ls, lb, la, zod, zos, znb, zna, zfs⟩ := z
    dsimp only at e1 e2 e3 e4 e5
    subst e1 e2 e3 e4 e5
    refine wpAny_mono (E := fun _ _ => False) ?_ (fun _ _ z => z) (fun _ _ z => z.elim)
    have hset := okz.set
    have hsm := okz.small
    dsimp only at hset hsm
    have Cg := C'.turn T
    have Xg := Cg.X
    have N1 := N
    unfold Fst.cells at N1
    rw [hself] at N1
    dsimp only at N1
    clear X'
    have hki : (σ.infos.map Info.p)[i]? = some k := by
      rw [List.getElem?_map] at hkv ⊢
      cases hq : σ.infos[i]? with
      | none => rw [hq] at hkv; cases hkv
      | some inf =>
        rw [hq] at hkv
        have := Option.some.inj hkv
        exact congrArg some (Prod.mk.inj this).1
    have hkp : k ∈ σ.infos.map Info.p := List.mem_of_getElem? hki
    have htake : ∀ S : Nat → Bool, (∀ q ∈ (σ.infos.map Info.p).take i, S q = true) → S k = true → ∀ q ∈ (σ.infos.map Info.p).take (i + 1), S q = true := fun S h1 h2 q hq => by
      rw [List.take_add_one, hki] at hq
      rcases List.mem_append.mp hq with h | h
      · exact h1 q h
      · have : q = k := by simpa using h
        exact this ▸ h2
    cases hS : S k
    case true =>
      (try k_unmd); k_fold
      k_steps
      dsimp only
      refine ⟨_, _, _, _, _, rfl, T, F, N, off, Jin _ _ _ _ ⟨_, S, fin, _, rfl, rfl, rfl, rfl, rfl, rfl, okz, Kz, htake S hpre hS, by walk_at "maps"⟩⟩
    (try k_unmd); k_fold
    k_steps
    unfold Stopped
    have hstart : ∃ n, n = unseenW (gOf σ) (σ.infos.map Info.p) S + stW (gOf σ) [] := ⟨_, rfl⟩
    obtain ⟨n0, hn0⟩ := hstart
    obtain ⟨I1, Iin, Iout⟩ := hide2 (fun (n : Nat) (s' : Shared) => X8 fun g h tk z S fin p v => A15 (s' = { s with heap := h, toks := tk }) (KtsTurn C'.fs g' g) (Fr g L' h (upds emp [(Str.ofString "node", some v), (Str.ofString "node2stacki", some (.ref ld)), (Str.ofString "seen", some (.ref ls)), (Str.ofString "itstack", some (.ref lb)), (Str.ofString "stack", some (.ref la)), (Str.ofString "n2i", some (.ref σ.n2i)), (Str.ofString "self", some (.ref σ.self))])) (News g L' h ((I, oi) :: Fst.cells w z σ X)) (Keys ((I, oi) :: Fst.cells w z σ X)) (ld = z.ld) (ls = z.ls) (lb = z.lb) (la = z.la) (z.Ok w σ S fin (some p)) (nmIs p v = true) (p ∈ σ.infos.map Info.p) ((∀ q ∈ (σ.infos.map Info.p).take i, S q = true)) ((S k = true ∨ p = k)) (n = unseenW (gOf σ) (σ.infos.map Info.p) S + stW (gOf σ) (z.fs.map fun f => (f.p, f.i))))
    refine wpAny_While (whl_inv I1 PassesOwn.never ?_ n0 _
      (Iin _ _ ⟨g, h, _, _, S, fin, k, key, rfl, T, Mine.Fr.cast' F ?_, N, ?_, rfl, rfl, rfl, rfl, ⟨okz.dict, okz.lo, okz.set, okz.fes, okz.dfs.start, okz.few⟩, hkey, hkp, hpre, .inr rfl, hn0⟩))
    · clear F N N1 hset hsm Cg Xg off Kz okz hpre hS hn0
      intro n s' hI
      obtain ⟨g, h, tk, z, S, fin, p, v, rfl, T, F, N, K, e1, e2, e3, e4, okz, hv, hp, hpre, hk, hn⟩ := Iout _ _ hI
      clear hI Iout
      obtain ⟨ld, ls, lb, la, zod, zos, znb, zna, zfs⟩ := z
      dsimp only at e1 e2 e3 e4
      subst e1 e2 e3 e4
      have Cg := C'.turn T
      have Xg := Cg.X
      obtain ⟨_, _, _, _, hm2, mg2, mb2, _, _, _, _, Tg, _⟩ := id Cg.ex
      clear T'
      have hsi : StopIf := trivial
      k_steps
      unfold Stopped
      obtain ⟨Q1, Q1in, Q1out⟩ := hide2 (fun (f : Flow) (s' : Shared) => (f = .next ∧ X5 fun h tk z S fin => A12 (s' = { s with heap := h, toks := tk }) (Fr g L' h (upds emp [(Str.ofString "node", some v), (Str.ofString "node2stacki", some (.ref ld)), (Str.ofString "seen", some (.ref ls)), (Str.ofString "itstack", some (.ref lb)), (Str.ofString "stack", some (.ref la)), (Str.ofString "n2i", some (.ref σ.n2i)), (Str.ofString "self", some (.ref σ.self))])) (News g L' h ((I, oi) :: Fst.cells w z σ X)) (Keys ((I, oi) :: Fst.cells w z σ X)) (ld = z.ld) (ls = z.ls) (lb = z.lb) (la = z.la) (z.Ok w σ S fin none) ((∀ q ∈ (σ.infos.map Info.p).take i, S q = true)) (S k = true) (unseenW (gOf σ) (σ.infos.map Info.p) S + stW (gOf σ) (z.fs.map fun f => (f.p, f.i)) ≤ n)) ∨ (X6 fun b vs nn c h tk => A8 (f = .ret (.ref b)) (s' = { s with heap := h, toks := tk }) ((∃ m', Fr g L' h m')) (News g L' h ((b, listOf vs nn) :: σ.cells w X)) ((∀ p ∈ σ.cells w X, p.1 ≠ b)) ((vs.isEmpty = false ∧ vs.size ≤ 100)) (Ring (gOf σ) c) (∀ q ∈ c, hasP σ.abs q = true)))
      refine wpAny_mono (Q := Q1) ?_ ?_ (fun _ _ z => z)
      · have hset := okz.set
        have hsm := okz.small
        obtain ⟨kvs, hdd, hdv, hdk⟩ := okz.dict
        have hlo := okz.lo
        have hfew := okz.few
        dsimp only at hset hsm hdd hdk hlo hfew
        have hkz := dict_small hdd hdk hfew
        have N1 := N
        unfold Fst.cells at N1
        rw [hself] at N1
        dsimp only at N1
        cases hSp : S p
        · obtain ⟨inf, hinf, rfl⟩ := List.mem_map.mp hp
          obtain ⟨pre, post, hpp⟩ := List.append_of_mem hinf
          have hval := valueAt_of ok.apart hinf
          have hdict := ok.dict
          have N8 := Mine.News.perm N1 (((((foc_perm' w hpp (zfs.flatMap Fe.cells ++ X)).symm.cons _).cons _).cons _).cons _ |>.cons _)
          have K8 := K.perm (l' := (I, oi) :: (ld, zod) :: (ls, zos) :: (lb, listOf (zfs.reverse.map fun f => Value.ref f.mw).toArray znb) :: (la, listOf (zfs.reverse.map Fe.v).toArray zna) :: Sor.foc w σ pre inf post (zfs.flatMap Fe.cells ++ X)) (((((foc_perm' w hpp (zfs.flatMap Fe.cells ++ X)).symm.cons _).cons _).cons _).cons _ |>.cons _)
          clear N1
          unfold Sor.foc at N8 K8
          obtain ⟨ip, ix, idx, isl, inp, it, ind, isu, iep⟩ := inf
          dsimp only at N8 hval hv hSp K8
          simp only [keys_cons, List.forall_mem_cons] at K8
          obtain ⟨⟨a1, a2, a3, a4, a5, a6, a7, a8, a9, a10, a11⟩, ⟨b2, b3, b4, b5, b6, b7, b8, b9, b10, b11⟩, ⟨c3, c4, c5, c6, c7, c8, c9, c10, c11⟩, ⟨d4, d5, d6, d7, d8, d9, d10, d11⟩, ⟨e5, e6, e7, e8, e9, e10, e11⟩, _⟩ := K8
          replace a1 : @Ne Nat ld I := a1
          replace a2 : @Ne Nat ls I := a2
          replace a3 : @Ne Nat lb I := a3
          replace a4 : @Ne Nat la I := a4
          replace b2 : @Ne Nat ls ld := b2
          replace b3 : @Ne Nat lb ld := b3
          replace b4 : @Ne Nat la ld := b4
          replace c3 : @Ne Nat lb ls := c3
          replace c4 : @Ne Nat la ls := c4
          replace d4 : @Ne Nat la lb := d4
          k_steps
          rename_i hq so tq Fq Nq hso tq2 it' hi ti Fi Ni li mw hw tw Fw Nw lw ha Fa Na ta t1 t2 hb dob tb Fb Nb hdb hc Fc Nc
          dsimp only at okz hp hk hn
          have hvb : (valueAt kvs ip).isSome = false := by
            cases hv1 : (valueAt kvs ip).isSome with
            | false => rfl
            | true =>
              have h1 : ip ∈ zfs.map Fe.p := (hdk ip).mp hv1
              have h2 := (okz.dfs.seen ip).mpr (List.mem_append_left _ (by rw [List.map_map]; exact h1))
              rw [hSp] at h2; cases h2
          have e1 : ∀ {α : Type} (g : Fe → α) (f : Fe), (f :: zfs).reverse.map g = zfs.reverse.map g ++ [g f] := fun g f => by simp
          have P := perm_in w σ (a := (mw, mwObj it')) (b := (it', liObj isl 0)) (c1 := (I, oi)) (c2 := (ld, dob)) (c3 := (ls, so)) (c4 := (lb, listOf ((⟨ip, v, mw, it', isl, 0⟩ :: zfs : List Fe).reverse.map fun f => Value.ref f.mw).toArray (znb + 1))) (c5 := (la, listOf ((⟨ip, v, mw, it', isl, 0⟩ :: zfs : List Fe).reverse.map Fe.v).toArray (zna + 1))) (foc_perm' w hpp (zfs.flatMap Fe.cells ++ X))
          rw [← e1 (fun f => Value.ref f.mw) ⟨ip, v, mw, it', isl, 0⟩, ← e1 Fe.v ⟨ip, v, mw, it', isl, 0⟩] at Nc
          have K9 : Keys ((I, oi) :: (ld, dob) :: (ls, so) :: (lb, listOf ((⟨ip, v, mw, it', isl, 0⟩ :: zfs : List Fe).reverse.map fun f => Value.ref f.mw).toArray (znb + 1)) :: (la, listOf ((⟨ip, v, mw, it', isl, 0⟩ :: zfs : List Fe).reverse.map Fe.v).toArray (zna + 1)) :: σ.cells w (zfs.flatMap Fe.cells ++ X)) := keys_addr K rfl
          have K10 := K9.perm (((((foc_perm' w hpp (zfs.flatMap Fe.cells ++ X)).symm.cons _).cons _).cons _).cons _ |>.cons _)
          have K11 := (K10.cons (a := it') (o := liObj isl 0) (by intro q hq; refine Nat.ne_of_lt (allLt_mem ?_ q hq); exact li)).cons (a := mw) (o := mwObj it') (by intro q hq; refine Nat.ne_of_lt (allLt_mem ?_ q hq); exact lw)
          refine Q1in _ _ (.inl ⟨rfl, hc, _, ⟨ld, ls, lb, la, dob, so, znb + 1, zna + 1, ⟨ip, v, mw, it', isl, 0⟩ :: zfs⟩, mark S ip, fin, rfl, Fc, Mine.News.perm Nc P, K11.perm P, rfl, rfl, rfl, rfl, ⟨⟨_, hdb, ?_, fun q => ?_⟩, okz.lo, ?_, fun f hf => ?_, okz.dfs.push hSp, fun q hq => ?_⟩, fun q hq => ?_, ?_, ?_⟩)
          · intro e he
            rw [stored_new hvb] at he
            rcases List.mem_append.mp he with h | h
            · exact hdv e h
            · rw [List.mem_singleton.mp h]
              refine ⟨_, _, rfl, by exact o28, ?_⟩
              rw [List.length_map, List.length_reverse]; exact o39 hsm
          · rw [stored_new hvb, valueAt_app, hdk, List.map_cons, List.mem_cons, or_comm]
          · have : zfs.length + fin.length + 1 = (⟨ip, v, mw, it', isl, 0⟩ :: zfs : List Fe).length + fin.length := by rw [List.length_cons]; exact o40
            exact this ▸ hso
          · rcases List.mem_cons.mp hf with rfl | h
            · exact ⟨hv, _, hinf, rfl, rfl⟩
            · exact okz.fes f h
          · rcases List.mem_cons.mp (show q ∈ ip :: (zfs.map Fe.p ++ fin) from hq) with rfl | h
            · exact (ok.good _ hinf).few
            · exact hfew q h
          · unfold mark; split
            · rfl
            · exact hpre q hq
          · unfold mark; split
            · rfl
            · next h => exact hk.resolve_right fun e => h e.symm
          · have h1 := unseen_push (g := gOf σ) (S := S) (p := ip) hSp hp
            have h2 : stW (gOf σ) ((⟨ip, v, mw, it', isl, 0⟩ :: zfs : List Fe).map fun f => (f.p, f.i)) = (gOf σ ip).length - 0 + 1 + stW (gOf σ) (zfs.map fun f => (f.p, f.i)) := by
              unfold stW; rw [List.map_cons, List.map_cons, List.sum_cons]
            show _ + stW (gOf σ) ((⟨ip, v, mw, it', isl, 0⟩ :: zfs : List Fe).map fun f => (f.p, f.i)) ≤ n
            rw [h2, hn]
            exact o41 h1
        · cases hva : valueAt kvs p
          · have hvb : (valueAt kvs p).isSome = false := by rw [hva]; rfl
            k_steps
            refine Q1in _ _ (.inl ⟨rfl, h, _, ⟨ld, ls, lb, la, zod, zos, znb, zna, zfs⟩, S, fin, rfl, F, N, K, rfl, rfl, rfl, rfl, ⟨okz.dict, okz.lo, okz.set, okz.fes, okz.dfs.old hSp ?_, okz.few⟩, hpre, ?_, Nat.le_of_eq hn.symm⟩)
            · rw [List.map_map]
              intro hm
              have := (hdk p).mpr hm
              rw [hvb] at this; cases this
            · rcases hk with h | h
              · exact h
              · exact h ▸ hSp
          · have hvb : (valueAt kvs p).isSome = true := by rw [hva]; rfl
            obtain ⟨kk, tt, hkk, h00, h11⟩ := hdv _ (valueAt_some hva)
            dsimp only at hkk
            subst hkk
            k_steps
            rename_i zs8 _ lz8 _ _ _ _ _ _ q8 h8 F8 N8 l8
            have hcs : ∀ p ∈ σ.cells w X, p ∈ σ.cells w (zfs.flatMap Fe.cells ++ X) := cells_mono w σ fun q hq => List.mem_append_right _ hq
            have hps : p ∈ (zfs.map fun f => (f.p, f.i)).map (·.1) := by rw [List.map_map]; exact (hdk p).mp hvb
            obtain ⟨c, hc1, hc2⟩ := okz.dfs.ring hps
            refine Q1in _ _ (.inr ⟨q8, (zs8 ++ [v]).toArray, 0, c, h8, _, rfl, rfl, ⟨_, F8⟩, fun p hp => ?_, fun p hp => Nat.ne_of_lt (l8 p ?_), ⟨by simp, by simp only [List.length_map, List.length_reverse] at lz8; simp; exact o42 hsm lz8⟩, hc1, fun q hq => ?_⟩)
            · rcases List.mem_cons.mp hp with rfl | hp
              · exact N8 _ (.head _)
              · exact N8 p (.tail _ (.tail _ (.tail _ (.tail _ (.tail _ (.tail _ (.tail _ (.tail _ (hcs p hp)))))))))
            · exact .tail _ (.tail _ (.tail _ (.tail _ (.tail _ (.tail _ (.tail _ (hcs p hp)))))))
            · have h1 := hc2 q hq
              rw [List.map_map] at h1
              obtain ⟨f, hf, rfl⟩ := List.mem_map.mp h1
              obtain ⟨_, i, hi, he, _⟩ := okz.fes f hf
              exact abs_hasP.mpr ⟨i, hi, he⟩
      · clear F N K okz hpre hk hn hp hv
        intro f s' hq
        rcases Q1out _ _ hq with ⟨rfl, h, tk, z, S, fin, rfl, F, N, K, e1, e2, e3, e4, okz, hpre, hk, hn⟩ | ⟨b, vs, nn, c, h, tk, rfl, rfl, ⟨m', F⟩, N, off, hvs, hring, hc⟩
        · obtain ⟨ld, ls, lb, la, zod, zos, znb, zna, zfs⟩ := z
          dsimp only at e1 e2 e3 e4 okz hn
          subst e1 e2 e3 e4
          dsimp only
          k_steps
          unfold Stopped
          obtain ⟨Q2, Q2in, Q2out⟩ := hide2 (fun (f : Flow) (s' : Shared) => (f = .next ∧ ∃ m, m < n ∧ I1 m s') ∨ (f = .brk ∧ X7 fun g h tk z S fin v => A13 (s' = { s with heap := h, toks := tk }) (KtsTurn C'.fs g' g) (Fr g L' h (upds emp [(Str.ofString "node", some v), (Str.ofString "node2stacki", some (.ref ld)), (Str.ofString "seen", some (.ref ls)), (Str.ofString "itstack", some (.ref lb)), (Str.ofString "stack", some (.ref la)), (Str.ofString "n2i", some (.ref σ.n2i)), (Str.ofString "self", some (.ref σ.self))])) (News g L' h ((I, oi) :: Fst.cells w z σ X)) (Keys ((I, oi) :: Fst.cells w z σ X)) (ld = z.ld) (ls = z.ls) (lb = z.lb) (la = z.la) (z.fs = []) (z.Ok w σ S fin none) ((∀ q ∈ (σ.infos.map Info.p).take i, S q = true)) (S k = true)))
          refine wpAny_mono (Q := Q2) ?_ ?_ (fun _ _ z => z)
          · obtain ⟨I2, I2in, I2out⟩ := hide2 (fun (m : Nat) (s' : Shared) => X7 fun g h tk z S fin v => A14 (s' = { s with heap := h, toks := tk }) (KtsTurn C'.fs g' g) (Fr g L' h (upds emp [(Str.ofString "node", some v), (Str.ofString "node2stacki", some (.ref ld)), (Str.ofString "seen", some (.ref ls)), (Str.ofString "itstack", some (.ref lb)), (Str.ofString "stack", some (.ref la)), (Str.ofString "n2i", some (.ref σ.n2i)), (Str.ofString "self", some (.ref σ.self))])) (News g L' h ((I, oi) :: Fst.cells w z σ X)) (Keys ((I, oi) :: Fst.cells w z σ X)) (ld = z.ld) (ls = z.ls) (lb = z.lb) (la = z.la) (z.Ok w σ S fin none) ((∀ q ∈ (σ.infos.map Info.p).take i, S q = true)) (S k = true) (m = unseenW (gOf σ) (σ.infos.map Info.p) S + stW (gOf σ) (z.fs.map fun f => (f.p, f.i))) (m ≤ n))
            refine wpAny_While (whl_inv2 I2 PassesOwn.never ?_ _ _ (I2in _ _ ⟨g, h, _, _, S, fin, v, rfl, T, F, N, K, rfl, rfl, rfl, rfl, okz, hpre, hk, rfl, hn⟩))
            clear F N K okz hpre hk hn Cg Xg Tg T
            intro m s' hI
            obtain ⟨g, h, tk, z, S, fin, v, rfl, T, F, N, K, e1, e2, e3, e4, okz, hpre, hk, hm, hn⟩ := I2out _ _ hI
            clear hI I2out
            obtain ⟨ld, ls, lb, la, zod, zos, znb, zna, zfs⟩ := z
            dsimp only at e1 e2 e3 e4 okz hm
            subst e1 e2 e3 e4
            have Cg := C'.turn T
            have Xg := Cg.X
            obtain ⟨_, _, _, _, hm2, mg2, mb2, _, _, _, _, Tg, _⟩ := id Cg.ex
            have hsm := okz.small
            dsimp only at hsm
            cases zfs with
            | nil =>
              have N1 := N
              unfold Fst.cells at N1
              dsimp only [List.reverse_nil, List.map_nil] at N1
              k_steps
              refine Q2in _ _ (.inr ⟨rfl, g, h, _, _, S, fin, v, rfl, T, F, N, K, rfl, rfl, rfl, rfl, rfl, okz, hpre, hk⟩)
            | cons f r =>
              obtain ⟨fp, fv, fmw, fit, fsl, fi⟩ := f
              have e5 : ∀ {α : Type} (g : Fe → α) (f : Fe), (f :: r).reverse.map g = r.reverse.map g ++ [g f] := fun g f => by simp
              have P := perm_in w σ (a := (fmw, mwObj fit)) (b := (fit, liObj fsl fi)) (c1 := (I, oi)) (c2 := (ld, zod)) (c3 := (ls, zos)) (c4 := (lb, listOf ((⟨fp, fv, fmw, fit, fsl, fi⟩ :: r : List Fe).reverse.map fun f => Value.ref f.mw).toArray znb)) (c5 := (la, listOf ((⟨fp, fv, fmw, fit, fsl, fi⟩ :: r : List Fe).reverse.map Fe.v).toArray zna)) (List.Perm.refl (σ.cells w (r.flatMap Fe.cells ++ X)))
              have N1 := Mine.News.perm N P.symm
              have K1 := K.perm P.symm
              rw [e5 (fun f => Value.ref f.mw), e5 Fe.v] at N1
              rw [List.length_cons] at hsm
              dsimp only at N1
              k_steps
              refine WhlIf.yes (by simp) ?_
              k_steps
              unfold Stopped
              refine callWith_mw0 (N1 _ (.head _)).1 ?_
              rw [e5 (fun f => Value.ref f.mw), e5 Fe.v] at K1
              dsimp only at K1
              obtain ⟨hfv, inf, hinf, hip, hisl⟩ := okz.fes _ (.head _)
              dsimp only at hfv hip hisl
              obtain ⟨pre, post, hpp⟩ := List.append_of_mem hinf
              have hg : gOf σ fp = inf.succ.map (·.1) := by
                unfold gOf Sor.abs
                rw [hpp, ← hip, entryOf_at (hpp ▸ ok.apart)]
              have hlm : (fsl, listOf (inf.succ.map (·.2)).toArray inf.ep) ∈ σ.cells w (r.flatMap Fe.cells ++ X) := hisl ▸ mem_cells hinf
              have hst : ∀ j, stW (gOf σ) ((⟨fp, fv, fmw, fit, fsl, j⟩ :: r : List Fe).map fun f => (f.p, f.i)) = (gOf σ fp).length - j + 1 + stW (gOf σ) (r.map fun f => (f.p, f.i)) := fun j => by
                unfold stW; rw [List.map_cons, List.map_cons, List.sum_cons]
              cases hx : inf.succ[fi]? with
              | some cv =>
                obtain ⟨c, cv⟩ := cv
                have hxm := List.mem_of_getElem? hx
                refine call_next F N1 (.head _) (.tail _ (.tail _ (.tail _ (.tail _ (.tail _ (.tail _ (.tail _ hlm))))))) (i := fi) (x := cv) (by rw [List.getElem?_map, hx]; rfl) (.tail (Ne.symm (K1.off _ (.head _))) (.head K1.tail.off)) fun h2 F2 N2 => ?_
                k_steps
                rename_i h3 F3 N3
                have hfi : fi < (gOf σ fp).length := by rw [hg, List.length_map]; exact (List.getElem?_eq_some_iff.mp hx).1
                have P3 := perm_in w σ (a := (fmw, mwObj fit)) (b := (fit, liObj fsl (fi + 1))) (c1 := (I, oi)) (c2 := (ld, zod)) (c3 := (ls, zos)) (c4 := (lb, listOf ((⟨fp, fv, fmw, fit, fsl, fi + 1⟩ :: r : List Fe).reverse.map fun f => Value.ref f.mw).toArray znb)) (c5 := (la, listOf ((⟨fp, fv, fmw, fit, fsl, fi + 1⟩ :: r : List Fe).reverse.map Fe.v).toArray zna)) (List.Perm.refl (σ.cells w (r.flatMap Fe.cells ++ X)))
                rw [← e5 (fun f => Value.ref f.mw) ⟨fp, fv, fmw, fit, fsl, fi + 1⟩, ← e5 Fe.v ⟨fp, fv, fmw, fit, fsl, fi + 1⟩] at N3
                dsimp only
                refine Q2in _ _ (.inl ⟨rfl, _, ?_, Iin _ _ ⟨g, h3, _, ⟨ld, ls, lb, la, zod, zos, znb, zna, ⟨fp, fv, fmw, fit, fsl, fi + 1⟩ :: r⟩, S, fin, c, cv, rfl, T, Mine.Fr.cast' F3 (by walk_at "maps"), Mine.News.perm N3 P3, keys_addr K (by simp [Fst.cells, Sor.cells, List.flatMap_cons]), rfl, rfl, rfl, rfl, ⟨okz.dict, okz.lo, okz.set, fun f hf => ?_, okz.dfs.item ?_, okz.few⟩, ((ok.good inf hinf).succ _ hxm).2, ?_, hpre, .inl hk, rfl⟩⟩)
                · dsimp only
                  have h1 := hst fi
                  have h2 := hst (fi + 1)
                  rw [h2]
                  rw [h1] at hm
                  exact o43 hfi hm hn
                · rcases List.mem_cons.mp hf with rfl | h
                  · exact ⟨hfv, inf, hinf, hip, hisl⟩
                  · exact okz.fes f (.tail _ h)
                · rw [hg, List.getElem?_map, hx]; rfl
                · have h1 := hcl inf.abs (List.mem_map_of_mem hinf) c (List.mem_map_of_mem (f := (·.1)) hxm)
                  obtain ⟨i2, hi2, he2⟩ := abs_hasP.mp h1
                  exact List.mem_map.mpr ⟨i2, hi2, he2⟩
              | none =>
                refine mw_end Cg.hh (N1 _ (.head _)).1 (N1 _ (.tail _ (.head _))).1 ⟨_, (N1 _ (.tail _ (.tail _ (.tail _ (.tail _ (.tail _ (.tail _ (.tail _ hlm)))))))).1, rfl, inf.ep, rfl⟩ (by rw [List.getElem?_toArray, List.getElem?_map, hx]; rfl) fun h1 h2 e hi hsb hkeep hnew hthere => ?_
                have hfm := N1 _ (.tail _ (.head _))
                have F1 := F.change hsb hfm.2.1 hfm.2.2
                have N2 : News g L' h1 ((I, oi) :: (ld, zod) :: (ls, zos) :: (lb, listOf (List.map (fun f => Value.ref f.mw) r.reverse ++ [Value.ref fmw]).toArray znb) :: (la, listOf (List.map Fe.v r.reverse ++ [fv]).toArray zna) :: σ.cells w (r.flatMap Fe.cells ++ X)) :=
                  fun p hp => ⟨hsb.extBut _ _ (K1.tail.off p hp) (N1 p (.tail _ (.tail _ hp))).1, (N1 p (.tail _ (.tail _ hp))).2⟩
                have K2 := K1.tail.tail
                obtain ⟨kvs, hdd, hdv, hdk⟩ := okz.dict
                have hfew := okz.few
                dsimp only at hdd hdk hfew
                have hkz := dict_small hdd hdk hfew
                have hvf : (valueAt kvs fp).isSome = true := (hdk fp).mpr (.head _)
                simp only [keys_cons, List.forall_mem_cons] at K2
                obtain ⟨⟨a1, a2, a3, a4, a5⟩, ⟨b2, b3, b4, b5⟩, ⟨c3, c4, c5⟩, ⟨d4, d5⟩, f5, _⟩ := K2
                clear N1 P N F
                refine caught_own Cg F1 N2 hkeep hnew hthere (by k_is) PyProof.Rows.Boot.«StopIteration» (by decide) isExc_StopIt notTuple_StopIt (by rw [isSubtype_type]; kernel_rfl) fun h3 g3 T3 C3 F3 N3 => ?_
                clear F1 N2
                k_steps
                rename_i hA FA NA hB dob tB FB NB hdB hC FC NC
                have hnx : (gOf σ fp)[fi]? = none := by rw [hg, List.getElem?_map, hx]; rfl
                dsimp only
                refine ⟨_, ?_, I2in _ _ ⟨g3, hC, _, ⟨ld, ls, lb, la, dob, zos, znb + 1, zna + 1, r⟩, S, fp :: fin, v, rfl, T.trans T3, FC, NC, keys_addr K1.tail.tail rfl, rfl, rfl, rfl, rfl, ⟨⟨without kvs fp, hdB, fun e he => hdv e (without_sub e he), fun q => ?_⟩, okz.lo, ?_, fun f hf => okz.fes f (.tail _ hf), okz.dfs.pop hnx, fun q hq => ?_⟩, hpre, hk, rfl, ?_⟩⟩
                · have h1 := hst fi
                  dsimp only
                  rw [h1] at hm
                  exact o44 hm
                · rw [valueAt_without, hdk]
                  have hnd := okz.dfs.nodup
                  rw [List.map_map] at hnd
                  have hnf : fp ∉ r.map Fe.p := by
                    have := (List.nodup_cons.mp (show (fp :: (r.map Fe.p ++ fin)).Nodup from hnd)).1
                    exact fun h => this (List.mem_append_left _ h)
                  rw [List.map_cons, List.mem_cons]
                  constructor
                  · rintro ⟨h | h, hne⟩
                    · exact absurd h hne
                    · exact h
                  · exact fun h => ⟨.inr h, fun e => hnf (e ▸ h)⟩
                · have : (⟨fp, fv, fmw, fit, fsl, fi⟩ :: r : List Fe).length + fin.length = r.length + (fp :: fin).length := by rw [List.length_cons, List.length_cons]; exact o45
                  exact this ▸ okz.set
                · refine hfew q ?_
                  rcases List.mem_append.mp hq with h | h
                  · exact .tail _ (List.mem_append_left _ h)
                  · rcases List.mem_cons.mp h with rfl | h
                    · exact .head _
                    · exact .tail _ (List.mem_append_right _ h)
                · have h1 := hst fi
                  dsimp only
                  rw [h1] at hm
                  exact o46 hm hn
          · clear F N K okz hpre hk hn
            intro f s' hq
            rcases Q2out _ _ hq with ⟨rfl, m, hm, hI⟩ | ⟨rfl, g, h, tk, z, S, fin, v, rfl, T, F, N, K, e1, e2, e3, e4, e5, okz, hpre, hk⟩
            · dsimp only
              exact wpAny_execs_nil ⟨m, hm, hI⟩
            · dsimp only
              refine wpAny_execs_nil ⟨g, h, tk, _, _, rfl, T, F, N, fun p hp => K.off p hp, Jin _ _ _ _ ⟨z, S, fin, _, rfl, e1, e2, e3, e4, e5, okz, K.tail, ?_, rfl⟩⟩
              exact htake S hpre hk
        · dsimp only
          exact leaveT_ T F N fun h₀' T' C' F' N' => k2 _ _ _ _ _ _ c T' C' F' N' off hvs hring hc
    · walk_at "maps"
    · exact Kz.cons off
  · clear N3 K3 ok3 F2
    intro g m' D' h tk hJ T F N
    obtain ⟨z, S, fin, u, rfl, e1, e2, e3, e4, e5, okz, Kz, hpre, rfl⟩ := Jout _ _ _ _ hJ
    dsimp only
    k_steps
    refine leaveT_ T F N fun h₀' T' C' F' N' => k1 _ _ _ fin T' C' F' (fun p hp => N' p ?_) ?_ okz.dfs.topo fun i hi => ?_
    · exact .tail _ (.tail _ (.tail _ (.tail _ (cells_mono w σ (fun q hq => List.mem_append_right _ hq) p hp))))
    · have h1 := okz.dfs.nodup
      rw [e5] at h1
      exact h1
    · have h1 := hpre i.p (by rw [List.take_of_length_le (by simp)]; exact List.mem_map_of_mem hi)
      have h2 := (okz.dfs.seen i.p).mp h1
      rw [e5] at h2
      exact h2
end
end

section
set_option Elab.async false
set_option maxRecDepth 100000
set_option maxHeartbeats 8000000
open LCg (NsObj ns_obj lst)
section
variable {w : World} {A : Around} {E : Value → Shared → Prop} {s : Shared} {L : Addr} {h₀ : Heap} {m : Str → Option Value} {D X : Led} {Q : Value → Shared → Prop}
/-- a block over any source -/
theorem comp_walk {RR : Value → Addr → Result → Shared → Prop} {I : Addr} {oi₀ : Obj} {src : Led} {n : Nat} {P : Nat → Value → Prop} {St : Nat → Heap → Prop} {elt iter : PySem.Expr} {x : Str} {px : Pos} {ifs : List PySem.Expr} {gs : List Comprehension} {scope : Scope} {cl : List (Str × Addr)} {pos p : Pos} {env : Env} {inner : Addr → Addr → Sem Unit}
    (heq : ∀ I acc C, compTurn (.ListComp elt (⟨.Name x px, iter, ifs, 0⟩ :: gs) scope pos) 0 (.ref I) (.ref acc) (cEnv scope cl C env) = (do
      standAt p
      match ← pyNext (.ref I) with
      | none => pure (.done .next)
      | some v =>
        letOwnedTupleGo (.Name x px) (.ref I) v
        assign (.Name x px) (cEnv scope cl C env) v
        let mut ok := true
        for c in ifs do
          if ok then ok ← isTrue c (cEnv scope cl C env) (eval c (cEnv scope cl C env))
        if ok then inner acc C
        again (.compLoop (.ListComp elt (⟨.Name x px, iter, ifs, 0⟩ :: gs) scope pos) 0 (.ref I) (.ref acc) (cEnv scope cl C env))))
    (W : Walks PG w A I (I :: src.map (·.1)) [I] n P St) (hI : ∀ i h, St i h → ∃ o, h.get? I = some o) (F : Fr h₀ L s.heap m) (N : News h₀ L s.heap ((I, oi₀) :: D)) (lt : ∀ p ∈ D, p.1 < I) (st : St 0 s.heap)
    (K : Nat → (Str → Option Value) → List Value → Led → Prop) (hX : ∀ i mC ys D, K i mC ys D → ∀ p ∈ src, p ∈ D) (hK : K 0 (fun _ => none) [] D)
    (turn : ∀ oi acc C, ∀ i v oC mC ys n' D h tk, i < n → P i v → K i mC ys D → Fr h₀ L h m → News h₀ L h ((I, oi) :: (C, oC) :: (acc, listOf ys.toArray n') :: D) → NsObj oC (fun z => if z = x then some v else mC z) → Off3 I C acc D → I < acc → acc < C →
      wpAny (model PG w) A (tests ifs (cEnv scope cl C env)) (fun ok s₃ => if ok = true then wpAny (model PG w) A (inner acc C) (fun _ s₄ => CompNext h₀ L m I oi C acc (K (i + 1)) s s₄) (NB w A (cEnv scope cl C env) (RR (.ref acc) C)) s₃
        else CompNext h₀ L m I oi C acc (K (i + 1)) s s₃) (NB w A (cEnv scope cl C env) (RR (.ref acc) C)) { s with heap := h, toks := tk })
    (done : ∀ acc C, (∀ p ∈ D, p.1 < acc) → ∀ oC mC ys n' D h tk, K n mC ys D → Fr h₀ L h m → News h₀ L h ((C, oC) :: (acc, listOf ys.toArray n') :: D) → NsObj oC mC → (∀ p ∈ (acc, listOf ys.toArray n') :: D, p.1 ≠ C) → (∀ p ∈ D, p.1 ≠ acc) → RR (.ref acc) C (.ok .next) { s with heap := h, toks := tk })
    (hcell : ∀ y ∈ scope.names, y.2 ≠ .cell) (hkind : scope.kind = .function) (hx : scope.names.lookup x = some .local) :
    wpAny (model PG w) A (newList []) (fun acc s₃ => wpAny (model PG w) A (newFunctionEnv scope env.globals cl [] env.qual none .none (some env)) (fun cenv s₄ =>
      codeAny (model PG w) A (.compStart (.ListComp elt (⟨.Name x px, iter, ifs, 0⟩ :: gs) scope pos) 0 (.ref I) acc { cenv with scope := relabel scope env }) (RR acc cenv.locals) s₄) E s₃) E s := by
  have hIN := N (I, oi₀) (.head _)
  refine comp_begin (g := (.Name x px, iter, ifs)) (D := D) (oi := oi₀) W hcell hkind st F N fun acc C oC h tk st F' N' hC l1 l2 => ?_
  have hIa : I < acc := l1 (I, _) (.head _)
  show codeAny (model PG w) A (.compLoop _ 0 (.ref I) (.ref acc) (cEnv scope cl C env)) _ _
  refine comp_loop (n' := 0) (src := src) (heq _ _ _) rfl rfl rfl W hI K hX
    F' (fun p hp => ?_) hIN.2.2 hIN.2.1 hC (fun p hp => ?_) (Nat.ne_of_lt hIa) (Nat.ne_of_lt (Nat.lt_trans hIa l2)) (Nat.ne_of_lt l2) st hK ?_ ?_ rfl hkind (lookup_relabel_local hx)
  · rcases List.mem_cons.mp hp with rfl | hp
    · exact N' _ (.head _)
    · rcases List.mem_cons.mp hp with rfl | hp
      · exact N' _ (.tail _ (.head _))
      · exact N' p (.tail _ (.tail _ (.tail _ hp)))
  · have h1 := lt p hp
    have h2 := l1 p (.tail _ hp)
    exact ⟨Nat.ne_of_lt h1, Nat.ne_of_lt (Nat.lt_trans h2 l2), Nat.ne_of_lt h2⟩
  · intro i v oi oC mC ys n' D h tk hi hP hK F N hC off
    exact turn oi acc C i v oC mC ys n' D h tk hi hP hK F N hC off hIa l2
  · intro oC mC ys n' D h tk hK F N hC off
    refine done acc C (fun p hp => l1 p (.tail _ hp)) oC mC ys n' D h tk hK F N hC (fun p hp => ?_) fun p hp => (off p hp).2.2
    rcases List.mem_cons.mp hp with rfl | hp
    · exact Nat.ne_of_lt l2
    · exact (off p hp).2.1
noncomputable abbrev valsOf (d : Addr) : Obj := { cls := .type "dict_values", data := .fields #[.ref d] }
/-- a block over a dict's values -/
theorem comp_vals {RR : Value → Addr → Result → Shared → Prop} {vw d : Addr} {od : Obj} {kvs : List (Nat × Value)} {elt iter : PySem.Expr} {x : Str} {px : Pos} {ifs : List PySem.Expr} {gs : List Comprehension} {scope : Scope} {cl : List (Str × Addr)} {pos p : Pos} {env : Env} {inner : Addr → Addr → Sem Unit}
    (heq : ∀ I acc C, compTurn (.ListComp elt (⟨.Name x px, iter, ifs, 0⟩ :: gs) scope pos) 0 (.ref I) (.ref acc) (cEnv scope cl C env) = (do
      standAt p
      match ← pyNext (.ref I) with
      | none => pure (.done .next)
      | some v =>
        letOwnedTupleGo (.Name x px) (.ref I) v
        assign (.Name x px) (cEnv scope cl C env) v
        let mut ok := true
        for c in ifs do
          if ok then ok ← isTrue c (cEnv scope cl C env) (eval c (cEnv scope cl C env))
        if ok then inner acc C
        again (.compLoop (.ListComp elt (⟨.Name x px, iter, ifs, 0⟩ :: gs) scope pos) 0 (.ref I) (.ref acc) (cEnv scope cl C env))))
    (hh : A.handled = none) (F : Fr h₀ L s.heap m) (N : News h₀ L s.heap D) (hvw : (vw, valsOf d) ∈ D) (hm : (d, od) ∈ D) (hod : od.IsDictOf (NK6 w) kvs)
    (K : Nat → (Str → Option Value) → List Value → Led → Prop) (hX : ∀ i mC ys D, K i mC ys D → (d, od) ∈ D) (hK : K 0 (fun _ => none) [] D)
    (turn : ∀ I oi acc C, (∀ p ∈ D, p.1 < I) → ∀ i k v oC mC ys n' D h tk, kvs[i]? = some (k, v) → K i mC ys D → Fr h₀ L h m → News h₀ L h ((I, oi) :: (C, oC) :: (acc, listOf ys.toArray n') :: D) → NsObj oC (fun z => if z = x then some v else mC z) → Off3 I C acc D → I < acc → acc < C →
      wpAny (model PG w) A (tests ifs (cEnv scope cl C env)) (fun ok s₃ => if ok = true then wpAny (model PG w) A (inner acc C) (fun _ s₄ => CompNext h₀ L m I oi C acc (K (i + 1)) s s₄) (NB w A (cEnv scope cl C env) (RR (.ref acc) C)) s₃
        else CompNext h₀ L m I oi C acc (K (i + 1)) s s₃) (NB w A (cEnv scope cl C env) (RR (.ref acc) C)) { s with heap := h, toks := tk })
    (done : ∀ acc C, (∀ p ∈ D, p.1 < acc) → ∀ oC mC ys n' D h tk, K kvs.length mC ys D → Fr h₀ L h m → News h₀ L h ((C, oC) :: (acc, listOf ys.toArray n') :: D) → NsObj oC mC → (∀ p ∈ (acc, listOf ys.toArray n') :: D, p.1 ≠ C) → (∀ p ∈ D, p.1 ≠ acc) → RR (.ref acc) C (.ok .next) { s with heap := h, toks := tk })
    (hcell : ∀ y ∈ scope.names, y.2 ≠ .cell) (hkind : scope.kind = .function) (hx : scope.names.lookup x = some .local) :
    wpAny (model PG w) A (pyIter (.ref vw)) (fun it s₂ => wpAny (model PG w) A (newList []) (fun acc s₃ => wpAny (model PG w) A (newFunctionEnv scope env.globals cl [] env.qual none .none (some env)) (fun cenv s₄ =>
      codeAny (model PG w) A (.compStart (.ListComp elt (⟨.Name x px, iter, ifs, 0⟩ :: gs) scope pos) 0 it acc { cenv with scope := relabel scope env }) (RR acc cenv.locals) s₄) E s₃) E s₂) E s := by
  obtain ⟨es, ep, hde, hdd, hdk, hdp, hdn⟩ := id hod
  have DA : ∀ h : Heap, h.get? d = some od → h.DictAt (NK6 w) d kvs ep := fun h e => ⟨od, es, e, hde, hdd, hdk, hdp, hdn⟩
  have lt : ∀ p ∈ D, p.1 < s.heap.objs.size := fun p hp => Heap.lt_size (N p hp).1
  refine wpAny_pyIter_values (knd := NK6 w) ⟨_, (N _ hvw).1, rfl, rfl⟩ (DA _ (N _ hm).1) ?_
  have up : ∀ b o, s.heap.get? b = some o → (s.heap.push { cls := .type "dict_valueiterator", data := .fields #[.ref d, .int 0 0, .int kvs.length 0, .int ep 0] }).get? b = some o := fun b o e => Heap.get?_push_of_some _ e
  have W := Walks.dictValues (prog := PG) (w := w) (A := A) (knd := NK6 w) hh s.heap.objs.size d (Nat.ne_of_lt (lt _ hm)) kvs ep
  exact comp_walk (src := [(d, od)]) heq W (fun i h st => by obtain ⟨o, e, _⟩ := st.1; exact ⟨o, e⟩) (F.keeps up) (News.push F N _ rfl) lt ⟨⟨_, Heap.get?_push_size _ rfl, rfl, rfl⟩, DA _ (up _ _ (N _ hm).1)⟩ K
    (fun i mC ys D hK p hp => by rw [List.mem_singleton.mp hp]; exact hX i mC ys D hK) hK
    (fun oi acc C i v oC mC ys n' D h tk hi hP hK F N hC off l1 l2 => by obtain ⟨k, hk⟩ := hP; exact turn _ oi acc C lt i k v oC mC ys n' D h tk hk hK F N hC off l1 l2) done hcell hkind hx
theorem vals_at {d : Addr} {od : Obj} {kvs : List (Nat × Value)} (F : Fr h₀ L s.heap m) (N : News h₀ L s.heap D) (hm : (d, od) ∈ D) (hd : od.IsDictOf (NK6 w) kvs) (lo : (d == sysModules) = false)
    (h : ∀ v h', Fr h₀ L h' m → News h₀ L h' ((v, valsOf d) :: D) → (∀ p ∈ D, p.1 < v) → Q (.ref v) { s with heap := h' }) : wpAny (model PG w) A (call (.builtin "dict.values") [.ref d]) Q E s := kdl_view_values F N hm hd lo h
theorem turn_back {h₀' : Heap} {h : Heap} (T : KtsTurn [] h₀ h₀') (F : Fr h₀' L h m) : Fr h₀ L h m :=
  ⟨F.ns, fun b o e => F.keep b o (T.other b o e (fun q => nomatch q)), T.size ▸ F.above⟩
theorem turn_backN {h₀' : Heap} {h : Heap} (T : KtsTurn [] h₀ h₀') (N : News h₀' L h D) : News h₀ L h D := fun p hp => ⟨(N p hp).1, (N p hp).2.1, by
  cases q : h₀.get? p.1 with
  | none => rfl
  | some o => have := T.other _ _ q (fun q => nomatch q); rw [(N p hp).2.2] at this; cases this⟩
theorem turn1 (elt : PySem.Expr) (x : Str) (px : Pos) (iter : PySem.Expr) (ifs : List PySem.Expr) (scope : Scope) (pos : Pos) (I : Addr) (acc : Value) (cenv : Env) :
   compTurn (.ListComp elt [⟨.Name x px, iter, ifs, 0⟩] scope pos) 0 (.ref I) acc cenv = (do
      standAt iter.pos
      match ← pyNext (.ref I) with
      | none => pure (.done .next)
      | some v =>
        letOwnedTupleGo (.Name x px) (.ref I) v
        assign (.Name x px) cenv v
        let mut ok := true
        for c in ifs do
          if ok then ok ← isTrue c cenv (eval c cenv)
        if ok then emit elt acc cenv
        again (.compLoop (.ListComp elt [⟨.Name x px, iter, ifs, 0⟩] scope pos) 0 (.ref I) acc cenv)) := by
  first | rfl | (simp only [compTurn, emit]; rfl) | (simp only [compTurn, emit, bind_assoc]; rfl)
end
end

section
set_option Elab.async false
set_option maxRecDepth 100000
set_option maxHeartbeats 8000000
open LCg (NsObj ns_obj lst)
noncomputable def readyP (a : Abs) : List Nat := (a.filter fun e => e.2.1 == 0).map (·.1)
section
variable {w : World} {A : Around} {E : Value → Shared → Prop} {s : Shared} {L : Addr} {h₀ : Heap} {m : Str → Option Value} {D X : Led} {R : Result → Shared → Prop} {Q : Value → Shared → Prop}

local macro_rules | `(tactic| walk_at "getMethod ref") => `(tactic| (k_here; (with_reducible show wpAny _ _ (getMethod (Value.ref _) (Str.ofString "values") _) _ _ _); refine kob_method PySem.F.slot_dict_values PySem.F.type_dict_values (by k_asm) (by k_mem) (by assumption) ?_))
local macro_rules | `(tactic| walk_at "call builtin:dict.values") => `(tactic| (k_here; refine vals_at (by k_asm) (by k_asm) (by k_mem) (by assumption) (by assumption) ?_; intro vw' h' F' N' lv'))
local macro_rules | `(tactic| walk_at "eval ListComp") => `(tactic| (k_here; refine stop_intro ?_))
local macro_rules | `(tactic| walk_at "exec Assign cons ListComp") => `(tactic| (k_here; (with_reducible show wpAny _ _ (exec (Stmt.Assign [Expr.Attribute _ _ _] _ _) _) _ _ _); walk_at "exec Assign"))
local macro_rules | `(tactic| walk_at "truthy ref") => `(tactic| (k_here; k_dflt (refine truthy_raw (by k_asm) (by k_mem) (by walk_at "num") ?_); intro tk'))
theorem prepare_spec {A₀ : Around} {envL : Env} {σ : Sor} (B0 : Below A₀ h₀ [] h₀) (hA : A = A₀.deeper envL) (hfe : envL.frame = some L) (hks : envL.scope.kind = .function) (C : Cx w A h₀ L) (F : Fr h₀ L s.heap m) (N : News h₀ L s.heap (σ.cells w X)) (ok : σ.Ok w X) (hcl : Closed σ.abs)
    (hr : σ.rn = .none) (hn : σ.n = 4) (hroom : A.depth + 60 < recursionLimit)
    (k1 : ∀ h' tk ar n' (rd : List (Nat × Value)) fin, Fr h₀ L h' m → News h₀ L h' (Sor.cells w { σ with rn := .ref ar } ((ar, listOf (rd.map (·.2)).toArray n') :: X)) → Sor.Ok w { σ with rn := .ref ar } ((ar, listOf (rd.map (·.2)).toArray n') :: X) →
      rd.map (·.1) = readyP σ.abs → (∀ q ∈ rd, nmIs q.1 q.2 = true ∧ hasP σ.abs q.1 = true) → fin.Nodup → Topo (gOf σ) fin → (∀ i ∈ σ.infos, i.p ∈ fin) → R (.ok (.ret .none)) { s with heap := h', toks := tk })
    (k2 : ∀ h' tk ar n' (rd : List (Nat × Value)) c g1 e t vs, Fr h₀ L g1 m → g1.UpToSlots h' → RaisedK h₀ [envL] e (.ref 55) t vs (Sor.cells w { σ with rn := .ref ar } ((ar, listOf (rd.map (·.2)).toArray n') :: X)) h' → Sor.Ok w { σ with rn := .ref ar } ((ar, listOf (rd.map (·.2)).toArray n') :: X) →
      rd.map (·.1) = readyP σ.abs → (∀ q ∈ rd, nmIs q.1 q.2 = true ∧ hasP σ.abs q.1 = true) → Ring (gOf σ) c → (∀ q ∈ c, hasP σ.abs q = true) → R (.error (.ref e)) { s with heap := h', toks := tk }) :
    codeAny (model PG w) A (.call (.ref 92) ⟨[.ref σ.self], []⟩) R s := by
  have X₀ := C.X; have hPG : PG = Challenge.rw_dm0132_06.row.prog := rfl; revert hPG X₀; k_fill; intro X₀ hPG; clear hPG
  refine' enterTU (ents := [(Str.ofString "self", some (.ref σ.self))]) C F N ?k6 ?k7 ?kr ?k9 ?ke ?kB ?_ ?c2 ?c3 ?c4 ?c5
  case k6 => k_is
  case k7 => k_is
  case kr => exact o226 hroom
  case k9 => exact BindsTo.of_eq rfl
  case ke => exact rfl
  case c5 => decide
  case kB => exact locs rfl
  case c2 => exact rfl
  case c3 => exact rfl
  case c4 => exact rfl
  intro g' L' h' hm mg mb tk0 FG' F' N' C' X' T'
  obtain ⟨self, dx, n2i, nn, t1, t2, t3, t4, rn, v3, v4, o, infos⟩ := σ
  dsimp only at hr hn
  subst hr hn
  clear F N X₀
  have N1 := N'
  have hdict := ok.dict
  have hlo := ok.lo
  dsimp only at hdict hlo
  unfold Sor.cells at N1
  dsimp only at N1
  (try k_unmd); (try k_fold)
  k_steps
  unfold Stopped
  refine eval_comp (cl := []) (fun _ => rfl) rfl rfl (by decide) rfl ?_
  intro Qn1 qn1
  k_steps
  rename_i vw h2 F2 N2 lv
  unfold Stopped
  have N3 : News g' L' h2 ((vw, valsOf n2i) :: Sor.cells w ⟨self, dx, n2i, 4, t1, t2, t3, t4, .none, v3, v4, o, infos⟩ X) := N2
  clear N2
  have memD : (n2i, o) ∈ (vw, valsOf n2i) :: Sor.cells w ⟨self, dx, n2i, 4, t1, t2, t3, t4, .none, v3, v4, o, infos⟩ X := .tail _ (.tail _ (.tail _ (.head _)))
  refine comp_vals (fun _ _ _ => turn1 _ _ _ _ _ _ _ _ _ _) C'.hh (by k_asm) N3 (.head _) memD hdict
    (fun j mC ys D' => X1 fun (rd : List (Nat × Value)) => A5 (ys = rd.map (·.2)) (rd.map (·.1) = readyP ((infos.take j).map Info.abs)) ((∀ q ∈ rd, nmIs q.1 q.2 = true ∧ hasP (infos.map Info.abs) q.1 = true)) (D' = (vw, valsOf n2i) :: Sor.cells w ⟨self, dx, n2i, 4, t1, t2, t3, t4, .none, v3, v4, o, infos⟩ X) (∃ u, mC = upds emp [(Str.ofString "i", u)]))
    (fun j mC ys D' hK => by obtain ⟨_, _, _, _, rfl, _⟩ := hK; exact memD) ⟨[], rfl, rfl, (fun _ h => nomatch h), rfl, none, by walk_at "maps"⟩ ?_ ?_ (by decide) rfl rfl
  · rintro I oi acc C1 ltI j k v oC mC ys n' _ h tk hkv ⟨rd, rfl, hrd1, hrd2, rfl, u, rfl⟩ F N hC off hIa haC
    obtain ⟨inf, hinf, hk, hv⟩ : ∃ inf, infos[j]? = some inf ∧ inf.p = k ∧ v = .ref inf.x := by
      rw [List.getElem?_map] at hkv
      cases hq : infos[j]? with
      | none => rw [hq] at hkv; cases hkv
      | some inf => rw [hq] at hkv; have := Prod.mk.inj (Option.some.inj hkv); exact ⟨inf, rfl, this.1, this.2.symm⟩
    subst hv
    have hjl := (List.getElem?_eq_some_iff.mp hinf).1
    have hsplit : infos = infos.take j ++ inf :: infos.drop (j + 1) := by
      have e := List.take_append_drop j infos
      rw [List.drop_eq_getElem_cons hjl, (List.getElem?_eq_some_iff.mp hinf).2] at e
      exact e.symm
    have N4 := Mine.News.perm N ((((foc_perm' w (σ := ⟨self, dx, n2i, 4, t1, t2, t3, t4, .none, v3, v4, o, infos⟩) hsplit X).symm.cons _).cons _).cons _ |>.cons _)
    unfold Sor.foc at N4
    dsimp only at N4
    refine wpAny_tests_one ?_
    clear N3 F2
    (try k_unmd); k_fold
    have htk : readyP ((infos.take (j + 1)).map Info.abs) = readyP ((infos.take j).map Info.abs) ++ (if inf.np = 0 then [inf.p] else []) := by
      rw [List.take_add_one, hinf]
      unfold readyP
      rw [List.map_append, List.filter_append, List.map_append]
      congr 1
      by_cases hz : inf.np = 0
      · rw [if_pos hz]; simp [Info.abs, hz]
      · rw [if_neg hz]; simp [Info.abs, hz]
    have hmi : inf ∈ infos := List.mem_of_getElem? hinf
    have hshort := ok.short
    dsimp only at hshort
    k_steps
    · rename_i hz
      have hnd : (∃ n t, inf.nd = .int n t) ∨ ∃ x t, inf.nd = .str x t := by
        obtain ⟨k', _, h2⟩ := nmIs_key (ok.good inf hmi).nd
        rcases NK.is_shape h2 with ⟨n, t, _, e⟩ | ⟨x, t, _, e⟩
        · exact .inl ⟨n, t, e⟩
        · exact .inr ⟨x, t, e⟩
      refine emit_next (ys := rd.map (·.2)) (n := n') hC off (Nat.ne_of_lt hIa) (Nat.ne_of_lt haC) ?_
      rcases hnd with ⟨nn, tt, hnd⟩ | ⟨nn, tt, hnd⟩
      all_goals (
        rw [hnd] at N4
        k_steps
        rw [← hnd]
        refine EltEnd.mk [] F N (fun _ h => nomatch h) ?_ ⟨rd ++ [(inf.p, inf.nd)], by simp, ?_, fun q hq => ?_, rfl, _, by walk_at "maps"⟩
        · have h1 := congrArg List.length hrd1
          rw [List.length_map] at h1
          have h2 : (readyP ((infos.take j).map Info.abs)).length ≤ infos.length := by
            unfold readyP
            rw [List.length_map]
            refine Nat.le_trans (List.length_filter_le _ _) ?_
            rw [List.length_map, List.length_take]; exact o7
          rw [List.length_map, sizeLine_eq]; exact o227 h1 h2 hshort
        · rw [htk, if_pos hz, List.map_append, hrd1]; rfl
        · rcases List.mem_append.mp hq with h | h
          · exact hrd2 q h
          · rw [List.mem_singleton.mp h]
            exact ⟨(ok.good inf hmi).nd, abs_hasP.mpr ⟨inf, hmi, rfl⟩⟩)
    · rename_i hz
      refine ⟨_, _, _, _, _, _, _, rfl, F, N, hC, off, rd, rfl, ?_, hrd2, rfl, _, by walk_at "maps"⟩
      rw [htk, if_neg hz, List.append_nil]; exact hrd1
  · clear N3 F2
    rintro acc C1 lacc oC mC ys n' _ h tk ⟨rd, rfl, hrd1, hrd2, rfl, u, rfl⟩ F N hC off1 off2
    refine comp_fin F N hC off1 fun h3 F3 N3 => qn1 _ _ ?_
    clear F N hC off1 
    have N4 := N3
    have K4 := ok.keys
    have la4 := lacc
    have lv4 : ∀ p ∈ Sor.cells w ⟨self, dx, n2i, 4, t1, t2, t3, t4, .none, v3, v4, o, infos⟩ X, p.1 < vw := lv
    have lv5 := lv4
    unfold Sor.cells at N4 K4 la4 lv4
    dsimp only at N4 K4
    k_lt la4
    k_lt lv4
    simp only [keys_cons, List.forall_mem_cons] at K4
    obtain ⟨⟨z1, z2, z3⟩, ⟨w1, w2⟩, _⟩ := K4
    replace z1 : @Ne Nat dx self := z1
    replace z2 : @Ne Nat n2i self := z2
    replace w1 : @Ne Nat n2i dx := w1
    k_steps
    rename_i h4 F4 N5
    dsimp only [List.cons_append, List.nil_append]
    have P4 : ∀ (q1 q2 : Addr × Obj) (σ : Sor), (q1 :: q2 :: σ.cells w X).Perm (σ.cells w (q1 :: q2 :: X)) := fun q1 q2 σ => ((cells_push w σ q2 X).cons q1).trans (cells_push w σ q1 (q2 :: X))
    have N6 : News g' L' h4 ((acc, listOf (rd.map (·.2)).toArray n') :: (vw, valsOf n2i) :: Sor.cells w ⟨self, dx, n2i, 4, t1, t2, t3, t4, .ref acc, v3, v4, o, infos⟩ X) := N5
    have ok6 : Sor.Ok w ⟨self, dx, n2i, 4, t1, t2, t3, t4, .ref acc, v3, v4, o, infos⟩ ((acc, listOf (rd.map (·.2)).toArray n') :: (vw, valsOf n2i) :: X) := by
      have K6 : Keys (Sor.cells w ⟨self, dx, n2i, 4, t1, t2, t3, t4, .ref acc, v3, v4, o, infos⟩ X) := keys_addr ok.keys rfl
      refine ⟨ok.dict, Keys.perm (Keys.cons (Keys.cons K6 fun p hp => ?_) fun p hp => ?_) (P4 _ _ _), ok.lo, ok.good, ok.apart⟩
      · refine Nat.ne_of_lt (allLt_mem ?_ p hp); exact lv4
      · refine Nat.ne_of_lt (allLt_mem ?_ p hp); exact la4
    have hof : outerF A = [] := by rw [hA]; exact outerF_deeper B0.stack
    have okE := (ok6.perm (List.Perm.swap _ _ _)).drop.1
    have memE : ∀ q ∈ (acc, listOf (rd.map (·.2)).toArray n') :: X, q ∈ (acc, listOf (rd.map (·.2)).toArray n') :: (vw, valsOf n2i) :: X := fun q hq => by
      rcases List.mem_cons.mp hq with rfl | h
      · exact .head _
      · exact .tail _ (.tail _ h)
    have hrdE : rd.map (·.1) = readyP (Sor.abs ⟨self, dx, n2i, 4, t1, t2, t3, t4, .none, v3, v4, o, infos⟩) := by
      rw [hrd1, List.take_of_length_le (by simp)]; rfl
    refine wpAny_call (find_cycle_spec (σ := ⟨self, dx, n2i, 4, t1, t2, t3, t4, .ref acc, v3, v4, o, infos⟩) C' F4 (Mine.News.perm N6 (P4 _ _ _)) ok6 hcl (by rw [depth_deeper]; exact o228 hroom) ?_ ?_)
    · intro h5 g5 tk5 fin T5 C5 F5 N7 hf1 hf2 hf3
      (try clear F4); (try clear N5); (try clear N6); (try clear N3); (try clear F3)
      dsimp only
      k_steps
      rename_i h6 F6 N8
      refine leaveT_ T5 F6 N8 fun h₀' T9 C9 F9 N9 => k1 _ _ acc n' rd fin (turn_back (hof ▸ T9) F9) (turn_backN (hof ▸ T9) fun p hp => N9 p ?_) okE hrdE hrd2 hf1 hf2 hf3
      exact cells_mono w _ (fun q hq => memE q hq) p hp
    · intro h5 g5 tk5 b vs nn c T5 C5 F5 N7 hoff hvs hring hc
      obtain ⟨vl, rfl⟩ : ∃ l : List Value, vs = l.toArray := ⟨vs.toList, by simp⟩
      have hvl : vl.length ≤ 100 := by simpa using hvs.2
      have hve : (!vl.isEmpty) = true := by have := hvs.1; simp at this; simp [this]
      have Cg := C5
      have hh5 := C5.hh
      have Xg := Cg.X
      obtain ⟨_, _, _, _, hm2, mg2, mb2, _, _, _, _, Tg, _⟩ := id Cg.ex
      (try clear F4); (try clear N5); (try clear N6); (try clear N3); (try clear F3); (try clear X'); (try clear T')
      dsimp only
      k_steps
      rename Heap.MadeExcOf _ _ _ _ _ => hx
      rename Fr g5 _ _ _ => F6
      rename News g5 _ _ _ => N8
      have B1 : Below A h₀ [envL] g' := by subst hA; exact below_any B0 FG' (by show A₀.frames.map _ = _; rw [B0.stack]; rfl) hfe hks
      have hf5 : ∀ x, outerF (A.deeper x) = [L] := fun x => by rw [outerF_deeper B1.stack, List.filterMap_cons, hfe]; rfl
      rw [hf5] at T5
      have B5 : Below A h₀ [envL] g5 := ⟨B1.stack, fun b o e => T5.other b o (B1.stays b o e) (fun q => by
        rw [List.mem_singleton.mp q, kts_self FG'] at e; cases e), B1.frames.of_keeps fun b o e _ => by
        obtain ⟨sl, hs⟩ := T5.up e
        exact ⟨_, hs, rfl⟩⟩
      have U5 : g'.UpToSlots g5 := fun b o e _ => T5.up e
      refine leave_raiseK B5 hx F6 N8 (fun h7 t R7 U7 => ?_)
      obtain ⟨⟨BB, r1, r2, r3, r4⟩, r5⟩ := R7
      exact k2 h7 _ acc n' rd c g' _ t _ FG' (U5.trans U7) ⟨⟨BB, r1, fun q hq => r2 q (.tail _ (cells_mono w _ (fun q hq => memE q hq) q hq)), r3, r4⟩, r5⟩ okE hrdE hrd2 hring hc
end
end

section
set_option Elab.async false
set_option maxRecDepth 100000
set_option maxHeartbeats 8000000
/-! the interpreter's sort of few items is stable -/
noncomputable abbrev G (p : Array Nat) (k : Nat) : Nat := p.getD k 0
noncomputable def Hold {α : Type} (lt : Nat → Nat → Bool) (N : Nat) (Q : α → Prop) : KasT α → Prop
  | .ret a => Q a
  | .ask i j k => i < N ∧ j < N ∧ Hold lt N Q (k (lt i j))
theorem Hold.bind {α β : Type} {lt : Nat → Nat → Bool} {N : Nat} {Q : β → Prop} {f : α → KasT β} : ∀ {t : KasT α}, Hold lt N (fun a => Hold lt N Q (f a)) t → Hold lt N Q (t.bind f)
  | .ret _, h => h
  | .ask _ _ k, ⟨h1, h2, h3⟩ => ⟨h1, h2, Hold.bind (t := k _) h3⟩
theorem G_of {p q : Array Nat} {i j : Nat} (h : p[i]? = q[j]?) : G p i = G q j := by
  unfold G
  rw [Array.getD_eq_getD_getElem?, Array.getD_eq_getD_getElem?, h]
theorem G_rev {p : Array Nat} {i j : Nat} (hj : j ≤ p.size) (k : Nat) : G (kas_rev p i j) k = if i ≤ k ∧ k < j then G p (i + j - 1 - k) else G p k := by
  have h := getElem?_mirror_all (xs := p) (i := i) hj k
  split
  · next c => rw [if_pos c] at h; exact G_of h
  · next c => rw [if_neg c] at h; exact G_of h
theorem G_bubble {p : Array Nat} {k d : Nat} (hs : k < p.size) (hd : d ≤ k) (m : Nat) : G (bubble p k d) m = if m = k - d then G p k else if k - d < m ∧ m ≤ k then G p (m - 1) else G p m := by
  have h := getElem?_bubble hs d hd m
  by_cases c : m = k - d
  · rw [if_pos c] at h ⊢; exact G_of h
  · rw [if_neg c] at h ⊢
    by_cases c2 : k - d < m ∧ m ≤ k
    · rw [if_pos c2] at h ⊢; exact G_of h
    · rw [if_neg c2] at h ⊢; exact G_of h
noncomputable def lx (key : Nat → Int) (a b : Nat) : Prop := key a < key b ∨ (key a = key b ∧ a < b)
structure Pre (N n : Nat) (p : Array Nat) : Prop where
  size : p.size = N
  perm : p.toList.Perm (List.range N)
  rest : ∀ i, n ≤ i → i < N → G p i = i
  small : ∀ i, i < n → G p i < n
noncomputable def Asc (key : Nat → Int) (p : Array Nat) (n : Nat) : Prop := ∀ i j, i < j → j < n → lx key (G p i) (G p j)
theorem rev_perm {N : Nat} {p : Array Nat} {i j : Nat} (h : p.toList.Perm (List.range N)) : (kas_rev p i j).toList.Perm (List.range N) :=
  (Array.perm_iff_toList_perm.mp (mirror_perm p i j ((j - i) / 2))).trans h
section
variable {key : Nat → Int} {N : Nat}
noncomputable abbrev ltK (key : Nat → Int) : Nat → Nat → Bool := fun i j => decide (key i < key j)
theorem asc_ok {Q : Nat → Prop} {p : Array Nat} : ∀ (f n : Nat), n + f = N → 1 ≤ n → Pre N n p → Asc key p n → (∀ m, n ≤ m → m ≤ N → Pre N m p → Asc key p m → (m = N ∨ key (G p m) < key (G p (m - 1))) → Q m) → Hold (ltK key) N Q (kas_asc p f n)
  | 0, n, hn, _, hp, ha, h => h n (Nat.le_refl _) (by exact o251 hn) hp ha (.inl (by assumption))
  | f + 1, n, hn, h1, hp, ha, h => by
    have hr := hp.rest n (Nat.le_refl _) (by exact o252 hn)
    have hs := hp.small (n - 1) (by exact o253 h1)
    refine ⟨by show G p n < N; exact o254 hn hr, by show G p (n - 1) < N; exact o255 hs hn, ?_⟩
    show Hold _ _ _ (if ltK key (G p n) (G p (n - 1)) = true then KasT.ret n else kas_asc p f (n + 1))
    by_cases c : key (G p n) < key (G p (n - 1))
    · rw [if_pos (decide_eq_true c)]
      exact h n (Nat.le_refl _) (by exact o256 hn) hp ha (.inr c)
    · rw [if_neg (by simpa using c)]
      refine asc_ok f (n + 1) (by exact o257 hn) (by exact o165) ⟨hp.size, hp.perm, fun i a b => hp.rest i (by exact o18 a) b, fun i hi => ?_⟩ (fun i j hij hj => ?_) fun m a b => h m (by exact o18 a) b
      · by_cases e : i = n
        · subst e; exact o258 hr
        · have := hp.small i (by exact o50 hi e); exact o172 this
      · by_cases e : j = n
        · subst e
          have h2 := hp.small i hij
          have h3 : key (G p i) ≤ key (G p (j - 1)) := by
            by_cases e2 : i = j - 1
            · rw [e2]; exact Int.le_refl _
            · rcases ha i (j - 1) (by exact o259 hij e2) (by exact o253 h1) with h4 | h4
              · exact o260 h4
              · exact o261 h4.1
          unfold lx
          rw [hr] at c ⊢
          by_cases e3 : key (G p i) < key j
          · exact .inl e3
          · exact .inr ⟨by exact o262 e3 c h3, h2⟩
        · exact ha i j hij (by exact o50 hj e)
/-- a falling part whose last block of equal ones stands as it stood -/
structure Dinv (key : Nat → Int) (N n q : Nat) (p : Array Nat) : Prop where
  pre : Pre N n p
  q1 : q + 1 ≤ n
  blk : ∀ i, n - 1 - q ≤ i → i < n → G p i = i ∧ key i = key (n - 1)
  dsc : ∀ i j, i < j → j < n → i < n - 1 - q → lx key (G p j) (G p i)
noncomputable def Fall (key : Nat → Int) (p : Array Nat) (n : Nat) : Prop := ∀ i j, i < j → j < n → lx key (G p j) (G p i)
/-- the block turned round -/
theorem Dinv.turned {n q : Nat} {p p' : Array Nat} (h : Dinv key N n q p) (hn : n ≤ N) (hs : p'.size = N) (hp : p'.toList.Perm (List.range N)) (hg : ∀ i, G p' i = if n - 1 - q ≤ i ∧ i < n then G p (n - 1 - q + n - 1 - i) else G p i) :
    Pre N n p' ∧ Fall key p' n ∧ ∀ i, i < n → key (n - 1) ≤ key (G p' i) := by
  obtain ⟨pre, q1, blk, dsc⟩ := h
  have gin : ∀ i, n - 1 - q ≤ i → i < n → G p' i = n - 1 - q + n - 1 - i ∧ key (G p' i) = key (n - 1) := fun i h1 h2 => by
    rw [hg i, if_pos ⟨h1, h2⟩]
    obtain ⟨b1, b2⟩ := blk (n - 1 - q + n - 1 - i) (by exact o263 h2) (by exact o264 h2 h1)
    rw [b1]; exact ⟨rfl, b2⟩
  have gout : ∀ i, i < n - 1 - q → G p' i = G p i := fun i h1 => by rw [hg i, if_neg (by exact o265 h1)]
  refine ⟨⟨hs, hp, fun i h1 h2 => ?_, fun i hi => ?_⟩, fun i j hij hj => ?_, fun i hi => ?_⟩
  · rw [hg i, if_neg (by exact o266 h1)]; exact pre.rest i h1 h2
  · by_cases c : n - 1 - q ≤ i
    · rw [(gin i c hi).1]; exact o264 hi c
    · rw [gout i (by exact o267 c)]; exact pre.small i hi
  · by_cases c : n - 1 - q ≤ i
    · obtain ⟨a1, a2⟩ := gin i c (by exact o233 hij hj)
      obtain ⟨b1, b2⟩ := gin j (by exact o268 hij c) hj
      refine .inr ⟨by rw [a2, b2], by rw [a1, b1]; exact o269 hj hij⟩
    · rw [gout i (by exact o267 c)]
      by_cases c2 : n - 1 - q ≤ j
      · rw [hg j, if_pos ⟨c2, hj⟩]
        exact dsc i _ (by exact o270 hj c) (by exact o271 c c2) (by exact o267 c)
      · rw [gout j (by exact o267 c2)]
        exact dsc i j hij hj (by exact o267 c)
  · by_cases c : n - 1 - q ≤ i
    · rw [(gin i c hi).2]; exact Int.le_refl _
    · rw [gout i (by exact o267 c)]
      have h1 := dsc i (n - 1) (by exact o272 c) (by exact o273 hi) (by exact o267 c)
      rw [(blk (n - 1) (by exact o274) (by exact o273 hi)).1] at h1
      rcases h1 with h2 | h2 <;> (first | exact o260 h2 | exact o261 h2.1 | assumption)
theorem desc_ok {Q : Array Nat × Nat × Nat → Prop} : ∀ (f n q : Nat) (p : Array Nat), n + f = N → Dinv key N n q p → (∀ p' n' q', n ≤ n' → n' ≤ N → Dinv key N n' q' p' → Q (p', n', q')) → Hold (ltK key) N Q (kas_desc f p n q)
  | 0, n, q, p, hn, hd, h => h p n q (Nat.le_refl _) (by exact o251 hn) hd
  | f + 1, n, q, p, hn, hd, h => by
    have q1 := hd.q1
    have hr := hd.pre.rest n (Nat.le_refl _) (by exact o252 hn)
    have hl := (hd.blk (n - 1) (by exact o274) (by exact o275 q1)).1
    have step : ∀ p' : Array Nat, p'.size = N → p'.toList.Perm (List.range N) → (∀ i, G p' i = if n - 1 - q ≤ i ∧ i < n then G p (n - 1 - q + n - 1 - i) else G p i) → key n < key (n - 1) → Dinv key N (n + 1) 0 p' := by
      intro p' hs hp hg hc
      obtain ⟨t1, t2, t3⟩ := hd.turned (by exact o256 hn) hs hp hg
      refine ⟨⟨hs, hp, fun i a b => t1.rest i (by exact o18 a) b, fun i hi => ?_⟩, by exact o276, fun i a b => ?_, fun i j hij hj hi => ?_⟩
      · by_cases e : i = n
        · subst e; rw [t1.rest i (Nat.le_refl _) (by exact o252 hn)]; omega
        · have := t1.small i (by exact o50 hi e); exact o172 this
      · have : i = n := by exact o277 b a
        subst this
        exact ⟨t1.rest i (Nat.le_refl _) (by exact o252 hn), by simp⟩
      · by_cases e : j = n
        · subst e
          rw [t1.rest j (Nat.le_refl _) (by exact o252 hn)]
          have := t3 i (by assumption)
          exact .inl (by exact o278 hc this)
        · exact t2 i j hij (by exact o50 hj e)
    refine ⟨by show G p n < N; exact o254 hn hr, by show G p (n - 1) < N; exact o279 hn hl, ?_⟩
    show Hold _ _ _ (if ltK key (G p n) (G p (n - 1)) = true then (if q > 0 then kas_desc f (kas_rev p (n - (q + 1)) n) (n + 1) 0 else kas_desc f p (n + 1) 0)
      else KasT.ask (G p (n - 1)) (G p n) fun d => if d = true then .ret (p, n, q) else kas_desc f p (n + 1) (q + 1))
    by_cases c : key (G p n) < key (G p (n - 1))
    · rw [if_pos (decide_eq_true c)]
      rw [hr, hl] at c
      by_cases hq : q > 0
      · rw [if_pos hq]
        refine desc_ok f (n + 1) 0 _ (by exact o257 hn) (step _ (by rw [kas_rev_size]; exact hd.pre.size) (rev_perm hd.pre.perm) (fun i => ?_) c) fun p' n' q' a => h p' n' q' (by exact o18 a)
        rw [G_rev (by rw [hd.pre.size]; exact o256 hn)]
        have e : n - (q + 1) = n - 1 - q := by exact o280
        rw [e]
      · rw [if_neg hq]
        refine desc_ok f (n + 1) 0 _ (by exact o257 hn) (step p hd.pre.size hd.pre.perm (fun i => ?_) c) fun p' n' q' a => h p' n' q' (by exact o18 a)
        split
        · next c2 => congr 1; exact o281 hq c2
        · rfl
    · rw [if_neg (by simpa using c)]
      refine ⟨by show G p (n - 1) < N; exact o279 hn hl, by show G p n < N; exact o254 hn hr, ?_⟩
      show Hold _ _ _ (if ltK key (G p (n - 1)) (G p n) = true then KasT.ret (p, n, q) else kas_desc f p (n + 1) (q + 1))
      by_cases c2 : key (G p (n - 1)) < key (G p n)
      · rw [if_pos (decide_eq_true c2)]
        exact h p n q (Nat.le_refl _) (by exact o256 hn) hd
      · rw [if_neg (by simpa using c2)]
        rw [hr, hl] at c c2
        refine desc_ok f (n + 1) (q + 1) p (by exact o257 hn) ⟨⟨hd.pre.size, hd.pre.perm, fun i a b => hd.pre.rest i (by exact o18 a) b, fun i hi => ?_⟩, by exact o282 q1, fun i a b => ?_, fun i j hij hj hi => ?_⟩ fun p' n' q' a => h p' n' q' (by exact o18 a)
        · by_cases e : i = n
          · subst e; exact o258 hr
          · have := hd.pre.small i (by exact o50 hi e); exact o172 this
        · by_cases e : i = n
          · subst e; exact ⟨hr, by simp⟩
          · obtain ⟨b1, b2⟩ := hd.blk i (by exact o283 a) (by exact o50 b e)
            refine ⟨b1, ?_⟩
            rw [b2]; show key (n - 1) = key n; exact o284 c2 c
        · by_cases e : j = n
          · subst e
            rw [hr]
            have h1 := hd.dsc i (j - 1) (by exact o285 hi) (by exact o275 q1) (by exact o286 hi)
            rw [hl] at h1
            have h2 := hd.pre.small i (by assumption)
            rcases h1 with h3 | h3
            · exact .inl (by exact o287 h3 c2)
            · exact (o288 h3.2 h2).elim
          · exact hd.dsc i j hij (by exact o50 hj e) (by exact o286 hi)
theorem tail3_ok {Q : Nat × Array Nat → Prop} {n : Nat} {p : Array Nat} (hn : n ≤ N) (h1 : 1 ≤ n) (hp : Pre N n p) (hf : Fall key p n) (h : ∀ m p', m ≤ N → 1 ≤ m → Pre N m p' → Asc key p' m → Q (m, p')) : Hold (ltK key) N Q (kas_tail3 n N p) := by
  have hg : ∀ k, G (kas_rev p 0 n) k = if k < n then G p (n - 1 - k) else G p k := fun k => by
    rw [G_rev (by rw [hp.size]; exact hn)]
    by_cases c : k < n
    · rw [if_pos ⟨Nat.zero_le _, c⟩, if_pos c, Nat.zero_add]
    · rw [if_neg (by exact o289 c), if_neg c]
  refine Hold.bind (asc_ok (N - n) n (by exact o290 hn) h1 ⟨by rw [kas_rev_size]; exact hp.size, rev_perm hp.perm, fun i a b => ?_, fun i hi => ?_⟩ (fun i j hij hj => ?_) fun m a b c d _ => h m _ b (by exact o291 h1 a) c d)
  · rw [hg, if_neg (by exact o292 a)]; exact hp.rest i a b
  · rw [hg, if_pos hi]; exact hp.small _ (by exact o293 hi)
  · rw [hg, hg, if_pos (by exact o233 hij hj), if_pos hj]
    exact hf _ _ (by exact o294 hj hij) (by exact o295 hj)
theorem descPart_ok {Q : Nat × Array Nat → Prop} {n : Nat} {p : Array Nat} (hn : n < N) (hd : Dinv key N (n + 1) 0 p) (h : ∀ m p', m ≤ N → 1 ≤ m → Pre N m p' → Asc key p' m → Q (m, p')) : Hold (ltK key) N Q (kas_descPart n N p) := by
  refine Hold.bind (desc_ok (N - (n + 1)) (n + 1) 0 p (by exact o296 hn) hd fun p' n' q' a b d => ?_)
  have q1 := d.q1
  show Hold _ _ _ (if q' > 0 then kas_tail3 n' N (kas_rev p' (n' - (q' + 1)) n') else kas_tail3 n' N p')
  by_cases hq : q' > 0
  · rw [if_pos hq]
    obtain ⟨t1, t2, _⟩ := d.turned (p' := kas_rev p' (n' - (q' + 1)) n') b (by rw [kas_rev_size]; exact d.pre.size) (rev_perm d.pre.perm) (fun i => by
      rw [G_rev (by rw [d.pre.size]; exact b)]
      have e : n' - (q' + 1) = n' - 1 - q' := by exact o280
      rw [e])
    exact tail3_ok b (by exact o297 q1) t1 t2 h
  · rw [if_neg hq]
    obtain ⟨t1, t2, _⟩ := d.turned (p' := p') b d.pre.size d.pre.perm (fun i => by
      split
      · next c2 => congr 1; exact o281 hq c2
      · rfl)
    exact tail3_ok b (by exact o297 q1) t1 t2 h
theorem G_range {i : Nat} (hi : i < N) : G (List.toArray (List.range N)) i = i := by
  unfold G
  simp [Array.getD_eq_getD_getElem?, hi]
theorem count_ok {Q : Nat × Array Nat → Prop} (h1 : 1 ≤ N) (h : ∀ m p', m ≤ N → 1 ≤ m → Pre N m p' → Asc key p' m → Q (m, p')) : Hold (ltK key) N Q (kas_count N (List.toArray (List.range N))) := by
  have hp0 : ∀ n, n ≤ N → Pre N n (List.toArray (List.range N)) := fun n hn => ⟨by simp, by simp, fun i _ hi => G_range hi, fun i hi => by rw [G_range (by exact o298 hi hn)]; exact hi⟩
  refine Hold.bind (asc_ok (N - 1) 1 (by exact o299 h1) (Nat.le_refl _) (hp0 1 h1) (fun i j hij hj => by exact (o300 hj hij).elim) fun m a b hp ha hc => ?_)
  show Hold _ _ _ (if (m == N) = true then KasT.ret (m, List.toArray (List.range N)) else if m > 1 then KasT.ask (G (List.toArray (List.range N)) 0) (G (List.toArray (List.range N)) (m - 1)) fun c => if c = true then .ret (m, List.toArray (List.range N)) else kas_descPart m N (kas_rev (List.toArray (List.range N)) 0 m)
    else kas_descPart m N (List.toArray (List.range N)))
  by_cases e : m = N
  · rw [if_pos (by simpa using e)]
    exact h m _ b a hp ha
  · rw [if_neg (by simpa using e)]
    have hc' := hc.resolve_left e
    rw [G_range (by exact o301 e b), G_range (by exact o302 a b)] at hc'
    by_cases e1 : m > 1
    · rw [if_pos e1, G_range (by exact o303 h1), G_range (by exact o304 e1 b)]
      refine ⟨by exact o303 h1, by exact o304 e1 b, ?_⟩
      show Hold _ _ _ (if ltK key 0 (m - 1) = true then KasT.ret (m, List.toArray (List.range N)) else kas_descPart m N (kas_rev (List.toArray (List.range N)) 0 m))
      by_cases c : key 0 < key (m - 1)
      · rw [if_pos (decide_eq_true c)]
        exact h m _ b a hp ha
      · rw [if_neg (by simpa using c)]
        have hall : ∀ i, i < m → key i = key (m - 1) := fun i hi => by
          have l1 : key 0 ≤ key i := by
            by_cases z : i = 0
            · subst z; exact Int.le_refl _
            · have := ha 0 i (by exact o305 z) hi
              rw [G_range (by exact o303 h1), G_range (by exact o298 hi b)] at this
              rcases this with z | z <;> (first | exact o260 z | exact o261 z.1 | assumption)
          have l2 : key i ≤ key (m - 1) := by
            by_cases z : i = m - 1
            · subst z; exact Int.le_refl _
            · have := ha i (m - 1) (by exact o259 hi z) (by exact o306 e1)
              rw [G_range (by exact o298 hi b), G_range (by exact o304 e1 b)] at this
              rcases this with z | z <;> (first | exact o260 z | exact o261 z.1 | assumption)
          exact o307 c l2 l1
        have hg : ∀ k, k < N → G (kas_rev (List.toArray (List.range N)) 0 m) k = if k < m then m - 1 - k else k := fun k hk => by
          rw [G_rev (by simp; assumption)]
          by_cases c : k < m
          · rw [if_pos ⟨Nat.zero_le _, c⟩, if_pos c, G_range (by exact o308 c b)]; exact o309
          · rw [if_neg (by exact o289 c), if_neg c, G_range hk]
        refine descPart_ok (by exact o301 e b) ⟨⟨by rw [kas_rev_size]; simp, rev_perm (by simp), fun i a b => ?_, fun i hi => ?_⟩, by exact o276, fun i a b => ?_, fun i j hij hj hi => ?_⟩ h
        · rw [hg i b, if_neg (by exact o310 a)]
        · rw [hg i (by exact o311 hi e b)]; split <;> (first | exact o312 | assumption)
        · have : i = m := by exact o277 b a
          subst this
          rw [hg i (by exact o301 e (by assumption)), if_neg (by exact o313)]
          exact ⟨rfl, by simp⟩
        · rw [hg i (by exact o314 hij hj b), hg j (by exact o311 hj e b), if_pos (show i < m by exact o186 hij hj)]
          by_cases z : j = m
          · subst z
            rw [if_neg (show ¬ j < j by exact o313)]
            have := hall (j - 1 - i) (by exact o293 hij)
            exact .inl (by exact o315 hc' this)
          · rw [if_pos (show j < m by exact o50 hj z)]
            refine .inr ⟨by rw [hall (m - 1 - j) (by exact o316 e1), hall (m - 1 - i) (by exact o317 hij hj)], by exact o318 hj hij z⟩
    · rw [if_neg e1]
      have em : m = 1 := by exact o319 e1 a
      subst em
      refine descPart_ok (by exact o320 e h1) ⟨hp0 2 (by exact o321 e h1), by exact o322, fun i a b => ?_, fun i j hij hj hi => ?_⟩ h
      · have : i = 1 := by exact o323 b a
        subst this
        exact ⟨G_range (by exact o320 e h1), by simp⟩
      · have h3 : i = 0 := by exact o324 hi
        have h4 : j = 1 := by exact o325 hj hij
        subst h3 h4
        rw [G_range (by exact o320 e h1), G_range (by exact o303 h1)]
        exact .inl hc'
theorem place_ok {Q : Nat → Prop} {p : Array Nat} {k : Nat} (hk : k < N) (hp : Pre N k p) (ha : Asc key p k) : ∀ (f l r : Nat), r ≤ l + f → l ≤ r → r ≤ k → (∀ i, i < l → key (G p i) ≤ key k) → (∀ i, r ≤ i → i < k → key k < key (G p i)) →
    (∀ l, l ≤ k → (∀ i, i < l → key (G p i) ≤ key k) → (∀ i, l ≤ i → i < k → key k < key (G p i)) → Q l) → Hold (ltK key) N Q (kas_place p k f l r)
  | 0, l, r, h1, h2, h3, h4, h5, h => h l (by exact o326 h2 h3) h4 (fun i a b => h5 i (by exact o327 h1 a) b)
  | f + 1, l, r, h1, h2, h3, h4, h5, h => by
    show Hold _ _ _ (if l ≥ r then KasT.ret l else KasT.ask (G p k) (G p ((l + r) / 2)) fun c => if c = true then kas_place p k f l ((l + r) / 2) else kas_place p k f ((l + r) / 2 + 1) r)
    by_cases e : l ≥ r
    · rw [if_pos e]
      have : l = r := by exact o328 h2 e
      subst this
      exact h l h3 h4 h5
    · rw [if_neg e]
      have hr := hp.rest k (Nat.le_refl _) hk
      have hs := hp.small ((l + r) / 2) (by exact o329 e h3)
      refine ⟨by show G p k < N; exact o330 hk hr, by show G p ((l + r) / 2) < N; exact o233 hs hk, ?_⟩
      rw [hr]
      show Hold _ _ _ (if ltK key k (G p ((l + r) / 2)) = true then _ else _)
      have mono : ∀ i j, i ≤ j → j < k → key (G p i) ≤ key (G p j) := fun i j hij hj => by
        by_cases z : i = j
        · subst z; exact Int.le_refl _
        · rcases ha i j (by exact o301 z hij) hj with q | q <;> (first | exact o260 q | exact o261 q.1 | assumption)
      by_cases c : key k < key (G p ((l + r) / 2))
      · rw [if_pos (decide_eq_true c)]
        refine place_ok hk hp ha f l ((l + r) / 2) (by exact o331 h1) (by exact o332 e) (by exact o333 e h3) h4 (fun i a b => ?_) h
        have := mono _ i a b
        exact o278 c this
      · rw [if_neg (by simpa using c)]
        refine place_ok hk hp ha f ((l + r) / 2 + 1) r (by exact o334 h1) (by exact o335 e) h3 (fun i a => ?_) h5 h
        have := mono i ((l + r) / 2) (by exact o336 a) (by exact o329 e h3)
        exact o337 c this
theorem bin_ok {Q : Array Nat → Prop} (h : ∀ p, Pre N N p → Asc key p N → Q p) : ∀ (f : Nat) (p : Array Nat) (k : Nat), k + f = N → Pre N k p → Asc key p k → Hold (ltK key) N Q (kas_bin f p k)
  | 0, p, k, hk, hp, ha => by
    have : k = N := by assumption
    subst this
    exact h p hp ha
  | f + 1, p, k, hk, hp, ha => by
    refine Hold.bind (place_ok (by exact o252 hk) hp ha k 0 k (by exact o338) (by exact o339) (Nat.le_refl _) (fun i hi => by exact (o188 hi).elim) (fun i a b => by exact (o340 b a).elim) fun l hl h1 h2 => ?_)
    have hr := hp.rest k (Nat.le_refl _) (by exact o252 hk)
    have hg : ∀ m, G (bubble p k (k - l)) m = if m = l then k else if l < m ∧ m ≤ k then G p (m - 1) else G p m := fun m => by
      rw [G_bubble (by rw [hp.size]; exact o252 hk) (by exact o274), hr]
      have e : k - (k - l) = l := by exact o341 hl
      rw [e]
    refine bin_ok h f _ (k + 1) (by exact o257 hk) ⟨by rw [bubble_size]; exact hp.size, (Array.perm_iff_toList_perm.mp (bubble_perm p k (k - l))).trans hp.perm, fun i a b => ?_, fun i hi => ?_⟩ fun i j hij hj => ?_
    · rw [hg, if_neg (by exact o342 a hl), if_neg (by exact o343 a)]; exact hp.rest i (by exact o18 a) b
    · rw [hg]
      split
      · exact o175
      · split
        · have := hp.small (i - 1) (by exact o344 (by assumption)); exact o172 this
        · have := hp.small i (by exact o345 hi (by assumption) (by assumption) hl); exact o172 this
    · rw [hg i, hg j]
      by_cases ei : i = l
      · rw [if_pos ei, if_neg (by exact o346 hij ei), if_pos (by exact o347 hj hij ei)]
        exact .inl (h2 (j - 1) (by exact o348 hij ei) (by exact o349 hj hij))
      · rw [if_neg ei]
        by_cases ej : j = l
        · rw [if_pos ej, if_neg (by exact o350 hij ej)]
          have z1 := h1 i (by exact o122 hij ej)
          have z2 := hp.small i (by exact o351 hij ej hl)
          by_cases z : key (G p i) < key k
          · exact .inl z
          · exact .inr ⟨by exact o352 z z1, z2⟩
        · rw [if_neg ej]
          by_cases c1 : l < i ∧ i ≤ k
          · rw [if_pos c1, if_pos (by exact o353 c1.1 hj hij)]
            exact ha _ _ (by exact o354 hij c1.1) (by exact o349 hj hij)
          · rw [if_neg c1]
            by_cases c2 : l < j ∧ j ≤ k
            · rw [if_pos c2]
              by_cases z : i = j - 1
              · exact (o355 z ei c1 c2).elim
              · exact ha _ _ (by exact o259 hij z) (by exact o349 hj hij)
            · rw [if_neg c2]
              exact ha _ _ hij (by exact o345 hj ej c2 hl)
theorem sort_ok {Q : Array Nat → Prop} (h1 : 1 ≤ N) (h : ∀ p, Pre N N p → Asc key p N → Q p) : Hold (ltK key) N Q (kas_sort N) := by
  refine Hold.bind (count_ok h1 fun m p hm h1 hp ha => ?_)
  show Hold _ _ _ (if m < N then kas_bin (N - max m 1) p (max m 1) else .ret p)
  have e : max m 1 = m := by exact o356 h1
  rw [e]
  by_cases c : m < N
  · rw [if_pos c]
    exact bin_ok h (N - m) p m (by exact o357 c) hp ha
  · rw [if_neg c]
    have : m = N := by exact o358 c hm
    subst this
    exact h p hp ha
end
end

section
set_option Elab.async false
set_option maxRecDepth 100000
set_option maxHeartbeats 8000000
theorem rev_no {α : Type} (l : List α) : katRev false l = l := by unfold katRev; rw [if_neg Bool.false_ne_true]
theorem pw_of_asc {key : Nat → Int} {N : Nat} {p : Array Nat} (hp : Pre N N p) (ha : Asc key p N) : p.toList.Pairwise (lx key) := by
  rw [List.pairwise_iff_getElem]
  intro i j hi hj hij
  have hi' : i < p.size := by simpa using hi
  have hj' : j < p.size := by simpa using hj
  have h := ha i j hij (by rw [← hp.size]; exact hj')
  have e : ∀ k (hk : k < p.size), G p k = p[k] := fun k hk => by unfold G; simp [Array.getD, hk]
  rw [e i hi', e j hj'] at h
  simpa using h
section
variable {w : World} {A : Around} {E : Value → Shared → Prop} {s : Shared} {L : Addr} {h₀ : Heap} {m : Str → Option Value} {D X : Led} {R : Result → Shared → Prop} {Q : Value → Shared → Prop}
theorem hold_wp {α : Type} {key : Nat → Int} {N : Nat} {ks : List Value} {Gd : α → Shared → Prop} (hks : ∀ i, i < N → ∃ t, ks.getD i .none = .int (key i) t) : ∀ (t : KasT α), Hold (ltK key) N (fun a => Gd a s) t → t.kasWp (kas_ask PG w A oneType' ks) Gd s
  | .ret _, h => h
  | .ask i j k, ⟨hi, hj, h⟩ => by
    obtain ⟨t, ht⟩ := hks i hi
    obtain ⟨u, hu⟩ := hks j hj
    show kas_ask PG w A oneType' ks i j _ s
    unfold kas_ask
    rw [ht, hu]
    exact kat_lt_int (hold_wp hks (k _) h)
/-- sorted by an own function's ints: exact, equal ones as they stood -/
theorem sorted_key {l q : Addr} {vs : List Value} {n : Nat} (key : Nat → Int) (F : Fr h₀ L s.heap m) (N : News h₀ L s.heap D) (hm : (l, listOf vs.toArray n) ∈ D) (h64 : vs.length < 64)
    (turn : ∀ i v, vs[i]? = some v → ∀ (own : Led) h tk, Fr h₀ L h m → News h₀ L h (own ++ D) →
      wpAny (model PG w) A.in1.in1 (call (.ref q) [v]) (KskEnd h₀ L m (own ++ D) (key i) { s with heap := h, toks := tk }) (fun _ _ => False) { s with heap := h, toks := tk })
    (h : ∀ B h' tk c (p : List Nat), Fr h₀ L h' m → News h₀ L h' ((B, listOf (p.map fun i => vs.getD i .none).toArray c) :: D) → (∀ r ∈ D, r.1 < B) → p.Perm (List.range vs.length) → p.Pairwise (lx key) → Q (.ref B) { s with heap := h', toks := tk }) :
    wpAny (model PG w) A (call (.builtin "sorted") [.ref l] [(Str.ofString "key", .ref q)]) Q E s := by
  have hl : s.heap.IsList l vs.toArray := ⟨_, (N _ hm).1, rfl, n, rfl⟩
  by_cases h2 : 2 ≤ vs.length
  · refine kat_sortedK (b := false) F N hl h2 h64 (ksk_s1 _ _) (fun _ => ksk_l1 _ _) (fun x => ksk_t1 q x) fun B kS e1 h' F' N' lB lN => ?_
    have walk : ∀ (r ks : List Value) (e : Nat) (h' : Heap) (tk : Nat), ks.length + r.length = vs.length → vs.drop ks.length = r → (∀ i, i < ks.length → ∃ t, ks.getD i .none = .int (key i) t) → Fr h₀ L h' m → News h₀ L h' ((kS, seqObj "list" (List.toArray ks) e) :: (B, seqObj "list" #[] e1) :: D) →
        KatKeys PG w A.in1.in1 h₀ L m kS (.ref q) (fun ks e s' => wpAny (model PG w) A.in1.in1 (keyKind' (List.toArray ks)) (fun κ s'' => (kas_sort vs.length).kasWp (kas_ask PG w A.in1.in1 κ (katRev false ks)) (fun p s3 => KatFin h₀ L m kS B ks e e1 (katRev false (p.toList.map fun i => (katRev false vs).getD i Value.none)) (fun s4 => Q (.ref B) s4) s3) s'') (fun _ _ => False) s') r ks e { s with heap := h', toks := tk } := by
      intro r
      induction r with
      | nil =>
        intro ks e h' tk hlen _ hks F' N'
        have hkl : ks.length = vs.length := by simpa using hlen
        refine KatKeys.nil ?_
        have hI : IntsAre (List.toArray ks).toList ((List.range ks.length).map key) := by
          rw [List.toList_toArray]
          clear hkl hlen N' F'
          have gen : ∀ (ks : List Value) (o : Nat), (∀ i, i < ks.length → ∃ t, ks.getD i .none = .int (key (o + i)) t) → IntsAre ks ((List.range' o ks.length).map key) := by
            intro ks
            induction ks with
            | nil => intro o _; exact .nil
            | cons v r ih =>
              intro o hv
              obtain ⟨t, ht⟩ := hv 0 (by simp)
              have h0 : v = .int (key o) t := by simpa using ht
              rw [h0, List.length_cons, List.range'_succ, List.map_cons]
              refine .cons _ _ (ih (o + 1) fun i hi => ?_)
              obtain ⟨u, hu⟩ := hv (i + 1) (by simp; assumption)
              refine ⟨u, ?_⟩
              rw [show o + 1 + i = o + (i + 1) by exact o45]
              simpa using hu
          have := gen ks 0 (fun i hi => by rw [Nat.zero_add]; exact hks i hi)
          rwa [← List.range_eq_range'] at this
        rw [ksk_kind hI (by rw [List.size_toArray]; exact o359 hkl h2)]
        refine wpAny_pure ?_
        rw [rev_no]
        refine hold_wp (N := vs.length) (fun i hi => hks i (by exact o73 hi hkl)) _ (sort_ok (by exact o360 h2) fun p hp ha => ?_)
        rw [rev_no, rev_no]
        have offk : ∀ r ∈ (B, seqObj "list" #[] e1) :: D, r.1 ≠ kS := fun r hr => by
          rcases List.mem_cons.mp hr with rfl | hr
          · exact Nat.ne_of_lt lB
          · exact Nat.ne_of_lt (Nat.lt_trans (lN r hr) lB)
        refine KatFin.intro F' N' (.head offk) fun h3 c F3 N3 => ?_
        refine KasFin.intro F3 (News.sub N3 fun r hr => .tail _ hr) (.head fun r hr => Nat.ne_of_lt (lN r hr)) fun h4 c4 F4 N4 => ?_
        exact h B h4 _ c4 p.toList F4 N4 lN hp.perm (pw_of_asc hp ha)
      | cons v r ih =>
        intro ks e h' tk hlen hdrop hks F' N'
        have hv : vs[ks.length]? = some v := by
          have := congrArg (fun l => l[0]?) hdrop
          simpa using this
        refine KatKeys.cons (wpAny_mono (turn ks.length v hv [(kS, seqObj "list" (List.toArray ks) e), (B, seqObj "list" #[] e1)] h' tk F' N') (fun k s'' hk => ?_) fun _ _ x => x)
        · obtain ⟨h5, tk5, t5, rfl, rfl, F5, N5⟩ := hk
          have offk : ∀ r ∈ (B, seqObj "list" #[] e1) :: D, r.1 ≠ kS := fun r hr => by
            rcases List.mem_cons.mp hr with rfl | hr
            · exact Nat.ne_of_lt lB
            · exact Nat.ne_of_lt (Nat.lt_trans (lN r hr) lB)
          refine KatBack.intro F5 N5 (.head offk) fun h6 c F6 N6 => ?_
          refine ih (ks ++ [.int (key ks.length) t5]) c h6 tk5 (by simp at hlen ⊢; exact o257 hlen) ?_ (fun i hi => ?_) F6 N6
          · rw [List.length_append, List.length_singleton, ← List.drop_drop, hdrop]; rfl
          · by_cases e : i < ks.length
            · obtain ⟨t, ht⟩ := hks i e
              refine ⟨t, ?_⟩
              rw [← ht, List.getD_eq_getElem?_getD, List.getD_eq_getElem?_getD, List.getElem?_append_left e]
            · have : i = ks.length := by simp at hi; exact o361 hi e
              subst this
              exact ⟨t5, by simp⟩
    exact walk vs [] 0 h' s.toks (by simp) rfl (fun i hi => by simp at hi) F' N'
  · refine ksk_sorted (b := false) (kz := (List.range vs.length).map key) F N hl (by simp) h64 (ksk_s1 _ _) (fun _ => ksk_l1 _ _) (fun x => ksk_t1 q x) (fun i v k hv hk h' tk own F' N' => ?_) fun B h' tk out c F' N' lB hout => ?_
    · have hi := (List.getElem?_eq_some_iff.mp hv).1
      have ek : k = key i := by
        rw [List.getElem?_map, List.getElem?_range hi] at hk
        exact (Option.some.inj hk).symm
      subst ek
      refine wpAny_mono (turn i v hv own h' tk F' (fun p hp => N' p (List.mem_append.mpr (List.mem_append.mp hp).symm))) (fun v' s' hk => ?_) fun _ _ x => x
      obtain ⟨h5, tk5, t5, e1, e2, F5, N5⟩ := hk
      exact ⟨h5, tk5, t5, e1, e2, F5, fun p hp => N5 p (List.mem_append.mpr (List.mem_append.mp hp).symm)⟩
    · obtain ⟨ps, hp, ho, _⟩ := hout
      have hB : ∀ p : List Nat, out.toList = p.map (fun i => vs.getD i .none) → News h₀ L h' ((B, listOf (p.map fun i => vs.getD i .none).toArray c) :: D) := fun p e => by
        rw [← e, Array.toArray_toList]; exact N'
      match vs, h2, hp with
      | [], _, hp =>
        have : ps = [] := List.Perm.eq_nil hp
        subst this
        exact h B h' tk c [] F' (hB [] ho) lB (List.Perm.refl _) .nil
      | [v], _, hp =>
        have : ps = [(key 0, v)] := List.perm_singleton.mp hp
        subst this
        exact h B h' tk c [0] F' (hB [0] ho) lB (List.Perm.refl _) (List.pairwise_singleton _ _)
      | _ :: _ :: _, h2, _ => exact absurd (by simp) h2
end
end

section
set_option Elab.async false
set_option maxRecDepth 100000
set_option maxHeartbeats 8000000
theorem ints_of {X : Led} : ∀ {ns : List Int} {vs : List Value}, DatAll X vs (dI ns) → IntsAre vs ns
  | [], _, h => by cases h; exact .nil
  | _ :: _, _, h => by
    cases h with
    | cons h1 h2 => obtain ⟨t, rfl⟩ := dat_int h1; exact .cons _ _ (ints_of h2)
theorem ints_ofN {X : Led} {vs : List Value} {ns : List Nat} (h : DatAll X vs (dN ns)) : IntsAre vs (ns.map fun n : Nat => (n : Int)) := by
  refine ints_of (X := X) ?_
  show DatAll X vs ((ns.map fun n : Nat => (n : Int)).map Dat.int)
  rw [List.map_map]; exact h
theorem idx_cast (ns : List Nat) (k : Nat) : (ns.map fun n : Nat => (n : Int)).idxOf (k : Int) = ns.idxOf k := by
  induction ns with
  | nil => rfl
  | cons a r ih =>
    rw [List.map_cons, List.idxOf_cons, List.idxOf_cons, ih]
    by_cases h : a = k
    · subst h; simp
    · have h1 : (a == k) = false := by simpa using h
      have h2 : ((a : Int) == (k : Int)) = false := by simp; exact o229 h
      rw [h1, h2]
/-- the greatest of the places, or -1 -/
noncomputable def keyN (rows : List (List Nat)) (came : List Nat) (p : Nat) : Int := ((rows.getD p []).map fun q => (came.idxOf q : Int)).foldl max (-1)
theorem foldl_max_le : ∀ (l : List Int) (a : Int), a ≤ l.foldl max a ∧ ∀ x ∈ l, x ≤ l.foldl max a
  | [], a => ⟨Int.le_refl _, fun _ h => nomatch h⟩
  | y :: l, a => by
    obtain ⟨h1, h2⟩ := foldl_max_le l (max a y)
    rw [List.foldl_cons]
    refine ⟨by exact o230 h1, fun x hx => ?_⟩
    rcases List.mem_cons.mp hx with rfl | hx
    · exact o231 h1
    · exact h2 x hx
theorem foldl_max_mem : ∀ (l : List Int) (a : Int), l.foldl max a ∈ a :: l
  | [], a => .head _
  | y :: l, a => by
    rw [List.foldl_cons]
    have h := foldl_max_mem l (max a y)
    rcases List.mem_cons.mp h with h | h
    · rw [h]
      by_cases c : a ≤ y
      · rw [Int.max_eq_right c]; exact .tail _ (.head _)
      · rw [Int.max_eq_left (by exact o232 c)]; exact .head _
    · exact .tail _ (.tail _ h)
theorem keyN_is {rows : List (List Nat)} {came : List Nat} {p : Nat} {M : Int} (h1 : M ∈ (-1) :: (rows.getD p []).map fun q => (came.idxOf q : Int)) (h2 : ∀ a ∈ (-1) :: (rows.getD p []).map (fun q => (came.idxOf q : Int)), a ≤ M) : M = keyN rows came p := by
  obtain ⟨m1, m2⟩ := foldl_max_le ((rows.getD p []).map fun q => (came.idxOf q : Int)) (-1)
  have m3 := h2 _ (foldl_max_mem ((rows.getD p []).map fun q => (came.idxOf q : Int)) (-1))
  have m4 : M ≤ keyN rows came p := by
    rcases List.mem_cons.mp h1 with h | h
    · rw [h]; exact m1
    · exact m2 M h
  exact Int.le_antisymm m4 m3
noncomputable def freeN (rows : List (List Nat)) (came left : List Nat) : List Nat := left.filter fun p => (rows.getD p []).all fun q => decide (q ∈ came)
theorem dat_pick {vs : List Value} {ns : List Nat} (h : DatAll [] vs (dN ns)) : ∀ (pp : List Nat), (∀ i ∈ pp, i < ns.length) → DatAll [] (pp.map fun i => vs.getD i .none) (dN (pp.map fun i => ns.getD i 0))
  | [], _ => .nil
  | i :: pp, hp => by
    refine .cons ?_ (dat_pick h pp fun j hj => hp j (.tail _ hj))
    have hi := hp i (.head _)
    obtain ⟨v, hv, hD⟩ := h.get (show i < (dN ns).length by rw [List.length_map]; exact hi)
    rw [List.getElem_map] at hD
    show DatIn [] (vs.getD i .none) (.int ((ns.getD i 0 : Nat) : Int))
    rw [List.getD_eq_getElem?_getD, hv, List.getD_eq_getElem?_getD, List.getElem?_eq_getElem hi]
    exact hD
theorem free_step {rows : List (List Nat)} {came l : List Nat} {p : Nat} : freeN rows came (l ++ [p]) = freeN rows came l ++ (if (rows.getD p []).filter (fun q => !decide (q ∈ came)) = [] then [p] else []) := by
  unfold freeN
  rw [List.filter_append]
  congr 1
  by_cases h : (rows.getD p []).filter (fun q => !decide (q ∈ came)) = []
  · rw [if_pos h, List.filter_cons_of_pos, List.filter_nil]
    rw [List.all_eq_true]
    intro q hq
    have := List.filter_eq_nil_iff.mp h q hq
    simpa using this
  · rw [if_neg h, List.filter_cons_of_neg, List.filter_nil]
    intro hc
    rw [List.all_eq_true] at hc
    refine h (List.filter_eq_nil_iff.mpr fun q hq => ?_)
    have := hc q hq
    simpa using this
section
variable {w : World} {A : Around} {E : Value → Shared → Prop} {s : Shared} {L : Addr} {h₀ : Heap} {m : Str → Option Value} {D X : Led} {R : Result → Shared → Prop} {Q : Value → Shared → Prop}
theorem eq_nil {a b : Addr} {vs : List Value} {n n2 : Nat} (N : News h₀ L s.heap D) (ha : (a, listOf vs.toArray n) ∈ D) (hb : (b, listOf ([] : List Value).toArray n2) ∈ D) (hu : A.units < cLine) (h : Q (.bool vs.isEmpty) s) : wpAny (model PG w) A (compareOp .Eq (.ref a) (.ref b)) Q E s := by
  cases vs with
  | nil => exact PySem.P.eq_list (items := ([] : List Value).toArray) (items2 := ([] : List Value).toArray) (e := fun _ => true) (N _ ha).1 (N _ hb).1 rfl (fun j h1 _ => absurd h1 (by simp)) hu h
  | cons v r => exact PySem.P.eq_list_lengths (items := (v :: r).toArray) (items2 := ([] : List Value).toArray) (N _ ha).1 (N _ hb).1 (by simp) hu h
theorem index_n {a : Addr} {vs : List Value} {n : Nat} {ns : List Nat} {k : Nat} {t : Tok} {Y : Led} (N : News h₀ L s.heap D) (ha : (a, listOf vs.toArray n) ∈ D) (hd : DatAll Y vs (dN ns)) (hk : k ∈ ns) (hz : ns.length ≤ 1000)
    (h : ∀ t tk, Q (.int (ns.idxOf k : Nat) t) { s with toks := tk }) : wpAny (model PG w) A (call (.builtin "list.index") [.ref a, .int (k : Nat) t]) Q E s := by
  have hi := ints_ofN hd
  have hlen := hi.length
  have hkm : (k : Int) ∈ ns.map fun n : Nat => (n : Int) := List.mem_map.mpr ⟨k, hk, rfl⟩
  have hj : (ns.map fun n : Nat => (n : Int)).idxOf (k : Int) < (ns.map fun n : Nat => (n : Int)).length := List.idxOf_lt_length_iff.mpr hkm
  have ho := (N _ ha).1
  have hh := h s.toks (s.toks + 1)
  rw [← idx_cast] at hh
  refine call_meets PySem.F.slot_list_index ⟨_, ho, rfl⟩ PySem.F.entry_list_index (PySem.F.args_list_index_2 _ _)
    (PySem.SeqAt.list_indexAt a vs.toArray n none #[] (.int (k : Nat) t) (isInt k) ((ns.map fun n : Nat => (n : Int)).idxOf (k : Int)) (by simpa [hlen] using hj) (by rw [List.length_map] at hj; omega) ?_ ?_) ⟨ho, fun y hy => (eq_isInt k t hi y (by simpa using hy)).at _ _, hh⟩
  · have : ∀ (i : Nat) (h1 : i < vs.length), i = (ns.map fun n : Nat => (n : Int)).idxOf (k : Int) → isInt k vs[i] = true := fun i h1 e => by
      subst e
      rw [isInt_at k hi _ (by assumption) hj]
      simpa using List.getElem_idxOf hj
    exact this _ (by exact o73 hj hlen) rfl
  · intro j hjs hlt
    show isInt k vs[j] = false
    rw [isInt_at k hi j (by simpa using hjs) (by exact o233 hlt hj)]
    exact ne_of_lt_idxOf hlt _
theorem max_n {a : Addr} {vs : List Value} {n : Nat} {ns : List Int} {Y : Led} (hh : A.handled = none) (F : Fr h₀ L s.heap m) (N : News h₀ L s.heap D) (ha : (a, listOf vs.toArray n) ∈ D) (hd : DatAll Y vs (dI ns)) (hne : 0 < ns.length)
    (h : ∀ h' M (t : Tok) tk, Fr h₀ L h' m → News h₀ L h' D → M ∈ ns → (∀ a ∈ ns, a ≤ M) → Q (.int M t) { s with heap := h', toks := tk }) : wpAny (model PG w) A (call (.builtin "max") [.ref a]) Q E s :=
  max_list_N hh F N ⟨_, (N _ ha).1, rfl, n, rfl⟩ (ints_of hd) hne h
theorem notin_n {a : Addr} {vs : List Value} {n : Nat} {ns : List Nat} {k : Nat} {t : Tok} {Y : Led} (N : News h₀ L s.heap D) (ha : (a, listOf vs.toArray n) ∈ D) (hd : DatAll Y vs (dN ns)) (hu : A.units + 64 < cLine) (b : Bool) (hb : (!decide (k ∈ ns)) = b) (h : Q (.bool b) s) :
    wpAny (model PG w) A (compareOp .NotIn (.int (k : Nat) t) (.ref a)) Q E s := by
  refine kqd_notIn (n₂ := []) N ha rfl rfl (ints_free (Y := []) hd) (fun _ h => nomatch h) (.int _ _) (fun _ h => nomatch h) (fun d hd => ?_) rfl hu ?_
  · obtain ⟨x, _, rfl⟩ := List.mem_map.mp hd; rfl
  · have e : ∀ i : Decidable (Dat.int (k : Int) ∈ dN ns), @decide _ i = decide (k ∈ ns) := fun i => by
      by_cases c : k ∈ ns
      · rw [decide_eq_true c]; exact @decide_eq_true _ i (mem_dN.mpr c)
      · rw [decide_eq_false c]; exact @decide_eq_false _ i fun q => c (mem_dN.mp q)
    rw [e, hb]; exact h
end
end

section
set_option Elab.async false
set_option maxRecDepth 100000
set_option maxHeartbeats 8000000
section
variable {w : World} {A : Around} {E : Value → Shared → Prop} {s : Shared} {L : Addr} {h₀ : Heap} {m : Str → Option Value} {D X : Led} {R : Result → Shared → Prop} {Q : Value → Shared → Prop}
theorem enterL {R : Result → Shared → Prop} {name qual : Str} {params : Arguments} {body : PySem.Expr} {scope : Scope} {cl : List (Str × Addr)} {pm ctv : Value} {c' f : Addr} {args : Args} {binds : List (Str × Value)} {ents : List (Str × Option Value)}
    (C : Cx w A h₀ L) (F : Fr h₀ L s.heap m) (N : News h₀ L s.heap D)
    (ho : (f, kla_obj name qual params body scope cl pm c' ctv) ∈ D) (hcd : s.heap.CodeRec (.ref c') qual) (hroom : A.depth < recursionLimit)
    (hbind : bindArgs (kla_fn name qual params body scope cl pm (.ref c') ctv) args = pure binds) (hents : (binds.reverse.map fun p => (p.1, some p.2)) = ents) (hloc : ∀ y ∈ binds, scope.names.lookup y.1 = some .local)
    (h : ∀ g L' h₁ hm mg mb tk DL, (∀ p ∈ D, p ∈ DL) → Fr h₀ L g m → Fr g L' h₁ (upds emp ents) → News g L' h₁ DL → Cx w (A.deeper (envX qual scope L' f (.ref c') cl)) g L' → (heapK w.params).In g → TopAt hm mg mb g →
      wpAny (model PG w) (A.deeper (envX qual scope L' f (.ref c') cl)) (eval body (envX qual scope L' f (.ref c') cl))
        (fun v s' => LeaveK h₀ L m g R v s')
        (fun e s' => wpAny (model PG w) (A.deeper (envX qual scope L' f (.ref c') cl)) (leaving (envX qual scope L' f (.ref c') cl) e) (fun _ s'' => R (.error e) s'') (fun e' s'' => R (.error e') s'') s')
        { s with heap := h₁, toks := tk })
    (hco : scope.isCoroutine = false) (hgen : scope.isGenerator = false) (hk : scope.kind = .function)
    (hcell : ∀ x ∈ scope.names, x.2 ≠ .cell) : codeAny (model PG w) A (.call (.ref f) args) R s := by
  obtain ⟨A₀, base, outer, env, hm, mg, mb, B, hA, hf, hke, T, XB, TB, Dd⟩ := C.ex
  refine kla_code B F C.X N T hA hf hke ho hcd hroom hbind hloc (fun g L' h₁ FG F' N' B' X' T' => ?_) hco hgen hk hcell
  rw [lookup_upds, hents] at F'
  refine h g L' h₁ hm mg mb _ D (fun _ h => h) FG F' N' ⟨⟨A, base, env :: outer, envX qual scope L' f (.ref c') cl, hm, mg, mb, B', ?_, rfl, hk, T', XB, TB, dicts_push FG hf Dd⟩, X', C.hh⟩ X' T'
  show A.frames.map _ = _
  rw [hA]; rfl
end
end

section
set_option Elab.async false
set_option maxRecDepth 100000
set_option maxHeartbeats 8000000
open LCg (NsObj ns_obj lst)
/-- l is what is free of left, by its greatest place in came, as it stood -/
noncomputable def IsReady (rows : List (List Nat)) (came left l : List Nat) : Prop :=
  X1 fun (p : List Nat) => A3 (p.Perm (List.range (freeN rows came left).length)) (p.Pairwise (lx fun i => keyN rows came ((freeN rows came left).getD i 0))) (l = p.map fun i => (freeN rows came left).getD i 0)
/-- the code table of _law_ready: empty, or with the lambda's code -/
noncomputable def Tab (τ : Led) : Prop := τ = [(169, tabObj #[])] ∨ ∃ c' oc vs t, τ = [(169, tabObj #[rawInt 155, rawInt 28, .ref c']), (c', oc)] ∧ oc.data = .fields vs ∧ vs[1]? = some (.str (Str.ofString "_law_ready.<locals>.<lambda>") t)
section
variable {w : World} {A : Around} {E : Value → Shared → Prop} {s : Shared} {L : Addr} {h₀ : Heap} {m : Str → Option Value} {D X : Led} {R : Result → Shared → Prop} {Q : Value → Shared → Prop}

local macro_rules | `(tactic| walk_at "eval ListComp") => `(tactic| (k_here; refine stop_intro ?_))
local macro_rules | `(tactic| walk_at "compareOp NotIn int ref") => `(tactic| (k_here; k_dflt (refine notin_n (by k_asm) (by k_mem) (by assumption) (by first | assumption | (simp only [units_deeper, units_in1]; omega)) _ (by assumption) ?_)))
local macro_rules | `(tactic| walk_at "compareOp Eq ref ref") => `(tactic| (k_here; k_dflt (refine eq_nil (by k_asm) (by k_mem) (by k_mem) (by first | assumption | (simp only [units_deeper, units_in1]; omega)) ?_)))
local macro_rules | `(tactic| walk_at "eval Lambda") => `(tactic| (k_here; refine stop_intro ?_))
local macro_rules | `(tactic| walk_at "call builtin:sorted") => `(tactic| (k_here; refine stop_intro ?_))
local macro_rules | `(tactic| walk_at "getMethod ref") => `(tactic| (k_here; (with_reducible show wpAny _ _ (getMethod (Value.ref _) (Str.ofString "index") _) _ _ _); k_dflt (refine kl_method (by k_asm) (by k_mem) PySem.F.slot_list_index PySem.F.type_list_index ?_)))
local macro_rules | `(tactic| walk_at "call builtin:list.index") => `(tactic| (k_here; k_dflt (refine index_n (by k_asm) (by k_mem) (by assumption) (by assumption) (by omega) ?_); intro t' tk'))
local macro_rules | `(tactic| walk_at "binaryOp Add ref ref") => `(tactic| (k_here; k_dflt (refine add_raw (by k_asm) (by k_asm) (by k_mem) (by k_mem) (by omega) ?_); intro q' h' F' N' lq'))
local macro_rules | `(tactic| walk_at "call builtin:max") => `(tactic| (k_here; refine stop_intro ?_))
local macro_rules | `(tactic| walk_at "eval Name") => `(tactic| (k_here; (with_reducible show wpAny _ _ (eval _ (cEnv _ _ _ _)) _ _ _); k_dflt (refine comp_free (by k_asm) (by exact rfl) (by k_mem) (by assumption) ?_ rfl rfl (by decide) (by decide); k_whole)))
theorem ready_spec {rows : List (List Nat)} {came left : List Nat} {ar ac al : Addr} {τ : Led} (C : Cx w A h₀ L) (F : Fr h₀ L s.heap m) (N : News h₀ L s.heap (τ ++ D)) (hτ : Tab τ) (HC : CodeHd h₀ 171 169) (hoff : ∀ p ∈ D, p.1 ≠ 169) (hr : LD X ar (dNL rows)) (hc : LD X ac (dN came)) (hl : LD X al (dN left)) (hs : ∀ p ∈ X, p ∈ D)
    (hlr : ∀ p ∈ left, p < rows.length) (hz1 : rows.length ≤ 6) (hz2 : ∀ r ∈ rows, r.length ≤ 100) (hz3 : left.length ≤ 6) (hz4 : came.length ≤ 100) (hroom : A.depth + 60 < recursionLimit) (hu : A.units + 100 < cLine)
    (k : ∀ h' tk a vs n l τ', Fr h₀ L h' m → News h₀ L h' ((a, listOf vs.toArray n) :: (τ' ++ D)) → (∀ p ∈ τ' ++ D, p.1 < a) → Tab τ' → (Keys (τ ++ D) → Keys (τ' ++ D)) → DatAll [] vs (dN l) → IsReady rows came left l → R (.ok (.ret (.ref a))) { s with heap := h', toks := tk }) :
    codeAny (model PG w) A (.call (.ref 172) ⟨[.ref ar, .ref ac, .ref al], []⟩) R s := by
  have X₀ := C.X; have hPG : PG = Challenge.rw_dm0132_06.row.prog := rfl; revert hPG X₀; k_fill; intro X₀ hPG; clear hPG
  refine' enterC (ents := [(Str.ofString "left", some (.ref al))]) C F N ?k6 ?k7 ?kr ?k9 ?kB ?kD ?ke ?_ ?c2 ?c3 ?c4
  case k6 => k_is
  case k7 => k_is
  case kr => exact o226 hroom
  case k9 => exact BindsTo.of_eq rfl
  case kB => exact rfl
  case kD => decide +kernel
  case ke => exact fun _ => rfl
  case c2 => exact rfl
  case c3 => exact rfl
  case c4 => exact rfl
  intro g' L' h' hm mg mb tk' cells' FG' F' N' Y' l1 C' X' T'
  obtain ⟨oB, oA, hE, d1, d2⟩ := CellsAre.two Y'
  subst hE
  replace d1 : oB.data = .cell (some (.ref ac)) := d1
  replace d2 : oA.data = .cell (some (.ref ar)) := d2
  (try simp only [List.cons_append, List.nil_append] at N')
  clear Y' F N C X₀
  have hu1 : A.units + 64 < cLine := by exact o234 hu
  (try k_unmd); (try k_fold)
  k_steps
  unfold Stopped
  refine assign_comp (cl := [(Str.ofString "rows", L' + 1), (Str.ofString "came", L' + 1 + 1)]) rfl (fun _ => rfl) rfl rfl (by decide) rfl ?_
  intro Qn1 qn1
  k_steps
  obtain ⟨cv, cn, hcm, hcd⟩ := id hc
  have hsub : ∀ p ∈ X, p ∈ (L' + 1 + 1, oB) :: (L' + 1, oA) :: (τ ++ D) := fun p hp => .tail _ (.tail _ (List.mem_append_right _ (hs p hp)))
  refine comp_ld (fun _ _ _ => turn1 _ _ _ _ _ _ _ _ _ _) C'.hh F' N' hl hsub
    (fun j mC ys D' => A3 (D' = (L' + 1 + 1, oB) :: (L' + 1, oA) :: (τ ++ D)) (DatAll [] ys (dN (freeN rows came (left.take j)))) (∃ u, mC = upds emp [(Str.ofString "place", u)]))
    (fun j mC ys D' hK p hp => by obtain ⟨rfl, _⟩ := hK; exact hsub p hp) ⟨rfl, .nil, none, by walk_at "maps"⟩ ?_ ?_ (by decide) rfl rfl
  · rintro I oi acc C1 ltI j v oC mC ys n' _ h tk hj hv ⟨rfl, hys, u, rfl⟩ F N hC off hIa haC
    rw [List.getElem_map] at hv
    have hj' : j < left.length := by simpa using hj
    generalize hpj : left[j] = p at hv
    obtain ⟨tv, rfl⟩ := dat_int hv
    have hp : p < rows.length := hlr p (hpj ▸ List.getElem_mem hj')
    have htk : left.take (j + 1) = left.take j ++ [p] := by rw [List.take_add_one, List.getElem?_eq_getElem hj', hpj]; rfl
    refine wpAny_tests_one ?_
    (try k_unmd); k_fold
    k_steps
    unfold Stopped
    refine eval_comp (cl := [(Str.ofString "came", L' + 1 + 1)]) (fun _ => rfl) rfl rfl (by decide) rfl ?_
    intro Qn2 qn2
    k_steps
    rename_i b hb
    unfold Stopped
    generalize hrow : rows.getD p [] = row at hb
    have hrl : row.length ≤ 100 := by
      rw [← hrow]; exact hz2 _ (getD_mem hp)
    have hcm2 : (ac, listOf cv.toArray cn) ∈ τ ++ D := List.mem_append_right _ (hs _ hcm)
    refine comp_ld (fun _ _ _ => turn1 _ _ _ _ _ _ _ _ _ _) C'.hh F N hb (fun q hq => .tail _ (.tail _ (.tail _ (hsub q hq))))
      (fun l mC2 ys2 D2 => A3 (D2 = (I, oi) :: (C1, oC) :: (acc, listOf ys.toArray n') :: (L' + 1 + 1, oB) :: (L' + 1, oA) :: (τ ++ D)) (DatAll [] ys2 (dN ((row.take l).filter fun q => !decide (q ∈ came)))) (∃ u, mC2 = upds emp [(Str.ofString "near", u)]))
      (fun l mC2 ys2 D2 hK q hq => by obtain ⟨rfl, _⟩ := hK; exact .tail _ (.tail _ (.tail _ (hsub q hq)))) ⟨rfl, .nil, none, by walk_at "maps"⟩ ?_ ?_ (by decide) rfl rfl
    · rintro I2 oi2 acc2 C2 ltI2 l v2 oC2 mC2 ys2 n2 _ h2 tk2 hl2 hv2 ⟨rfl, hys2, u2, rfl⟩ F2 N2 hC2 off2 hIa2 haC2
      rw [List.getElem_map] at hv2
      have hl2' : l < row.length := by simpa using hl2
      generalize hql : row[l] = q at hv2
      obtain ⟨tq, rfl⟩ := dat_int hv2
      have htl : row.take (l + 1) = row.take l ++ [q] := by rw [List.take_add_one, List.getElem?_eq_getElem hl2', hql]; rfl
      refine wpAny_tests_one ?_
      cases hqb : (!decide (q ∈ came))
      · (try k_unmd); k_fold
        k_steps
        refine ⟨_, _, _, _, _, _, _, rfl, F2, N2, hC2, off2, rfl, ?_, _, by walk_at "maps"⟩
        rw [htl, List.filter_append, List.filter_cons_of_neg (by rw [hqb]; exact Bool.false_ne_true), List.filter_nil, List.append_nil]
        exact hys2
      · (try k_unmd); k_fold
        k_steps
        refine emit_next (ys := ys2) (n := n2) hC2 off2 (Nat.ne_of_lt hIa2) (Nat.ne_of_lt haC2) ?_
        k_steps
        refine EltEnd.mk [] F2 N2 (fun _ h => nomatch h) ?_ ⟨rfl, ?_, _, by walk_at "maps"⟩
        · have h1 := hys2.length
          rw [List.length_map] at h1
          have h3 := List.length_filter_le (fun q => !decide (q ∈ came)) (row.take l)
          rw [List.length_take] at h3
          rw [sizeLine_eq]; exact o235 h1 h3 hrl
        · rw [htl, List.filter_append, List.filter_cons_of_pos (p := fun q => !decide (q ∈ came)) hqb, List.filter_nil]
          unfold dN
          rw [List.map_append]
          exact hys2.append (.one (.int _ _))
    · rintro acc2 C2 lacc2 oC2 mC2 ys2 n2 _ h2 tk2 ⟨rfl, hys2, u2, rfl⟩ F2 N2 hC2 off21 off22
      rw [show (dN row).length = row.length from List.length_map _, List.take_of_length_le (Nat.le_refl _)] at hys2
      refine comp_fin F2 N2 hC2 off21 fun h3 F3 N3 => qn2 _ _ ?_
      clear F2 N2 hC2 off21
      have hem : ys2.isEmpty = true ↔ row.filter (fun q => !decide (q ∈ came)) = [] := by
        have h1 := hys2.length
        rw [List.length_map] at h1
        rw [List.isEmpty_iff]
        constructor
        · intro e; rw [e] at h1; exact List.length_eq_zero_iff.mp h1.symm
        · intro e; rw [e] at h1; exact List.length_eq_zero_iff.mp h1
      k_steps
      · rename_i l5 h5 F5 N5 ll5 he
        have N6 : News g' L' h5 ((I, oi) :: (C1, oC) :: (acc, listOf ys.toArray n') :: (L' + 1 + 1, oB) :: (L' + 1, oA) :: (τ ++ D)) := News.sub N5 fun q hq => .tail _ (.tail _ hq)
        refine emit_next (ys := ys) (n := n') hC off (Nat.ne_of_lt hIa) (Nat.ne_of_lt haC) ?_
        clear N5
        k_steps
        refine EltEnd.mk [] F5 N6 (fun _ h => nomatch h) ?_ ⟨rfl, ?_, _, by walk_at "maps"⟩
        · have h1 := hys.length
          rw [List.length_map] at h1
          have h3 := List.length_filter_le (fun p => (rows.getD p []).all fun q => decide (q ∈ came)) (left.take j)
          rw [List.length_take] at h3
          unfold freeN at h1
          rw [sizeLine_eq]; exact o236 h1 h3 hz3
        · rw [htk, free_step, hrow, if_pos (hem.mp he)]
          unfold dN
          rw [List.map_append]
          exact hys.append (.one (.int _ _))
      · rename_i l5 h5 F5 N5 ll5 he
        refine ⟨_, _, _, _, _, _, _, rfl, F5, News.sub N5 fun q hq => .tail _ (.tail _ hq), hC, off, rfl, ?_, _, by walk_at "maps"⟩
        rw [htk, free_step, hrow, if_neg (fun e => by have := hem.mpr e; rw [he] at this; cases this), List.append_nil]
        exact hys
  · rintro acc C1 lacc oC mC ys n' _ h tk ⟨rfl, hys, u, rfl⟩ F N hC off1 off2
    rw [show (dN left).length = left.length from List.length_map _, List.take_of_length_le (Nat.le_refl _)] at hys
    refine comp_fin_use F N hC off1 rfl rfl rfl fun h3 tk3 F3 N3 => qn1 _ _ ?_
    clear F N hC off1
    have hCH : CodeHd g' 171 169 := HC.keeps FG'.keep
    k_steps
    unfold Stopped
    have l169 : ∀ o, (169, o) ∈ τ → (169 : Nat) < L' := fun o ho => l1 (169, o) (List.mem_append_left _ ho)
    have lB : @LT.lt Nat _ (L' + 1 + 1) acc := lacc _ (.head _)
    rcases hτ with rfl | ⟨c', oc, vs, t, rfl, hoc, hvs⟩
    · have l9 := l169 _ (.head _)
      have UU : UpdF 169 (tabObj #[]) ((acc, listOf ys.toArray n') :: (L' + 1 + 1, oB) :: (L' + 1, oA) :: (169, tabObj #[]) :: D) (fun o' => (acc, listOf ys.toArray n') :: (L' + 1 + 1, oB) :: (L' + 1, oA) :: (169, o') :: D) :=
        .tail (neN (by dsimp only; exact o237 lB l9)) (.tail (neN (by dsimp only; exact o238 l9)) (.tail (neN (by dsimp only; exact o239 l9)) (.head hoff)))
      refine kla_eval rfl (kla_nest (ps := #[]) F3 N3 T' hCH rfl UU (by kn_triples) (by kn_among) rfl fun f c' oc vs t ctv h4 tk4 F4 N4 hoc hvs l1' l2' => ?_)
      have hcd : ∀ h D5, News g' L' h D5 → (c', oc) ∈ D5 → h.CodeRec (.ref c') _ := fun h D5 N5 hm => codeRec_news N5 hm hoc hvs
      have hfl : ys.length = (freeN rows came left).length := by have := hys.length; rwa [List.length_map] at this
      have hfl6 : (freeN rows came left).length ≤ 6 := Nat.le_trans (List.length_filter_le _ _) hz3
      k_steps
      unfold Stopped
      refine sorted_key (A := A.deeper _) (fun i => keyN rows came ((freeN rows came left).getD i 0)) F4 N4 (.tail _ (.tail _ (.head _))) (by exact o240 hfl hfl6) ?turn ?fin
      case turn =>
        intro i v hiv own h5 tk5 F5 N5
        obtain ⟨p, hpf, t5, rfl⟩ : ∃ p, (freeN rows came left)[i]? = some p ∧ ∃ t5, v = .int (p : Nat) t5 := by
          have hi := (List.getElem?_eq_some_iff.mp hiv).1
          obtain ⟨v', hv', hD⟩ := hys.get (show i < (dN (freeN rows came left)).length by rw [List.length_map]; exact o122 hi hfl)
          rw [hiv] at hv'
          cases hv'
          rw [List.getElem_map] at hD
          obtain ⟨t5, rfl⟩ := dat_int hD
          exact ⟨_, List.getElem?_eq_getElem (by exact o122 hi hfl), t5, rfl⟩
        have hpm := List.mem_of_getElem? hpf
        have hpl : p ∈ left := (List.mem_filter.mp hpm).1
        have hpr : ∀ q ∈ rows.getD p [], q ∈ came := fun q hq => by
          have := (List.mem_filter.mp hpm).2
          rw [List.all_eq_true] at this
          exact of_decide_eq_true (this q hq)
        have hp : p < rows.length := hlr p hpl
        have hgd : (freeN rows came left).getD i 0 = p := by rw [List.getD_eq_getElem?_getD, hpf]; rfl
        refine wpAny_call (enterL (A := (A.deeper _).in1.in1) (ents := [(Str.ofString "place", some (.int (p : Nat) t5))]) C'.in1.in1 F5 N5 (List.mem_append_right _ (.head _)) (hcd _ _ N5 (List.mem_append_right _ (.tail _ (.head _)))) ?hroom rfl rfl (locs rfl) ?_ rfl rfl rfl (by decide))
        case hroom => show A.depth + 1 < recursionLimit; exact o241 hroom
        intro g2 L2 h6 hm2 mg2 mb2 tk6 DL hDL FG2 F6 N6 C2 X2 T2
        have hm1 : (L' + 1 + 1, oB) ∈ DL := hDL _ (List.mem_append_right _ (.tail _ (.tail _ (.tail _ (.head _)))))
        have hm2' : (L' + 1, oA) ∈ DL := hDL _ (List.mem_append_right _ (.tail _ (.tail _ (.tail _ (.tail _ (.head _))))))
        have hsub2 : ∀ p ∈ X, p ∈ DL := fun p hp => hDL p (List.mem_append_right _ (.tail _ (.tail _ (.tail _ (.tail _ (.tail _ (.tail _ (hs p hp))))))))
        have hcm2 : (ac, listOf cv.toArray cn) ∈ DL := hsub2 _ hcm
        (try k_unmd); (try k_fold)
        k_steps
        rename_i l6 h7 F7 N7 ll6
        unfold Stopped
        refine eval_comp (cl := [(Str.ofString "came", L' + 1 + 1)]) (fun _ => rfl) rfl rfl (by decide) rfl ?_
        intro Qn3 qn3
        k_steps
        rename_i b hb
        unfold Stopped
        generalize hrow : rows.getD p [] = row at hb hpr
        have hrl : row.length ≤ 100 := by
          rw [← hrow]; exact hz2 _ (getD_mem hp)
        obtain ⟨v6, hv6⟩ : ∃ v6, ∃ t6, v6 = [Value.int (-1) t6] ∧ News g2 L2 h7 ((l6, listOf v6.toArray 0) :: DL) := ⟨_, _, rfl, N7⟩
        obtain ⟨t6, hv6, N7'⟩ := hv6
        clear N7
        refine comp_ld (fun _ _ _ => turn1 _ _ _ _ _ _ _ _ _ _) C2.hh F7 N7' hb (fun q hq => .tail _ (hsub2 q hq))
          (fun l mC2 ys2 D2 => A3 (D2 = (l6, listOf v6.toArray 0) :: DL) (DatAll [] ys2 (dI ((row.take l).map fun q => (came.idxOf q : Int)))) (∃ u, mC2 = upds emp [(Str.ofString "near", u)]))
          (fun l mC2 ys2 D2 hK q hq => by obtain ⟨rfl, _⟩ := hK; exact .tail _ (hsub2 q hq)) ⟨rfl, .nil, none, by walk_at "maps"⟩ ?_ ?_ (by decide) rfl rfl
        · rintro I2 oi2 acc2 C3 ltI2 l v2 oC2 mC2 ys2 n2 _ h8 tk8 hl2 hv2 ⟨rfl, hys2, u2, rfl⟩ F8 N8 hC2 off8 hIa2 haC2
          rw [List.getElem_map] at hv2
          have hl2' : l < row.length := by simpa using hl2
          generalize hql : row[l] = q at hv2
          obtain ⟨tq, rfl⟩ := dat_int hv2
          have hqc : q ∈ came := hpr q (hql ▸ List.getElem_mem hl2')
          have htl : row.take (l + 1) = row.take l ++ [q] := by rw [List.take_add_one, List.getElem?_eq_getElem hl2', hql]; rfl
          refine wpAny_tests_nil ?_
          rw [if_pos rfl]
          refine emit_next (ys := ys2) (n := n2) hC2 off8 (Nat.ne_of_lt hIa2) (Nat.ne_of_lt haC2) ?_
          (try k_unmd); k_fold
          k_steps
          refine EltEnd.mk [] F8 N8 (fun _ h => nomatch h) ?_ ⟨rfl, ?_, _, by walk_at "maps"⟩
          · have h1 := hys2.length
            rw [List.length_map, List.length_map, List.length_take] at h1
            rw [sizeLine_eq]; exact o242 h1 hrl
          · rw [htl, List.map_append]
            unfold dI
            rw [List.map_append]
            exact hys2.append (.one (.int _ _))
        · rintro acc2 C3 lacc2 oC2 mC2 ys2 n2 _ h8 tk8 ⟨rfl, hys2, u2, rfl⟩ F8 N8 hC2 off81 off82
          rw [show (dN row).length = row.length from List.length_map _, List.take_of_length_le (Nat.le_refl _)] at hys2
          refine comp_fin F8 N8 hC2 off81 fun h9 F9 N9 => qn3 _ _ ?_
          clear F8 N8 hC2 off81
          have hy2l : ys2.length ≤ 100 := by have h1 := hys2.length; rw [List.length_map, List.length_map] at h1; exact o243 h1 hrl
          have hv6l : v6.length = 1 := by rw [hv6]; rfl
          k_steps
          rename_i q9 h10 F10 N10 l10
          unfold Stopped
          refine max_n (Y := []) (ns := (-1) :: row.map fun q => (came.idxOf q : Int)) C2.hh F10 N10 (.head _) ?_ (by simp) fun h11 M tM tk11 F11 N11 hM1 hM2 => ?_
          · rw [hv6]
            exact .cons (.int _ _) hys2
          · have hMk : M = keyN rows came p := by
              refine keyN_is ?_ ?_
              · rw [hrow]; exact hM1
              · rw [hrow]; exact hM2
            refine leaveK_ F11 N11 fun kF kN => ?_
            refine ⟨h11, _, tM, rfl, ?_, kF, fun r hr => kN r (.tail _ (.tail _ (.tail _ (hDL r hr))))⟩
            rw [hMk, hgd]
      case fin =>
        intro B h7 tk7 c7 pp F7 N7 lB7 hperm hpw
        (try dsimp only)
        refine leaveK_ F7 N7 fun kF kN => k _ _ B (pp.map fun i => ys.getD i .none) c7 (pp.map fun i => (freeN rows came left).getD i 0) [(169, tabObj #[rawInt 155, rawInt 28, .ref c']), (c', oc)] kF (fun r hr => ?_) (fun r hr => ?_) (.inr ⟨c', oc, vs, t, rfl, hoc, hvs⟩) ?kk ?dd ⟨pp, ?pp, hpw, rfl⟩
        · rcases List.mem_cons.mp hr with rfl | hr
          · exact kN _ (.head _)
          · exact kN r (.tail _ ((by rcases hr with _ | ⟨_, _ | ⟨_, hr⟩⟩; exact .tail _ (.tail _ (.tail _ (.tail _ (.tail _ (.head _))))); exact .tail _ (.head _); exact .tail _ (.tail _ (.tail _ (.tail _ (.tail _ (.tail _ hr))))))))
        · exact lB7 r ((by rcases hr with _ | ⟨_, _ | ⟨_, hr⟩⟩; exact .tail _ (.tail _ (.tail _ (.tail _ (.tail _ (.head _))))); exact .tail _ (.head _); exact .tail _ (.tail _ (.tail _ (.tail _ (.tail _ (.tail _ hr)))))))
        case kk => 
          intro K
          refine Keys.cons (Keys.cons K.tail fun q hq => Nat.ne_of_lt (l1' q (.tail _ (.tail _ (.tail _ (.tail _ hq)))))) fun q hq => ?_
          rcases List.mem_cons.mp hq with rfl | hq
          · exact Nat.ne_of_gt (l1' _ (.tail _ (.tail _ (.tail _ (.head _)))))
          · exact K.off q hq
        case dd => exact dat_pick hys pp fun i hi => by rw [← hfl]; exact List.mem_range.mp (hperm.mem_iff.mp hi)
        case pp => rw [← hfl]; exact hperm
    · refine kla_eval rfl (kla_hit (c' := c') F3 N3 T' hCH rfl (.tail _ (.tail _ (.tail _ (.head _)))) (by kn_triples) (by kn_hit) rfl fun f ctv h4 tk4 F4 N4 l1' => ?_)
      have hcd : ∀ h D5, News g' L' h D5 → (c', oc) ∈ D5 → h.CodeRec (.ref c') _ := fun h D5 N5 hm => codeRec_news N5 hm hoc hvs
      have hfl : ys.length = (freeN rows came left).length := by have := hys.length; rwa [List.length_map] at this
      have hfl6 : (freeN rows came left).length ≤ 6 := Nat.le_trans (List.length_filter_le _ _) hz3
      k_steps
      unfold Stopped
      refine sorted_key (A := A.deeper _) (fun i => keyN rows came ((freeN rows came left).getD i 0)) F4 N4 (.tail _ (.head _)) (by exact o240 hfl hfl6) ?turn ?fin
      case turn =>
        intro i v hiv own h5 tk5 F5 N5
        obtain ⟨p, hpf, t5, rfl⟩ : ∃ p, (freeN rows came left)[i]? = some p ∧ ∃ t5, v = .int (p : Nat) t5 := by
          have hi := (List.getElem?_eq_some_iff.mp hiv).1
          obtain ⟨v', hv', hD⟩ := hys.get (show i < (dN (freeN rows came left)).length by rw [List.length_map]; exact o122 hi hfl)
          rw [hiv] at hv'
          cases hv'
          rw [List.getElem_map] at hD
          obtain ⟨t5, rfl⟩ := dat_int hD
          exact ⟨_, List.getElem?_eq_getElem (by exact o122 hi hfl), t5, rfl⟩
        have hpm := List.mem_of_getElem? hpf
        have hpl : p ∈ left := (List.mem_filter.mp hpm).1
        have hpr : ∀ q ∈ rows.getD p [], q ∈ came := fun q hq => by
          have := (List.mem_filter.mp hpm).2
          rw [List.all_eq_true] at this
          exact of_decide_eq_true (this q hq)
        have hp : p < rows.length := hlr p hpl
        have hgd : (freeN rows came left).getD i 0 = p := by rw [List.getD_eq_getElem?_getD, hpf]; rfl
        refine wpAny_call (enterL (A := (A.deeper _).in1.in1) (ents := [(Str.ofString "place", some (.int (p : Nat) t5))]) C'.in1.in1 F5 N5 (List.mem_append_right _ (.head _)) (hcd _ _ N5 (List.mem_append_right _ (.tail _ (.tail _ (.tail _ (.tail _ (.tail _ (.head _)))))))) ?hroom rfl rfl (locs rfl) ?_ rfl rfl rfl (by decide))
        case hroom => show A.depth + 1 < recursionLimit; exact o241 hroom
        intro g2 L2 h6 hm2 mg2 mb2 tk6 DL hDL FG2 F6 N6 C2 X2 T2
        have hm1 : (L' + 1 + 1, oB) ∈ DL := hDL _ (List.mem_append_right _ (.tail _ (.tail _ (.head _))))
        have hm2' : (L' + 1, oA) ∈ DL := hDL _ (List.mem_append_right _ (.tail _ (.tail _ (.tail _ (.head _)))))
        have hsub2 : ∀ p ∈ X, p ∈ DL := fun p hp => hDL p (List.mem_append_right _ (.tail _ (.tail _ (.tail _ (.tail _ (.tail _ (.tail _ (hs p hp))))))))
        have hcm2 : (ac, listOf cv.toArray cn) ∈ DL := hsub2 _ hcm
        (try k_unmd); (try k_fold)
        k_steps
        rename_i l6 h7 F7 N7 ll6
        unfold Stopped
        refine eval_comp (cl := [(Str.ofString "came", L' + 1 + 1)]) (fun _ => rfl) rfl rfl (by decide) rfl ?_
        intro Qn4 qn4
        k_steps
        rename_i b hb
        unfold Stopped
        generalize hrow : rows.getD p [] = row at hb hpr
        have hrl : row.length ≤ 100 := by
          rw [← hrow]; exact hz2 _ (getD_mem hp)
        obtain ⟨v6, hv6⟩ : ∃ v6, ∃ t6, v6 = [Value.int (-1) t6] ∧ News g2 L2 h7 ((l6, listOf v6.toArray 0) :: DL) := ⟨_, _, rfl, N7⟩
        obtain ⟨t6, hv6, N7'⟩ := hv6
        clear N7
        refine comp_ld (fun _ _ _ => turn1 _ _ _ _ _ _ _ _ _ _) C2.hh F7 N7' hb (fun q hq => .tail _ (hsub2 q hq))
          (fun l mC2 ys2 D2 => A3 (D2 = (l6, listOf v6.toArray 0) :: DL) (DatAll [] ys2 (dI ((row.take l).map fun q => (came.idxOf q : Int)))) (∃ u, mC2 = upds emp [(Str.ofString "near", u)]))
          (fun l mC2 ys2 D2 hK q hq => by obtain ⟨rfl, _⟩ := hK; exact .tail _ (hsub2 q hq)) ⟨rfl, .nil, none, by walk_at "maps"⟩ ?_ ?_ (by decide) rfl rfl
        · rintro I2 oi2 acc2 C3 ltI2 l v2 oC2 mC2 ys2 n2 _ h8 tk8 hl2 hv2 ⟨rfl, hys2, u2, rfl⟩ F8 N8 hC2 off8 hIa2 haC2
          rw [List.getElem_map] at hv2
          have hl2' : l < row.length := by simpa using hl2
          generalize hql : row[l] = q at hv2
          obtain ⟨tq, rfl⟩ := dat_int hv2
          have hqc : q ∈ came := hpr q (hql ▸ List.getElem_mem hl2')
          have htl : row.take (l + 1) = row.take l ++ [q] := by rw [List.take_add_one, List.getElem?_eq_getElem hl2', hql]; rfl
          refine wpAny_tests_nil ?_
          rw [if_pos rfl]
          refine emit_next (ys := ys2) (n := n2) hC2 off8 (Nat.ne_of_lt hIa2) (Nat.ne_of_lt haC2) ?_
          (try k_unmd); k_fold
          k_steps
          refine EltEnd.mk [] F8 N8 (fun _ h => nomatch h) ?_ ⟨rfl, ?_, _, by walk_at "maps"⟩
          · have h1 := hys2.length
            rw [List.length_map, List.length_map, List.length_take] at h1
            rw [sizeLine_eq]; exact o242 h1 hrl
          · rw [htl, List.map_append]
            unfold dI
            rw [List.map_append]
            exact hys2.append (.one (.int _ _))
        · rintro acc2 C3 lacc2 oC2 mC2 ys2 n2 _ h8 tk8 ⟨rfl, hys2, u2, rfl⟩ F8 N8 hC2 off81 off82
          rw [show (dN row).length = row.length from List.length_map _, List.take_of_length_le (Nat.le_refl _)] at hys2
          refine comp_fin F8 N8 hC2 off81 fun h9 F9 N9 => qn4 _ _ ?_
          clear F8 N8 hC2 off81
          have hy2l : ys2.length ≤ 100 := by have h1 := hys2.length; rw [List.length_map, List.length_map] at h1; exact o243 h1 hrl
          have hv6l : v6.length = 1 := by rw [hv6]; rfl
          k_steps
          rename_i q9 h10 F10 N10 l10
          unfold Stopped
          refine max_n (Y := []) (ns := (-1) :: row.map fun q => (came.idxOf q : Int)) C2.hh F10 N10 (.head _) ?_ (by simp) fun h11 M tM tk11 F11 N11 hM1 hM2 => ?_
          · rw [hv6]
            exact .cons (.int _ _) hys2
          · have hMk : M = keyN rows came p := by
              refine keyN_is ?_ ?_
              · rw [hrow]; exact hM1
              · rw [hrow]; exact hM2
            refine leaveK_ F11 N11 fun kF kN => ?_
            refine ⟨h11, _, tM, rfl, ?_, kF, fun r hr => kN r (.tail _ (.tail _ (.tail _ (hDL r hr))))⟩
            rw [hMk, hgd]
      case fin =>
        intro B h7 tk7 c7 pp F7 N7 lB7 hperm hpw
        (try dsimp only)
        refine leaveK_ F7 N7 fun kF kN => k _ _ B (pp.map fun i => ys.getD i .none) c7 (pp.map fun i => (freeN rows came left).getD i 0) [(169, tabObj #[rawInt 155, rawInt 28, .ref c']), (c', oc)] kF (fun r hr => ?_) (fun r hr => ?_) (.inr ⟨c', oc, vs, t, rfl, hoc, hvs⟩) ?kk ?dd ⟨pp, ?pp, hpw, rfl⟩
        · rcases List.mem_cons.mp hr with rfl | hr
          · exact kN _ (.head _)
          · exact kN r (.tail _ ((by rcases hr with _ | ⟨_, _ | ⟨_, hr⟩⟩; exact .tail _ (.tail _ (.tail _ (.tail _ (.head _)))); exact .tail _ (.tail _ (.tail _ (.tail _ (.tail _ (.head _))))); exact .tail _ (.tail _ (.tail _ (.tail _ (.tail _ (.tail _ hr))))))))
        · exact lB7 r ((by rcases hr with _ | ⟨_, _ | ⟨_, hr⟩⟩; exact .tail _ (.tail _ (.tail _ (.tail _ (.head _)))); exact .tail _ (.tail _ (.tail _ (.tail _ (.tail _ (.head _))))); exact .tail _ (.tail _ (.tail _ (.tail _ (.tail _ (.tail _ hr)))))))
        case kk => exact fun K => K
        case dd => exact dat_pick hys pp fun i hi => by rw [← hfl]; exact List.mem_range.mp (hperm.mem_iff.mp hi)
        case pp => rw [← hfl]; exact hperm
end
end

section
set_option Elab.async false
set_option maxRecDepth 100000
set_option maxHeartbeats 8000000
theorem names_ok {a b c d e f : Tok} {T : Int} {zs : List Value} (h : zs = kms_pick [Value.int 0 a, Value.str (Str.ofString "0") b, Value.int (-1) c, Value.str (Str.ofString "") d, Value.int 7 e, Value.str (Str.ofString "a") f] none (some (1 + T.fmod 6))) :
    ∃ many : Nat, 1 ≤ many ∧ many ≤ 6 ∧ (1 + T.fmod 6) = (many : Int) ∧ zs.length = many ∧ ∀ i v, zs[i]? = some v → nmIs i v = true := by
  rw [Int.fmod_eq_emod_of_nonneg T (by decide)] at h ⊢
  have h1 : 0 ≤ T % 6 := Int.emod_nonneg _ (by decide)
  have h2 : T % 6 < 6 := Int.emod_lt_of_pos _ (by decide)
  obtain ⟨k, hk⟩ : ∃ k : Nat, T % 6 = k := ⟨(T % 6).toNat, by exact o160⟩
  have hk6 : k < 6 := by exact o161 hk
  have hz : zs = [Value.int 0 a, Value.str (Str.ofString "0") b, Value.int (-1) c, Value.str (Str.ofString "") d, Value.int 7 e, Value.str (Str.ofString "a") f].take (k + 1) := by
    rw [h, hk]
    unfold kms_pick kms_lo kms_hi
    have e1 : ¬ ((1 : Int) + (k : Int) < 0) := by exact o162
    have e2 : ((1 : Int) + (k : Int)).toNat = k + 1 := by exact o163
    simp only [e1, if_false, e2, List.drop_zero, Nat.sub_zero, List.length_cons, List.length_nil]
    congr 1
    exact o164 hk
  refine ⟨k + 1, by exact o165, by exact o166 hk, by exact o167 hk, ?_, fun i v hv => ?_⟩
  · rw [hz, List.length_take]; simp; exact o168 hk
  · rw [hz] at hv
    have hi : i < k + 1 := by
      have := (List.getElem?_eq_some_iff.mp hv).1
      rw [List.length_take] at this; exact o169 this
    rw [List.getElem?_take_of_lt hi] at hv
    have hi6 : i < 6 := by exact o170 hi hk
    match i, hi6, hv with
    | 0, _, hv => cases hv; rfl
    | 1, _, hv => cases hv; rfl
    | 2, _, hv => cases hv; rfl
    | 3, _, hv => cases hv; rfl
    | 4, _, hv => cases hv; rfl
    | 5, _, hv => cases hv; rfl
/-- a name as a datum -/
noncomputable def nmDat (p : Nat) : Dat := match nmKey p with
  | some (.i n) => .int n
  | some (.s x) => .str x
  | none => .none
theorem dat_nm {X : Led} {p : Nat} {v : Value} (h : nmIs p v = true) : DatIn X v (nmDat p) := by
  obtain ⟨k, hk, h2⟩ := nmIs_key h
  unfold nmDat
  rcases NK.is_shape h2 with ⟨n, t, rfl, rfl⟩ | ⟨x, t, rfl, rfl⟩
  · rw [hk]; exact .int _ _
  · rw [hk]; exact .str _ _
theorem dat_str {X : Led} {v : Value} {x : Str} (h : DatIn X v (.str x)) : ∃ t, v = .str x t := by cases h; exact ⟨_, rfl⟩
theorem nm_dat {X : Led} {p : Nat} {v : Value} (hp : p < 6) (h : DatIn X v (nmDat p)) : nmIs p v = true := by
  rcases p with _ | _ | _ | _ | _ | _ | p
  · obtain ⟨t, rfl⟩ := dat_int h; rfl
  · obtain ⟨t, rfl⟩ := dat_str h; rfl
  · obtain ⟨t, rfl⟩ := dat_int h; rfl
  · obtain ⟨t, rfl⟩ := dat_str h; rfl
  · obtain ⟨t, rfl⟩ := dat_int h; rfl
  · obtain ⟨t, rfl⟩ := dat_str h; rfl
  · exact absurd hp (Nat.not_lt_of_le (Nat.le_add_left 6 p))
theorem dat_list {X : Led} : ∀ {vs : List Value} {ds : List Dat}, vs.length = ds.length → (∀ (i : Nat) v d, vs[i]? = some v → ds[i]? = some d → DatIn X v d) → DatAll X vs ds
  | [], [], _, _ => .nil
  | [], _ :: _, h, _ => by simp at h
  | _ :: _, [], h, _ => by simp at h
  | v :: vs, d :: ds, h, k => .cons (k 0 v d rfl rfl) (dat_list (by simpa using h) fun i v d h1 h2 => k (i + 1) v d (by simpa using h1) (by simpa using h2))
theorem dat_names {X : Led} {zs : List Value} {many : Nat} (hl : zs.length = many) (h : ∀ i v, zs[i]? = some v → nmIs i v = true) : DatAll X zs ((List.range many).map nmDat) := by
  refine dat_list (by simp [hl]) fun i v d h1 h2 => ?_
  have hi := (List.getElem?_eq_some_iff.mp h1).1
  rw [List.getElem?_map, List.getElem?_range (by exact o122 hi hl)] at h2
  cases h2
  exact dat_nm (h i v h1)
end

section
set_option Elab.async false
set_option maxRecDepth 100000
set_option maxHeartbeats 8000000
open LCg (NsObj ns_obj lst)
theorem lk_use {K : Frag} {a : Addr} {o o' : Obj} {P : Prop} (h' : K.lookup a = some o') (h : K.lookup a = some o) (k : o' = o → P) : P := k (Option.some.inj (h'.symm.trans h))
/-- the body of the for at a place of a block -/
theorem lk_have {K : Frag} {g : Heap} (_ : K.In g) (a : Addr) {o : Obj} {P : Prop} (h : K.lookup a = some o) (k : K.lookup a = some o → P) : P := k h
noncomputable def fnB (o : Obj) : List Stmt := match o.data with | .func ⟨_, _, _, .stmts b, _, _, _, _, _, _, _, _, _, _, _⟩ => b | _ => []
noncomputable def fnQ (o : Obj) : Str := match o.data with | .func f => f.qualname | _ => default
noncomputable def fnS (o : Obj) : Scope := match o.data with | .func f => f.scope | _ => default
noncomputable def forB : Nat → List Stmt → List Stmt
  | 0, .For _ _ b _ _ :: _ => b
  | k + 1, _ :: r => forB k r
  | _, _ => []
noncomputable def restB : Nat → List Stmt → List Stmt
  | 0, r => r
  | k + 1, _ :: r => restB k r
  | _, [] => []
section
variable {w : World} {A : Around} {E : Value → Shared → Prop} {s : Shared} {L : Addr} {h₀ : Heap} {m : Str → Option Value} {D X : Led} {R : Result → Shared → Prop}
theorem store_c {c : Addr} {o : Obj} {u : Option Value} {x : Str} {v : Value} {env : Env} {f : Obj → Led} {Q : Unit → Shared → Prop} (F : Fr h₀ L s.heap m) (N : News h₀ L s.heap D) (hc : env.cells.lookup x = some c) (U : UpdF c o D f) (hd : o.data = .cell u) (hk : env.scope.kind = .function) (hx : env.kindOf x = some .cell)
    (h : ∀ h' o', Fr h₀ L h' m → News h₀ L h' (f o') → o'.data = .cell (some v) → Q () { s with heap := h' }) : wpAny (model PG w) A (storeName env x v) Q E s := by
  obtain ⟨pre, post, rfl, hg, a, b⟩ := U.split
  have hm := N (c, o) (List.mem_append_right _ (.head _))
  refine wpAny_storeName_cell hk hx hc ⟨o, hm.1, hd⟩ fun h' hcell hs => ?_
  obtain ⟨o', ho', hd'⟩ := hcell
  exact h h' o' (F.change hs hm.2.1 hm.2.2) (hg o' ▸ N.setIn a b hs ho') hd'
theorem store_cs {c : Addr} {o : Obj} {u : Option Value} {x : Str} {v : Value} {env : Env} {Q : Unit → Shared → Prop} (pre : Led) {post : Led} (F : Fr h₀ L s.heap m) (N : News h₀ L s.heap (pre ++ (c, o) :: post)) (hc : env.cells.lookup x = some c) (a : ∀ p ∈ pre, p.1 ≠ c) (b : ∀ p ∈ post, p.1 ≠ c) (hd : o.data = .cell u) (hk : env.scope.kind = .function) (hx : env.kindOf x = some .cell)
    (h : ∀ h' o', Fr h₀ L h' m → News h₀ L h' (pre ++ (c, o') :: post) → o'.data = .cell (some v) → Q () { s with heap := h' }) : wpAny (model PG w) A (storeName env x v) Q E s := by
  have hm := N (c, o) (List.mem_append_right _ (.head _))
  refine wpAny_storeName_cell hk hx hc ⟨o, hm.1, hd⟩ fun h' hcell hs => ?_
  obtain ⟨o', ho', hd'⟩ := hcell
  exact h h' o' (F.change hs hm.2.1 hm.2.2) (N.setIn a b hs ho') hd'
theorem item_v {a : Addr} {vs : List Value} {n : Nat} {v : Value} {k : Int} {u : Tok} {value slice : PySem.Expr} {Q : Value → Shared → Prop} (N : News h₀ L s.heap D) (hm : (a, listOf vs.toArray n) ∈ D) (h0 : 0 ≤ k) (hz : k < 1000000) (hv : vs[k.toNat]? = some v) (h : Q v s)
    (hsl : subscripted slice false (.ref a) (.int k u) = operate [.ref a, .int k u] (getItem (.ref a) (.int k u)) := by with_unfolding_all rfl) :
    wpAny (model PG w) A (subscriptTail value slice (.ref a) (.int k u)) Q E s := by
  have hl : s.heap.IsList a vs.toArray := ⟨_, (N _ hm).1, rfl, n, rfl⟩
  exact tail_any hl.typeIs slot_list_getitem.lookup (wpAny_getItem_list hl h0 (by omega) (by simpa using hv) h) hsl
/-- lists of which each may be changed -/
noncomputable abbrev rowL (rs : List (Addr × List Nat × List Value × Nat)) : Led := rs.map fun r => (r.1, listOf r.2.2.1.toArray r.2.2.2)
theorem append_row {rs : List (Addr × List Nat × List Value × Nat)} {i q : Nat} {v : Value} {D₂ : Led} {Q : Value → Shared → Prop} {r : Addr × List Nat × List Value × Nat} (D₁ : Led) (F : Fr h₀ L s.heap m) (N : News h₀ L s.heap (D₁ ++ (rowL rs ++ D₂))) (K : Keys (rowL rs)) (o1 : ∀ p ∈ D₁, ∀ r ∈ rs, p.1 ≠ r.1) (o2 : ∀ p ∈ D₂, ∀ r ∈ rs, p.1 ≠ r.1) (hr : rs[i]? = some r) (hz : r.2.2.1.length ≤ 1000)
    (h : ∀ h', Fr h₀ L h' m → News h₀ L h' (D₁ ++ (rowL (rs.set i (r.1, r.2.1 ++ [q], r.2.2.1 ++ [v], r.2.2.2 + 1)) ++ D₂)) → Q .none { s with heap := h' }) : wpAny (model PG w) A (call (.builtin "list.append") [.ref r.1, v]) Q E s := by
  have hi : i < rs.length := (List.getElem?_eq_some_iff.mp hr).1
  have e : rs = rs.take i ++ r :: rs.drop (i + 1) := by
    have h1 := (List.take_append_drop i rs).symm
    rw [List.drop_eq_getElem_cons hi] at h1
    rw [← (List.getElem?_eq_some_iff.mp hr).2]; exact h1
  have e2 : rs.set i (r.1, r.2.1 ++ [q], r.2.2.1 ++ [v], r.2.2.2 + 1) = rs.take i ++ (r.1, r.2.1 ++ [q], r.2.2.1 ++ [v], r.2.2.2 + 1) :: rs.drop (i + 1) := by
    rw [List.set_eq_take_append_cons_drop, if_pos hi]
  have K' : (rs.map (·.1)).Nodup := by
    have : (rowL rs).map (·.1) = rs.map (·.1) := by rw [List.map_map]; rfl
    rw [← this]; exact K
  rw [e, List.map_append, List.map_cons] at K'
  have h3 := List.nodup_append.mp K'
  have h4 := List.nodup_cons.mp h3.2.1
  have N1 : News h₀ L s.heap ((D₁ ++ rowL (rs.take i)) ++ (r.1, listOf r.2.2.1.toArray r.2.2.2) :: (rowL (rs.drop (i + 1)) ++ D₂)) := by
    have : D₁ ++ (rowL rs ++ D₂) = (D₁ ++ rowL (rs.take i)) ++ (r.1, listOf r.2.2.1.toArray r.2.2.2) :: (rowL (rs.drop (i + 1)) ++ D₂) := by
      conv => lhs; rw [e]
      simp
    rwa [this] at N
  have hm := N1 (r.1, listOf r.2.2.1.toArray r.2.2.2) (List.mem_append_right _ (.head _))
  have a1 : ∀ p ∈ D₁ ++ rowL (rs.take i), p.1 ≠ r.1 := fun p hp => by
    rcases List.mem_append.mp hp with hp | hp
    · exact o1 p hp r (e ▸ List.mem_append_right _ (.head _))
    · obtain ⟨r', hr', rfl⟩ := List.mem_map.mp hp
      intro e'
      exact h3.2.2 _ (List.mem_map_of_mem hr') _ (.head _) e'
  have a2 : ∀ p ∈ rowL (rs.drop (i + 1)) ++ D₂, p.1 ≠ r.1 := fun p hp => by
    rcases List.mem_append.mp hp with hp | hp
    · obtain ⟨r', hr', rfl⟩ := List.mem_map.mp hp
      intro e'
      exact h4.1 (by rw [← e']; exact List.mem_map_of_mem hr')
    · exact o2 p hp r (e ▸ List.mem_append_right _ (.head _))
  refine append_at (hsz := by simp; unfold sizeLine; omega) hm.1 fun h₅ hs₅ hD₅ => h h₅ (F.change hs₅ hm.2.1 hm.2.2) ?_
  have N2 := N1.setIn a1 a2 hs₅ (o' := listOf (r.2.2.1 ++ [v]).toArray (r.2.2.2 + 1)) (hD₅.trans (by simp))
  rw [e2]
  simpa using N2
end
end

section
set_option Elab.async false
set_option maxRecDepth 100000
set_option maxHeartbeats 8000000
open LCg (NsObj ns_obj lst)
theorem exec_cut {w : World} {A : Around} {E : Value → Shared → Prop} {s : Shared} {st : Stmt} {rest : List Stmt} {env : Env} {Q : Flow → Shared → Prop} (QQ : Shared → Prop) (h : wpAny (model PG w) A (exec st env) (fun f s' => f = .next ∧ QQ s') E s) (h2 : ∀ s', QQ s' → wpAny (model PG w) A (execs rest env) Q E s') :
    wpAny (model PG w) A (execs (st :: rest) env) Q E s := wpAny_execs_cons (wpAny_mono h (fun f s' hTel => by obtain ⟨e, q⟩ := hTel; subst e; exact h2 s' q) fun _ _ e => e)
theorem dat_ints {X : Led} : ∀ {vs : List Value} {ns : List Int}, IntsAre vs ns → DatAll X vs (dI ns)
  | _, _, .nil => .nil
  | _, _, .cons _ _ h => .cons (.int _ _) (dat_ints h)
theorem pow_ne0 (n : Nat) : (2 : Int) ^ n ≠ 0 := by
  have : (0 : Int) < 2 ^ n := Int.pow_pos (by decide)
  exact o72 this
noncomputable abbrev RW := Addr × List Nat × List Value × Nat
noncomputable def RowsOk (many b : Nat) (rs : List RW) : Prop := ∀ r ∈ rs, DatAll [] r.2.2.1 (dN r.2.1) ∧ (∀ q ∈ r.2.1, q < many) ∧ r.2.1.length ≤ b
theorem row_at {rs rs' : List RW} {j : Nat} (h : rs'.map (·.1) = rs.map (·.1)) (hj : j < rs.length) : ∃ r, rs'[j]? = some r ∧ (rs.map fun r => Value.ref r.1)[j]? = some (.ref r.1) := by
  have hl : j < rs'.length := by
    have := congrArg List.length h
    simp only [List.length_map] at this
    exact o73 hj this
  refine ⟨_, List.getElem?_eq_getElem hl, ?_⟩
  have : (rs.map fun r => Value.ref r.1) = rs'.map fun r => Value.ref r.1 := by
    have := congrArg (List.map Value.ref) h
    rw [List.map_map, List.map_map] at this
    exact this.symm
  rw [this, List.getElem?_map, List.getElem?_eq_getElem hl]; rfl
theorem rows_all {rs rs' : List RW} {P : Addr → Prop} (h : rs'.map (·.1) = rs.map (·.1)) (hl : ∀ r ∈ rs, P r.1) : ∀ r ∈ rs', P r.1 := fun r hr => by
  have : r.1 ∈ rs.map (·.1) := h ▸ List.mem_map_of_mem hr
  obtain ⟨r0, h0, e⟩ := List.mem_map.mp this
  rw [← e]; exact hl r0 h0
theorem rows_fst (rs : List RW) : (rowL rs).map (·.1) = rs.map (·.1) := by rw [List.map_map]; rfl
theorem rows_keys {rs rs' : List RW} (h : rs'.map (·.1) = rs.map (·.1)) (K : Keys (rowL rs)) : Keys (rowL rs') := by
  unfold Keys at K ⊢; rw [rows_fst] at K ⊢; rw [h]; exact K
theorem rows_set {rs : List RW} {i : Nat} {r : RW} {c : List Nat × List Value × Nat} (h : rs[i]? = some r) : (rs.set i (r.1, c)).map (·.1) = rs.map (·.1) := by
  rw [List.map_set]
  refine List.ext_getElem? fun j => ?_
  rw [List.getElem?_set]
  split
  · next e => subst e; rw [List.getElem?_map, h]; have := (List.getElem?_eq_some_iff.mp h).1; simp [this]
  · rfl
theorem rows_ok {rs : List RW} {many b i q : Nat} {r : RW} {t : Tok} {n : Nat} (h : RowsOk many b rs) (hr : rs[i]? = some r) (hq : q < many) : RowsOk many (b + 1) (rs.set i (r.1, r.2.1 ++ [q], r.2.2.1 ++ [.int (q : Int) t], n)) := by
  intro r' hr'
  rcases List.mem_or_eq_of_mem_set hr' with h' | rfl
  · exact ⟨(h r' h').1, (h r' h').2.1, Nat.le_succ_of_le (h r' h').2.2⟩
  · have g := h r (List.mem_of_getElem? hr)
    refine ⟨?_, fun p hp => ?_, ?_⟩
    · show DatAll [] (_ ++ [_]) (List.map _ (_ ++ [q])); rw [List.map_append]; exact DatAll.append g.1 (.cons (.int _ _) .nil)
    · rcases List.mem_append.mp hp with hp | hp
      · exact g.2.1 p hp
      · rw [List.mem_singleton.mp hp]; exact hq
    · have := g.2.2; simp; exact this
theorem off_map {D D' : Led} {I : Addr} (h : D'.map (·.1) = D.map (·.1)) (o : ∀ p ∈ D, p.1 ≠ I) : ∀ p ∈ D', p.1 ≠ I := fun p hp => by
  have : p.1 ∈ D.map (·.1) := h ▸ List.mem_map_of_mem hp
  obtain ⟨q, hq, e⟩ := List.mem_map.mp this
  rw [← e]; exact o q hq
noncomputable abbrev lawL (L : Addr) (o4 o3 o2 o1 : Obj) : Led := [(L + 1 + 1 + 1 + 1, o4), (L + 1 + 1 + 1, o3), (L + 1 + 1, o2), (L + 1, o1), (169, tabObj #[])]
section

local macro_rules | `(tactic| walk_at "binaryOp Pow int int") => `(tactic| (k_here; refine pow_int_small (by omega) (by omega) (by decide) ?_))
local macro_rules | `(tactic| walk_at "binaryOp FloorDiv int int") => `(tactic| (k_here; refine stop_intro ?_))
local macro_rules | `(tactic| walk_at "subscriptTail Name BinOp ref int") => `(tactic| (k_here; refine stop_intro ?_))
local macro_rules | `(tactic| walk_at "call builtin:list.append") => `(tactic| (k_here; refine stop_intro ?_))



theorem law_B {w : World} {s : Shared} {h₀ : Heap} {L fa : Addr} {hm : Heap} {mg mb : Str → Option Value} {cd2 : Value} {ob : Obj} {sc : Addr} {sv : List Value} {ns : List Int} {o1 o2 o3 o4 : Obj} {Q : Flow → Shared → Prop} {E : Value → Shared → Prop} {many : Nat} {tot : Int} {tm tT : Tok} {rs : List RW} {rw qn n0 : Nat} {zs : List Value}
    (hlk : (heapK w.params).lookup 177 = some ob)
    (B0 : Below callerA h₀ [] h₀) (X : (heapK w.params).In h₀) (T : TopAt hm mg mb h₀)
    (F : Fr h₀ L s.heap (upds emp [(Str.ofString "many", some (.int (many : Int) tm)), (Str.ofString "total", some (.int tot tT)), (Str.ofString "script", some (.ref sc))]))
    (N : News h₀ L s.heap ((rw, listOf (rs.map fun r => Value.ref r.1).toArray n0) :: (rowL rs ++ ((qn, listOf zs.toArray 0) :: lawL L o4 o3 o2 o1))))
    (K : Keys (rowL rs)) (hlt : ∀ r ∈ rs, @LT.lt Nat _ qn r.1 ∧ @Ne Nat r.1 rw) (hqr : @LT.lt Nat _ qn rw) (hqn : @LT.lt Nat _ (L + 4) qn) (l9 : @LT.lt Nat _ 169 L)
    (d2 : o2.data = .cell (some (.ref rw))) (hrs : rs.length = many) (h1 : 1 ≤ many) (h6 : many ≤ 6) (hok : RowsOk many 0 rs)
    (hsl : h₀.IsList sc sv.toArray) (hI : IntsAre sv ns) (hns : ns.length ≤ 63)
    (k : ∀ h' tk u (rs' : List RW), Fr h₀ L h' (upds emp [(Str.ofString "x", u), (Str.ofString "many", some (.int (many : Int) tm)), (Str.ofString "total", some (.int tot tT)), (Str.ofString "script", some (.ref sc))]) →
      News h₀ L h' ((rw, listOf (rs.map fun r => Value.ref r.1).toArray n0) :: (rowL rs' ++ ((qn, listOf zs.toArray 0) :: lawL L o4 o3 o2 o1))) → rs'.map (·.1) = rs.map (·.1) → RowsOk many 65 rs' →
      wpAny (model PG w) (callerA.deeper (envOfC (fnQ ob) (fnS ob) L fa cd2)) (execs (restB 5 (fnB ob)) (envOfC (fnQ ob) (fnS ob) L fa cd2)) Q E { s with heap := h', toks := tk }) :
    wpAny (model PG w) (callerA.deeper (envOfC (fnQ ob) (fnS ob) L fa cd2)) (execs (restB 4 (fnB ob)) (envOfC (fnQ ob) (fnS ob) L fa cd2)) Q E s := by
  have X₀ := X; have hPG : PG = Challenge.rw_dm0132_06.row.prog := rfl; revert hPG X₀; k_fill; intro X₀ hPG; clear hPG X₀
  refine' lk_use hlk ?lk ?_
  case lk => k_is
  intro e
  cases e
  clear hlk
  dsimp only [restB, fnB, fnQ, fnS] at k ⊢
  refine exec_cut (fun s' => X4 fun h' tk u (rs' : List RW) => A5 (s' = { s with heap := h', toks := tk }) (Fr h₀ L h' (upds emp [(Str.ofString "x", u), (Str.ofString "many", some (.int (many : Int) tm)), (Str.ofString "total", some (.int tot tT)), (Str.ofString "script", some (.ref sc))])) (News h₀ L h' ((rw, listOf (rs.map fun r => Value.ref r.1).toArray n0) :: (rowL rs' ++ ((qn, listOf zs.toArray 0) :: lawL L o4 o3 o2 o1)))) (rs'.map (·.1) = rs.map (·.1)) (RowsOk many 65 rs')) ?_ (by rintro s' ⟨h', tk, u, rs', rfl, a, b, c, d⟩; exact k h' tk u rs' a b c d)
  clear k
  have hsl' : s.heap.IsList sc sv.toArray := by obtain ⟨o, ho, r⟩ := hsl; exact ⟨o, F.keep _ _ ho, r⟩
  (try k_unmd); k_fold
  k_steps
  rename_i l5 h5 lt5 lx ws h6 F6 N6 hI6 lt6
  unfold Stopped
  have hLD : LD [(lx, listOf ws.toArray 0)] lx (dI (ns ++ [(many : Int) * many - many, (many : Int) * many - many - 1])) := ⟨ws, 0, .head _, dat_ints hI6⟩
  have N7 : News h₀ L h6 ((lx, listOf ws.toArray 0) :: (rw, listOf (rs.map fun r => Value.ref r.1).toArray n0) :: (rowL rs ++ ((qn, listOf zs.toArray 0) :: lawL L o4 o3 o2 o1))) := News.sub N6 fun p hp => by
    rcases List.mem_cons.mp hp with rfl | hp
    · exact .head _
    · exact .tail _ (.tail _ hp)
  have hl65 : (dI (ns ++ [(many : Int) * many - many, (many : Int) * many - many - 1])).length ≤ 65 := by simp; assumption
  refine for_ldN (X := [(lx, listOf ws.toArray 0)]) rfl F6 N7 hLD (fun p hp => by rw [List.mem_singleton.mp hp]; exact .head _)
    (fun j m' D' => X2 fun u (rs' : List RW) => A4 (m' = upds emp [(Str.ofString "x", u), (Str.ofString "many", some (.int (many : Int) tm)), (Str.ofString "total", some (.int tot tT)), (Str.ofString "script", some (.ref sc))]) (D' = ((lx, listOf ws.toArray 0) :: (rw, listOf (rs.map fun r => Value.ref r.1).toArray n0) :: (rowL rs' ++ ((qn, listOf zs.toArray 0) :: lawL L o4 o3 o2 o1)))) (rs'.map (·.1) = rs.map (·.1)) (RowsOk many j rs'))
    (fun j m D hTel p hp => by obtain ⟨u, rs', _, e, _⟩ := hTel; rw [List.mem_singleton.mp hp, e]; exact .head _) ⟨none, rs, by walk_at "maps", rfl, rfl, hok⟩ ?_ ?_
  · rintro I oi ltI j v _ _ h tk hj hv Rn1 nx1 rt1 ⟨u, rs', rfl, rfl, hrs', hok'⟩ F N off
    obtain ⟨x, tx, rfl⟩ : ∃ x tx, v = .int x tx := by
      rw [List.getElem_map] at hv
      obtain ⟨t, rfl⟩ := dat_int hv
      exact ⟨_, t, rfl⟩
    have hp0 : 0 ≤ x.fmod (many : Int) := by rw [Int.fmod_eq_emod_of_nonneg _ (by exact o28)]; exact Int.emod_nonneg _ (by exact o74 h1)
    have hp1 : x.fmod (many : Int) < many := by rw [Int.fmod_eq_emod_of_nonneg _ (by exact o28)]; exact Int.emod_lt_of_pos _ (by exact o75 h1)
    have hp2 : (2 : Int) ^ (x.fmod (many : Int)).toNat ≠ 0 := by exact pow_ne0 _
    have hl2 : ((2 : Int) ^ (x.fmod (many : Int)).toNat).natAbs.log2 < 9000 := by
      rw [Int.natAbs_pow]; show Nat.log2 (2 ^ _) < 9000; rw [Nat.log2_two_pow]; exact o76 hp1 (by assumption)
    have hlm : (many : Int).natAbs.log2 < 9000 := by
      rw [Int.natAbs_natCast]; exact Nat.lt_of_le_of_lt (Nat.log2_le_self many) (by exact o77 (by assumption))
    have hq0 : 0 ≤ (x.fdiv (many : Int)).fmod (many : Int) := by rw [Int.fmod_eq_emod_of_nonneg _ (by exact o28)]; exact Int.emod_nonneg _ (by exact o74 h1)
    have hq1 : (x.fdiv (many : Int)).fmod (many : Int) < many := by rw [Int.fmod_eq_emod_of_nonneg _ (by exact o28)]; exact Int.emod_lt_of_pos _ (by exact o75 h1)
    (try k_unmd); k_fold
    k_steps
    unfold Stopped
    dsimp only
    refine floordiv_int (by decide) ?_ (Or.inl (PyProof.noPylong_of_log2 (by decide)))
    dsimp only
    k_steps
    unfold Stopped
    dsimp only
    refine floordiv_int hp2 ?_ (Or.inl (PyProof.noPylong_of_log2 hl2))
    dsimp only
    clear hl2 hp2
    generalize ((tot.fdiv 6).fmod 64).fdiv (2 ^ (x.fmod (many : Int)).toNat) = bit
    k_steps
    · unfold Stopped
      dsimp only
      obtain ⟨r, hre, hre2⟩ := row_at (rs' := rs') hrs' (j := (x.fmod (many : Int)).toNat) (by rw [hrs]; exact o78 hp1 hq1 hq0)
      generalize x.fmod (many : Int) = xm at hp0 hp1 hre hre2 ⊢
      refine item_v N (.tail _ (.tail _ (.head _))) hp0 (by exact o79 hp1 (by assumption)) hre2 ?_ (by with_unfolding_all rfl)
      have hmr : (r.1, listOf r.2.2.1.toArray r.2.2.2) ∈ (I, oi) :: (lx, listOf ws.toArray 0) :: (rw, listOf (rs.map fun r => Value.ref r.1).toArray n0) :: (rowL rs' ++ ((qn, listOf zs.toArray 0) :: lawL L o4 o3 o2 o1)) :=
        .tail _ (.tail _ (.tail _ (List.mem_append_left _ (List.mem_map_of_mem (f := fun r => (r.1, listOf r.2.2.1.toArray r.2.2.2)) (List.mem_of_getElem? hre)))))
      (try k_unmd); k_fold
      k_steps
      unfold Stopped
      (try dsimp only)
      refine floordiv_int (by exact o74 h1) ?_ (Or.inl (PyProof.noPylong_of_log2 hlm))
      (try dsimp only)
      k_steps
      unfold Stopped
      (try dsimp only)
      obtain ⟨q, hq⟩ : ∃ q : Nat, (x.fdiv (many : Int)).fmod (many : Int) = (q : Int) := ⟨_, (Int.toNat_of_nonneg hq0).symm⟩
      rw [hq] at hq1 ⊢
      have hg := hok' r (List.mem_of_getElem? hre)
      have hlr := rows_all (P := fun a => (@LT.lt Nat _ qn a ∧ @Ne Nat a rw) ∧ @LT.lt Nat _ a lx) hrs' (fun r hr => ⟨hlt r hr, allLt_mem lt6.2.2 (r.1, listOf r.2.2.1.toArray r.2.2.2) (List.mem_append_left _ (List.mem_map_of_mem (f := fun r => (r.1, listOf r.2.2.1.toArray r.2.2.2)) hr))⟩)
      have hIl : @LT.lt Nat _ lx I := ltI _ (.head _)
      refine append_row (q := q) [(I, oi), (lx, listOf ws.toArray 0), (rw, listOf (rs.map fun r => Value.ref r.1).toArray n0)] F N (rows_keys hrs' K) ?_ ?_ hre (by rw [hg.1.length, List.length_map]; exact o80 hj hg.2.2 hl65) fun h' F' N' => ?_
      · rintro p hp r hr
        have h1 := hlr r hr
        refine neN ?_
        rcases List.mem_cons.mp hp with rfl | hp
        · dsimp only; exact o81 h1.2 hIl
        rcases List.mem_cons.mp hp with rfl | hp
        · dsimp only; exact o64 h1.2
        rw [List.mem_singleton.mp hp]; dsimp only; exact o82 h1.1.2
      · rintro p hp r hr
        have h1 := hlr r hr
        refine neN ?_
        simp only [List.mem_cons, List.not_mem_nil, or_false] at hp
        rcases hp with rfl | rfl | rfl | rfl | rfl | rfl <;> dsimp only <;> (first | exact o83 h1.1.1 | exact o84 hqn h1.1.1 | exact o85 hqn h1.1.1 | exact o86 hqn h1.1.1 | exact o87 hqn h1.1.1 | exact o88 hqn l9 h1.1.1 | assumption)
      · (try k_unmd); k_fold
        k_steps
        exact nx1 _ _ _ _ F' N' (off_map (by show List.map _ (_ :: _ :: (rowL _ ++ _)) = _; simp only [List.map_cons, List.map_append]; rw [rows_fst, rows_fst, rows_set hre]) off) ⟨_, _, by walk_at "maps", rfl, by rw [rows_set hre]; exact hrs', rows_ok hok' hre (by exact o30 hq1)⟩
    · exact nx1 _ _ _ _ F N off ⟨_, rs', by walk_at "maps", rfl, hrs', fun r hr => ⟨(hok' r hr).1, (hok' r hr).2.1, Nat.le_succ_of_le (hok' r hr).2.2⟩⟩
  · rintro _ _ h tk ⟨u, rs', rfl, rfl, hrs', hok'⟩ F N
    exact ⟨rfl, h, tk, u, rs', rfl, F, News.sub N fun p hp => .tail _ hp, hrs', fun r hr => ⟨(hok' r hr).1, (hok' r hr).2.1, Nat.le_trans (hok' r hr).2.2 hl65⟩⟩
end
end

section
set_option Elab.async false
set_option maxRecDepth 100000
set_option maxHeartbeats 8000000
open LCg (NsObj ns_obj lst)
section
variable {w : World} {A : Around} {E : Value → Shared → Prop} {s : Shared} {L : Addr} {h₀ : Heap} {m : Str → Option Value} {D X : Led}
theorem newEnv_cell {scope : Scope} {globals : Addr} {cl : List (Str × Addr)} {qual x : Str} {env : Env} {Q : Env → Shared → Prop} (hc : ∀ c, cellsFrom c scope.names cl = (x, c) :: cl) (hp : ∀ h : Heap, pushCells h scope.names = h.push { cls := .type "cell", data := .cell none })
    (hQ : Q { scope, locals := s.heap.objs.size, globals, cells := (x, s.heap.objs.size + 1) :: cl, qual, func := none, code := env.code, frame := env.frame, builtins := env.builtins } { s with heap := (s.heap.push { cls := .type "dict", data := .dict #[] }).push { cls := .type "cell", data := .cell none } }) :
    wpAny (model PG w) A (newFunctionEnv scope globals cl [] qual none .none (some env)) Q E s := by
  simp only [newFunctionEnv, Option.isSome_some, if_true]
  refine wpAny_bind (wpAny_alloc ?_)
  refine wpAny_bind (wpAny_layCells _ (fun name kind cells => by cases hkc : kind == NameKind.cell <;> simp [hkc]) _ _ _ _ ?_)
  rw [hc, hp, Heap.size_push]
  exact wpAny_bind (wpAny_pure (wpAny_pure hQ))

/-- a block over a range -/
theorem comp_range {RR : Value → Addr → Result → Shared → Prop} {r : Addr} {a b : Int} {t u v : Tok} {n : Nat} {elt iter : PySem.Expr} {x : Str} {px : Pos} {ifs : List PySem.Expr} {gs : List Comprehension} {scope : Scope} {cl : List (Str × Addr)} {pos p : Pos} {env : Env} {inner : Addr → Addr → Sem Unit}
    (heq : ∀ I acc C, compTurn (.ListComp elt (⟨.Name x px, iter, ifs, 0⟩ :: gs) scope pos) 0 (.ref I) (.ref acc) (cEnv scope cl C env) = (do
      standAt p
      match ← pyNext (.ref I) with
      | none => pure (.done .next)
      | some v =>
        letOwnedTupleGo (.Name x px) (.ref I) v
        assign (.Name x px) (cEnv scope cl C env) v
        let mut ok := true
        for c in ifs do
          if ok then ok ← isTrue c (cEnv scope cl C env) (eval c (cEnv scope cl C env))
        if ok then inner acc C
        again (.compLoop (.ListComp elt (⟨.Name x px, iter, ifs, 0⟩ :: gs) scope pos) 0 (.ref I) (.ref acc) (cEnv scope cl C env))))
    (hh : A.handled = none) (F : Fr h₀ L s.heap m) (N : News h₀ L s.heap D) (hr : IsRange s.heap r a b 1 t u v) (hsm : Builtin.Range.small a b 1 = true) (hn : Builtin.Range.rangeSize a b 1 = ((n : Nat) : Int))
    (K : Nat → (Str → Option Value) → List Value → Led → Prop) (hK : K 0 (fun _ => none) [] D)
    (turn : ∀ I oi acc C, (∀ p ∈ D, p.1 < I) → ∀ i t oC mC ys n' D h tk, i < n → K i mC ys D → Fr h₀ L h m → News h₀ L h ((I, oi) :: (C, oC) :: (acc, listOf ys.toArray n') :: D) → NsObj oC (fun z => if z = x then some (.int (a + (i : Int)) t) else mC z) → Off3 I C acc D → I < acc → acc < C →
      wpAny (model PG w) A (tests ifs (cEnv scope cl C env)) (fun ok s₃ => if ok = true then wpAny (model PG w) A (inner acc C) (fun _ s₄ => CompNext h₀ L m I oi C acc (K (i + 1)) s s₄) (NB w A (cEnv scope cl C env) (RR (.ref acc) C)) s₃
        else CompNext h₀ L m I oi C acc (K (i + 1)) s s₃) (NB w A (cEnv scope cl C env) (RR (.ref acc) C)) { s with heap := h, toks := tk })
    (done : ∀ acc C, (∀ p ∈ D, p.1 < acc) → ∀ oC mC ys n' D h tk, K n mC ys D → Fr h₀ L h m → News h₀ L h ((C, oC) :: (acc, listOf ys.toArray n') :: D) → NsObj oC mC → (∀ p ∈ (acc, listOf ys.toArray n') :: D, p.1 ≠ C) → (∀ p ∈ D, p.1 ≠ acc) → RR (.ref acc) C (.ok .next) { s with heap := h, toks := tk })
    (hcell : ∀ y ∈ scope.names, y.2 ≠ .cell) (hkind : scope.kind = .function) (hx : scope.names.lookup x = some .local) :
    wpAny (model PG w) A (pyIter (.ref r)) (fun it s₂ => wpAny (model PG w) A (newList []) (fun acc s₃ => wpAny (model PG w) A (newFunctionEnv scope env.globals cl [] env.qual none .none (some env)) (fun cenv s₄ =>
      codeAny (model PG w) A (.compStart (.ListComp elt (⟨.Name x px, iter, ifs, 0⟩ :: gs) scope pos) 0 it acc { cenv with scope := relabel scope env }) (RR acc cenv.locals) s₄) E s₃) E s₂) E s := by
  have lt : ∀ p ∈ D, p.1 < s.heap.objs.size := fun p hp => Heap.lt_size (N p hp).1
  refine wpAny_pyIter_range hr hsm ?_
  have up : ∀ c o, s.heap.get? c = some o → (s.heap.push { cls := .type "range_iterator", data := .fields #[rawInt a, rawInt (Builtin.Range.rangeSize a b 1), rawInt 1] }).get? c = some o := fun c o e => Heap.get?_push_of_some _ e
  have W := LCg.range_walks (prog := PG) (w := w) (I := s.heap.objs.size) hh a n
  refine comp_walk (src := []) heq W (fun i h st => ⟨_, st⟩) (F.keeps up) (News.push F N _ rfl) lt (by show IsRangeIter _ _ _ _ _; rw [hn]; simpa using Heap.get?_push_size _ rfl) K
    (fun i mC ys D hK p hp => (nomatch hp)) hK
    (fun oi acc C i v oC mC ys n' D h tk hi hP hK F N hC off l1 l2 => by obtain ⟨t, rfl⟩ := hP; exact turn _ oi acc C lt i t oC mC ys n' D h tk hi hK F N hC off l1 l2) done hcell hkind hx

/-- an element's end, in a block whose name is a cell -/
noncomputable def EltX (h₀ : Heap) (L : Addr) (m : Str → Option Value) (T D : Led) (K : Value → Led → Prop) (s : Shared) (y : Value) (s₁ : Shared) : Prop :=
  X3 fun h tk Z => A5 (s₁ = { s with heap := h, toks := tk }) (Fr h₀ L h m) (News h₀ L h (Z ++ (T ++ D))) ((∀ q ∈ Z, ∀ p ∈ T, q.1 ≠ p.1)) (K y (Z ++ D))
noncomputable def OffX (I C acc c : Addr) (D : Led) : Prop := ∀ p ∈ D, p.1 ≠ I ∧ p.1 ≠ C ∧ p.1 ≠ acc ∧ p.1 ≠ c

theorem comp_cellx {RR : Value → Addr → Result → Shared → Prop} {a : Addr} {ds : List Dat} {elt iter : PySem.Expr} {x : Str} {px : Pos} {scope : Scope} {cl : List (Str × Addr)} {pos : Pos} {env : Env}
    (hh : A.handled = none) (F : Fr h₀ L s.heap m) (N : News h₀ L s.heap D) (hl : LD X a ds) (hs : ∀ p ∈ X, p ∈ D) (hz : ds.length ≤ 1000)
    (K : Nat → List Value → Led → Prop) (hX : ∀ i ys D, K i ys D → ∀ p ∈ X, p ∈ D) (hK : K 0 [] D)
    (turn : ∀ I oi acc C oC c oc, (∀ p ∈ D, p.1 < I) → I < acc → acc < C → C < c → ∀ i v ys n' D h tk, (hi : i < ds.length) → DatIn X v ds[i] → K i ys D → Fr h₀ L h m → News h₀ L h ([(I, oi), (C, oC), (acc, listOf ys.toArray n'), (c, oc)] ++ D) → oc.data = .cell (some v) → OffX I C acc c D →
      wpAny (model PG w) A (eval elt (cEnv scope ((x, c) :: cl) C env)) (EltX h₀ L m [(I, oi), (C, oC), (acc, listOf ys.toArray n'), (c, oc)] D (fun y D => K (i + 1) (ys ++ [y]) D) s) (NB w A (cEnv scope ((x, c) :: cl) C env) (RR (.ref acc) C)) { s with heap := h, toks := tk })
    (done : ∀ acc C, (∀ p ∈ D, p.1 < acc) → ∀ oC mC ys n' D h tk, K ds.length ys D → Fr h₀ L h m → News h₀ L h ((C, oC) :: (acc, listOf ys.toArray n') :: D) → NsObj oC mC → (∀ p ∈ (acc, listOf ys.toArray n') :: D, p.1 ≠ C) → (∀ p ∈ D, p.1 ≠ acc) → RR (.ref acc) C (.ok .next) { s with heap := h, toks := tk })
    (hlen : ∀ i ys D, K i ys D → ys.length = i)
    (hc : ∀ c, cellsFrom c scope.names cl = (x, c) :: cl) (hp : ∀ h : Heap, pushCells h scope.names = h.push { cls := .type "cell", data := .cell none }) (hkind : scope.kind = .function) (hx : (relabel scope env).names.lookup x = some .cell) :
    wpAny (model PG w) A (pyIter (.ref a)) (fun it s₂ => wpAny (model PG w) A (newList []) (fun acc s₃ => wpAny (model PG w) A (newFunctionEnv scope env.globals cl [] env.qual none .none (some env)) (fun cenv s₄ =>
      codeAny (model PG w) A (.compStart (.ListComp elt [⟨.Name x px, iter, [], 0⟩] scope pos) 0 it acc { cenv with scope := relabel scope env }) (RR acc cenv.locals) s₄) E s₃) E s₂) E s := by
  obtain ⟨vs, n, hm, hd⟩ := id hl
  have hm' := hs _ hm
  have hls : s.heap.IsList a vs.toArray := ⟨_, (N _ hm').1, rfl, n, rfl⟩
  have hlt : a < s.heap.objs.size := Heap.lt_size (N _ hm').1
  refine wpAny_pyIter_list hls ?_
  have up : ∀ b o, s.heap.get? b = some o → (s.heap.push { cls := .type "list_iterator", data := .fields #[.ref a, .int 0 0] }).get? b = some o := fun b o e => Heap.get?_push_of_some _ e
  have W := Walks.list (prog := PG) (w := w) hh s.heap.objs.size a (Nat.ne_of_lt hlt) vs.toArray
  have hIn := next_is_new F
  have hIL : s.heap.objs.size ≠ L := Ne.symm (Nat.ne_of_lt F.ns.lt)
  have lt : ∀ p ∈ D, p.1 < s.heap.objs.size := fun p hp => Heap.lt_size (N p hp).1
  have F1 := F.keeps up
  have N1 : News h₀ L (s.heap.push { cls := .type "list_iterator", data := .fields #[.ref a, .int 0 0] }) D := N.grown up
  have hI1 : (s.heap.push { cls := .type "list_iterator", data := .fields #[.ref a, .int 0 0] }).get? s.heap.objs.size = some { cls := .type "list_iterator", data := .fields #[.ref a, .int 0 0] } := Heap.get?_push_size _ rfl
  have hsz1 : (s.heap.push { cls := .type "list_iterator", data := .fields #[.ref a, .int 0 0] }).objs.size = s.heap.objs.size + 1 := Heap.size_push ..
  have hls1 := hls.push { cls := .type "list_iterator", data := .fields #[.ref a, .int 0 0] }
  generalize hI0 : s.heap.objs.size = I at *
  generalize (s.heap.push { cls := .type "list_iterator", data := .fields #[.ref a, .int 0 0] }) = H1 at *
  refine wpAny_newObj_type ?_
  refine newEnv_cell hc hp ?_
  dsimp only
  have F2 := F1.push ({ cls := .type "list", dict := none, data := .seq ([] : List Value).toArray } : Obj)
  have N2 := News.push F1 N1 (listOf ([] : List Value).toArray 0) rfl
  have F3 := Fr.push F2 ({ cls := .type "dict", data := .dict #[] } : Obj)
  have N3 := News.push F2 N2 ({ cls := .type "dict", data := .dict #[] } : Obj) rfl
  have F4 := Fr.push F3 ({ cls := .type "cell", data := .cell none } : Obj)
  have N4 := News.push F3 N3 ({ cls := .type "cell", data := .cell none } : Obj) rfl
  have e2 : (H1.push (listOf ([] : List Value).toArray 0)).objs.size = I + 1 + 1 := by rw [Heap.size_push, hsz1]
  have e3 : ((H1.push (listOf ([] : List Value).toArray 0)).push ({ cls := .type "dict", data := .dict #[] } : Obj)).objs.size = I + 1 + 1 + 1 := by rw [Heap.size_push, e2]
  have hns := (Heap.Ns.new (H1.push (listOf ([] : List Value).toArray 0)) (.type "dict"))
  obtain ⟨oC, heC, hoC⟩ := ns_obj hns
  have eC : oC = ({ cls := .type "dict", data := .dict #[] } : Obj) := by
    have := Heap.get?_push_size (H1.push (listOf ([] : List Value).toArray 0)) (o := ({ cls := .type "dict", data := .dict #[] } : Obj)) rfl
    rw [this] at heC; exact (Option.some.inj heC).symm
  subst eC
  rw [hsz1, e2, e3] at N4
  show codeAny (model PG w) A (.compStart _ 0 (.ref I) (.ref H1.objs.size) (cEnv scope ((x, (H1.push (listOf ([] : List Value).toArray 0)).objs.size + 1) :: cl) (H1.push (listOf ([] : List Value).toArray 0)).objs.size env)) (RR (.ref H1.objs.size) (H1.push (listOf ([] : List Value).toArray 0)).objs.size) { s with heap := ((H1.push (listOf ([] : List Value).toArray 0)).push ({ cls := .type "dict", data := .dict #[] } : Obj)).push { cls := .type "cell", data := .cell none } }
  rw [hsz1, e2]
  have keep4 : ∀ b o, H1.get? b = some o → (((H1.push (listOf ([] : List Value).toArray 0)).push ({ cls := .type "dict", data := .dict #[] } : Obj)).push { cls := .type "cell", data := .cell none }).get? b = some o := fun b o e => Heap.get?_push_of_some _ (Heap.get?_push_of_some _ (Heap.get?_push_of_some _ e))
  have hit1 : H1.IsListIter I a 0 := ⟨_, hI1, rfl, rfl⟩
  have st0 := W.frame 0 H1 _ ⟨hit1, hls1⟩ (fun b _ o e => keep4 b o e)
  replace F4 : Fr h₀ L (((H1.push (listOf ([] : List Value).toArray 0)).push ({ cls := .type "dict", data := .dict #[] } : Obj)).push { cls := .type "cell", data := .cell none }) m := F4
  clear F3 N3 F2 N2 e3 e2 hns heC
  generalize ((H1.push (listOf ([] : List Value).toArray 0)).push ({ cls := .type "dict", data := .dict #[] } : Obj)).push { cls := .type "cell", data := .cell none } = H4 at *
  have nat : ∀ {p q : Nat}, p < q → p ≠ q := fun h => Nat.ne_of_lt h
  have ltI : ∀ p ∈ D, @LT.lt Nat _ p.1 I := lt
  have off0 : OffX I (I + 1 + 1) (I + 1) (I + 1 + 1 + 1) D := fun p hp => by
    have := ltI p hp
    exact ⟨nat (by assumption), nat (by exact o171 this), nat (by exact o172 this), nat (by exact o173 this)⟩
  have loop : codeAny (model PG w) A (.compLoop (.ListComp elt [⟨.Name x px, iter, [], 0⟩] scope pos) 0 (.ref I) (.ref (I + 1)) (cEnv scope ((x, I + 1 + 1 + 1) :: cl) (I + 1 + 1) env)) (RR (.ref (I + 1)) (I + 1 + 1)) { s with heap := H4 } := by
    refine comp_gen (s := { s with heap := H4 }) (D := (I + 1 + 1, ({ cls := .type "dict", data := .dict #[] } : Obj)) :: (I + 1, listOf ([] : List Value).toArray 0) :: (I + 1 + 1 + 1, { cls := .type "cell", data := .cell none }) :: D) (src := [(a, listOf vs.toArray n)]) (turn1 elt x px iter [] scope pos I _ _) rfl rfl rfl W (fun i h st => by obtain ⟨o, e, _⟩ := st.1; exact ⟨o, e⟩)
      (fun i D => X7 fun oC mC ys n' oc u D' => A5 (D = (I + 1 + 1, oC) :: (I + 1, listOf ys.toArray n') :: (I + 1 + 1 + 1, oc) :: D') (NsObj oC mC) (oc.data = .cell u) (OffX I (I + 1 + 1) (I + 1) (I + 1 + 1 + 1) D') (K i ys D')) ?_ F4 (fun p hp => ?_) hIn hIL ?_ st0 ⟨_, _, [], 0, _, none, D, rfl, hoC, rfl, off0, hK⟩ ?_ ?_ (fun v => rfl)
    · rintro i _ ⟨oC, mC, ys, n', oc, u, D', rfl, _, _, _, hK⟩ p hp
      rw [List.mem_singleton.mp hp]
      exact .tail _ (.tail _ (.tail _ (hX _ _ _ hK _ hm)))
    · refine N4 p ?_
      simp only [List.mem_cons] at hp ⊢
      rcases hp with h | h | h | h <;> simp [h]
    · intro p hp
      rcases List.mem_cons.mp hp with rfl | hp
      · exact Ne.symm (nat (by omega))
      rcases List.mem_cons.mp hp with rfl | hp
      · exact Ne.symm (nat (by omega))
      rcases List.mem_cons.mp hp with rfl | hp
      · exact Ne.symm (nat (by omega))
      exact (off0 p hp).1
    · rintro i v _ oi h tk hi hP ⟨oC, mC, ys, n', oc, u, D', rfl, hC, hoc, off, hK⟩ F N offI
      have hi' : i < ds.length := by rw [← hd.length]; simpa using hi
      obtain ⟨v', hv', hD⟩ := hd.get hi'
      have : v' = v := by
        have e : vs[i]? = some v := by simpa using hP
        rw [hv'] at e; exact Option.some.inj e
      subst this
      refine wpAny_assign_Name ?_
      refine store_cs [(I, oi), (I + 1 + 1, oC), (I + 1, listOf ys.toArray n')] F N (by show List.lookup x ((x, _) :: cl) = _; simp) ?_ ?_ hoc hkind hx fun h' o' F' N' d' => ?_
      · intro p hp
        simp only [List.mem_cons, List.not_mem_nil, or_false] at hp
        rcases hp with rfl | rfl | rfl <;> exact nat (by dsimp only; (first | exact o174 | exact o175 | exact o176))
      · intro p hp; exact (off p hp).2.2.2
      refine wpAny_tests_nil ?_
      rw [if_pos rfl]
      refine emit_at (h₀ := h₀) (L := L) (ys := ys) (n' := n') (wpAny_mono (turn I oi (I + 1) (I + 1 + 1) oC (I + 1 + 1 + 1) o' lt (Nat.lt_succ_self _) (Nat.lt_succ_self _) (Nat.lt_succ_self _) i v' ys n' D' h' tk hi' hD hK F' N' d' off) (fun y s₁ h₁ => ?_) fun _ _ e => e)
      obtain ⟨h5, tk5, Z, rfl, F5, N5, offZ, hK5⟩ := h₁
      refine ⟨Z ++ [(I, oi), (I + 1 + 1, oC)], (I + 1 + 1 + 1, o') :: D', m, F5, by simpa using N5, fun p hp => ?_, fun p hp => ?_, by rw [hlen _ _ _ hK]; unfold sizeLine; omega, fun h6 F6 N6 => ?_⟩
      · rcases List.mem_append.mp hp with hp | hp
        · exact offZ p hp (I + 1, listOf ys.toArray n') (by simp)
        · simp only [List.mem_cons, List.not_mem_nil, or_false] at hp
          rcases hp with rfl | rfl
          · exact nat (by dsimp only; exact o175)
          · exact Ne.symm (nat (by dsimp only; exact o175))
      · rcases List.mem_cons.mp hp with rfl | hp
        · exact Ne.symm (nat (by dsimp only; exact o176))
        · exact (off p hp).2.2.1
      · refine ⟨h6, tk5, (I + 1 + 1, oC) :: (I + 1, listOf (ys ++ [y]).toArray (n' + 1)) :: (I + 1 + 1 + 1, o') :: (Z ++ D'), rfl, F6, fun p hp => N6 p ?_, ?_, oC, mC, ys ++ [y], n' + 1, o', some v', Z ++ D', rfl, hC, d', ?_, hK5⟩
        · simp only [List.mem_append, List.mem_cons, List.not_mem_nil, or_false] at hp ⊢
          rcases hp with h | h | h | h | h | h <;> simp [h]
        · intro p hp
          rcases List.mem_cons.mp hp with rfl | hp
          · exact Ne.symm (nat (by dsimp only; exact o176))
          rcases List.mem_cons.mp hp with rfl | hp
          · exact Ne.symm (nat (by dsimp only; exact o175))
          rcases List.mem_cons.mp hp with rfl | hp
          · exact Ne.symm (nat (by dsimp only; exact o174))
          rcases List.mem_append.mp hp with hp | hp
          · exact offZ p hp (I, oi) (by simp)
          · exact (off p hp).1
        · intro p hp
          rcases List.mem_append.mp hp with hp | hp
          · exact ⟨offZ p hp (I, oi) (by simp), offZ p hp (I + 1 + 1, oC) (by simp), offZ p hp (I + 1, listOf ys.toArray n') (by simp), offZ p hp (I + 1 + 1 + 1, o') (by simp)⟩
          · exact off p hp
    · rintro _ h tk ⟨oC, mC, ys, n', oc, u, D', rfl, hC, hoc, off, hK⟩ F N
      have e : vs.toArray.size = ds.length := by rw [List.size_toArray, hd.length]
      rw [e] at hK
      refine done (I + 1) (I + 1 + 1) (fun p hp => by have := ltI p hp; exact Nat.lt_succ_of_lt this) oC mC ys n' D' h tk hK F (fun p hp => N p ?_) hC (fun p hp => ?_) fun p hp => (off p hp).2.2.1
      · simp only [List.mem_cons] at hp ⊢
        rcases hp with h | h | h <;> simp [h]
      · rcases List.mem_cons.mp hp with rfl | hp
        · exact nat (by dsimp only; exact o175)
        · exact (off p hp).2.1
  exact codeAny_compStart_list loop (W.self 0 _ _ _ st0 loop)
end
end

section
set_option Elab.async false
set_option maxRecDepth 100000
set_option maxHeartbeats 8000000
local macro_rules | `(tactic| walk_at "PAD") => `(tactic| fail)
open LCg (NsObj ns_obj lst)
/-- what of a row stands first -/
noncomputable def wayTo (row : List Nat) (j : Nat) : List Nat := ((List.range j).filter fun k => !decide (row.getD k 0 ∈ row.take k)).map fun k => row.getD k 0
noncomputable def wayN (row : List Nat) : List Nat := wayTo row row.length
theorem pick_take (vs : List Value) (k : Nat) : kms_pick vs none (some (k : Int)) = vs.take k := by
  unfold kms_pick kms_lo kms_hi
  have e1 : ¬ ((k : Int) < 0) := by exact o89
  simp only [e1, if_false, Int.toNat_natCast, List.drop_zero, Nat.sub_zero]
  rcases Nat.le_total k vs.length with h | h
  · rw [Nat.min_eq_left h]
  · rw [Nat.min_eq_right h, List.take_of_length_le (Nat.le_refl _), List.take_of_length_le h]
theorem wayTo_succ (row : List Nat) (j : Nat) : wayTo row (j + 1) = wayTo row j ++ if (!decide (row.getD j 0 ∈ row.take j)) = true then [row.getD j 0] else [] := by
  unfold wayTo
  rw [List.range_succ, List.filter_append, List.map_append]
  congr 1
  rw [List.filter_cons]
  split <;> simp
theorem wayTo_len (row : List Nat) (j : Nat) : (wayTo row j).length ≤ j := by
  unfold wayTo
  rw [List.length_map]
  exact Nat.le_trans (List.length_filter_le _ _) (by simp)
theorem datAll_take {X : Led} : ∀ {vs : List Value} {ds : List Dat}, DatAll X vs ds → ∀ k, DatAll X (vs.take k) (ds.take k)
  | _, _, _, 0 => .nil
  | [], _, h, k + 1 => by cases h; exact .nil
  | _ :: _, _, h, k + 1 => by
    cases h with
    | cons h1 h2 => exact .cons h1 (datAll_take h2 k)
section

local macro_rules | `(tactic| walk_at "eval ListComp") => `(tactic| (k_here; refine stop_intro ?_))
local macro_rules | `(tactic| walk_at "subscriptTail Name Slice ref ref") => `(tactic| (k_here; k_dflt (refine slice_raw (by k_asm) (by k_asm) (by k_mem) (by kmk_part) (by kmk_part) (by omega) ?_ (by with_unfolding_all rfl) (by kmk_pure)); intro q' h' zs' ez' lz' F' N' lq'; (try k_lt lq')))
local macro_rules | `(tactic| walk_at "compareOp NotIn int ref") => `(tactic| (k_here; refine stop_intro ?_))
local macro_rules | `(tactic| walk_at "subscriptTail Name Name ref int") => `(tactic| (k_here; refine item_n (by k_asm) (by assumption) (by walk_at "sub") _ rfl (by walk_at "num") (by walk_at "num") ?_; intro _))
theorem law_C {w : World} {s : Shared} {h₀ : Heap} {L fa : Addr} {hm : Heap} {mg mb : Str → Option Value} {cd2 : Value} {ob : Obj} {sc : Addr} {o1 o2 o3 o4 : Obj} {Q : Flow → Shared → Prop} {E : Value → Shared → Prop} {many : Nat} {tot : Int} {tm tT : Tok} {u : Option Value} {rw : Nat} {rows : List (List Nat)} {X : Led}
    (hlk : (heapK w.params).lookup 177 = some ob)
    (B0 : Below callerA h₀ [] h₀) (XK : (heapK w.params).In h₀) (T : TopAt hm mg mb h₀)
    (F : Fr h₀ L s.heap (upds emp [(Str.ofString "x", u), (Str.ofString "many", some (.int (many : Int) tm)), (Str.ofString "total", some (.int tot tT)), (Str.ofString "script", some (.ref sc))]))
    (N : News h₀ L s.heap (lawL L o4 o3 o2 o1 ++ X)) (KD : Keys (lawL L o4 o3 o2 o1 ++ X)) (d2 : o2.data = .cell (some (.ref rw))) (hr : LD X rw (dNL rows))
    (hrl : rows.length = many) (h6 : many ≤ 6) (h65 : ∀ r ∈ rows, r.length ≤ 65)
    (k : ∀ h' tk wa X', Fr h₀ L h' (upds emp [(Str.ofString "ways", some (.ref wa)), (Str.ofString "x", u), (Str.ofString "many", some (.int (many : Int) tm)), (Str.ofString "total", some (.int tot tT)), (Str.ofString "script", some (.ref sc))]) →
      News h₀ L h' (lawL L o4 o3 o2 o1 ++ X') → Keys (lawL L o4 o3 o2 o1 ++ X') → (∀ p ∈ X, p ∈ X') → LD X' wa (dNL (rows.map wayN)) →
      wpAny (model PG w) (callerA.deeper (envOfC (fnQ ob) (fnS ob) L fa cd2)) (execs (restB 6 (fnB ob)) (envOfC (fnQ ob) (fnS ob) L fa cd2)) Q E { s with heap := h', toks := tk }) :
    wpAny (model PG w) (callerA.deeper (envOfC (fnQ ob) (fnS ob) L fa cd2)) (execs (restB 5 (fnB ob)) (envOfC (fnQ ob) (fnS ob) L fa cd2)) Q E s := by
  have X₀ := XK; have hPG : PG = Challenge.rw_dm0132_06.row.prog := rfl; revert hPG X₀; k_fill; intro X₀ hPG; clear hPG X₀
  refine' lk_use hlk ?lk ?_
  case lk => k_is
  intro e
  cases e
  clear hlk
  dsimp only [restB, fnB, fnQ, fnS] at k ⊢
  refine exec_cut (fun s' => X4 fun h' tk wa X' => A6 (s' = { s with heap := h', toks := tk }) (Fr h₀ L h' (upds emp [(Str.ofString "ways", some (.ref wa)), (Str.ofString "x", u), (Str.ofString "many", some (.int (many : Int) tm)), (Str.ofString "total", some (.int tot tT)), (Str.ofString "script", some (.ref sc))])) (News h₀ L h' (lawL L o4 o3 o2 o1 ++ X')) (Keys (lawL L o4 o3 o2 o1 ++ X')) ((∀ p ∈ X, p ∈ X')) (LD X' wa (dNL (rows.map wayN)))) ?_ (by rintro s' ⟨h', tk, wa, X', rfl, a, b, c, d, e⟩; exact k h' tk wa X' a b c d e)
  clear k
  have hu1 : ∀ env, (callerA.deeper env).units + 64 < cLine := fun env => by rw [units_deeper]; show 4 + 3 + 64 < _; decide
  (try k_unmd); k_fold
  k_steps
  unfold Stopped
  refine assign_comp (cl := []) rfl (fun _ => rfl) rfl rfl (by decide) rfl ?_
  intro Qn1 qn1
  k_steps
  have hsub : ∀ p ∈ X, p ∈ lawL L o4 o3 o2 o1 ++ X := fun p hp => List.mem_append_right _ hp
  refine comp_cellx rfl F N hr hsub (by simp; exact o90 hrl h6) (fun j ys D' => X1 fun Z => A4 (D' = Z ++ (lawL L o4 o3 o2 o1 ++ X)) (Keys (Z ++ (lawL L o4 o3 o2 o1 ++ X))) (DatAll Z ys (dNL ((rows.take j).map wayN))) (ys.length = j))
    (fun i ys D hTel p hp => by obtain ⟨Z, e, _⟩ := hTel; exact e ▸ List.mem_append_right _ (hsub p hp)) ⟨[], rfl, KD, .nil, rfl⟩ ?_ ?_ (fun i ys D hTel => by obtain ⟨Z, _, _, _, e⟩ := hTel; exact e) (fun c => rfl) (fun h => rfl) rfl rfl
  · rintro I oi acc C1 oC c oc ltI hIa haC hCc j v ys n' _ h tk hj hv ⟨Z, rfl, KZ, hys, hyl⟩ F N hoc off
    rw [List.getElem_map] at hv
    have hj' : j < rows.length := by simpa using hj
    obtain ⟨ra, rfl, hra⟩ := dat_ld hv
    have hrow65 : rows[j].length ≤ 65 := h65 _ (List.getElem_mem hj')
    generalize hrow : rows[j] = row at hra hrow65
    replace N : News h₀ L h ((I, oi) :: (C1, oC) :: (acc, listOf ys.toArray n') :: (c, oc) :: (Z ++ (lawL L o4 o3 o2 o1 ++ X))) := N
    have hsubN : ∀ p ∈ X, p ∈ (I, oi) :: (C1, oC) :: (acc, listOf ys.toArray n') :: (c, oc) :: (Z ++ (lawL L o4 o3 o2 o1 ++ X)) := fun p hp => .tail _ (.tail _ (.tail _ (.tail _ (List.mem_append_right _ (List.mem_append_right _ hp)))))
    (try k_unmd); k_fold
    k_steps
    unfold Stopped
    refine eval_comp (cl := [(Str.ofString "row", c)]) (fun _ => rfl) rfl rfl (by decide) rfl ?_
    intro Qn2 qn2
    k_steps
    rename IsRange _ _ _ _ _ _ _ _ => hR
    rename_i F2 N2 _
    unfold Stopped
    (try dsimp only)
    obtain ⟨rv, rn, hrm, hrd⟩ := id hra
    have hrvl : rv.length = row.length := by rw [hrd.length, List.length_map]
    refine comp_range (n := row.length) (fun _ _ _ => turn1 _ _ _ _ _ _ _ _ _ _) rfl F2 N2 hR (small_n (Nat.le_trans hrow65 (Nat.le_of_ble_eq_true rfl))) (by rw [rangeSize_nat]; simp)
      (fun l mC2 ys2 D2 => A3 (D2 = (I, oi) :: (C1, oC) :: (acc, listOf ys.toArray n') :: (c, oc) :: (Z ++ (lawL L o4 o3 o2 o1 ++ X))) (DatAll [] ys2 (dN (wayTo row l))) (∃ u, mC2 = upds emp [(Str.ofString "k", u)]))
      ⟨rfl, .nil, none, by walk_at "maps"⟩ ?_ ?_ (by decide) rfl rfl
    · rintro I2 oi2 acc2 C2 ltI2 l t2 oC2 mC2 ys2 n2 _ h2 tk2 hl2 ⟨rfl, hys2, u2, rfl⟩ F2 N2 hC2 off2 hIa2 haC2
      simp only [Int.zero_add] at hC2
      have hsub2 : ∀ p ∈ X, p ∈ (I2, oi2) :: (C2, oC2) :: (acc2, listOf ys2.toArray n2) :: (I, oi) :: (C1, oC) :: (acc, listOf ys.toArray n') :: (c, oc) :: (Z ++ (lawL L o4 o3 o2 o1 ++ X)) := fun p hp => .tail _ (.tail _ (.tail _ (hsubN p hp)))
      have hrm2 := hsub2 _ hrm
      refine wpAny_tests_one ?_
      (try k_unmd); k_fold
      k_steps
      rename _ = kms_pick _ _ _ => ez
      rename_i t3 qs hs zs lzs F3 N3 lqs
      unfold Stopped
      (try dsimp only)
      rw [pick_take] at ez
      have hzd : DatAll X zs (dN (row.take l)) := by
        rw [ez]; show DatAll X _ (List.map _ _); rw [List.map_take]; exact datAll_take hrd l
      have N4 := News.sub N3 (l' := (I2, oi2) :: (C2, oC2) :: (acc2, listOf ys2.toArray n2) :: (I, oi) :: (C1, oC) :: (acc, listOf ys.toArray n') :: (c, oc) :: (Z ++ (lawL L o4 o3 o2 o1 ++ X))) fun p hp => .tail _ hp
      refine notin_n N3 (.head _) hzd (hu1 _) _ rfl ?_
      (try dsimp only)
      cases hqb : (!decide (row.getD l 0 ∈ row.take l))
      · (try k_unmd); (try k_fold)
        k_steps
        refine ⟨_, _, _, _, _, _, _, rfl, F3, N4, hC2, off2, rfl, ?_, _, by walk_at "maps"⟩
        rw [wayTo_succ, if_neg (by rw [hqb]; exact Bool.false_ne_true), List.append_nil]
        exact hys2
      · (try k_unmd); (try k_fold)
        k_steps
        refine emit_next (ys := ys2) (n := n2) hC2 off2 (Nat.ne_of_lt hIa2) (Nat.ne_of_lt haC2) ?_
        clear N3
        (try k_unmd); (try k_fold)
        k_steps
        refine EltEnd.mk [] F3 N4 (fun _ h => nomatch h) ?_ ⟨rfl, ?_, _, by walk_at "maps"⟩
        · have h1 := hys2.length
          rw [List.length_map] at h1
          have h3 := wayTo_len row l
          rw [sizeLine_eq]; exact o91 hl2 h1 hrow65 h3
        · rw [wayTo_succ, if_pos hqb]
          unfold dN
          rw [List.map_append]
          exact hys2.append (.one (.int _ _))
    · rintro acc2 C2 lacc2 oC2 mC2 ys2 n2 _ h2 tk2 ⟨rfl, hys2, u2, rfl⟩ F2 N2 hC2 off21 off22
      refine comp_fin F2 N2 hC2 off21 fun h' F' N' => qn2 _ _ ?_
      have hlt : ∀ p ∈ (I, oi) :: (C1, oC) :: (acc, listOf ys.toArray n') :: (c, oc) :: (Z ++ (lawL L o4 o3 o2 o1 ++ X)), p.1 ≠ acc2 := off22
      refine ⟨h', tk2, [(acc2, listOf ys2.toArray n2)], rfl, F', N', ?_, (acc2, listOf ys2.toArray n2) :: Z, rfl, ?_, ?_, ?_⟩
      · intro q hq p hp
        rw [List.mem_singleton.mp hq]
        exact Ne.symm (hlt p (List.mem_append_left (Z ++ (lawL L o4 o3 o2 o1 ++ X)) hp))
      · exact KZ.cons fun q hq => hlt q (.tail _ (.tail _ (.tail _ (.tail _ hq))))
      · have e : rows.take (j + 1) = rows.take j ++ [row] := by rw [List.take_add_one, List.getElem?_eq_getElem hj', hrow]; rfl
        rw [e, List.map_append]
        unfold dNL
        rw [List.map_append]
        refine (hys.mono fun p hp => .tail _ hp).append (.one ?_)
        exact .list (.head _) (hys2.mono fun p hp => by cases hp)
      · simp [hyl]
  · rintro acc C1 ltA oC mC ys n' _ h tk ⟨Z, rfl, KZ, hys, hyl⟩ F N hC off offA
    refine comp_fin_use F N hC off rfl rfl rfl fun h' tk' F' N' => qn1 _ _ ?_
    refine ⟨rfl, h', tk', acc, (acc, listOf ys.toArray n') :: (Z ++ X), rfl, by first | exact F' | (have := F'; exact this), News.sub N' fun p hp => ?_, ?_, fun p hp => .tail _ (List.mem_append_right _ hp), ⟨ys, n', .head _, ?_⟩⟩
    · rcases List.mem_append.mp hp with hp | hp
      · exact .tail _ (List.mem_append_right _ (List.mem_append_left _ hp))
      · rcases List.mem_cons.mp hp with rfl | hp
        · exact .head _
        · rcases List.mem_append.mp hp with hp | hp
          · exact .tail _ (List.mem_append_left _ hp)
          · exact .tail _ (List.mem_append_right _ (List.mem_append_right _ hp))
    · have K1 : Keys (((acc, listOf ys.toArray n') :: Z) ++ (lawL L o4 o3 o2 o1 ++ X)) := KZ.cons fun q hq => offA q hq
      exact K1.perm (List.perm_append_comm_assoc _ _ _)
    · have e : (rows.take (dNL rows).length) = rows := by rw [List.length_map]; exact List.take_of_length_le (Nat.le_refl _)
      rw [e] at hys
      exact hys.mono fun p hp => .tail _ (List.mem_append_left _ hp)
end
end

section
set_option Elab.async false
set_option maxRecDepth 100000
set_option maxHeartbeats 8000000
open LCg (NsObj ns_obj lst)
/-- what stands fast in the law -/
structure LawS (X : Led) (qn rw wa many : Nat) (rows : List (List Nat)) : Prop where
  nam : LD X qn ((List.range many).map nmDat)
  row : LD X rw (dNL rows)
  way : LD X wa (dNL (rows.map wayN))
  one : 1 ≤ many
  six : many ≤ 6
  len : rows.length = many
  inn : ∀ r ∈ rows, ∀ q ∈ r, q < many
  short : ∀ r ∈ rows, r.length ≤ 65
/-- the law's four cells -/
noncomputable abbrev c4 (L : Addr) (o4 o3 o2 o1 : Obj) (D : Led) : Led := (L + 1 + 1 + 1 + 1, o4) :: (L + 1 + 1 + 1, o3) :: (L + 1 + 1, o2) :: (L + 1, o1) :: D
theorem Sor.Ok.sub {w : World} {σ : Sor} {X Y : Led} (ok : σ.Ok w X) (h : (Y.map (·.1)).Sublist (X.map (·.1))) : σ.Ok w Y := by
  refine ⟨ok.dict, ?_, ok.lo, ok.good, ok.apart⟩
  have := ok.keys
  unfold Keys Sor.cells at this ⊢
  simp only [List.map_cons, List.map_append] at this ⊢
  exact this.sublist (((h.append_left _).cons_cons _).cons_cons _ |>.cons_cons _)
theorem Keys.split {pre post : Led} {c : Addr} {o : Obj} (K : Keys (pre ++ (c, o) :: post)) : (∀ p ∈ pre, p.1 ≠ c) ∧ (∀ p ∈ post, p.1 ≠ c) := by
  unfold Keys at K
  rw [List.map_append, List.map_cons] at K
  have h := List.nodup_append.mp K
  refine ⟨fun p hp => h.2.2 _ (List.mem_map_of_mem hp) _ (.head _), fun p hp e => (List.nodup_cons.mp h.2.1).1 ?_⟩
  show c ∈ _
  rw [← e]; exact List.mem_map_of_mem hp
theorem Keys.set {pre post : Led} {c : Addr} {o o' : Obj} (K : Keys (pre ++ (c, o) :: post)) : Keys (pre ++ (c, o') :: post) := by
  unfold Keys at K ⊢
  rw [List.map_append, List.map_cons] at K ⊢
  exact K
section
variable {w : World} {A : Around} {E : Value → Shared → Prop} {s : Shared} {L : Addr} {h₀ : Heap} {m : Str → Option Value} {D X : Led}
theorem store_k {c : Addr} {o : Obj} {u : Option Value} {x : Str} {v : Value} {env : Env} {Q : Unit → Shared → Prop} (pre post : Led) (F : Fr h₀ L s.heap m) (N : News h₀ L s.heap D) (K : Keys D) (e : D = pre ++ (c, o) :: post) (hc : env.cells.lookup x = some c) (hd : o.data = .cell u) (hk : env.scope.kind = .function) (hx : env.kindOf x = some .cell)
    (h : ∀ h' o', Fr h₀ L h' m → News h₀ L h' (pre ++ (c, o') :: post) → Keys (pre ++ (c, o') :: post) → o'.data = .cell (some v) → Q () { s with heap := h' }) : wpAny (model PG w) A (storeName env x v) Q E s := by
  subst e
  exact store_cs pre F N hc K.split.1 K.split.2 hd hk hx fun h' o' F' N' d' => h h' o' F' N' K.set d'
theorem updF_split {d : Addr} {o : Obj} : ∀ {pre post : Led}, (∀ p ∈ pre, p.1 ≠ d) → (∀ p ∈ post, p.1 ≠ d) → UpdF d o (pre ++ (d, o) :: post) (fun o' => pre ++ (d, o') :: post)
  | [], _, _, h => .head h
  | q :: pre, post, h1, h2 => .tail (h1 q (.head _)) (updF_split (pre := pre) (fun p hp => h1 p (.tail _ hp)) h2)
theorem set_k {d : Addr} {o : Obj} {kvs : List (Nat × Value)} {p : Nat} {key v : Value} {Q : Unit → Shared → Prop} (pre post : Led) (F : Fr h₀ L s.heap m) (N : News h₀ L s.heap D) (K : Keys D) (e : D = pre ++ (d, o) :: post) (hd : o.IsDictOf (NK6 w) kvs) (hkey : nmIs p key = true) (hz : kvs.length ≤ 1000)
    (h : ∀ h' o' tk, Fr h₀ L h' m → News h₀ L h' (pre ++ (d, o') :: post) → Keys (pre ++ (d, o') :: post) → o'.IsDictOf (NK6 w) (stored kvs p v) → Q () { s with heap := h', toks := tk }) : wpAny (model PG w) A (setItem (.ref d) key v) Q E s := by
  subst e
  exact set_d F N (updF_split K.split.1 K.split.2) hd hkey hz fun h' o' tk F' N' hd' => h h' o' tk F' N' K.set hd'
theorem item_name {a many : Nat} {k : Int} {u : Tok} {value slice : PySem.Expr} {Q : Value → Shared → Prop} (N : News h₀ L s.heap D) (hl : LD X a ((List.range many).map nmDat)) (hs : ∀ p ∈ X, p ∈ D) (j : Nat) (hk : k = (j : Int)) (h1 : j < many) (h6 : many ≤ 6)
    (h : ∀ v, nmIs j v = true → Q v s)
    (hsl : subscripted slice false (.ref a) (.int k u) = operate [.ref a, .int k u] (getItem (.ref a) (.int k u)) := by with_unfolding_all rfl) :
    wpAny (model PG w) A (subscriptTail value slice (.ref a) (.int k u)) Q E s := by
  subst hk
  refine item_ld N hl hs (by exact o28) (by simp; assumption) (by omega) (fun v hv => h v (nm_dat (by exact o137 h1 h6) (X := X) ?_)) hsl
  have e : ((List.range many).map nmDat).getD (j : Int).toNat .none = nmDat j := by simp [List.getD_eq_getElem?_getD, h1]
  rw [e] at hv; exact hv
end
end

section
set_option Elab.async false
set_option maxRecDepth 100000
set_option maxHeartbeats 8000000
open LCg (NsObj ns_obj lst)
noncomputable abbrev grL (gr : List GRow) : Led := gr.map fun r => (r.a, listOf (r.vs.map (·.2)).toArray r.n)
theorem gr_perm {ag : Addr} {og : Obj} {gr : List GRow} {r : GRow} {D : Led} : ((r.a, listOf (r.vs.map (·.2)).toArray r.n) :: (ag, og) :: (grL gr ++ D)).Perm ((ag, og) :: (grL (gr ++ [r]) ++ D)) := by
  refine (List.Perm.swap _ _ _).trans (.cons _ ?_)
  have : grL (gr ++ [r]) ++ D = grL gr ++ (r.a, listOf (r.vs.map (·.2)).toArray r.n) :: D := by simp
  rw [this]
  exact List.perm_middle.symm
theorem valueAt_absent {kvs : List (Nat × Value)} {p : Nat} (h : ∀ kv ∈ kvs, kv.1 ≠ p) : valueAt kvs p = none := by
  unfold valueAt
  rw [List.find?_eq_none.mpr fun kv hkv => by simpa using h kv hkv]; rfl
structure GrOk (gr : List GRow) : Prop where
  p : ∀ r ∈ gr, r.p < 6
  len : ∀ r ∈ gr, r.vs.length ≤ 100
  vs : ∀ r ∈ gr, ∀ q ∈ r.vs, q.1 < 6 ∧ nmIs q.1 q.2 = true
section

local macro_rules | `(tactic| walk_at "eval ListComp") => `(tactic| (k_here; refine stop_intro ?_))
local macro_rules | `(tactic| walk_at "setItem ref") => `(tactic| (k_here; refine stop_intro ?_))
local macro_rules | `(tactic| walk_at "subscriptTail Name Name ref int") => `(tactic| (k_here; refine item_name (by k_asm) (by assumption) (by walk_at "sub") _ rfl (by walk_at "num") (by walk_at "num") ?_; intro _ _))
theorem law_T1 {w : World} {s : Shared} {h₀ : Heap} {L fa : Addr} {hm : Heap} {mg mb : Str → Option Value} {cd2 : Value} {ob : Obj} {o1 o2 o3 o4 : Obj} {Q : Flow → Shared → Prop} {E : Value → Shared → Prop} {many : Nat} {tm : Tok} {qn rw wa oa : Nat} {rows : List (List Nat)} {O : List Nat} {τ X : Led} {u3 u4 u_turn u_graph u_sorter u_kept u_name u_info u_due u_wanted u_behind u_ringed u_ready u_given u_x u_total u_script : Option Value}
    (hlk : (heapK w.params).lookup 177 = some ob)
    (B0 : Below callerA h₀ [] h₀) (XK : (heapK w.params).In h₀) (T : TopAt hm mg mb h₀) (HC : CodeHd h₀ 171 169) (l9 : @LT.lt Nat _ 169 L)
    (hτ : Tab τ) (d1 : o1.data = .cell (some (.ref qn))) (d2 : o2.data = .cell (some (.ref rw))) (d3 : o3.data = .cell u3) (d4 : o4.data = .cell u4)
    (S : LawS X qn rw wa many rows) (hO : LD X oa (dN O)) (hOr : ∀ p ∈ O, p < many) (hOn : O.Nodup) (hOl : O.length = many)
    (F : Fr h₀ L s.heap (upds emp [(Str.ofString "order", some (.ref oa)), (Str.ofString "turn", u_turn), (Str.ofString "graph", u_graph), (Str.ofString "sorter", u_sorter), (Str.ofString "kept", u_kept), (Str.ofString "name", u_name), (Str.ofString "info", u_info), (Str.ofString "due", u_due), (Str.ofString "wanted", u_wanted), (Str.ofString "behind", u_behind), (Str.ofString "ringed", u_ringed), (Str.ofString "ready", u_ready), (Str.ofString "given", u_given), (Str.ofString "ways", some (.ref wa)), (Str.ofString "x", u_x), (Str.ofString "many", some (.int (many : Int) tm)), (Str.ofString "total", u_total), (Str.ofString "script", u_script)])) (N : News h₀ L s.heap (c4 L o4 o3 o2 o1 (τ ++ X))) (KD : Keys (c4 L o4 o3 o2 o1 (τ ++ X)))
    (k : ∀ h' tk o3' u3' ag ugr, ∀ gr : List GRow, ∀ og : Obj, o3'.data = .cell u3' → Fr h₀ L h' (upds emp [(Str.ofString "order", some (.ref oa)), (Str.ofString "turn", u_turn), (Str.ofString "graph", some (.ref ag)), (Str.ofString "sorter", u_sorter), (Str.ofString "kept", u_kept), (Str.ofString "name", u_name), (Str.ofString "info", u_info), (Str.ofString "due", u_due), (Str.ofString "wanted", u_wanted), (Str.ofString "behind", u_behind), (Str.ofString "ringed", u_ringed), (Str.ofString "ready", u_ready), (Str.ofString "given", u_given), (Str.ofString "ways", some (.ref wa)), (Str.ofString "x", u_x), (Str.ofString "many", some (.int (many : Int) tm)), (Str.ofString "total", u_total), (Str.ofString "script", u_script)]) → News h₀ L h' ((ag, og) :: (grL gr ++ c4 L o4 o3' o2 o1 (τ ++ X))) → Keys ((ag, og) :: (grL gr ++ c4 L o4 o3' o2 o1 (τ ++ X))) →
      GraphIn w ((ag, og) :: (grL gr ++ c4 L o4 o3' o2 o1 (τ ++ X))) ag og gr → gr.map GRow.abs = (O.map fun p => (p, rows.getD p [])) → ugr = u_graph →
      wpAny (model PG w) (callerA.deeper (envOfC (fnQ ob) (fnS ob) L fa cd2)) (execs (restB 2 (forB 7 (fnB ob))) (envOfC (fnQ ob) (fnS ob) L fa cd2)) Q E { s with heap := h', toks := tk }) :
    wpAny (model PG w) (callerA.deeper (envOfC (fnQ ob) (fnS ob) L fa cd2)) (execs (forB 7 (fnB ob)) (envOfC (fnQ ob) (fnS ob) L fa cd2)) Q E s := by
  have X₀ := XK; have hPG : PG = Challenge.rw_dm0132_06.row.prog := rfl; revert hPG X₀; k_fill; intro X₀ hPG; clear hPG X₀
  refine' lk_use hlk ?lk ?_
  case lk => k_is
  intro e
  cases e
  clear hlk
  dsimp only [restB, forB, fnB, fnQ, fnS] at k ⊢
  have hnam := S.nam
  have hrow := S.row
  have h6 := S.six
  have hrl := S.len
  refine wpAny_execs_cons ?_
  (try k_unmd); (try k_fold)
  k_steps
  rename Obj.IsDictOf (intKind PG w) _ [] => hdi
  rename_i ag h1 og lo hstr fs fi lt1 h2 F2 N2
  unfold Stopped
  have hd0 := dict_nil hdi
  clear hdi fs hstr fi
  refine for_ld (X := X) rfl F2 N2 hO (fun p hp => .tail _ (.tail _ (.tail _ (.tail _ (.tail _ (List.mem_append_right _ hp))))))
    (fun j m' D' => X5 fun og o3' u3' u_graph (gr : List GRow) => A8 (D' = (ag, og) :: (grL gr ++ c4 L o4 o3' o2 o1 (τ ++ X))) (Keys D') (o3'.data = .cell u3') (og.IsDictOf (NK6 w) (gr.map fun r => (r.p, .ref r.a))) (gr.map GRow.abs = (O.take j).map (fun p => (p, rows.getD p []))) (GrOk gr) (u_graph = some (Value.ref ag)) (m' = upds emp [(Str.ofString "order", some (.ref oa)), (Str.ofString "turn", u_turn), (Str.ofString "graph", u_graph), (Str.ofString "sorter", u_sorter), (Str.ofString "kept", u_kept), (Str.ofString "name", u_name), (Str.ofString "info", u_info), (Str.ofString "due", u_due), (Str.ofString "wanted", u_wanted), (Str.ofString "behind", u_behind), (Str.ofString "ringed", u_ringed), (Str.ofString "ready", u_ready), (Str.ofString "given", u_given), (Str.ofString "ways", some (.ref wa)), (Str.ofString "x", u_x), (Str.ofString "many", some (.int (many : Int) tm)), (Str.ofString "total", u_total), (Str.ofString "script", u_script)]))
    (fun j m D hTel p hp => by obtain ⟨og, o3', u3', ug, gr, e, _⟩ := hTel; rw [e]; exact .tail _ (List.mem_append_right _ (.tail _ (.tail _ (.tail _ (.tail _ (List.mem_append_right _ hp)))))))
    ⟨og, o3, u3, _, [], rfl, KD.cons fun q hq => (by refine Nat.ne_of_lt (allLt_mem ?_ q hq); exact lt1), d3, hd0, rfl, ⟨(fun _ h => nomatch h), (fun _ h => nomatch h), (fun _ h => nomatch h)⟩, rfl, by walk_at "maps"⟩ ?_ ?_
  · rintro I oi ltI j v _ _ h tk hj hv Rn1 nx1 rt1 ⟨og, o3', u3', ug, gr, rfl, KJ, dJ, hdJ, habs, hgr, rfl, rfl⟩ F N off
    rw [List.getElem_map] at hv
    have hj' : j < O.length := by simpa using hj
    generalize hpj : O[j] = p at hv
    obtain ⟨tv, rfl⟩ := dat_int hv
    have hp : p < many := hOr p (hpj ▸ List.getElem_mem hj')
    have hp2 : p < rows.length := by exact o73 hp hrl
    have KI : Keys ((I, oi) :: (ag, og) :: (grL gr ++ c4 L o4 o3' o2 o1 (τ ++ X))) := KJ.cons off
    refine wpAny_assign_Name (store_k ((I, oi) :: (ag, og) :: (grL gr ++ [(L + 1 + 1 + 1 + 1, o4)])) ((L + 1 + 1, o2) :: (L + 1, o1) :: (τ ++ X)) F N KI (by simp) rfl dJ rfl rfl fun h' o3n F' N' K' d3n => ?_)
    have e3 : (((I, oi) :: (ag, og) :: (grL gr ++ [(L + 1 + 1 + 1 + 1, o4)])) ++ (L + 1 + 1 + 1, o3n) :: (L + 1 + 1, o2) :: (L + 1, o1) :: (τ ++ X)) = (I, oi) :: (ag, og) :: (grL gr ++ c4 L o4 o3n o2 o1 (τ ++ X)) := by simp
    rw [e3] at N' K'
    clear F N
    have hsX : ∀ q ∈ X, q ∈ (grL gr ++ c4 L o4 o3n o2 o1 (τ ++ X)) := fun q hq => List.mem_append_right _ (.tail _ (.tail _ (.tail _ (.tail _ (List.mem_append_right _ hq)))))
    (try k_unmd); (try k_fold)
    k_steps
    unfold Stopped
    walk_at "exec Assign"
    k_steps
    unfold Stopped
    refine eval_comp (cl := [(Str.ofString "names", L + 1)]) (fun _ => rfl) rfl rfl (by decide) rfl ?_
    intro Qn1 qn1
    k_steps
    rename_i b hb
    unfold Stopped
    generalize hrw : rows.getD p [] = row at hb
    have hrow65 : row.length ≤ 65 := by rw [← hrw]; exact S.short _ (getD_mem hp2)
    have hrin : ∀ q ∈ row, q < many := by rw [← hrw]; exact S.inn _ (getD_mem hp2)
    refine comp_ld (fun _ _ _ => turn1 _ _ _ _ _ _ _ _ _ _) rfl F' N' hb (fun q hq => .tail _ (.tail _ (hsX q hq)))
      (fun l mC ys D2 => A3 (D2 = (I, oi) :: (ag, og) :: (grL gr ++ c4 L o4 o3n o2 o1 (τ ++ X))) ((∃ vs : List (Nat × Value), ys = vs.map (·.2) ∧ vs.map (·.1) = row.take l ∧ ∀ q ∈ vs, q.1 < 6 ∧ nmIs q.1 q.2 = true)) (∃ u, mC = upds emp [(Str.ofString "near", u)]))
      (fun l mC ys D2 hK q hq => by obtain ⟨rfl, _⟩ := hK; exact .tail _ (.tail _ (hsX q hq))) ⟨rfl, ⟨[], rfl, rfl, (fun _ h => nomatch h)⟩, none, by walk_at "maps"⟩ ?_ ?_ (by decide) rfl rfl
    · rintro I2 oi2 acc C1 ltI2 l v oC mC ys n' _ h2 tk2 hl hv ⟨rfl, ⟨vs, rfl, hvs1, hvs2⟩, u, rfl⟩ F2 N2 hC off2 hIa haC
      rw [List.getElem_map] at hv
      have hl' : l < row.length := by simpa using hl
      generalize hql : row[l] = q at hv
      obtain ⟨tq, rfl⟩ := dat_int hv
      have hq : q < many := hrin q (hql ▸ List.getElem_mem hl')
      refine wpAny_tests_nil ?_
      rw [if_pos rfl]
      refine emit_next (ys := vs.map (·.2)) (n := n') hC off2 (Nat.ne_of_lt hIa) (Nat.ne_of_lt haC) ?_
      (try k_unmd); k_fold
      k_steps
      rename_i vq hvq
      have hlv := congrArg List.length hvs1
      refine EltEnd.mk [] F2 N2 (fun _ h => nomatch h) ?_ ⟨rfl, ⟨vs ++ [(q, vq)], by simp, ?_, ?_⟩, _, by walk_at "maps"⟩
      · simp only [List.length_map, List.length_take] at hlv
        rw [List.length_map, sizeLine_eq]; exact o136 hlv hrow65
      · rw [List.map_append, hvs1, List.take_add_one, List.getElem?_eq_getElem hl', hql]; rfl
      · intro z hz
        rcases List.mem_append.mp hz with hz | hz
        · exact hvs2 z hz
        · rw [List.mem_singleton.mp hz]; exact ⟨by exact o137 hq h6, hvq⟩
    · rintro acc C1 ltA oC mC ys n' _ h2 tk2 ⟨rfl, ⟨vs, rfl, hvs1, hvs2⟩, u, rfl⟩ F2 N2 hC off2 offA
      refine comp_fin F2 N2 hC off2 fun h9 F9 N9 => qn1 _ _ ?_
      (try dsimp only)
      have K9 : Keys ((acc, listOf (vs.map (·.2)).toArray n') :: (I, oi) :: (ag, og) :: (grL gr ++ c4 L o4 o3n o2 o1 (τ ++ X))) := K'.cons offA
      (try k_unmd); (try k_fold)
      k_steps
      rename_i vp hvp
      unfold Stopped
      have hgl : gr.length = j := by
        have := congrArg List.length habs
        simp only [List.length_map, List.length_take] at this; exact o138 hj' this
      have hgp : gr.map (·.p) = O.take j := by
        have := congrArg (List.map (·.1)) habs
        rw [List.map_map, List.map_map] at this
        exact this.trans (List.map_id' _)
      have hnew : stored (gr.map fun r => (r.p, Value.ref r.a)) p (.ref acc) = (gr.map fun r => (r.p, Value.ref r.a)) ++ [(p, .ref acc)] := by
        refine stored_absent (valueAt_absent fun kv hkv e => ?_) _
        obtain ⟨r, hr, rfl⟩ := List.mem_map.mp hkv
        have h1 : r.p ∈ O.take j := hgp ▸ List.mem_map_of_mem hr
        have h2 : O.take (j + 1) = O.take j ++ [p] := by rw [List.take_add_one, List.getElem?_eq_getElem hj', hpj]; rfl
        have h3 : (O.take (j + 1)).Nodup := hOn.sublist (List.take_sublist _ _)
        rw [h2] at h3
        exact (List.nodup_append.mp h3).2.2 _ h1 _ (.head _) e
      refine set_k [(acc, listOf (vs.map (·.2)).toArray n'), (I, oi)] (grL gr ++ c4 L o4 o3n o2 o1 (τ ++ X)) F9 N9 K9 rfl hdJ hvp (by rw [List.length_map]; exact o139 hj' hgl hOl h6) fun h10 og' tk10 F10 N10 K10 hd10 => ?_
      rw [hnew] at hd10
      have P1 : ([(acc, listOf (vs.map (·.2)).toArray n'), (I, oi)] ++ (ag, og') :: (grL gr ++ c4 L o4 o3n o2 o1 (τ ++ X))).Perm ((I, oi) :: (ag, og') :: (grL (gr ++ [⟨p, acc, n', vs⟩]) ++ c4 L o4 o3n o2 o1 (τ ++ X))) :=
        (List.Perm.swap _ _ _).trans (.cons _ (gr_perm (r := ⟨p, acc, n', vs⟩)))
      have N11 := News.perm N10 P1
      have K11 := K10.perm P1
      refine wpAny_execs_nil ?_
      refine nx1 _ _ _ _ F10 N11 K11.off ⟨og', o3n, _, _, gr ++ [⟨p, acc, n', vs⟩], rfl, K11.tail, d3n, ?_, ?_, ⟨?_, ?_, ?_⟩, rfl, by walk_at "maps"⟩
      · rw [List.map_append]; exact hd10
      · rw [List.map_append, habs, List.take_add_one, List.getElem?_eq_getElem hj', hpj, List.map_append]
        show _ ++ [GRow.abs ⟨p, acc, n', vs⟩] = _ ++ [(p, rows.getD p [])]
        unfold GRow.abs
        have e : row.take (dN row).length = row := by rw [List.length_map]; exact List.take_of_length_le (Nat.le_refl _)
        rw [hrw]
        show _ ++ [(p, vs.map (·.1))] = _
        rw [hvs1, e]
      · intro r hr
        rcases List.mem_append.mp hr with hr | hr
        · exact hgr.p r hr
        · rw [List.mem_singleton.mp hr]; show p < 6; exact o137 hp h6
      · intro r hr
        rcases List.mem_append.mp hr with hr | hr
        · exact hgr.len r hr
        · rw [List.mem_singleton.mp hr]; show vs.length ≤ 100
          have := congrArg List.length hvs1
          simp only [List.length_map, List.length_take] at this; exact o140 this hrow65
      · intro r hr
        rcases List.mem_append.mp hr with hr | hr
        · exact hgr.vs r hr
        · rw [List.mem_singleton.mp hr]; exact hvs2
  · rintro _ _ h tk ⟨og, o3', u3', ug, gr, rfl, KJ, dJ, hdJ, habs, hgr, rfl, rfl⟩ F N
    refine k _ _ o3' u3' ag _ gr og dJ F N KJ ⟨.head _, hdJ, lo, fun r hr => ⟨.tail _ (List.mem_append_left _ (List.mem_map_of_mem (f := fun r => (r.a, listOf (r.vs.map (·.2)).toArray r.n)) hr)), hgr.p r hr, hgr.len r hr, hgr.vs r hr⟩⟩ ?_ rfl
    rw [habs]
    congr 1
    rw [List.length_map]; exact List.take_of_length_le (Nat.le_refl _)
end
end

section
set_option Elab.async false
set_option maxRecDepth 100000
set_option maxHeartbeats 8000000
open LCg (NsObj ns_obj lst)
section
variable {w : World} {A : Around} {E : Value → Shared → Prop} {s : Shared} {L : Addr} {h₀ : Heap} {m : Str → Option Value} {D X : Led}
/-- list(d.items()) -/
theorem list_items {v d : Addr} {od : Obj} {kvs : List (Nat × Value)} {Q : Value → Shared → Prop} (hh : A.handled = none) (F : Fr h₀ L s.heap m) (N : News h₀ L s.heap D) (hvw : (v, viewOf d) ∈ D) (hmd : (d, od) ∈ D) (hod : od.IsDictOf (NK6 w) kvs) (hz : kvs.length ≤ 1000)
    (h : ∀ B c h' tk (as : List Addr) (ts : List (Value × Value)), Fr h₀ L h' m → News h₀ L h' ((B, listOf (as.map Value.ref).toArray c) :: ((as.zip ts).map (fun q => (q.1, tupOf [q.2.1, q.2.2])) ++ D)) → (∀ q ∈ D, q.1 < B) → as.length = kvs.length → ts.length = kvs.length →
      (∀ (j : Nat) k x, kvs[j]? = some (k, x) → ∃ key, ts[j]? = some (key, x) ∧ nmIs k key = true) → Q (.ref B) { s with heap := h', toks := tk }) :
    wpAny (model PG w) A (call (.type "list") [.ref v]) Q E s := by
  obtain ⟨ep, hat⟩ := KdkAt.of hod
  refine kdx_call (knd := NK6 w) (kvs := kvs) (ep := ep) hh ⟨_, (N _ hvw).1, rfl, rfl⟩ (hat.dictAt (N _ hmd).1) (by rw [sizeLine_eq]; exact o5 hz) fun h' tk acc c as hk hS hl hG hacc => ?_
  have ea : acc = (as.map Value.ref).toArray := by rw [← hacc, Array.toArray_toList]
  have ex : ∀ n, n ≤ kvs.length → ∃ ts : List (Value × Value), ts.length = n ∧ (∀ (j : Nat) a, j < n → as[j]? = some a → ∃ t, ts[j]? = some t ∧ h'.get? a = some (tupOf [t.1, t.2])) ∧ (∀ (j : Nat) k x, j < n → kvs[j]? = some (k, x) → ∃ key, ts[j]? = some (key, x) ∧ nmIs k key = true) := by
    intro n
    induction n with
    | zero => intro _; exact ⟨[], rfl, fun j a hj => absurd hj (Nat.not_lt_zero _), fun j k x hj => absurd hj (Nat.not_lt_zero _)⟩
    | succ n ih =>
      intro hn
      obtain ⟨ts, hts, h1, h2⟩ := ih (by exact o18 hn)
      have hna : n < as.length := by exact o177 hl hn
      obtain ⟨key, k, x, e1, e2, e3⟩ := hG.pairs n as[n] (List.getElem?_eq_getElem hna)
      refine ⟨ts ++ [(key, x)], by simp [hts], fun j a hj ha => ?_, fun j k' x' hj hkv => ?_⟩
      · rcases Nat.lt_or_ge j n with h | h
        · obtain ⟨t, ht, hg⟩ := h1 j a h ha
          exact ⟨t, by rw [List.getElem?_append_left (by exact o73 h hts)]; exact ht, hg⟩
        · obtain rfl : j = n := by exact o178 hj h
          rw [List.getElem?_eq_getElem hna] at ha
          cases ha
          exact ⟨(key, x), by rw [← hts]; simp, e3⟩
      · rcases Nat.lt_or_ge j n with h | h
        · obtain ⟨t, ht, hg⟩ := h2 j k' x' h hkv
          exact ⟨t, by rw [List.getElem?_append_left (by exact o73 h hts)]; exact ht, hg⟩
        · obtain rfl : j = n := by exact o178 hj h
          rw [e1] at hkv
          cases hkv
          exact ⟨key, by rw [← hts]; simp, e2⟩
  obtain ⟨ts, hts, h1, h2⟩ := ex kvs.length (Nat.le_refl _)
  refine h _ c h' tk as ts (F.keeps hk) (fun q hq => ?_) (fun q hq => Heap.lt_size (N q hq).1) hl hts fun j k x hj => h2 j k x (List.getElem?_eq_some_iff.mp hj).1 hj
  rcases List.mem_cons.mp hq with rfl | hq
  · exact ⟨by rw [← ea]; exact hS, kdx_fresh F (Nat.le_refl _)⟩
  · rcases List.mem_append.mp hq with hq | hq
    · obtain ⟨z, hz, rfl⟩ := List.mem_map.mp hq
      obtain ⟨j, hj⟩ := List.mem_iff_getElem?.mp hz
      rw [List.getElem?_zip_eq_some] at hj
      have hja := (List.getElem?_eq_some_iff.mp hj.1).1
      obtain ⟨t, ht, hg⟩ := h1 j z.1 (by exact o122 hja hl) hj.1
      rw [hj.2] at ht; cases ht
      exact ⟨hg, kdx_fresh F (Nat.le_of_lt (hG.above _ (List.mem_of_getElem? hj.1)))⟩
    · exact ⟨hk _ _ (N q hq).1, (N q hq).2⟩
end
end

section
set_option Elab.async false
set_option maxRecDepth 100000
set_option maxHeartbeats 8000000
open LCg (NsObj ns_obj lst)
theorem fr_cast {h₀ h : Heap} {L : Addr} {m m' : Str → Option Value} (F : Fr h₀ L h m) (e : m = m') : Fr h₀ L h m' := e ▸ F
theorem not_dec_self {p : Prop} {i : Decidable p} (h : p) : (!@decide p i) = false := by rw [@decide_eq_true p i h]; rfl
theorem kqd_nm {p : Nat} (n : Nat) (hp : p < 6) : kqdOk (n + 1) (nmDat p) = true := by
  match p, hp with
  | 0, _ => rfl
  | 1, _ => show PyData.strOk _ = true; decide +kernel
  | 2, _ => rfl
  | 3, _ => show PyData.strOk _ = true; decide +kernel
  | 4, _ => rfl
  | 5, _ => show PyData.strOk _ = true; decide +kernel
theorem kqd_row {p : Nat} {row : List Nat} (hp : p < 6) (hr : ∀ q ∈ row, q < 6) : kqdOk 8 (Dat.tuple [nmDat p, .list (row.map nmDat)]) = true := by
  have h1 := kqd_nm 6 hp
  have h2 : ∀ q ∈ row, kqdOk 6 (nmDat q) = true := fun q hq => kqd_nm 5 (hr q hq)
  simp only [kqdOk, List.all_cons, List.all_nil, Bool.and_true, Bool.and_eq_true, List.all_map, List.all_eq_true]
  exact ⟨h1, fun q hq => h2 q hq⟩
theorem dat_vs {X : Led} : ∀ {vs : List (Nat × Value)}, (∀ q ∈ vs, nmIs q.1 q.2 = true) → DatAll X (vs.map (·.2)) ((vs.map (·.1)).map nmDat)
  | [], _ => .nil
  | q :: vs, h => .cons (dat_nm (h q (.head _))) (dat_vs fun z hz => h z (.tail _ hz))
theorem graph_dat {gr : List GRow} {O : List Nat} {rows : List (List Nat)} {as : List Addr} {ts : List (Value × Value)} {Y : Led} (hga : gr.map GRow.abs = (O.map fun p => (p, rows.getD p []))) (has : as.length = gr.length) (hts : ts.length = gr.length)
    (hkt : ∀ (j : Nat) k x, (gr.map fun r => (r.p, Value.ref r.a))[j]? = some (k, x) → ∃ key, ts[j]? = some (key, x) ∧ nmIs k key = true) (hz : ∀ q ∈ as.zip ts, (q.1, tupOf [q.2.1, q.2.2]) ∈ Y)
    (hg : ∀ r ∈ gr, (r.a, listOf (r.vs.map (·.2)).toArray r.n) ∈ Y ∧ ∀ q ∈ r.vs, nmIs q.1 q.2 = true) : DatAll Y (as.map Value.ref) (O.map fun p => Dat.tuple [nmDat p, .list ((rows.getD p []).map nmDat)]) := by
  have hOl : O.length = gr.length := by
    have := congrArg List.length hga
    simp only [List.length_map] at this; exact o141 this
  refine dat_list (by simp [has, hOl]) fun i v d h1 h2 => ?_
  have hi : i < gr.length := by
    have := (List.getElem?_eq_some_iff.mp h1).1
    rw [List.length_map] at this; exact o122 this has
  rw [List.getElem?_map, List.getElem?_eq_getElem (by (first | exact o73 hi has | exact o73 hi hOl))] at h1 h2
  obtain ⟨key, hk1, hk2⟩ := hkt i gr[i].p (.ref gr[i].a) (by rw [List.getElem?_map, List.getElem?_eq_getElem hi]; rfl)
  have e := congrArg (fun l => l[i]?) hga
  simp only [List.getElem?_map, List.getElem?_eq_getElem hi, List.getElem?_eq_getElem (show i < O.length by exact o73 hi hOl), Option.map_some] at e
  have e1 := Option.some.inj e
  have ep : gr[i].p = O[i] := congrArg Prod.fst e1
  have ev : gr[i].vs.map (·.1) = rows.getD O[i] [] := congrArg Prod.snd e1
  cases h1
  cases h2
  have hm := hg gr[i] (List.getElem_mem hi)
  have ht : ts[i]'(by exact o73 hi hts) = (key, .ref gr[i].a) := (List.getElem?_eq_some_iff.mp hk1).2
  refine .tuple (n := 0) (vs := [key, .ref gr[i].a]) ?_ (.cons (ep ▸ dat_nm hk2) (.one ?_))
  · have := hz (as[i]'(by exact o73 hi has), (key, .ref gr[i].a)) (List.mem_iff_getElem?.mpr ⟨i, by rw [List.getElem?_zip_eq_some]; exact ⟨List.getElem?_eq_getElem _, hk1⟩⟩)
    exact this
  · rw [← ev]
    exact .list hm.1 (dat_vs hm.2)
section

local macro_rules | `(tactic| walk_at "eval ListComp") => `(tactic| (k_here; refine stop_intro ?_))
local macro_rules | `(tactic| walk_at "call ref") => `(tactic| (k_here; (with_reducible show wpAny _ _ (call (Value.ref 137) [_]) _ _ _); refine stop_intro ?_))
local macro_rules | `(tactic| walk_at "call type:list") => `(tactic| (k_here; refine stop_intro ?_))
local macro_rules | `(tactic| walk_at "compareOp NotEq ref ref") => `(tactic| (k_here; refine stop_intro ?_))
local macro_rules | `(tactic| walk_at "getMethod ref") => `(tactic| (k_here; (with_reducible show wpAny _ _ (getMethod (Value.ref _) (Str.ofString "items") _) _ _ _); refine stop_intro ?_))
local macro_rules | `(tactic| walk_at "subscriptTail Name Name ref int") => `(tactic| (k_here; refine item_name (by k_asm) (by assumption) (by walk_at "sub") _ rfl (by walk_at "num") (by walk_at "num") ?_; intro _ _))
local macro_rules | `(tactic| walk_at "call builtin:dict.items") => `(tactic| (k_here; refine items_at (by k_asm) (by k_asm) (by k_mem) (by assumption) (by assumption) ?_; intro vw' h' F' N' lv'))
theorem law_T2 {w : World} {s : Shared} {h₀ : Heap} {L fa : Addr} {hm : Heap} {mg mb : Str → Option Value} {cd2 : Value} {ob : Obj} {o1 o2 o3 o4 : Obj} {Q : Flow → Shared → Prop} {E : Value → Shared → Prop} {many : Nat} {tm : Tok} {qn rw wa oa : Nat} {rows : List (List Nat)} {O : List Nat} {τ X : Led} {u3 u4 u_turn u_graph u_sorter u_kept u_name u_info u_due u_wanted u_behind u_ringed u_ready u_given u_x u_total u_script : Option Value}
    (hlk : (heapK w.params).lookup 177 = some ob)
    (B0 : Below callerA h₀ [] h₀) (XK : (heapK w.params).In h₀) (T : TopAt hm mg mb h₀) (HC : CodeHd h₀ 171 169) (l9 : @LT.lt Nat _ 169 L)
    (hτ : Tab τ) (d1 : o1.data = .cell (some (.ref qn))) (d2 : o2.data = .cell (some (.ref rw))) (d3 : o3.data = .cell u3) (d4 : o4.data = .cell u4)
    (S : LawS X qn rw wa many rows) (hO : LD X oa (dN O)) (hOr : ∀ p ∈ O, p < many) (hOn : O.Nodup) (hOl : O.length = many) {ag : Nat} {og : Obj} {gr : List GRow}
    (F : Fr h₀ L s.heap (upds emp [(Str.ofString "order", some (.ref oa)), (Str.ofString "turn", u_turn), (Str.ofString "graph", some (.ref ag)), (Str.ofString "sorter", u_sorter), (Str.ofString "kept", u_kept), (Str.ofString "name", u_name), (Str.ofString "info", u_info), (Str.ofString "due", u_due), (Str.ofString "wanted", u_wanted), (Str.ofString "behind", u_behind), (Str.ofString "ringed", u_ringed), (Str.ofString "ready", u_ready), (Str.ofString "given", u_given), (Str.ofString "ways", some (.ref wa)), (Str.ofString "x", u_x), (Str.ofString "many", some (.int (many : Int) tm)), (Str.ofString "total", u_total), (Str.ofString "script", u_script)])) (N : News h₀ L s.heap ((ag, og) :: (grL gr ++ c4 L o4 o3 o2 o1 (τ ++ X)))) (KD : Keys ((ag, og) :: (grL gr ++ c4 L o4 o3 o2 o1 (τ ++ X))))
    (G : GraphIn w ((ag, og) :: (grL gr ++ c4 L o4 o3 o2 o1 (τ ++ X))) ag og gr) (hga : gr.map GRow.abs = (O.map fun p => (p, rows.getD p [])))
    (k : ∀ (σ : Sor) h' tk t5 t6, Fr h₀ L h' (upds emp [(Str.ofString "order", some (.ref oa)), (Str.ofString "turn", u_turn), (Str.ofString "graph", some (.ref ag)), (Str.ofString "sorter", some (.ref σ.self)), (Str.ofString "kept", u_kept), (Str.ofString "name", u_name), (Str.ofString "info", u_info), (Str.ofString "due", u_due), (Str.ofString "wanted", u_wanted), (Str.ofString "behind", u_behind), (Str.ofString "ringed", u_ringed), (Str.ofString "ready", u_ready), (Str.ofString "given", u_given), (Str.ofString "ways", some (.ref wa)), (Str.ofString "x", u_x), (Str.ofString "many", some (.int (many : Int) tm)), (Str.ofString "total", u_total), (Str.ofString "script", u_script)]) → News h₀ L h' (σ.cells w (c4 L o4 o3 o2 o1 (τ ++ X))) → σ.Ok w (c4 L o4 o3 o2 o1 (τ ++ X)) → σ.rn = .none → σ.v3 = .int 0 t5 → σ.v4 = .int 0 t6 → σ.n = 4 →
      σ.abs = initP (O.map fun p => (p, rows.getD p [])) →
      wpAny (model PG w) (callerA.deeper (envOfC (fnQ ob) (fnS ob) L fa cd2)) (execs (restB 4 (forB 7 (fnB ob))) (envOfC (fnQ ob) (fnS ob) L fa cd2)) Q E { s with heap := h', toks := tk }) :
    wpAny (model PG w) (callerA.deeper (envOfC (fnQ ob) (fnS ob) L fa cd2)) (execs (restB 2 (forB 7 (fnB ob))) (envOfC (fnQ ob) (fnS ob) L fa cd2)) Q E s := by
  have X₀ := XK; have hPG : PG = Challenge.rw_dm0132_06.row.prog := rfl; revert hPG X₀; k_fill; intro X₀ hPG; clear hPG X₀
  refine' lk_use hlk ?lk ?_
  case lk => k_is
  intro e
  cases e
  clear hlk
  dsimp only [restB, forB, fnB, fnQ, fnS] at k ⊢
  have hnam := S.nam
  have hrow := S.row
  have h6 := S.six
  have hrl := S.len
  have C0 : ∀ env : Env, env.frame = some L → env.scope.kind = .function → Cx w (callerA.deeper env) h₀ L := fun env h1 h2 => ⟨⟨callerA, h₀, [], env, hm, mg, mb, B0, rfl, h1, h2, T, XK, T, fun b hb => (nomatch hb)⟩, XK, rfl⟩
  have hroom : ∀ env, (callerA.deeper env).depth + 60 < recursionLimit := fun env => by rw [depth_deeper]; decide
  have hgl : gr.length = many := by
    have := congrArg List.length hga
    simp only [List.length_map] at this; exact o100 this hOl
  refine wpAny_execs_cons ?_
  (try k_unmd); (try k_fold)
  k_steps
  unfold Stopped
  refine new_sorter (C0 _ rfl rfl) F N G (by exact o135 hgl h6) KD (hroom _) fun σ h5 tk5 t5 t6 F5 N5 ok5 rn5 v35 v45 n5 abs5 => ?_
  clear N F
  (try k_unmd); (try k_fold)
  k_steps
  rename_i h66 F6 N6
  unfold Stopped
  obtain ⟨SC, hSC⟩ : ∃ SC, SC = σ.cells w ((ag, og) :: (grL gr ++ c4 L o4 o3 o2 o1 (τ ++ X))) := ⟨_, rfl⟩
  rw [← hSC] at N6
  have hDS : ∀ p ∈ (ag, og) :: (grL gr ++ c4 L o4 o3 o2 o1 (τ ++ X)), p ∈ SC := fun p hp => by rw [hSC]; exact .tail _ (.tail _ (.tail _ (List.mem_append_right _ hp)))
  have mgd : (ag, og) ∈ SC := hDS _ (.head _)
  have m1 : (L + 1, o1) ∈ SC := hDS _ (.tail _ (List.mem_append_right _ (.tail _ (.tail _ (.tail _ (.head _))))))
  have m2 : (L + 1 + 1, o2) ∈ SC := hDS _ (.tail _ (List.mem_append_right _ (.tail _ (.tail _ (.head _)))))
  have hXS : ∀ p ∈ X, p ∈ SC := fun p hp => hDS p (.tail _ (List.mem_append_right _ (.tail _ (.tail _ (.tail _ (.tail _ (List.mem_append_right _ hp)))))))
  have hdG := G.dict
  have hlG := G.lo
  refine kob_method PySem.F.slot_dict_items PySem.F.type_dict_items N6 mgd hdG ?_
  k_steps
  rename_i vw h7 F7 N7 lv7
  unfold Stopped
  refine list_items rfl F7 N7 (.head _) (.tail _ mgd) hdG (by rw [List.length_map]; exact o90 hgl h6) fun B c h8 tk8 as ts F8 N8 lt8 has hts hkt => ?_
  (try dsimp only)
  clear F7 N7
  have hXB : ∀ p ∈ X, p ∈ (as.zip ts).map (fun q => (q.1, tupOf [q.2.1, q.2.2])) ++ (vw, viewOf ag) :: SC := fun p hp => List.mem_append_right _ (.tail _ (hXS p hp))
  (try k_unmd); (try k_fold)
  k_steps
  unfold Stopped
  refine eval_comp (cl := _) (fun _ => rfl) rfl rfl (by decide) rfl ?_
  intro Qn1 qn1
  k_steps
  unfold Stopped
  refine comp_ld (X := X) (fun _ _ _ => turn1 _ _ _ _ _ _ _ _ _ _) rfl F8 N8 hO (fun p hp => .tail _ (hXB p hp)) (fun j mC ys D' => X1 fun Z => A4 (D' = Z ++ (B, listOf (as.map Value.ref).toArray c) :: ((as.zip ts).map (fun q => (q.1, tupOf [q.2.1, q.2.2])) ++ (vw, viewOf ag) :: SC)) (DatAll Z ys ((O.take j).map fun p => Dat.tuple [nmDat p, .list ((rows.getD p []).map nmDat)])) (ys.length = j) (∃ u, mC = upds emp [(Str.ofString "place", u)]))
    (fun i mC ys D hTel p hp => by obtain ⟨Z, e, _⟩ := hTel; exact e ▸ List.mem_append_right _ (.tail _ (hXB p hp))) ⟨[], rfl, .nil, rfl, none, by walk_at "maps"⟩ ?_ ?_ (by decide) rfl rfl
  · rintro I oi acc C1 ltI j v oC mC ys n' _ h tk hj hv ⟨Z, rfl, hys, hyl, u, rfl⟩ F N hC off hIa haC
    rw [List.getElem_map] at hv
    have hj' : j < O.length := by simpa using hj
    generalize hpj : O[j] = p at hv
    obtain ⟨tv, rfl⟩ := dat_int hv
    have hp : p < many := hOr p (hpj ▸ List.getElem_mem hj')
    have hp2 : p < rows.length := by exact o73 hp hrl
    have hXZ : ∀ p ∈ X, p ∈ Z ++ (B, listOf (as.map Value.ref).toArray c) :: ((as.zip ts).map (fun q => (q.1, tupOf [q.2.1, q.2.2])) ++ (vw, viewOf ag) :: SC) := fun p hp => List.mem_append_right _ (.tail _ (hXB p hp))
    refine wpAny_tests_nil ?_
    rw [if_pos rfl]
    refine emit_next (ys := ys) (n := n') hC off (Nat.ne_of_lt hIa) (Nat.ne_of_lt haC) ?_
    (try k_unmd); (try k_fold)
    k_steps
    rename_i vp hvp
    unfold Stopped
    refine eval_comp (cl := _) (fun _ => rfl) rfl rfl (by decide) rfl ?_
    intro Qn2 qn2
    k_steps
    rename_i b hb
    unfold Stopped
    generalize hrw : rows.getD p [] = row at hb
    have hrow65 : row.length ≤ 65 := by rw [← hrw]; exact S.short _ (getD_mem hp2)
    have hrin : ∀ q ∈ row, q < many := by rw [← hrw]; exact S.inn _ (getD_mem hp2)
    refine comp_ld (fun _ _ _ => turn1 _ _ _ _ _ _ _ _ _ _) rfl F N hb (fun q hq => .tail _ (.tail _ (.tail _ (hXZ q hq))))
      (fun l mC2 ys2 D2 => A3 (D2 = (I, oi) :: (C1, oC) :: (acc, listOf ys.toArray n') :: (Z ++ (B, listOf (as.map Value.ref).toArray c) :: ((as.zip ts).map (fun q => (q.1, tupOf [q.2.1, q.2.2])) ++ (vw, viewOf ag) :: SC))) (DatAll [] ys2 ((row.take l).map nmDat)) (∃ u, mC2 = upds emp [(Str.ofString "near", u)]))
      (fun l mC2 ys2 D2 hK q hq => by obtain ⟨rfl, _⟩ := hK; exact .tail _ (.tail _ (.tail _ (hXZ q hq)))) ⟨rfl, .nil, none, by walk_at "maps"⟩ ?_ ?_ (by decide) rfl rfl
    · rintro I2 oi2 acc2 C2 ltI2 l v2 oC2 mC2 ys2 n2 _ h2 tk2 hl2 hv2 ⟨rfl, hys2, u2, rfl⟩ F2 N2 hC2 off2 hIa2 haC2
      rw [List.getElem_map] at hv2
      have hl2' : l < row.length := by simpa using hl2
      generalize hql : row[l] = q at hv2
      obtain ⟨tq, rfl⟩ := dat_int hv2
      have hq : q < many := hrin q (hql ▸ List.getElem_mem hl2')
      refine wpAny_tests_nil ?_
      rw [if_pos rfl]
      refine emit_next (ys := ys2) (n := n2) hC2 off2 (Nat.ne_of_lt hIa2) (Nat.ne_of_lt haC2) ?_
      (try k_unmd); (try k_fold)
      k_steps
      rename_i vq hvq
      refine EltEnd.mk [] F2 N2 (fun _ h => nomatch h) ?_ ⟨rfl, ?_, _, by walk_at "maps"⟩
      · have h1 := hys2.length
        rw [List.length_map, List.length_take] at h1
        rw [sizeLine_eq]; exact o136 h1 hrow65
      · rw [List.take_add_one, List.getElem?_eq_getElem hl2', hql, List.map_append]
        exact hys2.append (.one (dat_nm hvq))
    · rintro acc2 C2 lacc2 oC2 mC2 ys2 n2 _ h2 tk2 ⟨rfl, hys2, u2, rfl⟩ F2 N2 hC2 off21 off22
      refine comp_fin F2 N2 hC2 off21 fun h3 F3 N3 => qn2 _ _ ?_
      (try dsimp only)
      (try k_unmd); (try k_fold)
      k_steps
      rename_i T1 h4 F4 N4 lt4
      have hoff22 : ∀ q ∈ (I, oi) :: (C1, oC) :: (acc, listOf ys.toArray n') :: (Z ++ (B, listOf (as.map Value.ref).toArray c) :: ((as.zip ts).map (fun q => (q.1, tupOf [q.2.1, q.2.2])) ++ (vw, viewOf ag) :: SC)), q.1 ≠ acc2 := off22
      refine EltEnd.mk [(T1, tupOf [vp, .ref acc2]), (acc2, listOf ys2.toArray n2)] F4 N4 ?_ ?_ ⟨(T1, tupOf [vp, .ref acc2]) :: (acc2, listOf ys2.toArray n2) :: Z, rfl, ?_, ?_, _, by walk_at "maps"⟩
      · intro q hq
        rcases List.mem_cons.mp hq with rfl | hq
        · exact ⟨neN (by dsimp only; exact o64 lt4.2.1), neN (by dsimp only; exact o64 lt4.2.2.1), neN (by dsimp only; exact o64 lt4.2.2.2.1)⟩
        · rw [List.mem_singleton.mp hq]
          exact ⟨Ne.symm (hoff22 _ (.head _)), Ne.symm (hoff22 _ (.tail _ (.head _))), Ne.symm (hoff22 _ (.tail _ (.tail _ (.head _))))⟩
      · rw [hyl, sizeLine_eq]; exact o142 hj' hOl h6
      · rw [List.take_add_one, List.getElem?_eq_getElem hj', hpj, List.map_append]
        refine (hys.mono fun q hq => .tail _ (.tail _ hq)).append (.one ?_)
        show DatIn _ _ (Dat.tuple [nmDat p, Dat.list (List.map nmDat (rows.getD p []))])
        rw [hrw]
        have e : row.take (dN row).length = row := by rw [List.length_map]; exact List.take_of_length_le (Nat.le_refl _)
        rw [e] at hys2
        exact .tuple (n := 0) (.head _) (.cons (dat_nm hvp) (.one (.list (.tail _ (.head _)) (hys2.mono fun q hq => by cases hq))))
      · simp [hyl]
  · rintro acc C1 ltA oC mC ys n' _ h tk ⟨Z, rfl, hys, hyl, u, rfl⟩ F N hC off offA
    refine comp_fin F N hC off fun h9 F9 N9 => qn1 _ _ ?_
    (try dsimp only)
    (try k_unmd); (try k_fold)
    k_steps
    unfold Stopped
    (try dsimp only)
    have hDL : DatAll ((as.zip ts).map (fun q => (q.1, tupOf [q.2.1, q.2.2])) ++ (vw, viewOf ag) :: SC) (as.map Value.ref) (O.map fun p => Dat.tuple [nmDat p, .list ((rows.getD p []).map nmDat)]) :=
      graph_dat hga (by rw [has, List.length_map]) (by rw [hts, List.length_map]) hkt (fun q hq => List.mem_append_left _ (List.mem_map_of_mem (f := fun q => (q.1, tupOf [q.2.1, q.2.2])) hq))
        fun r hr => ⟨List.mem_append_right _ (.tail _ (hDS _ (G.rows r hr).mem)), fun q hq => ((G.rows r hr).vs q hq).2⟩
    have eO : O.take (dN O).length = O := by rw [List.length_map]; exact List.take_of_length_le (Nat.le_refl _)
    rw [eO] at hys
    have hkq : ∀ d ∈ (O.map fun p => Dat.tuple [nmDat p, .list ((rows.getD p []).map nmDat)]), kqdOk 8 d = true := fun d hd => by
      obtain ⟨p, hp, rfl⟩ := List.mem_map.mp hd
      have := hOr p hp
      exact kqd_row (by exact o137 this h6) fun q hq => Nat.lt_of_lt_of_le (S.inn _ (getD_mem (by exact o73 this hrl)) q hq) h6
    refine kqd_ne N9 (.tail _ (List.mem_append_right _ (.head _))) rfl rfl hDL (fun q hq => .tail _ (List.mem_append_right _ (.tail _ hq))) (.head _) rfl rfl hys (fun q hq => .tail _ (List.mem_append_left _ hq)) hkq hkq (by rw [units_deeper]; show 4 + 3 + 64 < _; decide) ?_
    rw [not_dec_self rfl]
    refine wpAny_truthy_bool ?_
    simp only [Bool.false_eq_true, if_false]
    refine wpAny_execs_nil ?_
    refine k σ _ _ t5 t6 (fr_cast F9 (by walk_at "maps")) (News.sub N9 fun p hp => ?_) (ok5.sub ?_) rn5 v35 v45 n5 (by rw [abs5, hga])
    · refine .tail _ (List.mem_append_right _ (.tail _ (List.mem_append_right _ (.tail _ ?_))))
      rw [hSC]
      rcases List.mem_cons.mp hp with rfl | hp
      · exact .head _
      rcases List.mem_cons.mp hp with rfl | hp
      · exact .tail _ (.head _)
      rcases List.mem_cons.mp hp with rfl | hp
      · exact .tail _ (.tail _ (.head _))
      refine .tail _ (.tail _ (.tail _ ?_))
      rcases List.mem_append.mp hp with hp | hp
      · exact List.mem_append_left _ hp
      · exact List.mem_append_right _ (.tail _ (List.mem_append_right _ hp))
    · exact (List.Sublist.cons _ (List.sublist_append_right (grL gr) (c4 L o4 o3 o2 o1 (τ ++ X)))).map _
end
end

section
set_option Elab.async false
set_option maxRecDepth 100000
set_option maxHeartbeats 8000000
open LCg (NsObj ns_obj lst)
/-- what the law keeps of a record -/
noncomputable def keptD (i : Nat × Int × List Nat) : Dat := .list [nmDat i.1, nmDat i.1, .int i.2.1, .list (i.2.2.map nmDat)]
section
variable {w : World} {A : Around} {E : Value → Shared → Prop} {s : Shared} {L : Addr} {h₀ : Heap} {m : Str → Option Value} {D X : Led}
theorem append_k {a : Addr} {vs : List Value} {n : Nat} {v : Value} {Q : Value → Shared → Prop} (pre post : Led) (F : Fr h₀ L s.heap m) (N : News h₀ L s.heap D) (K : Keys D) (e : D = pre ++ (a, listOf vs.toArray n) :: post) (hz : vs.length ≤ 1000)
    (h : ∀ h', Fr h₀ L h' m → News h₀ L h' (pre ++ (a, listOf (vs ++ [v]).toArray (n + 1)) :: post) → Keys (pre ++ (a, listOf (vs ++ [v]).toArray (n + 1)) :: post) → Q .none { s with heap := h' }) : wpAny (model PG w) A (call (.builtin "list.append") [.ref a, v]) Q E s := by
  subst e
  have hm := N (a, listOf vs.toArray n) (List.mem_append_right _ (.head _))
  refine append_at (hsz := by simp; unfold sizeLine; omega) hm.1 fun h₅ hs₅ hD₅ => h h₅ (F.change hs₅ hm.2.1 hm.2.2) ?_ K.set
  exact N.setIn K.split.1 K.split.2 hs₅ (o' := listOf (vs ++ [v]).toArray (n + 1)) (hD₅.trans (by simp))
end
section

local macro_rules | `(tactic| walk_at "getMethod ref") => `(tactic| (k_here; (with_reducible show wpAny _ _ (getMethod (Value.ref _) (Str.ofString "items") _) _ _ _); refine kob_method PySem.F.slot_dict_items PySem.F.type_dict_items (by k_asm) (by k_mem) (by assumption) ?_))
local macro_rules | `(tactic| walk_at "call builtin:dict.items") => `(tactic| (k_here; refine items_at (by k_asm) (by k_asm) (by k_mem) (by assumption) (by assumption) ?_; intro vw' h' F' N' lv'))
local macro_rules | `(tactic| walk_at "call builtin:list.append") => `(tactic| (k_here; refine stop_intro ?_))
local macro_rules | `(tactic| walk_at "exec For Tuple Call cons nil") => `(tactic| (k_here; k_dflt (refine wpAny_For ?_)))
theorem law_T3 {w : World} {s : Shared} {h₀ : Heap} {L fa : Addr} {hm : Heap} {mg mb : Str → Option Value} {cd2 : Value} {ob : Obj} {o1 o2 o3 o4 : Obj} {Q : Flow → Shared → Prop} {E : Value → Shared → Prop} {many : Nat} {tm : Tok} {qn rw wa oa : Nat} {rows : List (List Nat)} {O : List Nat} {τ X : Led} {u3 u4 u_turn u_graph u_sorter u_kept u_name u_info u_due u_wanted u_behind u_ringed u_ready u_given u_x u_total u_script : Option Value}
    (hlk : (heapK w.params).lookup 177 = some ob)
    (B0 : Below callerA h₀ [] h₀) (XK : (heapK w.params).In h₀) (T : TopAt hm mg mb h₀) (HC : CodeHd h₀ 171 169) (l9 : @LT.lt Nat _ 169 L)
    (hτ : Tab τ) (d1 : o1.data = .cell (some (.ref qn))) (d2 : o2.data = .cell (some (.ref rw))) (d3 : o3.data = .cell u3) (d4 : o4.data = .cell u4)
    (S : LawS X qn rw wa many rows) (hO : LD X oa (dN O)) (hOr : ∀ p ∈ O, p < many) (hOn : O.Nodup) (hOl : O.length = many) {σ : Sor} {Y : Led}
    (F : Fr h₀ L s.heap (upds emp [(Str.ofString "order", some (.ref oa)), (Str.ofString "turn", u_turn), (Str.ofString "graph", u_graph), (Str.ofString "sorter", some (.ref σ.self)), (Str.ofString "kept", u_kept), (Str.ofString "name", u_name), (Str.ofString "info", u_info), (Str.ofString "due", u_due), (Str.ofString "wanted", u_wanted), (Str.ofString "behind", u_behind), (Str.ofString "ringed", u_ringed), (Str.ofString "ready", u_ready), (Str.ofString "given", u_given), (Str.ofString "ways", some (.ref wa)), (Str.ofString "x", u_x), (Str.ofString "many", some (.int (many : Int) tm)), (Str.ofString "total", u_total), (Str.ofString "script", u_script)])) (N : News h₀ L s.heap (σ.cells w Y)) (ok : σ.Ok w Y) (hn4 : σ.n = 4)
    (k : ∀ h' tk kp vs n Z u_name u_info, Fr h₀ L h' (upds emp [(Str.ofString "order", some (.ref oa)), (Str.ofString "turn", u_turn), (Str.ofString "graph", u_graph), (Str.ofString "sorter", some (.ref σ.self)), (Str.ofString "kept", some (.ref kp)), (Str.ofString "name", u_name), (Str.ofString "info", u_info), (Str.ofString "due", u_due), (Str.ofString "wanted", u_wanted), (Str.ofString "behind", u_behind), (Str.ofString "ringed", u_ringed), (Str.ofString "ready", u_ready), (Str.ofString "given", u_given), (Str.ofString "ways", some (.ref wa)), (Str.ofString "x", u_x), (Str.ofString "many", some (.int (many : Int) tm)), (Str.ofString "total", u_total), (Str.ofString "script", u_script)]) → News h₀ L h' ((kp, listOf vs.toArray n) :: (Z ++ σ.cells w Y)) → Keys ((kp, listOf vs.toArray n) :: (Z ++ σ.cells w Y)) → DatAll (Z ++ infosL σ.infos) vs (σ.abs.map keptD) →
      wpAny (model PG w) (callerA.deeper (envOfC (fnQ ob) (fnS ob) L fa cd2)) (execs (restB 6 (forB 7 (fnB ob))) (envOfC (fnQ ob) (fnS ob) L fa cd2)) Q E { s with heap := h', toks := tk }) :
    wpAny (model PG w) (callerA.deeper (envOfC (fnQ ob) (fnS ob) L fa cd2)) (execs (restB 4 (forB 7 (fnB ob))) (envOfC (fnQ ob) (fnS ob) L fa cd2)) Q E s := by
  have X₀ := XK; have hPG : PG = Challenge.rw_dm0132_06.row.prog := rfl; revert hPG X₀; k_fill; intro X₀ hPG; clear hPG X₀
  refine' lk_use hlk ?lk ?_
  case lk => k_is
  intro e
  cases e
  clear hlk
  dsimp only [restB, forB, fnB, fnQ, fnS] at k ⊢
  have hnam := S.nam
  have hrow := S.row
  have h6 := S.six
  have hrl := S.len
  obtain ⟨self, dx, n2i, nn, t1, t2, t3, t4, rn, v3, v4, o, infos⟩ := σ
  dsimp only at hn4
  subst hn4
  have N1 := N
  have hdict := ok.dict
  have hlo := ok.lo
  dsimp only at hdict hlo
  unfold Sor.cells at N1
  dsimp only at N1 F
  clear N
  refine wpAny_execs_cons ?_
  (try k_unmd); (try k_fold)
  k_steps
  rename_i kp hA ltk hB FB NB vw h2 F2 N2 lv
  unfold Stopped
  obtain ⟨SC, hSC⟩ : ∃ SC, SC = Sor.cells w ⟨self, dx, n2i, 4, t1, t2, t3, t4, rn, v3, v4, o, infos⟩ Y := ⟨_, rfl⟩
  have hKS : Keys SC := by rw [hSC]; exact ok.keys
  replace N2 : News h₀ L h2 ((vw, viewOf n2i) :: (kp, listOf ([] : List Value).toArray 0) :: SC) := by rw [hSC]; exact N2
  replace lv : ∀ p ∈ (kp, listOf ([] : List Value).toArray 0) :: SC, p.1 < vw := by rw [hSC]; exact lv
  have ltK : ∀ p ∈ SC, p.1 < kp := fun p hp => by rw [hSC] at hp; refine allLt_mem ?_ p hp; exact ltk
  have K2 : Keys ((kp, listOf ([] : List Value).toArray 0) :: ([] ++ (vw, viewOf n2i) :: SC)) := (((hKS.cons fun q hq => Nat.ne_of_lt (ltK q hq)) : Keys ((kp, listOf ([] : List Value).toArray 0) :: SC)).cons (fun q hq => Nat.ne_of_lt (lv q hq)) |>.perm (List.Perm.swap _ _ _))
  have mn : (n2i, o) ∈ SC := by rw [hSC]; exact .tail _ (.tail _ (.head _))
  have hinfm : ∀ i ∈ infos, (i.x, infoObj i.dx i.nd i.np i.t i.sl) ∈ SC ∧ (i.dx, dictOf [] 0) ∈ SC ∧ (i.sl, listOf (i.succ.map (·.2)).toArray i.ep) ∈ SC ∧ (i.sl, listOf (i.succ.map (·.2)).toArray i.ep) ∈ infosL infos := fun i hi => by
    rw [hSC]
    have h1 : ∀ q ∈ i.cells, q ∈ infosL infos := fun q hq => List.mem_flatMap.mpr ⟨i, hi, hq⟩
    exact ⟨.tail _ (.tail _ (.tail _ (List.mem_append_left _ (h1 _ (.head _))))), .tail _ (.tail _ (.tail _ (List.mem_append_left _ (h1 _ (.tail _ (.head _)))))), .tail _ (.tail _ (.tail _ (List.mem_append_left _ (h1 _ (.tail _ (.tail _ (.head _))))))), h1 _ (.tail _ (.tail _ (.head _)))⟩
  have hgood := ok.good
  dsimp only at hgood
  have hshort := ok.short
  dsimp only at hshort
  replace N2 := News.perm N2 (List.Perm.swap _ _ _)
  refine for_items rfl F2 N2 (.tail _ (.head _)) (.tail _ (.tail _ mn)) hdict
    (fun j m' D' => X5 fun vs n Z u_name u_info => A5 (D' = (kp, listOf vs.toArray n) :: (Z ++ (vw, viewOf n2i) :: SC)) (Keys D') (DatAll (Z ++ infosL infos) vs ((infos.take j).map fun i => keptD i.abs)) (vs.length = j) (m' = upds emp [(Str.ofString "order", some (.ref oa)), (Str.ofString "turn", u_turn), (Str.ofString "graph", u_graph), (Str.ofString "sorter", some (.ref self)), (Str.ofString "kept", some (.ref kp)), (Str.ofString "name", u_name), (Str.ofString "info", u_info), (Str.ofString "due", u_due), (Str.ofString "wanted", u_wanted), (Str.ofString "behind", u_behind), (Str.ofString "ringed", u_ringed), (Str.ofString "ready", u_ready), (Str.ofString "given", u_given), (Str.ofString "ways", some (.ref wa)), (Str.ofString "x", u_x), (Str.ofString "many", some (.int (many : Int) tm)), (Str.ofString "total", u_total), (Str.ofString "script", u_script)]))
    (fun j m D hTel => by obtain ⟨vs, n, Z, _, _, e, _⟩ := hTel; rw [e]; exact .tail _ (List.mem_append_right _ (.tail _ mn)))
    ⟨[], 0, [], _, _, rfl, K2, .nil, rfl, by walk_at "maps"⟩ ?_ ?_
  · rintro I oi ltI j kk v key _ _ h tk hkv hkey Rn1 nx1 rt1 ⟨vs, n, Z, un, ui, rfl, KJ, hvs, hvl, rfl⟩ F N off
    obtain ⟨inf, hinf, hk, hv⟩ : ∃ inf, infos[j]? = some inf ∧ inf.p = kk ∧ v = .ref inf.x := by
      rw [List.getElem?_map] at hkv
      cases hq : infos[j]? with
      | none => rw [hq] at hkv; cases hkv
      | some inf => rw [hq] at hkv; have := Prod.mk.inj (Option.some.inj hkv); exact ⟨inf, rfl, this.1, this.2.symm⟩
    subst hv
    subst hk
    obtain ⟨mi, md, ml, ml2⟩ := hinfm inf (List.mem_of_getElem? hinf)
    have KI : Keys ((I, oi) :: (kp, listOf vs.toArray n) :: (Z ++ (vw, viewOf n2i) :: SC)) := KJ.cons off
    have N3 : News h₀ L h ((inf.x, infoObj inf.dx inf.nd inf.np inf.t inf.sl) :: (inf.dx, dictOf [] 0) :: (inf.sl, listOf (inf.succ.map (·.2)).toArray inf.ep) :: (I, oi) :: (kp, listOf vs.toArray n) :: (Z ++ (vw, viewOf n2i) :: SC)) := fun p hp => by
      have hin : ∀ q ∈ SC, q ∈ (I, oi) :: (kp, listOf vs.toArray n) :: (Z ++ (vw, viewOf n2i) :: SC) := fun q hq => .tail _ (.tail _ (List.mem_append_right _ (.tail _ hq)))
      rcases List.mem_cons.mp hp with rfl | hp
      · exact N _ (hin _ mi)
      rcases List.mem_cons.mp hp with rfl | hp
      · exact N _ (hin _ md)
      rcases List.mem_cons.mp hp with rfl | hp
      · exact N _ (hin _ ml)
      exact N p hp
    clear N
    have hgi := hgood inf (List.mem_of_getElem? hinf)
    have hnd : (∃ n t, inf.nd = .int n t) ∨ ∃ x t, inf.nd = .str x t := by
      obtain ⟨k', _, h2⟩ := nmIs_key hgi.nd
      rcases NK.is_shape h2 with ⟨n, t, _, e⟩ | ⟨x, t, _, e⟩
      · exact .inl ⟨n, t, e⟩
      · exact .inr ⟨x, t, e⟩
    rcases hnd with ⟨nn, tt, hnd⟩ | ⟨nn, tt, hnd⟩
    all_goals (
      rw [hnd] at N3
      (try k_unmd); (try k_fold)
      k_steps
      rename_i lk h5 F5 N5 lt5
      unfold Stopped
      (try dsimp only)
      rw [← hnd] at N5
      have N6 : News h₀ L h5 ((lk, listOf [key, inf.nd, .int inf.np inf.t, .ref inf.sl].toArray 0) :: (I, oi) :: (kp, listOf vs.toArray n) :: (Z ++ (vw, viewOf n2i) :: SC)) := News.sub N5 fun p hp => by
        rcases List.mem_cons.mp hp with rfl | hp
        · rw [hnd]; exact .head _
        · exact .tail _ (.tail _ (.tail _ (.tail _ hp)))
      have K6 : Keys ((lk, listOf [key, inf.nd, .int inf.np inf.t, .ref inf.sl].toArray 0) :: (I, oi) :: (kp, listOf vs.toArray n) :: (Z ++ (vw, viewOf n2i) :: SC)) := KI.cons fun q hq => by
        refine Nat.ne_of_lt (allLt_mem ?_ q hq); exact lt5.2.2.2
      have hjl := (List.getElem?_eq_some_iff.mp hinf).1
      refine append_k [(lk, listOf [key, inf.nd, .int inf.np inf.t, .ref inf.sl].toArray 0), (I, oi)] (Z ++ (vw, viewOf n2i) :: SC) F5 N6 K6 rfl (by exact o143 hjl hvl hshort) fun h7 F7 N7 K7 => ?_
      have P1 : ([(lk, listOf [key, inf.nd, .int inf.np inf.t, .ref inf.sl].toArray 0), (I, oi)] ++ (kp, listOf (vs ++ [Value.ref lk]).toArray (n + 1)) :: (Z ++ (vw, viewOf n2i) :: SC)).Perm ((I, oi) :: (kp, listOf (vs ++ [Value.ref lk]).toArray (n + 1)) :: (((lk, listOf [key, inf.nd, .int inf.np inf.t, .ref inf.sl].toArray 0) :: Z) ++ (vw, viewOf n2i) :: SC)) :=
        (List.Perm.swap _ _ _).trans (.cons _ (List.Perm.swap _ _ _))
      have N8 := News.perm N7 P1
      have K8 := K7.perm P1
      refine wpAny_execs_nil ?_
      refine nx1 _ _ _ _ F7 N8 K8.off ⟨_, _, _, _, _, rfl, K8.tail, ?_, by simp [hvl], by walk_at "maps"⟩
      rw [List.take_add_one, hinf, List.map_append]
      refine (hvs.mono fun q hq => List.mem_append.mpr ((List.mem_append.mp hq).imp (fun h => .tail _ h) id)).append (.one ?_)
      refine .list (.head _) (.cons (dat_nm hkey) (.cons (dat_nm hgi.nd) (.cons (.int _ _) (.one (.list (n := inf.ep) (List.mem_append_right _ ml2) ?_)))))
      exact dat_vs fun q hq => (hgi.succ q hq).2)
  · rintro _ _ h tk ⟨vs, n, Z, un, ui, rfl, KJ, hvs, hvl, rfl⟩ F N
    have e : (infos.take (infos.map Info.kv).length) = infos := by rw [List.length_map]; exact List.take_of_length_le (Nat.le_refl _)
    rw [e] at hvs
    refine k _ _ kp vs n Z _ _ F (News.sub N fun p hp => ?_) ?_ (by show DatAll _ _ (List.map _ (List.map _ _)); rw [List.map_map]; exact hvs)
    · rw [← hSC] at hp
      rcases List.mem_cons.mp hp with rfl | hp
      · exact .head _
      · refine .tail _ ?_
        rcases List.mem_append.mp hp with hp | hp
        · exact List.mem_append_left _ hp
        · exact List.mem_append_right _ (.tail _ hp)
    · rw [← hSC]
      unfold Keys at KJ ⊢
      exact KJ.sublist (List.Sublist.map _ (.cons_cons _ ((List.Sublist.refl Z).append (List.sublist_cons_self _ SC))))
end
end

section
set_option Elab.async false
set_option maxRecDepth 100000
set_option maxHeartbeats 8000000
open LCg (NsObj ns_obj lst)
theorem nodup_len : ∀ (n : Nat) (l : List Nat), l.Nodup → (∀ x ∈ l, x < n) → l.length ≤ n
  | 0, [], _, _ => Nat.le_refl _
  | 0, x :: _, _, h => absurd (h x (.head _)) (Nat.not_lt_zero _)
  | n + 1, l, hn, h => by
    by_cases c : n ∈ l
    · have h1 := nodup_len n (l.erase n) (hn.erase n) fun x hx => by
        have h2 := (List.Nodup.mem_erase_iff hn).mp hx
        have h3 := h x h2.2
        have h4 : x ≠ n := h2.1
        exact o50 h3 h4
      rw [List.length_erase_of_mem c] at h1
      exact o144 h1
    · have h1 := nodup_len n l hn fun x hx => by
        have h3 := h x hx
        have h4 : x ≠ n := fun e => c (e ▸ hx)
        exact o50 h3 h4
      exact o133 h1
theorem wayTo_mem {row : List Nat} {j q : Nat} (hj : j ≤ row.length) : q ∈ wayTo row j ↔ q ∈ row.take j := by
  induction j with
  | zero => simp [wayTo]
  | succ j ih =>
    have hj' : j < row.length := hj
    rw [wayTo_succ, List.take_add_one, List.getElem?_eq_getElem hj', List.mem_append, List.mem_append, ih (by exact o18 hj)]
    have e : row.getD j 0 = row[j] := by rw [List.getD_eq_getElem?_getD, List.getElem?_eq_getElem hj']; rfl
    rw [e]
    by_cases c : row[j] ∈ row.take j
    · rw [if_neg (by simp [c])]
      constructor
      · rintro (h | h)
        · exact .inl h
        · cases h
      · rintro (h | h)
        · exact .inl h
        · simp at h; subst h; exact .inl c
    · rw [if_pos (by simp [c])]; simp
theorem wayTo_nodup {row : List Nat} : ∀ {j : Nat}, j ≤ row.length → (wayTo row j).Nodup
  | 0, _ => by simp [wayTo]
  | j + 1, hj => by
    rw [wayTo_succ]
    split
    · next c =>
      refine List.nodup_append.mpr ⟨wayTo_nodup (by exact o18 hj), by simp, fun a ha b hb e => ?_⟩
      simp at hb
      subst hb
      subst e
      rw [wayTo_mem (by exact o18 hj)] at ha
      simp [ha] at c
    · rw [List.append_nil]; exact wayTo_nodup (by exact o18 hj)
theorem wayN_mem {row : List Nat} {q : Nat} : q ∈ wayN row ↔ q ∈ row := by
  unfold wayN; rw [wayTo_mem (Nat.le_refl _), List.take_of_length_le (Nat.le_refl _)]
theorem wayN_nodup (row : List Nat) : (wayN row).Nodup := wayTo_nodup (Nat.le_refl _)
theorem ways_ok {many : Nat} {rows : List (List Nat)} (h6 : many ≤ 6) (hl : rows.length = many) (hin : ∀ r ∈ rows, ∀ q ∈ r, q < many) : Ways (rows.map wayN) where
  few := by rw [List.length_map]; exact o135 hl h6
  short := fun r hr => by
    obtain ⟨r0, h0, rfl⟩ := List.mem_map.mp hr
    exact nodup_len 6 _ (wayN_nodup _) fun x hx => Nat.lt_of_lt_of_le (hin r0 h0 x (wayN_mem.mp hx)) h6
  inn := fun r hr q hq => by
    obtain ⟨r0, h0, rfl⟩ := List.mem_map.mp hr
    rw [List.length_map, hl]; exact hin r0 h0 q (wayN_mem.mp hq)
theorem store_l {w : World} {A : Around} {E : Value → Shared → Prop} {s : Shared} {L : Addr} {h₀ : Heap} {m : Str → Option Value} {D : Led} {Q : Unit → Shared → Prop} {x : Str} {v : Value} {env : Env} (F : Fr h₀ L s.heap m) (N : News h₀ L s.heap D) (hL : env.locals = L) (hk : env.scope.kind = .function) (hx : env.kindOf x = some .local)
    (h : ∀ h' tk, Fr h₀ L h' (fun y => if y = x then some v else m y) → News h₀ L h' D → Q () { s with heap := h', toks := tk }) : wpAny (model PG w) A (storeName env x v) Q E s := by
  subst hL
  exact wpAny_storeName_local hx F.ns (fun h' hn hs => h h' _ (F.set hn hs) (N.set hs)) (by rw [hk]; rfl)
noncomputable def dueN (rows : List (List Nat)) (many ti : Nat) : List Nat := if ti + 1 < many then leastN (rows.map wayN) ti else nearN (rows.map wayN)
section

local macro_rules | `(tactic| walk_at "call ref") => `(tactic| (k_here; refine stop_intro ?_))
theorem law_T4 {w : World} {s : Shared} {h₀ : Heap} {L fa : Addr} {hm : Heap} {mg mb : Str → Option Value} {cd2 : Value} {ob : Obj} {o1 o2 o3 o4 : Obj} {Q : Flow → Shared → Prop} {E : Value → Shared → Prop} {many : Nat} {tm : Tok} {qn rw wa oa : Nat} {rows : List (List Nat)} {O : List Nat} {τ X : Led} {u3 u4 u_turn u_graph u_sorter u_kept u_name u_info u_due u_wanted u_behind u_ringed u_ready u_given u_x u_total u_script : Option Value}
    (hlk : (heapK w.params).lookup 177 = some ob)
    (B0 : Below callerA h₀ [] h₀) (XK : (heapK w.params).In h₀) (T : TopAt hm mg mb h₀) (HC : CodeHd h₀ 171 169) (l9 : @LT.lt Nat _ 169 L)
    (hτ : Tab τ) (d1 : o1.data = .cell (some (.ref qn))) (d2 : o2.data = .cell (some (.ref rw))) (d3 : o3.data = .cell u3) (d4 : o4.data = .cell u4)
    (S : LawS X qn rw wa many rows) (hO : LD X oa (dN O)) (hOr : ∀ p ∈ O, p < many) (hOn : O.Nodup) (hOl : O.length = many) {D : Led} {ti : Nat} {tti : Tok} (hti : ti ≤ 5) (hsD : ∀ p ∈ X, p ∈ D)
    (F : Fr h₀ L s.heap (upds emp [(Str.ofString "order", some (.ref oa)), (Str.ofString "turn", some (.int (ti : Int) tti)), (Str.ofString "graph", u_graph), (Str.ofString "sorter", u_sorter), (Str.ofString "kept", u_kept), (Str.ofString "name", u_name), (Str.ofString "info", u_info), (Str.ofString "due", u_due), (Str.ofString "wanted", u_wanted), (Str.ofString "behind", u_behind), (Str.ofString "ringed", u_ringed), (Str.ofString "ready", u_ready), (Str.ofString "given", u_given), (Str.ofString "ways", some (.ref wa)), (Str.ofString "x", u_x), (Str.ofString "many", some (.int (many : Int) tm)), (Str.ofString "total", u_total), (Str.ofString "script", u_script)])) (N : News h₀ L s.heap D)
    (k : ∀ h' tk ad vs n, Fr h₀ L h' (upds emp [(Str.ofString "order", some (.ref oa)), (Str.ofString "turn", some (.int (ti : Int) tti)), (Str.ofString "graph", u_graph), (Str.ofString "sorter", u_sorter), (Str.ofString "kept", u_kept), (Str.ofString "name", u_name), (Str.ofString "info", u_info), (Str.ofString "due", some (.ref ad)), (Str.ofString "wanted", u_wanted), (Str.ofString "behind", u_behind), (Str.ofString "ringed", u_ringed), (Str.ofString "ready", u_ready), (Str.ofString "given", u_given), (Str.ofString "ways", some (.ref wa)), (Str.ofString "x", u_x), (Str.ofString "many", some (.int (many : Int) tm)), (Str.ofString "total", u_total), (Str.ofString "script", u_script)]) → News h₀ L h' ((ad, listOf vs.toArray n) :: D) → (∀ p ∈ D, p.1 < ad) → DatAll [] vs (dN (dueN rows many ti)) →
      wpAny (model PG w) (callerA.deeper (envOfC (fnQ ob) (fnS ob) L fa cd2)) (execs (restB 7 (forB 7 (fnB ob))) (envOfC (fnQ ob) (fnS ob) L fa cd2)) Q E { s with heap := h', toks := tk }) :
    wpAny (model PG w) (callerA.deeper (envOfC (fnQ ob) (fnS ob) L fa cd2)) (execs (restB 6 (forB 7 (fnB ob))) (envOfC (fnQ ob) (fnS ob) L fa cd2)) Q E s := by
  have X₀ := XK; have hPG : PG = Challenge.rw_dm0132_06.row.prog := rfl; revert hPG X₀; k_fill; intro X₀ hPG; clear hPG X₀
  refine' lk_use hlk ?lk ?_
  case lk => k_is
  intro e
  cases e
  clear hlk
  dsimp only [restB, forB, fnB, fnQ, fnS] at k ⊢
  have hnam := S.nam
  have hrow := S.row
  have hway := S.way
  have h6 := S.six
  have hrl := S.len
  have W := ways_ok S.six S.len S.inn
  have hwl : (rows.map wayN).length = many := by rw [List.length_map]; exact hrl
  have C0 : ∀ env : Env, env.frame = some L → env.scope.kind = .function → Cx w (callerA.deeper env) h₀ L := fun env h1 h2 => ⟨⟨callerA, h₀, [], env, hm, mg, mb, B0, rfl, h1, h2, T, XK, T, fun b hb => (nomatch hb)⟩, XK, rfl⟩
  have hroom : ∀ env, (callerA.deeper env).depth + 60 < recursionLimit := fun env => by rw [depth_deeper]; decide
  have hun : ∀ env, (callerA.deeper env).units + 100 < cLine := fun env => by rw [units_deeper]; show 4 + 3 + 100 < _; decide
  refine wpAny_execs_cons ?_
  (try k_unmd); (try k_fold)
  k_steps
  · rename_i hlt
    unfold Stopped
    (try dsimp only)
    refine wpAny_call (least_spec (C0 _ rfl rfl) F N hway hsD W (by have := hroom (envOfC (Str.ofString "") default L fa cd2); rw [depth_deeper] at this ⊢; exact o145 this) (hun _) (fun q hq => words_few (by exact o146 hwl h6) (by exact o147 hq hti)) (by exact o148 hti) fun h5 tk5 ad vs n F5 N5 lt5 hv5 => ?_)
    refine store_l F5 N5 rfl rfl rfl fun h7 tk7 F7 N7 => ?_
    refine wpAny_execs_nil ?_
    refine k _ _ ad vs n (fr_cast F7 (by walk_at "maps")) N7 lt5 ?_
    unfold dueN; rw [if_pos (by exact o149 hlt)]; exact hv5
  · rename_i hlt
    unfold Stopped
    (try dsimp only)
    refine wpAny_call (near_spec (C0 _ rfl rfl) F N hway hsD W (by have := hroom (envOfC (Str.ofString "") default L fa cd2); rw [depth_deeper] at this ⊢; exact o145 this) (hun _) fun h5 tk5 ad vs n F5 N5 lt5 hv5 => ?_)
    refine store_l F5 N5 rfl rfl rfl fun h7 tk7 F7 N7 => ?_
    refine wpAny_execs_nil ?_
    refine k _ _ ad vs n (fr_cast F7 (by walk_at "maps")) N7 lt5 ?_
    unfold dueN; rw [if_neg (by exact o150 hlt)]; exact hv5
end
end

section
set_option Elab.async false
set_option maxRecDepth 100000
set_option maxHeartbeats 8000000
open LCg (NsObj ns_obj lst)
section
variable {w : World} {A : Around} {E : Value → Shared → Prop} {s : Shared} {L : Addr} {h₀ : Heap} {m : Str → Option Value} {D X : Led}
/-- the inner loop of a block, over a list of data -/
theorem inner_ld {R : Result → Shared → Prop} {elt : PySem.Expr} {g : Comprehension} {iter : PySem.Expr} {x : Str} {px : Pos} {ifs : List PySem.Expr} {scope : Scope} {pos : Pos} {cenv : Env} {a I₀ C acc : Addr} {ds : List Dat} {oi₀ oC : Obj} {mC : Str → Option Value} {ys : List Value} {n' : Nat}
    (hh : A.handled = none) (F : Fr h₀ L s.heap m) (N : News h₀ L s.heap ((I₀, oi₀) :: (C, oC) :: (acc, listOf ys.toArray n') :: D)) (hC : NsObj oC mC) (off : Off3 I₀ C acc D) (hIa : I₀ < acc) (haC : acc < C)
    (hl : LD X a ds) (hs : ∀ p ∈ X, p ∈ D)
    (K : Nat → (Str → Option Value) → List Value → Led → Prop) (hXK : ∀ i mC ys D, K i mC ys D → ∀ p ∈ X, p ∈ D) (hK : K 0 mC ys D)
    (turn : ∀ I oi i v oC mC ys n' D h tk, (hi : i < ds.length) → DatIn X v ds[i] → K i mC ys D → Fr h₀ L h m → News h₀ L h ((I, oi) :: (C, oC) :: (acc, listOf ys.toArray n') :: (I₀, oi₀) :: D) → NsObj oC (fun z => if z = x then some v else mC z) → Off3 I C acc ((I₀, oi₀) :: D) → Off3 I₀ C acc D → C < I →
      wpAny (model PG w) A (tests ifs cenv) (fun ok s₃ => if ok = true then wpAny (model PG w) A (emit elt (.ref acc) cenv) (fun _ s₄ => CompNext h₀ L m I oi C acc (fun mC ys D => X1 fun D' => A3 (D = (I₀, oi₀) :: D') (Off3 I₀ C acc D') (K (i + 1) mC ys D')) s s₄) (NB w A cenv R) s₃
        else CompNext h₀ L m I oi C acc (fun mC ys D => X1 fun D' => A3 (D = (I₀, oi₀) :: D') (Off3 I₀ C acc D') (K (i + 1) mC ys D')) s s₃) (NB w A cenv R) { s with heap := h, toks := tk })
    (done : ∀ oC mC ys n' D h tk, K ds.length mC ys D → Fr h₀ L h m → News h₀ L h ((I₀, oi₀) :: (C, oC) :: (acc, listOf ys.toArray n') :: D) → NsObj oC mC → Off3 I₀ C acc D → R (.ok .next) { s with heap := h, toks := tk })
    (hlc : cenv.locals = C) (hk : cenv.scope.kind = .function) (hx : cenv.kindOf x = some .local) :
    wpAny (model PG w) A (pyIter (.ref a)) (fun it s₂ => codeAny (model PG w) A (.compStart (.ListComp elt [g, ⟨.Name x px, iter, ifs, 0⟩] scope pos) 1 it (.ref acc) cenv) R s₂) E s := by
  obtain ⟨vs, n, hm, hd⟩ := id hl
  have hm' : (a, listOf vs.toArray n) ∈ (I₀, oi₀) :: (C, oC) :: (acc, listOf ys.toArray n') :: D := .tail _ (.tail _ (.tail _ (hs _ hm)))
  have hls : s.heap.IsList a vs.toArray := ⟨_, (N _ hm').1, rfl, n, rfl⟩
  have hlt : a < s.heap.objs.size := Heap.lt_size (N _ hm').1
  refine wpAny_pyIter_list hls ?_
  have up : ∀ b o, s.heap.get? b = some o → (s.heap.push { cls := .type "list_iterator", data := .fields #[.ref a, .int 0 0] }).get? b = some o := fun b o e => Heap.get?_push_of_some _ e
  have W := Walks.list (prog := PG) (w := w) hh s.heap.objs.size a (Nat.ne_of_lt hlt) vs.toArray
  have hIn := next_is_new F
  have hIL : s.heap.objs.size ≠ L := Ne.symm (Nat.ne_of_lt F.ns.lt)
  have hCI : C < s.heap.objs.size := Heap.lt_size (N (C, oC) (.tail _ (.head _))).1
  have lt : ∀ p ∈ (I₀, oi₀) :: D, p.1 < s.heap.objs.size := fun p hp => by
    rcases List.mem_cons.mp hp with rfl | hp
    · exact Heap.lt_size (N _ (.head _)).1
    · exact Heap.lt_size (N _ (.tail _ (.tail _ (.tail _ hp)))).1
  have offI : Off3 s.heap.objs.size C acc ((I₀, oi₀) :: D) := fun p hp => by
    refine ⟨Nat.ne_of_lt (lt p hp), ?_⟩
    rcases List.mem_cons.mp hp with rfl | hp
    · exact ⟨Nat.ne_of_lt (Nat.lt_trans hIa haC), Nat.ne_of_lt hIa⟩
    · exact (off p hp).2
  have st0 : (s.heap.push { cls := .type "list_iterator", data := .fields #[.ref a, .int 0 0] }).IsListIter s.heap.objs.size a 0 ∧ (s.heap.push { cls := .type "list_iterator", data := .fields #[.ref a, .int 0 0] }).IsList a vs.toArray := ⟨⟨_, Heap.get?_push_size _ rfl, rfl, rfl⟩, hls.push _⟩
  have loop : codeAny (model PG w) A (.compLoop (.ListComp elt [g, ⟨.Name x px, iter, ifs, 0⟩] scope pos) 1 (.ref s.heap.objs.size) (.ref acc) cenv) R { s with heap := s.heap.push { cls := .type "list_iterator", data := .fields #[.ref a, .int 0 0] } } := by
    refine comp_loop (n' := n') (ys := ys) (oC := oC) (mC := mC) (D := (I₀, oi₀) :: D) (src := [(a, listOf vs.toArray n)]) (p := iter.pos) (x := x) (px := px) (ifs := ifs) (inner := emit elt (.ref acc) cenv) rfl rfl rfl rfl W (fun i h st => by obtain ⟨o, e, _⟩ := st.1; exact ⟨o, e⟩) (fun i mC ys D => X1 fun D' => A3 (D = (I₀, oi₀) :: D') (Off3 I₀ C acc D') (K i mC ys D'))
      (fun i mC ys D hTel p hp => by obtain ⟨D', e, _, hK⟩ := hTel; rw [List.mem_singleton.mp hp, e]; exact .tail _ (hXK _ _ _ _ hK _ hm))
      (F.keeps up) (fun p hp => ?_) hIn hIL hC offI (Nat.ne_of_gt (Nat.lt_trans haC hCI)) (Nat.ne_of_gt hCI) (Nat.ne_of_lt haC) st0 ⟨D, rfl, off, hK⟩ ?_ ?_ hlc hk hx
    · have : p ∈ (I₀, oi₀) :: (C, oC) :: (acc, listOf ys.toArray n') :: D := by
        simp only [List.mem_cons] at hp ⊢; rcases hp with h | h | h | h <;> simp [h]
      exact ⟨up _ _ (N p this).1, (N p this).2⟩
    · rintro i v oi oC mC ys n' _ h tk hi hP ⟨D', rfl, off', hK⟩ F N hC offI
      have hi' : i < ds.length := by rw [← hd.length]; simpa using hi
      obtain ⟨v', hv', hD⟩ := hd.get hi'
      have : v' = v := by
        have e : vs[i]? = some v := by simpa using hP
        rw [hv'] at e; exact Option.some.inj e
      subst this
      exact turn _ oi i v' oC mC ys n' D' h tk hi' hD hK F N hC offI off' hCI
    · rintro oC mC ys n' _ h tk ⟨D', rfl, off', hK⟩ F N hC offI
      have e : vs.toArray.size = ds.length := by rw [List.size_toArray, hd.length]
      rw [e] at hK
      exact done oC mC ys n' D' h tk hK F (fun p hp => N p (by simp only [List.mem_cons] at hp ⊢; rcases hp with h | h | h | h <;> simp [h])) hC off'
  exact compStart_at rfl loop (W.self 0 _ _ _ st0 loop)
end
end

section
set_option Elab.async false
set_option maxRecDepth 100000
set_option maxHeartbeats 8000000
open LCg (NsObj ns_obj lst)
noncomputable def behindN (O : List Nat) (rows : List (List Nat)) (p : Nat) : List Nat := O.flatMap fun o => ((rows.getD o []).filter fun q => decide (q = p)).map fun _ => o
noncomputable def wantD (O : List Nat) (rows : List (List Nat)) (p : Nat) : Dat := .list [nmDat p, nmDat p, .int ((rows.getD p []).length : Int), .list ((behindN O rows p).map nmDat)]
theorem behind_mem {O : List Nat} {rows : List (List Nat)} {p o : Nat} (h : o ∈ behindN O rows p) : o ∈ O := by
  unfold behindN at h
  obtain ⟨o', ho, hm⟩ := List.mem_flatMap.mp h
  obtain ⟨_, _, e⟩ := List.mem_map.mp hm
  rw [← e]; exact ho
theorem kqd_want {O : List Nat} {rows : List (List Nat)} {p : Nat} (hp : p < 6) (hO : ∀ q ∈ O, q < 6) : kqdOk 8 (wantD O rows p) = true := by
  have h1 := kqd_nm 6 hp
  have h2 : ∀ q ∈ behindN O rows p, kqdOk 6 (nmDat q) = true := fun q hq => kqd_nm 5 (hO q (behind_mem hq))
  unfold wantD
  simp only [kqdOk, List.all_cons, List.all_nil, Bool.and_true, Bool.and_eq_true, List.all_map, List.all_eq_true, Bool.true_and]
  exact ⟨h1, h1, fun q hq => h2 q hq⟩
section

local macro_rules | `(tactic| walk_at "call builtin:list.append") => `(tactic| (k_here; refine stop_intro ?_))
local macro_rules | `(tactic| walk_at "compareOp NotEq ref ref") => `(tactic| (k_here; refine stop_intro ?_))
local macro_rules | `(tactic| walk_at "subscriptTail Name Name ref int") => `(tactic| (k_here; refine item_name (by k_asm) (by assumption) (by walk_at "sub") _ rfl (by walk_at "num") (by walk_at "num") ?_; intro _ _))
theorem law_T5 {w : World} {s : Shared} {h₀ : Heap} {L fa : Addr} {hm : Heap} {mg mb : Str → Option Value} {cd2 : Value} {ob : Obj} {o1 o2 o3 o4 : Obj} {Q : Flow → Shared → Prop} {E : Value → Shared → Prop} {many : Nat} {tm : Tok} {qn rw wa oa : Nat} {rows : List (List Nat)} {O : List Nat} {τ X : Led} {u3 u4 u_turn u_graph u_sorter u_kept u_name u_info u_due u_wanted u_behind u_ringed u_ready u_given u_x u_total u_script : Option Value}
    (hlk : (heapK w.params).lookup 177 = some ob)
    (B0 : Below callerA h₀ [] h₀) (XK : (heapK w.params).In h₀) (T : TopAt hm mg mb h₀) (HC : CodeHd h₀ 171 169) (l9 : @LT.lt Nat _ 169 L)
    (hτ : Tab τ) (d1 : o1.data = .cell (some (.ref qn))) (d2 : o2.data = .cell (some (.ref rw))) (d3 : o3.data = .cell u3) (d4 : o4.data = .cell u4)
    (S : LawS X qn rw wa many rows) (hO : LD X oa (dN O)) (hOr : ∀ p ∈ O, p < many) (hOn : O.Nodup) (hOl : O.length = many) {P PX : Led} {kp kn ad dn : Nat} {kv dv : List Value} {due : List Nat}
    (F : Fr h₀ L s.heap (upds emp [(Str.ofString "order", some (.ref oa)), (Str.ofString "turn", u_turn), (Str.ofString "graph", u_graph), (Str.ofString "sorter", u_sorter), (Str.ofString "kept", some (.ref kp)), (Str.ofString "name", u_name), (Str.ofString "info", u_info), (Str.ofString "due", some (.ref ad)), (Str.ofString "wanted", u_wanted), (Str.ofString "behind", u_behind), (Str.ofString "ringed", u_ringed), (Str.ofString "ready", u_ready), (Str.ofString "given", u_given), (Str.ofString "ways", some (.ref wa)), (Str.ofString "x", u_x), (Str.ofString "many", some (.int (many : Int) tm)), (Str.ofString "total", u_total), (Str.ofString "script", u_script)])) (N : News h₀ L s.heap (P ++ c4 L o4 o3 o2 o1 (τ ++ X))) (KP : Keys (P ++ c4 L o4 o3 o2 o1 (τ ++ X)))
    (hPX : ∀ p ∈ PX, p ∈ P) (mk : (kp, listOf kv.toArray kn) ∈ P) (hkd : DatAll PX kv (due.map (wantD O rows))) (ma : (ad, listOf dv.toArray dn) ∈ P) (hdd : DatAll [] dv (dN due)) (hdm : ∀ p ∈ due, p < many) (hdl : due.length ≤ 6)
    (k : ∀ h' tk o3' u3' u_wanted u_behind, o3'.data = .cell u3' → Fr h₀ L h' (upds emp [(Str.ofString "order", some (.ref oa)), (Str.ofString "turn", u_turn), (Str.ofString "graph", u_graph), (Str.ofString "sorter", u_sorter), (Str.ofString "kept", some (.ref kp)), (Str.ofString "name", u_name), (Str.ofString "info", u_info), (Str.ofString "due", some (.ref ad)), (Str.ofString "wanted", u_wanted), (Str.ofString "behind", u_behind), (Str.ofString "ringed", u_ringed), (Str.ofString "ready", u_ready), (Str.ofString "given", u_given), (Str.ofString "ways", some (.ref wa)), (Str.ofString "x", u_x), (Str.ofString "many", some (.int (many : Int) tm)), (Str.ofString "total", u_total), (Str.ofString "script", u_script)]) → News h₀ L h' (P ++ c4 L o4 o3' o2 o1 (τ ++ X)) → Keys (P ++ c4 L o4 o3' o2 o1 (τ ++ X)) →
      wpAny (model PG w) (callerA.deeper (envOfC (fnQ ob) (fnS ob) L fa cd2)) (execs (restB 10 (forB 7 (fnB ob))) (envOfC (fnQ ob) (fnS ob) L fa cd2)) Q E { s with heap := h', toks := tk }) :
    wpAny (model PG w) (callerA.deeper (envOfC (fnQ ob) (fnS ob) L fa cd2)) (execs (restB 7 (forB 7 (fnB ob))) (envOfC (fnQ ob) (fnS ob) L fa cd2)) Q E s := by
  have X₀ := XK; have hPG : PG = Challenge.rw_dm0132_06.row.prog := rfl; revert hPG X₀; k_fill; intro X₀ hPG; clear hPG X₀
  refine' lk_use hlk ?lk ?_
  case lk => k_is
  intro e
  cases e
  clear hlk
  dsimp only [restB, forB, fnB, fnQ, fnS] at k ⊢
  have hnam := S.nam
  have hrow := S.row
  have h6 := S.six
  have hrl := S.len
  have hu1 : ∀ env, (callerA.deeper env).units + 64 < cLine := fun env => by rw [units_deeper]; show 4 + 3 + 64 < _; decide
  refine wpAny_execs_cons ?_
  (try k_unmd); (try k_fold)
  k_steps
  rename_i wp hA ltk h2 F2 N2
  unfold Stopped
  have hLD : LD [(ad, listOf dv.toArray dn)] ad (dN due) := ⟨dv, dn, .head _, hdd.mono fun p hp => by cases hp⟩
  have ltP : ∀ p ∈ P ++ c4 L o4 o3 o2 o1 (τ ++ X), p.1 < wp := ltk
  refine for_ld (X := [(ad, listOf dv.toArray dn)]) rfl F2 N2 hLD (fun p hp => by rw [List.mem_singleton.mp hp]; exact .tail _ (List.mem_append_left _ ma))
    (fun j m' D' => X6 fun wv wn Z o3' u3' u_behind => A6 (D' = (wp, listOf wv.toArray wn) :: (Z ++ (P ++ c4 L o4 o3' o2 o1 (τ ++ X)))) (Keys D') (o3'.data = .cell u3') (DatAll Z wv ((due.take j).map (wantD O rows))) (wv.length = j) (m' = upds emp [(Str.ofString "order", some (.ref oa)), (Str.ofString "turn", u_turn), (Str.ofString "graph", u_graph), (Str.ofString "sorter", u_sorter), (Str.ofString "kept", some (.ref kp)), (Str.ofString "name", u_name), (Str.ofString "info", u_info), (Str.ofString "due", some (.ref ad)), (Str.ofString "wanted", some (.ref wp)), (Str.ofString "behind", u_behind), (Str.ofString "ringed", u_ringed), (Str.ofString "ready", u_ready), (Str.ofString "given", u_given), (Str.ofString "ways", some (.ref wa)), (Str.ofString "x", u_x), (Str.ofString "many", some (.int (many : Int) tm)), (Str.ofString "total", u_total), (Str.ofString "script", u_script)]))
    (fun j m D hTel p hp => by obtain ⟨wv, wn, Z, o3', u3', ub, e, _⟩ := hTel; rw [List.mem_singleton.mp hp, e]; exact .tail _ (List.mem_append_right _ (List.mem_append_left _ ma)))
    ⟨[], 0, [], o3, u3, _, rfl, KP.cons fun q hq => Nat.ne_of_lt (ltP q hq), d3, .nil, rfl, by walk_at "maps"⟩ ?_ ?_
  · rintro I oi ltI j v _ _ h tk hj hv Rn1 nx1 rt1 ⟨wv, wn, Z, o3', u3', ub, rfl, KJ, dJ, hwv, hwl, rfl⟩ F N off
    rw [List.getElem_map] at hv
    have hj' : j < due.length := by simpa using hj
    generalize hpj : due[j] = p at hv
    obtain ⟨tv, rfl⟩ := dat_int hv
    have hp : p < many := hdm p (hpj ▸ List.getElem_mem hj')
    have hp2 : p < rows.length := by exact o73 hp hrl
    have KI := KJ.cons (o := oi) off
    refine wpAny_assign_Name (store_k ((I, oi) :: (wp, listOf wv.toArray wn) :: (Z ++ (P ++ [(L + 1 + 1 + 1 + 1, o4)]))) ((L + 1 + 1, o2) :: (L + 1, o1) :: (τ ++ X)) F N KI (by simp) rfl dJ rfl rfl fun h' o3n F' N' K' d3n => ?_)
    have e3 : (((I, oi) :: (wp, listOf wv.toArray wn) :: (Z ++ (P ++ [(L + 1 + 1 + 1 + 1, o4)]))) ++ (L + 1 + 1 + 1, o3n) :: (L + 1 + 1, o2) :: (L + 1, o1) :: (τ ++ X)) = (I, oi) :: (wp, listOf wv.toArray wn) :: (Z ++ (P ++ c4 L o4 o3n o2 o1 (τ ++ X))) := by simp
    rw [e3] at N' K'
    clear F N
    obtain ⟨DD, hDD⟩ : ∃ DD, DD = Z ++ (P ++ c4 L o4 o3n o2 o1 (τ ++ X)) := ⟨_, rfl⟩
    rw [← hDD] at N' K'
    have hcD : ∀ q ∈ c4 L o4 o3n o2 o1 (τ ++ X), q ∈ DD := fun q hq => by rw [hDD]; exact List.mem_append_right _ (List.mem_append_right _ hq)
    have m1 : (L + 1, o1) ∈ DD := hcD _ (.tail _ (.tail _ (.tail _ (.head _))))
    have m2 : (L + 1 + 1, o2) ∈ DD := hcD _ (.tail _ (.tail _ (.head _)))
    have m3 : (L + 1 + 1 + 1, o3n) ∈ DD := hcD _ (.tail _ (.head _))
    have hsX : ∀ q ∈ X, q ∈ DD := fun q hq => hcD _ (.tail _ (.tail _ (.tail _ (.tail _ (List.mem_append_right _ hq)))))
    (try k_unmd); (try k_fold)
    k_steps
    unfold Stopped
    refine assign_comp (cl := _) rfl (fun _ => rfl) rfl rfl (by decide) rfl ?_
    intro Qn1 qn1
    k_steps
    unfold Stopped
    have hsub : ∀ q ∈ X, q ∈ (I, oi) :: (wp, listOf wv.toArray wn) :: DD := fun q hq => .tail _ (.tail _ (hsX q hq))
    refine comp_ld (X := X) (fun _ _ _ => turn0 _ _ _ _ _ _ _ _ _ _ _ _ _) rfl F' N' hO hsub
      (fun l mC ys D' => A4 (D' = (I, oi) :: (wp, listOf wv.toArray wn) :: DD) (DatAll [] ys ((behindN (O.take l) rows p).map nmDat)) (ys.length ≤ 65 * l) (∃ u1 u2, mC = upds emp [(Str.ofString "other", u1), (Str.ofString "near", u2)]))
      (fun l mC ys D' hK q hq => by obtain ⟨rfl, _⟩ := hK; exact hsub q hq) ⟨rfl, .nil, Nat.le_refl _, none, none, by walk_at "maps"⟩ ?_ ?_ (by decide) rfl rfl
    · rintro I2 oi2 acc C1 ltI2 l v oC mC ys n' _ h2 tk2 hl hv ⟨rfl, hys, hyl, u1, u2, rfl⟩ F N hC off2 hIa haC
      rw [List.getElem_map] at hv
      have hl' : l < O.length := by simpa using hl
      generalize hol : O[l] = ot at hv
      obtain ⟨to, rfl⟩ := dat_int hv
      have hot : ot < many := hOr ot (hol ▸ List.getElem_mem hl')
      have hot2 : ot < rows.length := by exact o73 hot hrl
      refine wpAny_tests_nil ?_
      rw [if_pos rfl]
      refine nest_at (fun _ => rfl) ?_
      (try k_unmd); (try k_fold)
      k_steps
      rename_i b hb
      unfold Stopped
      generalize hrw : rows.getD ot [] = row at hb
      have hrow65 : row.length ≤ 65 := by rw [← hrw]; exact S.short _ (getD_mem hot2)
      have hbt : behindN (O.take (l + 1)) rows p = behindN (O.take l) rows p ++ (row.filter fun q => decide (q = p)).map fun _ => ot := by
        unfold behindN
        rw [List.take_add_one, List.getElem?_eq_getElem hl', hol, List.flatMap_append]
        simp only [Option.toList_some, List.flatMap_cons, List.flatMap_nil, List.append_nil, hrw]
      refine inner_ld (X := X) rfl F N hC off2 hIa haC hb hsub
        (fun i mC ys D' => A4 (D' = (I, oi) :: (wp, listOf wv.toArray wn) :: DD) (DatAll [] ys ((behindN (O.take l) rows p ++ ((row.take i).filter fun q => decide (q = p)).map fun _ => ot).map nmDat)) (ys.length ≤ 65 * l + i) (∃ u2, mC = upds emp [(Str.ofString "other", some (.int (ot : Int) to)), (Str.ofString "near", u2)]))
        (fun i mC ys D' hK q hq => by obtain ⟨rfl, _⟩ := hK; exact hsub q hq) ⟨rfl, by simpa using hys, hyl, _, by walk_at "maps"⟩ ?_ ?_ rfl rfl rfl
      · rintro I3 oi3 i v3 oC mC ys n' _ h3 tk3 hi hv3 ⟨rfl, hys, hyl, u2, rfl⟩ F N hC off3 off4 hCI
        rw [List.getElem_map] at hv3
        have hi' : i < row.length := by simpa using hi
        generalize hqi : row[i] = q at hv3
        obtain ⟨tq, rfl⟩ := dat_int hv3
        have htk : row.take (i + 1) = row.take i ++ [q] := by rw [List.take_add_one, List.getElem?_eq_getElem hi', hqi]; rfl
        refine wpAny_tests_one ?_
        (try k_unmd); (try k_fold)
        k_steps
        · rename_i heq
          have hqp : q = p := by exact o132 heq
          refine emit_next (ys := ys) (n := n') hC off3 (Nat.ne_of_gt (Nat.lt_trans haC hCI)) (Nat.ne_of_lt haC) ?_
          (try k_unmd); (try k_fold)
          k_steps
          rename_i vo hvo
          refine EltEnd.mk [] F N (fun _ h => nomatch h) ?_ ⟨_, rfl, off4, rfl, ?_, ?_, _, by walk_at "maps"⟩
          · rw [sizeLine_eq]; exact o151 hl' hi' hOl hyl hrow65 h6
          · have e : (behindN (O.take l) rows p ++ ((row.take i ++ [q]).filter fun q => decide (q = p)).map fun _ => ot) = (behindN (O.take l) rows p ++ ((row.take i).filter fun q => decide (q = p)).map fun _ => ot) ++ [ot] := by
              rw [List.filter_append, List.filter_cons_of_pos (by simp [hqp]), List.filter_nil, List.map_append, List.append_assoc]; rfl
            rw [htk, e, List.map_append]
            exact hys.append (.one (dat_nm hvo))
          · rw [List.length_append]; simp; exact o152 hyl
        · rename_i hne
          have hqp : q ≠ p := fun e => hne (by rw [e])
          refine ⟨_, _, _, _, _, _, _, rfl, F, N, hC, off3, _, rfl, off4, rfl, ?_, by exact o153 hyl, _, by walk_at "maps"⟩
          rw [htk, List.filter_append, List.filter_cons_of_neg (by simp [hqp]), List.filter_nil, List.append_nil]
          exact hys
      · rintro oC mC ys n' _ h3 tk3 ⟨rfl, hys, hyl, u2, rfl⟩ F N hC off
        refine ⟨_, _, _, _, _, _, _, rfl, F, N, hC, off, rfl, ?_, ?_, _, _, by walk_at "maps"⟩
        · rw [hbt]
          have e : row.take (dN row).length = row := by rw [List.length_map]; exact List.take_of_length_le (Nat.le_refl _)
          rw [e] at hys; exact hys
        · rw [List.length_map] at hyl; exact o154 hyl hrow65
    · rintro acc C1 ltA oC mC ys n' _ h2 tk2 ⟨rfl, hys, hyl, u1, u2, rfl⟩ F N hC off2 offA
      refine comp_fin_use F N hC off2 rfl rfl rfl fun h9 tk9 F9 N9 => qn1 _ _ ?_
      have eO : O.take (dN O).length = O := by rw [List.length_map]; exact List.take_of_length_le (Nat.le_refl _)
      rw [eO] at hys
      have K9 : Keys ((acc, listOf ys.toArray n') :: (I, oi) :: (wp, listOf wv.toArray wn) :: DD) := K'.cons offA
      have hlp : (rows.getD p []).length ≤ 65 := S.short _ (getD_mem hp2)
      (try dsimp only)
      (try k_unmd); (try k_fold)
      k_steps
      rename_i va hva vb hvb b hb lk h5 F5 N5 lt5
      unfold Stopped
      (try dsimp only)
      obtain ⟨ol, hol⟩ : ∃ ol, ol = listOf [va, vb, .int ((rows.getD p []).length : Int) (tk9 + 1), .ref acc].toArray 0 := ⟨_, rfl⟩
      replace N5 : News h₀ L h5 ((lk, ol) :: (acc, listOf ys.toArray n') :: (I, oi) :: (wp, listOf wv.toArray wn) :: DD) := by rw [hol]; exact N5
      have K10 : Keys ((lk, ol) :: (acc, listOf ys.toArray n') :: (I, oi) :: (wp, listOf wv.toArray wn) :: DD) := K9.cons fun q hq => by refine Nat.ne_of_lt (allLt_mem ?_ q hq); exact lt5
      refine append_k [(lk, ol), (acc, listOf ys.toArray n'), (I, oi)] DD F5 N5 K10 rfl (by exact o143 hj' hwl hdl) fun h7 F7 N7 K7 => ?_
      have P1 : ([(lk, ol), (acc, listOf ys.toArray n'), (I, oi)] ++ (wp, listOf (wv ++ [Value.ref lk]).toArray (wn + 1)) :: DD).Perm ((I, oi) :: (wp, listOf (wv ++ [Value.ref lk]).toArray (wn + 1)) :: (lk, ol) :: (acc, listOf ys.toArray n') :: DD) :=
        (List.perm_append_comm (l₁ := [(lk, ol), (acc, listOf ys.toArray n')]) (l₂ := [(I, oi), (wp, listOf (wv ++ [Value.ref lk]).toArray (wn + 1))])).append_right DD
      have N8 := News.perm N7 P1
      have K8 := K7.perm P1
      rw [hDD] at N8 K8
      refine wpAny_execs_nil ?_
      refine nx1 _ _ _ _ F7 N8 K8.off ⟨wv ++ [Value.ref lk], wn + 1, (lk, ol) :: (acc, listOf ys.toArray n') :: Z, o3n, _, _, rfl, K8.tail, d3n, ?_, by simp [hwl], by walk_at "maps"⟩
      rw [List.take_add_one, List.getElem?_eq_getElem hj', hpj, List.map_append]
      refine (hwv.mono fun q hq => .tail _ (.tail _ hq)).append (.one ?_)
      subst hol
      exact .list (.head _) (.cons (dat_nm hva) (.cons (dat_nm hvb) (.cons (.int _ _) (.one (.list (.tail _ (.head _)) (hys.mono fun q hq => by cases hq))))))
  · rintro _ _ h tk ⟨wv, wn, Z, o3', u3', ub, rfl, KJ, dJ, hwv, hwl, rfl⟩ F N
    (try dsimp only)
    (try k_unmd); (try k_fold)
    k_steps
    unfold Stopped
    (try dsimp only)
    have eO : due.take (dN due).length = due := by rw [List.length_map]; exact List.take_of_length_le (Nat.le_refl _)
    rw [eO] at hwv
    have hkq : ∀ d ∈ due.map (wantD O rows), kqdOk 8 d = true := fun d hd => by
      obtain ⟨p, hp, rfl⟩ := List.mem_map.mp hd
      exact kqd_want (Nat.lt_of_lt_of_le (hdm p hp) h6) fun q hq => Nat.lt_of_lt_of_le (hOr q hq) h6
    refine kqd_ne N (.tail _ (List.mem_append_right _ (List.mem_append_left _ mk))) rfl rfl hkd (fun q hq => .tail _ (List.mem_append_right _ (List.mem_append_left _ (hPX q hq)))) (.head _) rfl rfl hwv (fun q hq => .tail _ (List.mem_append_left _ hq)) hkq hkq (hu1 _) ?_
    rw [not_dec_self rfl]
    refine wpAny_truthy_bool ?_
    simp only [Bool.false_eq_true, if_false]
    refine wpAny_execs_nil ?_
    refine k _ _ o3' u3' _ _ dJ F (News.sub N fun p hp => .tail _ (List.mem_append_right _ hp)) ?_
    unfold Keys at KJ ⊢
    exact KJ.sublist (List.Sublist.map _ ((List.sublist_append_right Z _).trans (List.sublist_cons_self _ _)))
end
end

section
set_option Elab.async false
set_option maxRecDepth 100000
set_option maxHeartbeats 8000000
section
variable {w : World} {A₀ : Around} {E : Value → Shared → Prop} {s' : Shared} {h₀ h : Heap} {L e t : Addr} {m : Str → Option Value} {env : Env}
  {vs : List Value} {b₀ : Stmt} {suite : List Stmt} {pos np : Pos} {rest : List ExceptHandler} {Q : Flow → Shared → Prop} {news : List (Addr × Obj)} {KF : Frag} {C : Addr} {bmB : List Value} {newId : String}
  {p : Program} {loose : List Str} {mg mb : Str → Option Value} {x : Str}
/-- an exception of a written class, raised in a called function, is caught in this frame, of whatever names -/
theorem caught_env (hf : env.frame = some L) (hg : env.globals = mainGlobals) (hk : env.scope.kind = .function) (K : Below A₀ h₀ [] h₀) (F : Fr h₀ L h m) (hsm : h.UpToSlots s'.heap) (R : RaisedK h₀ [env] e (.ref C) t vs news s'.heap)
    (X : KF.In h₀) (T : TopRead p loose mg mb h₀) (ex : nsIn KF mainGlobals x = some (some (.ref C))) (q : excIn KF C bmB newId = true) (hbase : bmB.contains (.type "BaseException") = true)
    (hx : env.kindOf x = some .globalImplicit) (hd : (x == ("__debug__" : Str)) = false)
    (k : ∀ h', Fr h₀ L h' m → News h₀ L h' news → wpAny (model PG w) ((A₀.deeper env).mark (some (.ref e))) (execs (b₀ :: suite) env) Q E { s' with heap := h' })
    (hE : PassesOwnAt (model PG w) ((A₀.deeper env).mark (some (.ref e))) (A₀.deeper env) env E) :
    wpAny (model PG w) (A₀.deeper env) (noteFrame (.ref e) env)
      (fun _ s₂ => wpAny (model PG w) (A₀.deeper env) (setFlight (.ref e) none) (fun _ s₃ =>
        wpAny (model PG w) (A₀.deeper env) (handleBy (.ref e) env (.ExceptHandler (some (.Name x np)) none (b₀ :: suite) pos :: rest)) Q E s₃) E s₂) E s' := by
  obtain ⟨⟨B, hB, hl, hfl, hnew⟩, htup⟩ := R
  have hL : B.get? L = none := by
    obtain ⟨_, ⟨L', _, hf', hn', _⟩, _⟩ := hfl.2.2.1
    rw [hf] at hf'
    obtain rfl : L = L' := Option.some.inj hf'
    exact hn'
  refine wpAny_looks_onW (Around.frames_deeper K.stack) hf hfl fun h₄ hheld₄ hsm₄ => ?_
  refine wpAny_landsW hheld₄ fun h₅ hheld hsm₅' => ?_
  have hsm₅ := hsm₄.trans hsm₅'
  have hheld' := flyingW_base hB hheld
  have F₅ := F.of_stays hheld'.1 (hsm.trans hsm₅)
  obtain ⟨ob, hob, hobc⟩ := hheld'.there
  refine wpAny_handleBy_cons (codeAny_handlers_test (nameG_K F₅ X T ex ?_ hg hk hx hd)) (by intro q; cases q)
  obtain ⟨bm, N, nm, qn, bs, hdct, sn, sub, ab, col, dd, k0, k1, k2, k3, k5, mN, hC, hN, hni, TL⟩ := ((own_of_in X T ex q).keeps F₅.keep).obj
  refine wpAny_excMatches_sub_self hC hob hobc (TL.hasType hbase) (codeAny_handlers_suite ?_)
  refine lands_againW hheld fun h₆ hfl₆ hsm₆ => ?_
  have hfl₆' := flyingW_base hB hfl₆
  have F₆ := F.of_stays hfl₆'.1 ((hsm.trans hsm₅).trans hsm₆)
  exact wpAny_passesOwnAt hE (k h₆ F₆ fun q hq => ⟨hfl₆.1 _ _ (hl q hq).1, (fun z => by have := (hl q hq).1; rw [z, hL] at this; cases this), (hl q hq).2⟩)
end
end

section
set_option Elab.async false
set_option maxRecDepth 100000
set_option maxHeartbeats 8000000
local macro_rules | `(tactic| walk_at "PAD") => `(tactic| fail)
open LCg (NsObj ns_obj lst)
noncomputable def Wrap (P : Shared → Prop) (s : Shared) : Prop := P s
section

local macro_rules | `(tactic| walk_at "exec Try") => `(tactic| (k_here; k_dflt (refine wpAny_Try_except ?_)))
local macro_rules | `(tactic| walk_at "call ref") => `(tactic| (k_here; refine stop_intro ?_))
local macro_rules | `(tactic| walk_at "execs cons") => `(tactic| (k_here; refine stop_intro ?_))
theorem law_T6 {w : World} {s : Shared} {h₀ : Heap} {L fa : Addr} {hm : Heap} {mg mb : Str → Option Value} {cd2 : Value} {ob : Obj} {o1 o2 o3 o4 : Obj} {Q : Flow → Shared → Prop} {E : Value → Shared → Prop} {many : Nat} {tm : Tok} {qn rw wa oa : Nat} {rows : List (List Nat)} {O : List Nat} {τ X : Led} {u3 u4 u_turn u_graph u_sorter u_kept u_name u_info u_due u_wanted u_behind u_ringed u_ready u_given u_x u_total u_script : Option Value}
    (hlk : (heapK w.params).lookup 177 = some ob)
    (B0 : Below callerA h₀ [] h₀) (XK : (heapK w.params).In h₀) (T : TopAt hm mg mb h₀) (HC : CodeHd h₀ 171 169) (l9 : @LT.lt Nat _ 169 L)
    (hτ : Tab τ) (d1 : o1.data = .cell (some (.ref qn))) (d2 : o2.data = .cell (some (.ref rw))) (d3 : o3.data = .cell u3) (d4 : o4.data = .cell u4)
    (S : LawS X qn rw wa many rows) (hO : LD X oa (dN O)) (hOr : ∀ p ∈ O, p < many) (hOn : O.Nodup) (hOl : O.length = many) {σ : Sor} {ad : Nat} {due : List Nat}
    (F : Fr h₀ L s.heap (upds emp [(Str.ofString "order", some (.ref oa)), (Str.ofString "turn", u_turn), (Str.ofString "graph", u_graph), (Str.ofString "sorter", some (.ref σ.self)), (Str.ofString "kept", u_kept), (Str.ofString "name", u_name), (Str.ofString "info", u_info), (Str.ofString "due", some (.ref ad)), (Str.ofString "wanted", u_wanted), (Str.ofString "behind", u_behind), (Str.ofString "ringed", u_ringed), (Str.ofString "ready", u_ready), (Str.ofString "given", u_given), (Str.ofString "ways", some (.ref wa)), (Str.ofString "x", u_x), (Str.ofString "many", some (.int (many : Int) tm)), (Str.ofString "total", u_total), (Str.ofString "script", u_script)])) (N : News h₀ L s.heap (σ.cells w (c4 L o4 o3 o2 o1 (τ ++ X)))) (ok : σ.Ok w (c4 L o4 o3 o2 o1 (τ ++ X))) (hrn : σ.rn = .none) (hn4 : σ.n = 4) (hcl : Closed σ.abs)
    (hPE : ∀ e : Addr, PassesOwnAt (model PG w) ((callerA.deeper (envOfC (fnQ ob) (fnS ob) L fa cd2)).mark (some (.ref e))) (callerA.deeper (envOfC (fnQ ob) (fnS ob) L fa cd2)) (envOfC (fnQ ob) (fnS ob) L fa cd2) E)
    (k : ∀ h' tk ar n' (rd : List (Nat × Value)) (ringed : Bool), Fr h₀ L h' (upds emp [(Str.ofString "order", some (.ref oa)), (Str.ofString "turn", u_turn), (Str.ofString "graph", u_graph), (Str.ofString "sorter", some (.ref σ.self)), (Str.ofString "kept", u_kept), (Str.ofString "name", u_name), (Str.ofString "info", u_info), (Str.ofString "due", some (.ref ad)), (Str.ofString "wanted", u_wanted), (Str.ofString "behind", u_behind), (Str.ofString "ringed", some (.bool ringed)), (Str.ofString "ready", u_ready), (Str.ofString "given", u_given), (Str.ofString "ways", some (.ref wa)), (Str.ofString "x", u_x), (Str.ofString "many", some (.int (many : Int) tm)), (Str.ofString "total", u_total), (Str.ofString "script", u_script)]) →
      News h₀ L h' (Sor.cells w { σ with rn := .ref ar } ((ar, listOf (rd.map (·.2)).toArray n') :: c4 L o4 o3 o2 o1 (τ ++ X))) → Sor.Ok w { σ with rn := .ref ar } ((ar, listOf (rd.map (·.2)).toArray n') :: c4 L o4 o3 o2 o1 (τ ++ X)) →
      rd.map (·.1) = readyP σ.abs → (∀ q ∈ rd, nmIs q.1 q.2 = true ∧ hasP σ.abs q.1 = true) →
      (ringed = false → ∃ fin : List Nat, fin.Nodup ∧ Topo (gOf σ) fin ∧ ∀ i ∈ σ.infos, i.p ∈ fin) → (ringed = true → ∃ c, Ring (gOf σ) c ∧ ∀ q ∈ c, hasP σ.abs q = true) →
      wpAny (model PG w) (callerA.deeper (envOfC (fnQ ob) (fnS ob) L fa cd2)) (execs (restB 12 (forB 7 (fnB ob))) (envOfC (fnQ ob) (fnS ob) L fa cd2)) Q E { s with heap := h', toks := tk }) :
    wpAny (model PG w) (callerA.deeper (envOfC (fnQ ob) (fnS ob) L fa cd2)) (execs (restB 10 (forB 7 (fnB ob))) (envOfC (fnQ ob) (fnS ob) L fa cd2)) Q E s := by
  have X₀ := XK; have hPG : PG = Challenge.rw_dm0132_06.row.prog := rfl; revert hPG X₀; k_fill; intro X₀ hPG; clear hPG X₀
  refine' lk_use hlk ?lk ?_
  case lk => k_is
  intro e
  cases e
  clear hlk
  dsimp only [restB, forB, fnB, fnQ, fnS] at k ⊢
  have C0 : ∀ env : Env, env.frame = some L → env.scope.kind = .function → Cx w (callerA.deeper env) h₀ L := fun env h1 h2 => ⟨⟨callerA, h₀, [], env, hm, mg, mb, B0, rfl, h1, h2, T, XK, T, fun b hb => (nomatch hb)⟩, XK, rfl⟩
  have hroom : ∀ env, (callerA.deeper env).depth + 60 < recursionLimit := fun env => by rw [depth_deeper]; decide
  obtain ⟨self, dx, n2i, nn, t1, t2, t3, t4, rn, v3, v4, o, infos⟩ := σ
  dsimp only at hn4 hrn
  subst hn4 hrn
  have N1 := N
  unfold Sor.cells at N1
  dsimp only at N1 F
  refine wpAny_execs_cons ?_
  (try k_unmd); (try k_fold)
  k_steps
  rename_i h2 F2 N2
  unfold Stopped
  replace N2 : News h₀ L h2 (Sor.cells w ⟨self, dx, n2i, 4, t1, t2, t3, t4, .none, v3, v4, o, infos⟩ (c4 L o4 o3 o2 o1 (τ ++ X))) := N2
  have F3 : Fr h₀ L h2 (upds emp [(Str.ofString "order", some (.ref oa)), (Str.ofString "turn", u_turn), (Str.ofString "graph", u_graph), (Str.ofString "sorter", some (.ref self)), (Str.ofString "kept", u_kept), (Str.ofString "name", u_name), (Str.ofString "info", u_info), (Str.ofString "due", some (.ref ad)), (Str.ofString "wanted", u_wanted), (Str.ofString "behind", u_behind), (Str.ofString "ringed", some (.bool false)), (Str.ofString "ready", u_ready), (Str.ofString "given", u_given), (Str.ofString "ways", some (.ref wa)), (Str.ofString "x", u_x), (Str.ofString "many", some (.int (many : Int) tm)), (Str.ofString "total", u_total), (Str.ofString "script", u_script)]) := fr_cast F2 (by walk_at "maps")
  clear F2
  refine exec_cut (Wrap fun s' => X6 fun h' tk ar n' (rd : List (Nat × Value)) (ringed : Bool) => A8 (s' = { s with heap := h', toks := tk }) (Fr h₀ L h' (upds emp [(Str.ofString "order", some (.ref oa)), (Str.ofString "turn", u_turn), (Str.ofString "graph", u_graph), (Str.ofString "sorter", some (.ref self)), (Str.ofString "kept", u_kept), (Str.ofString "name", u_name), (Str.ofString "info", u_info), (Str.ofString "due", some (.ref ad)), (Str.ofString "wanted", u_wanted), (Str.ofString "behind", u_behind), (Str.ofString "ringed", some (.bool ringed)), (Str.ofString "ready", u_ready), (Str.ofString "given", u_given), (Str.ofString "ways", some (.ref wa)), (Str.ofString "x", u_x), (Str.ofString "many", some (.int (many : Int) tm)), (Str.ofString "total", u_total), (Str.ofString "script", u_script)])) (News h₀ L h' (Sor.cells w ⟨self, dx, n2i, 4, t1, t2, t3, t4, .ref ar, v3, v4, o, infos⟩ ((ar, listOf (rd.map (·.2)).toArray n') :: c4 L o4 o3 o2 o1 (τ ++ X)))) (Sor.Ok w ⟨self, dx, n2i, 4, t1, t2, t3, t4, .ref ar, v3, v4, o, infos⟩ ((ar, listOf (rd.map (·.2)).toArray n') :: c4 L o4 o3 o2 o1 (τ ++ X))) (rd.map (·.1) = readyP (infos.map Info.abs)) ((∀ q ∈ rd, nmIs q.1 q.2 = true ∧ hasP (infos.map Info.abs) q.1 = true)) ((ringed = false → ∃ fin : List Nat, fin.Nodup ∧ Topo (gOf ⟨self, dx, n2i, 4, t1, t2, t3, t4, .none, v3, v4, o, infos⟩) fin ∧ ∀ i ∈ infos, i.p ∈ fin)) ((ringed = true → ∃ c, Ring (gOf ⟨self, dx, n2i, 4, t1, t2, t3, t4, .none, v3, v4, o, infos⟩) c ∧ ∀ q ∈ c, hasP (infos.map Info.abs) q = true))) ?_
      (by rintro s' ⟨h', tk, ar, n', rd, ringed, rfl, a, b, c, d, e, f, g⟩; exact k h' tk ar n' rd ringed a b c d e f g)
  clear k
  (try k_unmd); (try k_fold)
  walk_at "exec Try"
  (try k_unmd); (try k_fold)
  k_steps
  unfold Stopped
  refine wpAny_execs_cons ?_
  k_steps
  unfold Stopped
  (try dsimp only)
  refine wpAny_call (prepare_spec (σ := ⟨self, dx, n2i, 4, t1, t2, t3, t4, .none, v3, v4, o, infos⟩) B0 rfl rfl rfl (C0 _ rfl rfl) F3 N2 ok hcl rfl rfl (hroom _) ?_ ?_)
  · intro h5 tk5 ar n' rd fin F5 N5 ok5 hrd hrdn hfin hto hal
    (try dsimp only)
    (try k_unmd); (try k_fold)
    k_steps
    all_goals exact ⟨h5, tk5, ar, n', rd, false, rfl, F5, N5, ok5, hrd, hrdn, fun _ => ⟨fin, hfin, hto, hal⟩, fun z => nomatch z⟩
  · intro h5 tk5 ar n' rd c g1 e t vs F5 U5 R5 ok5 hrd hrdn hri hrc
    (try dsimp only)
    refine caught_env rfl rfl rfl B0 F5 U5 R5 XK (topRead_of T) (by k_is) (bmB := [.type "ValueError", .type "Exception", .type "BaseException", .type "object"]) (newId := "ValueError.__new__") (by k_exc) (by decide) rfl (by decide) (fun h6 F6 N6 => ?_) (hPE e)
    refine wpAny_execs_cons ?_
    (try k_unmd); (try k_fold)
    k_steps
    rename_i h7 F7 N7
    exact ⟨h7, _, ar, n', rd, true, rfl, fr_cast F7 (by walk_at "maps"), N7, ok5, hrd, hrdn, (fun z => nomatch z), fun _ => ⟨c, hri, hrc⟩⟩
end
end

section
set_option Elab.async false
set_option maxRecDepth 100000
set_option maxHeartbeats 8000000
open LCg (NsObj ns_obj lst)
section

local macro_rules | `(tactic| walk_at "call ref") => `(tactic| (k_here; refine stop_intro ?_))
local macro_rules | `(tactic| walk_at "storeName ref") => `(tactic| (k_here; refine stop_intro ?_))
theorem law_T7 {w : World} {s : Shared} {h₀ : Heap} {L fa : Addr} {hm : Heap} {mg mb : Str → Option Value} {cd2 : Value} {ob : Obj} {o1 o2 o3 o4 : Obj} {Q : Flow → Shared → Prop} {E : Value → Shared → Prop} {many : Nat} {tm : Tok} {qn rw wa oa : Nat} {rows : List (List Nat)} {O : List Nat} {τ X : Led} {u3 u4 u_turn u_graph u_sorter u_kept u_name u_info u_due u_wanted u_behind u_ringed u_ready u_given u_x u_total u_script : Option Value}
    (hlk : (heapK w.params).lookup 177 = some ob)
    (B0 : Below callerA h₀ [] h₀) (XK : (heapK w.params).In h₀) (T : TopAt hm mg mb h₀) (HC : CodeHd h₀ 171 169) (l9 : @LT.lt Nat _ 169 L)
    (hτ : Tab τ) (d1 : o1.data = .cell (some (.ref qn))) (d2 : o2.data = .cell (some (.ref rw))) (d3 : o3.data = .cell u3) (d4 : o4.data = .cell u4)
    (S : LawS X qn rw wa many rows) (hO : LD X oa (dN O)) (hOr : ∀ p ∈ O, p < many) (hOn : O.Nodup) (hOl : O.length = many) {P : Led} {ad : Nat} {due : List Nat} (hdue : LD X ad (dN due)) (hdm : ∀ p ∈ due, p < many) (hdl : due.length ≤ 6)
    (F : Fr h₀ L s.heap (upds emp [(Str.ofString "order", some (.ref oa)), (Str.ofString "turn", u_turn), (Str.ofString "graph", u_graph), (Str.ofString "sorter", u_sorter), (Str.ofString "kept", u_kept), (Str.ofString "name", u_name), (Str.ofString "info", u_info), (Str.ofString "due", some (.ref ad)), (Str.ofString "wanted", u_wanted), (Str.ofString "behind", u_behind), (Str.ofString "ringed", u_ringed), (Str.ofString "ready", u_ready), (Str.ofString "given", u_given), (Str.ofString "ways", some (.ref wa)), (Str.ofString "x", u_x), (Str.ofString "many", some (.int (many : Int) tm)), (Str.ofString "total", u_total), (Str.ofString "script", u_script)])) (N : News h₀ L s.heap (P ++ c4 L o4 o3 o2 o1 (τ ++ X))) (KP : Keys (P ++ c4 L o4 o3 o2 o1 (τ ++ X)))
    (k : ∀ h' tk (cm rl n : Nat) (rv : List Value) l τ' o4', o4'.data = .cell (some (.ref cm)) → Fr h₀ L h' (upds emp [(Str.ofString "order", some (.ref oa)), (Str.ofString "turn", u_turn), (Str.ofString "graph", u_graph), (Str.ofString "sorter", u_sorter), (Str.ofString "kept", u_kept), (Str.ofString "name", u_name), (Str.ofString "info", u_info), (Str.ofString "due", some (.ref ad)), (Str.ofString "wanted", u_wanted), (Str.ofString "behind", u_behind), (Str.ofString "ringed", u_ringed), (Str.ofString "ready", some (.ref rl)), (Str.ofString "given", u_given), (Str.ofString "ways", some (.ref wa)), (Str.ofString "x", u_x), (Str.ofString "many", some (.int (many : Int) tm)), (Str.ofString "total", u_total), (Str.ofString "script", u_script)]) →
      News h₀ L h' ((rl, listOf rv.toArray n) :: (cm, listOf ([] : List Value).toArray 0) :: (P ++ c4 L o4' o3 o2 o1 (τ' ++ X))) → Keys ((rl, listOf rv.toArray n) :: (cm, listOf ([] : List Value).toArray 0) :: (P ++ c4 L o4' o3 o2 o1 (τ' ++ X))) → Tab τ' → DatAll [] rv (dN l) → IsReady rows [] due l →
      wpAny (model PG w) (callerA.deeper (envOfC (fnQ ob) (fnS ob) L fa cd2)) (execs (restB 14 (forB 7 (fnB ob))) (envOfC (fnQ ob) (fnS ob) L fa cd2)) Q E { s with heap := h', toks := tk }) :
    wpAny (model PG w) (callerA.deeper (envOfC (fnQ ob) (fnS ob) L fa cd2)) (execs (restB 12 (forB 7 (fnB ob))) (envOfC (fnQ ob) (fnS ob) L fa cd2)) Q E s := by
  have X₀ := XK; have hPG : PG = Challenge.rw_dm0132_06.row.prog := rfl; revert hPG X₀; k_fill; intro X₀ hPG; clear hPG X₀
  refine' lk_use hlk ?lk ?_
  case lk => k_is
  intro e
  cases e
  clear hlk
  dsimp only [restB, forB, fnB, fnQ, fnS] at k ⊢
  have hrow := S.row
  have h6 := S.six
  have hrl := S.len
  have C0 : ∀ env : Env, env.frame = some L → env.scope.kind = .function → Cx w (callerA.deeper env) h₀ L := fun env h1 h2 => ⟨⟨callerA, h₀, [], env, hm, mg, mb, B0, rfl, h1, h2, T, XK, T, fun b hb => (nomatch hb)⟩, XK, rfl⟩
  have hroom : ∀ env, (callerA.deeper env).depth + 60 < recursionLimit := fun env => by rw [depth_deeper]; decide
  have hun : ∀ env, (callerA.deeper env).units + 100 < cLine := fun env => by rw [units_deeper]; show 4 + 3 + 100 < _; decide
  refine wpAny_execs_cons ?_
  (try k_unmd); (try k_fold)
  k_steps
  rename_i cm h2 F2 N2 lt2
  unfold Stopped
  (try dsimp only)
  have K2 : Keys ((cm, listOf ([] : List Value).toArray 0) :: (P ++ c4 L o4 o3 o2 o1 (τ ++ X))) := KP.cons fun q hq => Nat.ne_of_lt (lt2 q hq)
  refine store_k ((cm, listOf ([] : List Value).toArray 0) :: P) ((L + 1 + 1 + 1, o3) :: (L + 1 + 1, o2) :: (L + 1, o1) :: (τ ++ X)) F2 N2 K2 rfl rfl d4 rfl rfl fun h3 o4' F3 N3 K3 d4' => ?_
  (try dsimp only)
  have PM : (((cm, listOf ([] : List Value).toArray 0) :: P) ++ (L + 1 + 1 + 1 + 1, o4') :: (L + 1 + 1 + 1, o3) :: (L + 1 + 1, o2) :: (L + 1, o1) :: (τ ++ X)).Perm (τ ++ ((cm, listOf ([] : List Value).toArray 0) :: (P ++ c4 L o4' o3 o2 o1 X))) := by
    have e1 : (((cm, listOf ([] : List Value).toArray 0) :: P) ++ (L + 1 + 1 + 1 + 1, o4') :: (L + 1 + 1 + 1, o3) :: (L + 1 + 1, o2) :: (L + 1, o1) :: (τ ++ X)) = ((cm, listOf ([] : List Value).toArray 0) :: (P ++ [(L + 1 + 1 + 1 + 1, o4'), (L + 1 + 1 + 1, o3), (L + 1 + 1, o2), (L + 1, o1)])) ++ (τ ++ X) := by simp
    have e2 : ((cm, listOf ([] : List Value).toArray 0) :: (P ++ c4 L o4' o3 o2 o1 X)) = ((cm, listOf ([] : List Value).toArray 0) :: (P ++ [(L + 1 + 1 + 1 + 1, o4'), (L + 1 + 1 + 1, o3), (L + 1 + 1, o2), (L + 1, o1)])) ++ X := by simp
    rw [e1, e2]
    exact List.perm_append_comm_assoc _ _ _
  have N4 := News.perm N3 PM
  have K4 := K3.perm PM
  clear N2 F2 N3
  refine wpAny_execs_cons ?_
  (try k_unmd); (try k_fold)
  k_steps
  unfold Stopped
  (try dsimp only)
  have hX4 : ∀ p ∈ (cm, listOf ([] : List Value).toArray 0) :: X, p ∈ (cm, listOf ([] : List Value).toArray 0) :: (P ++ c4 L o4' o3 o2 o1 X) := fun p hp => by
    rcases List.mem_cons.mp hp with rfl | hp
    · exact .head _
    · exact .tail _ (List.mem_append_right _ (.tail _ (.tail _ (.tail _ (.tail _ hp)))))
  have h9 : ∀ p ∈ (cm, listOf ([] : List Value).toArray 0) :: (P ++ c4 L o4' o3 o2 o1 X), p.1 ≠ 169 := by
    have h9m : ∃ t9, (169, t9) ∈ τ := by
      rcases hτ with rfl | ⟨c', oc', vs', t', rfl, _⟩
      · exact ⟨_, .head _⟩
      · exact ⟨_, .head _⟩
    obtain ⟨t9, h9m⟩ := h9m
    intro p hp e
    have hK := K4
    unfold Keys at hK
    rw [List.map_append] at hK
    exact (List.nodup_append.mp hK).2.2 _ (List.mem_map_of_mem h9m) _ (List.mem_map_of_mem hp) e.symm
  refine wpAny_call (ready_spec (X := (cm, listOf ([] : List Value).toArray 0) :: X) (rows := rows) (came := []) (left := due) (C0 _ rfl rfl) F3 N4 hτ HC h9 (hrow.mono fun p hp => .tail _ hp) ⟨[], 0, .head _, .nil⟩ (hdue.mono fun p hp => .tail _ hp) hX4 (fun p hp => by rw [hrl]; exact hdm p hp) (by exact o135 hrl h6) (fun r hr => Nat.le_trans (S.short r hr) (by decide)) hdl (by decide) (hroom _) (hun _) fun h5 tk5 rl rv n l τ' F5 N5 lt5 hτ' hKK hrv hrd => ?_)
  refine store_l F5 N5 rfl rfl rfl fun h7 tk7 F7 N7 => ?_
  have PM2 : (τ' ++ ((cm, listOf ([] : List Value).toArray 0) :: (P ++ c4 L o4' o3 o2 o1 X))).Perm ((cm, listOf ([] : List Value).toArray 0) :: (P ++ c4 L o4' o3 o2 o1 (τ' ++ X))) := by
    have e1 : ((cm, listOf ([] : List Value).toArray 0) :: (P ++ c4 L o4' o3 o2 o1 (τ' ++ X))) = ((cm, listOf ([] : List Value).toArray 0) :: (P ++ [(L + 1 + 1 + 1 + 1, o4'), (L + 1 + 1 + 1, o3), (L + 1 + 1, o2), (L + 1, o1)])) ++ (τ' ++ X) := by simp
    have e2 : ((cm, listOf ([] : List Value).toArray 0) :: (P ++ c4 L o4' o3 o2 o1 X)) = ((cm, listOf ([] : List Value).toArray 0) :: (P ++ [(L + 1 + 1 + 1 + 1, o4'), (L + 1 + 1 + 1, o3), (L + 1 + 1, o2), (L + 1, o1)])) ++ X := by simp
    rw [e1, e2]
    exact List.perm_append_comm_assoc _ _ _
  have K8 := (hKK K4).cons (a := rl) (o := listOf rv.toArray n) fun q hq => Nat.ne_of_lt (lt5 q hq)
  exact k _ _ cm rl n rv l τ' o4' d4' (fr_cast F7 (by walk_at "maps")) (News.perm N7 (PM2.cons _)) (K8.perm (PM2.cons _)) hτ' hrv hrd
end
end

section
set_option Elab.async false
set_option maxRecDepth 100000
set_option maxHeartbeats 8000000
open LCg (NsObj ns_obj lst)
section
variable {w : World} {A : Around} {E : Value → Shared → Prop} {s : Shared} {L : Addr} {h₀ : Heap} {m : Str → Option Value} {D X : Led} {Q : Value → Shared → Prop}
open Classical in
theorem tup_ne {a b : Addr} {n₁ n₂ : Led} {xs ys : List Value} {ds es : List Dat} (N : News h₀ L s.heap D) (ma : (a, tupOf xs) ∈ D) (Da : DatAll n₁ xs ds) (sa : ∀ p ∈ n₁, p ∈ D) (mb : (b, tupOf ys) ∈ D) (Db : DatAll n₂ ys es) (sb : ∀ p ∈ n₂, p ∈ D)
    (ha : ∀ d ∈ ds, kqdOk 8 d = true) (hb : ∀ d ∈ es, kqdOk 8 d = true) (hu : A.units + 64 < cLine) (h : Q (.bool (!decide (ds = es))) s) : wpAny (model PG w) A (compareOp .NotEq (.ref a) (.ref b)) Q E s := by
  obtain ⟨as, ra⟩ := kqd_all N 8 (Da.mono sa) ha
  obtain ⟨bs, rb⟩ := kqd_all N 8 (Db.mono sb) hb
  have la := kqd_lay 9 (.tuple ds) (by simpa [kqdOk] using ha)
  have lb := kqd_lay 9 (.tuple es) (by simpa [kqdOk] using hb)
  rw [kqdP] at la lb
  have e : PyData.eqv (.tuple (kqdPs ds)) (.tuple (kqdPs es)) = decide (ds = es) := by
    have q := kqd_eqv 9 (.tuple ds) (.tuple es) 9 (by simpa [kqdOk] using ha) (by simpa [kqdOk] using hb)
    rw [kqdP, kqdP, Dat.tuple.injEq] at q
    by_cases hq : ds = es
    · rw [decide_eq_true hq]; exact q.mpr hq
    · rw [decide_eq_false hq]; exact Bool.eq_false_iff.mpr fun x => hq (q.mp x)
  refine ne_dataH (reads_tuple_at (N _ ma).1 rfl rfl (by simpa using ra)) (reads_tuple_at (N _ mb).1 rfl rfl (by simpa using rb)) ?_ ?_ hu (by rw [e]; exact h)
  · unfold SeqAt.shaped; rw [la.1, Bool.true_and]; exact decide_eq_true (Nat.le_trans la.2 (by decide))
  · unfold SeqAt.shaped; rw [lb.1, Bool.true_and]; exact decide_eq_true (Nat.le_trans lb.2 (by decide))
theorem ne_nil {a b : Addr} {vs : List Value} {n n2 : Nat} {Y : Led} {l : List Nat} (N : News h₀ L s.heap D) (ha : (a, listOf vs.toArray n) ∈ D) (hd : DatAll Y vs (dN l)) (hs : ∀ p ∈ Y, p ∈ D) (hb : (b, listOf ([] : List Value).toArray n2) ∈ D) (hu : A.units + 64 < cLine) (h : Q (.bool (!l.isEmpty)) s) : wpAny (model PG w) A (compareOp .NotEq (.ref a) (.ref b)) Q E s := by
  refine kqd_ne N ha rfl rfl hd hs hb rfl rfl (DatAll.nil (news := [])) (fun _ h => nomatch h) (fun d hd => ?_) (fun _ h => nomatch h) hu ?_
  · obtain ⟨p, _, rfl⟩ := List.mem_map.mp hd; rfl
  · cases l with
    | nil => simpa using h
    | cons p l => simpa using h
theorem ne_same {c d : Bool} (e : c = d) (h : Q (.bool false) s) : wpAny (model PG w) A (compareOp .NotEq (.bool c) (.bool d)) Q E s := by
  subst e
  refine ne_bool ?_
  rw [bne_self_eq_false]; exact h
end
section

local macro_rules | `(tactic| walk_at "eval ListComp") => `(tactic| (k_here; refine stop_intro ?_))
local macro_rules | `(tactic| walk_at "call ref") => `(tactic| (k_here; refine stop_intro ?_))
local macro_rules | `(tactic| walk_at "call type:tuple") => `(tactic| (k_here; refine stop_intro ?_))
local macro_rules | `(tactic| walk_at "compareOp NotEq ref ref") => `(tactic| (k_here; refine stop_intro ?_))
local macro_rules | `(tactic| walk_at "compareOp NotEq bool bool") => `(tactic| (k_here; refine ne_same rfl ?_))
local macro_rules | `(tactic| walk_at "subscriptTail Name Name ref int") => `(tactic| (k_here; refine item_name (by k_asm) (by assumption) (by walk_at "sub") _ rfl (by walk_at "num") (by walk_at "num") ?_; intro _ _))
local macro_rules | `(tactic| walk_at "execs cons") => `(tactic| (k_here; refine stop_intro ?_))
theorem law_R1 {w : World} {s : Shared} {h₀ : Heap} {L fa : Addr} {hm : Heap} {mg mb : Str → Option Value} {cd2 : Value} {ob : Obj} {o1 o2 o3 o4 : Obj} {Q : Flow → Shared → Prop} {E : Value → Shared → Prop} {many : Nat} {tm : Tok} {qn rw wa oa : Nat} {rows : List (List Nat)} {O : List Nat} {τ X : Led} {u3 u4 u_turn u_graph u_sorter u_kept u_name u_info u_due u_wanted u_behind u_ringed u_ready u_given u_x u_total u_script : Option Value}
    (hlk : (heapK w.params).lookup 177 = some ob)
    (B0 : Below callerA h₀ [] h₀) (XK : (heapK w.params).In h₀) (T : TopAt hm mg mb h₀) (HC : CodeHd h₀ 171 169) (l9 : @LT.lt Nat _ 169 L)
    (hτ : Tab τ) (d1 : o1.data = .cell (some (.ref qn))) (d2 : o2.data = .cell (some (.ref rw))) (d3 : o3.data = .cell u3) (d4 : o4.data = .cell u4)
    (S : LawS X qn rw wa many rows) (hO : LD X oa (dN O)) (hOr : ∀ p ∈ O, p < many) (hOn : O.Nodup) (hOl : O.length = many) {σ : Sor} {Y : Led} {ar rl ad n n3 : Nat} {rd : List (Nat × Value)} {rv : List Value} {l : List Nat} {a : Int} {t3 t4 : Tok}
    (F : Fr h₀ L s.heap (upds emp [(Str.ofString "order", some (.ref oa)), (Str.ofString "turn", u_turn), (Str.ofString "graph", u_graph), (Str.ofString "sorter", some (.ref σ.self)), (Str.ofString "kept", u_kept), (Str.ofString "name", u_name), (Str.ofString "info", u_info), (Str.ofString "due", some (.ref ad)), (Str.ofString "wanted", u_wanted), (Str.ofString "behind", u_behind), (Str.ofString "ringed", u_ringed), (Str.ofString "ready", some (.ref rl)), (Str.ofString "given", u_given), (Str.ofString "ways", some (.ref wa)), (Str.ofString "x", u_x), (Str.ofString "many", some (.int (many : Int) tm)), (Str.ofString "total", u_total), (Str.ofString "script", u_script)])) (N : News h₀ L s.heap (σ.cells w ((ar, listOf (rd.map (·.2)).toArray n) :: Y))) (ok : σ.Ok w ((ar, listOf (rd.map (·.2)).toArray n) :: Y))
    (hX : ∀ p ∈ X, p ∈ Y) (mrl : (rl, listOf rv.toArray n3) ∈ Y) (m1 : (L + 1, o1) ∈ Y) (hrn : σ.rn = .ref ar) (h3 : σ.v3 = .int a t3) (h4 : σ.v4 = .int a t4) (hn4 : σ.n = 4)
    (hrd : ∀ q ∈ rd, nmIs q.1 q.2 = true ∧ hasP σ.abs q.1 = true) (hl : rd.map (·.1) = l) (hrv : DatAll [] rv (dN l)) (hlm : ∀ p ∈ l, p < many) (hll : l.length ≤ 6)
    (k : ∀ h' tk T n' t' infos', Fr h₀ L h' (upds emp [(Str.ofString "order", some (.ref oa)), (Str.ofString "turn", u_turn), (Str.ofString "graph", u_graph), (Str.ofString "sorter", some (.ref σ.self)), (Str.ofString "kept", u_kept), (Str.ofString "name", u_name), (Str.ofString "info", u_info), (Str.ofString "due", some (.ref ad)), (Str.ofString "wanted", u_wanted), (Str.ofString "behind", u_behind), (Str.ofString "ringed", u_ringed), (Str.ofString "ready", some (.ref rl)), (Str.ofString "given", some (.ref T)), (Str.ofString "ways", some (.ref wa)), (Str.ofString "x", u_x), (Str.ofString "many", some (.int (many : Int) tm)), (Str.ofString "total", u_total), (Str.ofString "script", u_script)]) →
      News h₀ L h' (Sor.cells w { σ with v3 := .int (a + rd.length) t', infos := infos' } ((ar, listOf ([] : List Value).toArray n') :: (T, tupOf (rd.map (·.2))) :: Y)) → Sor.Ok w { σ with v3 := .int (a + rd.length) t', infos := infos' } ((ar, listOf ([] : List Value).toArray n') :: (T, tupOf (rd.map (·.2))) :: Y) → infos'.map Info.abs = outAll l σ.abs →
      wpAny (model PG w) (callerA.deeper (envOfC (fnQ ob) (fnS ob) L fa cd2)) (execs (restB 2 (forB 14 (forB 7 (fnB ob)))) (envOfC (fnQ ob) (fnS ob) L fa cd2)) Q E { s with heap := h', toks := tk }) :
    wpAny (model PG w) (callerA.deeper (envOfC (fnQ ob) (fnS ob) L fa cd2)) (execs (forB 14 (forB 7 (fnB ob))) (envOfC (fnQ ob) (fnS ob) L fa cd2)) Q E s := by
  have X₀ := XK; have hPG : PG = Challenge.rw_dm0132_06.row.prog := rfl; revert hPG X₀; k_fill; intro X₀ hPG; clear hPG X₀
  refine' lk_use hlk ?lk ?_
  case lk => k_is
  intro e
  cases e
  clear hlk
  dsimp only [restB, forB, fnB, fnQ, fnS] at k ⊢
  have hnam := S.nam
  have h6 := S.six
  have C0 : ∀ env : Env, env.frame = some L → env.scope.kind = .function → Cx w (callerA.deeper env) h₀ L := fun env h1 h2 => ⟨⟨callerA, h₀, [], env, hm, mg, mb, B0, rfl, h1, h2, T, XK, T, fun b hb => (nomatch hb)⟩, XK, rfl⟩
  have hroom : ∀ env, (callerA.deeper env).depth + 60 < recursionLimit := fun env => by rw [depth_deeper]; decide
  have hu1 : ∀ env, (callerA.deeper env).units + 64 < cLine := fun env => by rw [units_deeper]; show 4 + 3 + 64 < _; decide
  have hrl : rd.length = l.length := by rw [← hl, List.length_map]
  obtain ⟨self, dx, n2i, nn, t1, t2, t5, t6, rn, v3, v4, o, infos⟩ := σ
  dsimp only at hn4 hrn h3 h4
  subst hn4 hrn h3 h4
  have N1 := N
  unfold Sor.cells at N1
  dsimp only at N1 F
  refine wpAny_execs_cons ?_
  (try k_unmd); (try k_fold)
  k_steps
  unfold Stopped
  (try dsimp only)
  refine wpAny_call (get_ready_spec (σ := ⟨self, dx, n2i, 4, t1, t2, t5, t6, .ref ar, .int a t3, .int a t4, o, infos⟩) (C0 _ rfl rfl) F N ok rfl rfl rfl hrd (by exact o90 hrl hll) (by have := hroom default; rw [depth_deeper] at this ⊢; exact o125 this) fun h5 tk5 T n' t' infos' F5 N5 ok5 hab => ?_)
  refine store_l F5 N5 rfl rfl rfl fun h7 tk7 F7 N7 => ?_
  clear N1 N F F5
  obtain ⟨DD, hDD⟩ : ∃ DD, DD = Sor.cells w ⟨self, dx, n2i, 4, t1, t2, t5, t6, .ref ar, .int (a + rd.length) t', .int a t4, o, infos'⟩ ((ar, listOf ([] : List Value).toArray n') :: (T, tupOf (rd.map (·.2))) :: Y) := ⟨_, rfl⟩
  have ok7 : Sor.Ok w ⟨self, dx, n2i, 4, t1, t2, t5, t6, .ref ar, .int (a + rd.length) t', .int a t4, o, infos'⟩ ((ar, listOf ([] : List Value).toArray n') :: (T, tupOf (rd.map (·.2))) :: Y) := ok5.perm (List.Perm.swap _ _ _)
  have N8 : News h₀ L h7 DD := by rw [hDD]; exact News.perm N7 (cells_perm w _ (List.Perm.swap _ _ _))
  clear N7 N5
  have hYD : ∀ p ∈ (ar, listOf ([] : List Value).toArray n') :: (T, tupOf (rd.map (·.2))) :: Y, p ∈ DD := fun p hp => by rw [hDD]; exact .tail _ (.tail _ (.tail _ (List.mem_append_right _ hp)))
  have mself : (self, instObj 137 dx) ∈ DD := by rw [hDD]; exact .head _
  have mdx : (dx, dictOf (selfEs w t1 t2 t5 t6 n2i (.ref ar) (.int (a + rd.length) t') (.int a t4)) 4) ∈ DD := by rw [hDD]; exact .tail _ (.head _)
  have mT : (T, tupOf (rd.map (·.2))) ∈ DD := hYD _ (.tail _ (.head _))
  have mo1 : (L + 1, o1) ∈ DD := hYD _ (.tail _ (.tail _ m1))
  have mr : (rl, listOf rv.toArray n3) ∈ DD := hYD _ (.tail _ (.tail _ mrl))
  have hXD : ∀ p ∈ X, p ∈ DD := fun p hp => hYD _ (.tail _ (.tail _ (hX p hp)))
  have hLD : LD [(rl, listOf rv.toArray n3)] rl (dN l) := ⟨rv, n3, .head _, hrv.mono fun p hp => by cases hp⟩
  have hsub : ∀ p ∈ [(rl, listOf rv.toArray n3)], p ∈ DD := fun p hp => by rw [List.mem_singleton.mp hp]; exact mr
  refine wpAny_execs_cons ?_
  (try k_unmd); (try k_fold)
  k_steps
  unfold Stopped
  refine eval_comp (cl := _) (fun _ => rfl) rfl rfl (by decide) rfl ?_
  intro Qn1 qn1
  k_steps
  unfold Stopped
  refine comp_ld (X := [(rl, listOf rv.toArray n3)]) (fun _ _ _ => turn1 _ _ _ _ _ _ _ _ _ _) rfl F7 N8 hLD hsub
    (fun j mC ys D' => A3 (D' = DD) (DatAll [] ys ((l.take j).map nmDat)) (∃ u, mC = upds emp [(Str.ofString "place", u)]))
    (fun j mC ys D' hK q hq => by obtain ⟨rfl, _⟩ := hK; exact hsub q hq) ⟨rfl, .nil, none, by walk_at "maps"⟩ ?_ ?_ (by decide) rfl rfl
  · rintro I2 oi2 acc2 C2 ltI2 j v2 oC2 mC2 ys2 n2 _ h2 tk2 hj hv2 ⟨rfl, hys2, u2, rfl⟩ F2 N2 hC2 off2 hIa2 haC2
    rw [List.getElem_map] at hv2
    have hj' : j < l.length := by simpa using hj
    generalize hpj : l[j] = p at hv2
    obtain ⟨tp, rfl⟩ := dat_int hv2
    have hp : p < many := hlm p (hpj ▸ List.getElem_mem hj')
    refine wpAny_tests_nil ?_
    rw [if_pos rfl]
    refine emit_next (ys := ys2) (n := n2) hC2 off2 (Nat.ne_of_lt hIa2) (Nat.ne_of_lt haC2) ?_
    (try k_unmd); (try k_fold)
    k_steps
    rename_i vq hvq
    refine EltEnd.mk [] F2 N2 (fun _ h => nomatch h) ?_ ⟨rfl, ?_, _, by walk_at "maps"⟩
    · have h1 := hys2.length
      rw [List.length_map, List.length_take] at h1
      rw [sizeLine_eq]; exact o126 h1 hll
    · rw [List.take_add_one, List.getElem?_eq_getElem hj', hpj, List.map_append]
      exact hys2.append (.one (dat_nm hvq))
  · rintro acc2 C2 lacc2 oC2 mC2 ys2 n2 DD h2 tk2 ⟨rfl, hys2, u2, rfl⟩ F2 N2 hC2 off21 off22
    refine comp_fin F2 N2 hC2 off21 fun h3 F3 N3 => qn1 _ _ ?_
    have e : l.take (dN l).length = l := by rw [List.length_map]; exact List.take_of_length_le (Nat.le_refl _)
    rw [e] at hys2
    (try dsimp only)
    (try k_unmd); (try k_fold)
    k_steps
    unfold Stopped
    (try dsimp only)
    have hy2 : ys2.length = l.length := by have := hys2.length; rwa [List.length_map] at this
    refine kde_tupleOf F3 N3 (News.isList N3 (.head _)) (by simp; exact o127 hy2 hll) List.toList_toArray fun T2 h4 F4 N4 lt4 => ?_
    (try dsimp only)
    (try k_unmd); (try k_fold)
    k_steps
    unfold Stopped
    (try dsimp only)
    have hkq : ∀ d ∈ l.map nmDat, kqdOk 8 d = true := fun d hd => by
      obtain ⟨p, hp, rfl⟩ := List.mem_map.mp hd
      exact kqd_nm 7 (Nat.lt_of_lt_of_le (hlm p hp) h6)
    have hgd : DatAll [] (rd.map (·.2)) (l.map nmDat) := by rw [← hl]; exact dat_vs fun q hq => (hrd q hq).1
    refine tup_ne N4 (.tail _ (.tail _ mT)) hgd (fun _ h => nomatch h) (.head _) hys2 (fun _ h => nomatch h) hkq hkq (hu1 _) ?_
    rw [not_dec_self rfl]
    k_steps
    unfold Stopped
    (try dsimp only)
    have N5 : News h₀ L h4 (Sor.cells w ⟨self, dx, n2i, 4, t1, t2, t5, t6, .ref ar, .int (a + rd.length) t', .int a t4, o, infos'⟩ ((ar, listOf (([] : List (Nat × Value)).map (·.2)).toArray n') :: (T, tupOf (rd.map (·.2))) :: Y)) := News.sub N4 fun p hp => .tail _ (.tail _ (by rw [hDD]; exact hp))
    refine wpAny_call (is_active_spec (σ := ⟨self, dx, n2i, 4, t1, t2, t5, t6, .ref ar, .int (a + rd.length) t', .int a t4, o, infos'⟩) (C0 _ rfl rfl) F4 N5 rfl rfl rfl (by simp) (by have := hroom default; rw [depth_deeper] at this ⊢; exact o125 this) fun h6 tk6 F6 N6 => ?_)
    have eB : (decide (a < a + (rd.length : Int)) || !([] : List (Nat × Value)).isEmpty) = !l.isEmpty := by
      cases l with
      | nil => rw [hrl]; simp
      | cons p r => rw [hrl]; simp; exact o128
    rw [eB]
    clear N5 N4 F4 F3 N3 F2 N2
    replace N6 : News h₀ L h6 DD := by rw [hDD]; exact N6
    (try dsimp only)
    (try k_unmd); (try k_fold)
    k_steps
    unfold Stopped
    (try dsimp only)
    rename_i bl hb6 F8 N8 ltb
    refine ne_nil N8 (.tail _ mr) hrv (fun _ h => nomatch h) (.head _) (hu1 _) ?_
    k_steps
    exact k _ _ T n' t' infos' (fr_cast F8 (by walk_at "maps")) (News.sub N8 fun p hp => .tail _ (by rw [hDD]; exact hp)) ok7 (by rw [← hl]; exact hab)
end
end

section
set_option Elab.async false
set_option maxRecDepth 100000
set_option maxHeartbeats 8000000
open LCg (NsObj ns_obj lst)
section
variable {w : World} {A : Around} {E : Value → Shared → Prop} {s : Shared} {L : Addr} {h₀ : Heap} {m : Str → Option Value} {D X : Led} {Q : Value → Shared → Prop}
theorem extend_k {a b : Addr} {vs ws : List Value} {n n2 : Nat} (pre post : Led) (F : Fr h₀ L s.heap m) (N : News h₀ L s.heap D) (K : Keys D) (e : D = pre ++ (a, listOf vs.toArray n) :: post) (hb : (b, listOf ws.toArray n2) ∈ D) (hz : vs.length + ws.length ≤ 1000)
    (h : ∀ h' n', Fr h₀ L h' m → News h₀ L h' (pre ++ (a, listOf (vs ++ ws).toArray n') :: post) → Keys (pre ++ (a, listOf (vs ++ ws).toArray n') :: post) → Q .none { s with heap := h' }) : wpAny (model PG w) A (call (.builtin "list.extend") [.ref a, .ref b]) Q E s := by
  obtain ⟨n', hn'⟩ : ∃ n', (listOf vs.toArray n).mapSeq (fun x => x ++ ws.toArray) = listOf (vs ++ ws).toArray n' := by
    have e : (vs ++ ws).toArray = vs.toArray ++ ws.toArray := by simp
    rw [e]; exact ⟨_, rfl⟩
  have hm := N (b, listOf ws.toArray n2) hb
  subst e
  have z := N (a, listOf vs.toArray n) (List.mem_append_right _ (.head _))
  refine call_meets PySem.F.slot_list_extend ⟨_, z.1, rfl⟩ PySem.F.entry_list_extend (PySem.F.args_list_extend_2 _ _) (PySem.AutoSeq1.list_extend_list_list_0 a vs.toArray n b ws.toArray n2 ?_ ?_ ?_) ⟨z.1, hm.1, h _ n' (F.change (Heap.SameBut.update ..) z.2.1 z.2.2) ?_ K.set⟩
  · simp only [Builtin.List.listTooLong, List.size_toArray, sizeLine_eq, Bool.and_eq_true, decide_eq_true_eq]
    omega
  · rw [List.size_toArray, sizeLine_eq]; exact o129 hz
  · rw [List.size_toArray, List.size_toArray, sizeLine_eq]; exact o130 hz
  · refine N.setIn K.split.1 K.split.2 (Heap.SameBut.update ..) (o' := listOf (vs ++ ws).toArray n') ?_
    rw [Heap.get?_update_self _ z.1 rfl]
    exact congrArg some hn'
end
section

local macro_rules | `(tactic| walk_at "call builtin:list.extend") => `(tactic| (k_here; refine stop_intro ?_))
local macro_rules | `(tactic| walk_at "eval Call Attribute") => `(tactic| (k_here; k_dflt (refine MethodCall_star ?_ rfl rfl)))
local macro_rules | `(tactic| walk_at "callWith ref") => `(tactic| (k_here; (with_reducible show wpAny _ _ (callWith _ (Value.ref _) [] (backTo _ (starEach [Expr.Starred _ _] _)) []) _ _ _); k_dflt (refine callWith_MS1 (by k_asm) (by k_asm) (by k_mem) (by k_is) ?_; k_whole)))
local macro_rules | `(tactic| walk_at "StarOf ref") => `(tactic| (k_here; k_dflt (refine star_seq (by k_asm) (by k_asm) (by k_mem) (by exact rfl) (by exact rfl) (by first | exact .inl rfl | exact .inr rfl) (by exact List.toList_toArray) (by rw [sizeLine_eq]; simp; omega) ?_; k_whole); intro h' F' N'; try dsimp only [List.nil_append, List.cons_append]))
local macro_rules | `(tactic| walk_at "execs cons") => `(tactic| (k_here; refine stop_intro ?_))
theorem law_R2 {w : World} {s : Shared} {h₀ : Heap} {L fa : Addr} {hm : Heap} {mg mb : Str → Option Value} {cd2 : Value} {ob : Obj} {o1 o2 o3 o4 : Obj} {Q : Flow → Shared → Prop} {E : Value → Shared → Prop} {many : Nat} {tm : Tok} {qn rw wa oa : Nat} {rows : List (List Nat)} {O : List Nat} {τ X : Led} {u3 u4 u_turn u_graph u_sorter u_kept u_name u_info u_due u_wanted u_behind u_ringed u_ready u_given u_x u_total u_script : Option Value}
    (hlk : (heapK w.params).lookup 177 = some ob)
    (B0 : Below callerA h₀ [] h₀) (XK : (heapK w.params).In h₀) (T : TopAt hm mg mb h₀) (HC : CodeHd h₀ 171 169) (l9 : @LT.lt Nat _ 169 L)
    (hτ : Tab τ) (d1 : o1.data = .cell (some (.ref qn))) (d2 : o2.data = .cell (some (.ref rw))) (d3 : o3.data = .cell u3) (d4 : o4.data = .cell u4)
    (S : LawS X qn rw wa many rows) (hO : LD X oa (dN O)) (hOr : ∀ p ∈ O, p < many) (hOn : O.Nodup) (hOl : O.length = many) {σ : Sor} {ar rl cm ad Tg n n3 n5 : Nat} {vs : List (Nat × Value)} {rv cv : List Value} {b : Int} {t : Tok}
    (F : Fr h₀ L s.heap (upds emp [(Str.ofString "order", some (.ref oa)), (Str.ofString "turn", u_turn), (Str.ofString "graph", u_graph), (Str.ofString "sorter", some (.ref σ.self)), (Str.ofString "kept", u_kept), (Str.ofString "name", u_name), (Str.ofString "info", u_info), (Str.ofString "due", some (.ref ad)), (Str.ofString "wanted", u_wanted), (Str.ofString "behind", u_behind), (Str.ofString "ringed", u_ringed), (Str.ofString "ready", some (.ref rl)), (Str.ofString "given", some (.ref Tg)), (Str.ofString "ways", some (.ref wa)), (Str.ofString "x", u_x), (Str.ofString "many", some (.int (many : Int) tm)), (Str.ofString "total", u_total), (Str.ofString "script", u_script)]))
    (N : News h₀ L s.heap (σ.cells w ((ar, listOf ([] : List Value).toArray n) :: (Tg, tupOf (vs.map (·.2))) :: (rl, listOf rv.toArray n3) :: (cm, listOf cv.toArray n5) :: c4 L o4 o3 o2 o1 (τ ++ X))))
    (ok : σ.Ok w ((ar, listOf ([] : List Value).toArray n) :: (Tg, tupOf (vs.map (·.2))) :: (rl, listOf rv.toArray n3) :: (cm, listOf cv.toArray n5) :: c4 L o4 o3 o2 o1 (τ ++ X)))
    (e4 : o4.data = .cell (some (.ref cm))) (hrn : σ.rn = .ref ar) (h4 : σ.v4 = .int b t) (hn4 : σ.n = 4)
    (hvs : ∀ q ∈ vs, nmIs q.1 q.2 = true ∧ hasP σ.abs q.1 = true) (hz : vs.length ≤ 6) (hcl : Closed σ.abs) (hlen : ((vs.map (·.1)).foldl doneP (σ.abs, [])).2.length ≤ 100000)
    (hout : ∀ j (hj : j < vs.length), (entryOf (((vs.map (·.1)).take j).foldl doneP (σ.abs, [])).1 vs[j].1).1 = -1) (hcr : cv.length + rv.length ≤ 100)
    (k : ∀ h' tk n' n5' t' infos' (rd' : List (Nat × Value)), Fr h₀ L h' (upds emp [(Str.ofString "order", some (.ref oa)), (Str.ofString "turn", u_turn), (Str.ofString "graph", u_graph), (Str.ofString "sorter", some (.ref σ.self)), (Str.ofString "kept", u_kept), (Str.ofString "name", u_name), (Str.ofString "info", u_info), (Str.ofString "due", some (.ref ad)), (Str.ofString "wanted", u_wanted), (Str.ofString "behind", u_behind), (Str.ofString "ringed", u_ringed), (Str.ofString "ready", some (.ref rl)), (Str.ofString "given", some (.ref Tg)), (Str.ofString "ways", some (.ref wa)), (Str.ofString "x", u_x), (Str.ofString "many", some (.int (many : Int) tm)), (Str.ofString "total", u_total), (Str.ofString "script", u_script)]) →
      News h₀ L h' (Sor.cells w { σ with v4 := .int (b + vs.length) t', infos := infos' } ((ar, listOf (rd'.map (·.2)).toArray n') :: (cm, listOf (cv ++ rv).toArray n5') :: c4 L o4 o3 o2 o1 (τ ++ X))) →
      Sor.Ok w { σ with v4 := .int (b + vs.length) t', infos := infos' } ((ar, listOf (rd'.map (·.2)).toArray n') :: (cm, listOf (cv ++ rv).toArray n5') :: c4 L o4 o3 o2 o1 (τ ++ X)) →
      (infos'.map Info.abs, rd'.map (·.1)) = (vs.map (·.1)).foldl doneP (σ.abs, []) → (∀ q ∈ rd', nmIs q.1 q.2 = true ∧ hasP σ.abs q.1 = true) →
      wpAny (model PG w) (callerA.deeper (envOfC (fnQ ob) (fnS ob) L fa cd2)) (execs (restB 4 (forB 14 (forB 7 (fnB ob)))) (envOfC (fnQ ob) (fnS ob) L fa cd2)) Q E { s with heap := h', toks := tk }) :
    wpAny (model PG w) (callerA.deeper (envOfC (fnQ ob) (fnS ob) L fa cd2)) (execs (restB 2 (forB 14 (forB 7 (fnB ob)))) (envOfC (fnQ ob) (fnS ob) L fa cd2)) Q E s := by
  have X₀ := XK; have hPG : PG = Challenge.rw_dm0132_06.row.prog := rfl; revert hPG X₀; k_fill; intro X₀ hPG; clear hPG X₀
  refine' lk_use hlk ?lk ?_
  case lk => k_is
  intro e
  cases e
  clear hlk
  dsimp only [restB, forB, fnB, fnQ, fnS] at k ⊢
  have h6 := S.six
  have C0 : ∀ env : Env, env.frame = some L → env.scope.kind = .function → Cx w (callerA.deeper env) h₀ L := fun env h1 h2 => ⟨⟨callerA, h₀, [], env, hm, mg, mb, B0, rfl, h1, h2, T, XK, T, fun b hb => (nomatch hb)⟩, XK, rfl⟩
  have hroom : ∀ env, (callerA.deeper env).depth + 60 < recursionLimit := fun env => by rw [depth_deeper]; decide
  obtain ⟨self, dx, n2i, nn, t1, t2, t5, t6, rn, v3, v4, o, infos⟩ := σ
  dsimp only at hn4 hrn h4
  subst hn4 hrn h4
  have N1 := N
  unfold Sor.cells at N1
  dsimp only at N1 F
  refine wpAny_execs_cons ?_
  (try k_unmd); (try k_fold)
  k_steps
  rename_i q7 h7 F7 N7 l7 h8 F8 N8
  have l8 : ∀ p ∈ Sor.cells w ⟨self, dx, n2i, 4, t1, t2, t5, t6, .ref ar, v3, .int b t, o, infos⟩ ((ar, listOf ([] : List Value).toArray n) :: (Tg, tupOf (vs.map (·.2))) :: (rl, listOf rv.toArray n3) :: (cm, listOf cv.toArray n5) :: c4 L o4 o3 o2 o1 (τ ++ X)), @LT.lt Nat _ p.1 q7 := allLt_mem (l := Sor.cells w ⟨self, dx, n2i, 4, t1, t2, t5, t6, .ref ar, v3, .int b t, o, infos⟩ ((ar, listOf ([] : List Value).toArray n) :: (Tg, tupOf (vs.map (·.2))) :: (rl, listOf rv.toArray n3) :: (cm, listOf cv.toArray n5) :: c4 L o4 o3 o2 o1 (τ ++ X))) l7
  have ok8 := (ok.push (q7, methodObj (.ref 120) (.ref self)) fun p hp => Nat.ne_of_lt (l8 p hp)).perm (List.Perm.swap _ _ _)
  have N9 : News h₀ L h8 (Sor.cells w ⟨self, dx, n2i, 4, t1, t2, t5, t6, .ref ar, v3, .int b t, o, infos⟩ ((ar, listOf (([] : List (Nat × Value)).map (·.2)).toArray n) :: (q7, methodObj (.ref 120) (.ref self)) :: (Tg, tupOf (vs.map (·.2))) :: (rl, listOf rv.toArray n3) :: (cm, listOf cv.toArray n5) :: c4 L o4 o3 o2 o1 (τ ++ X))) :=
    News.perm (show News h₀ L h8 ((q7, methodObj (.ref 120) (.ref self)) :: Sor.cells w ⟨self, dx, n2i, 4, t1, t2, t5, t6, .ref ar, v3, .int b t, o, infos⟩ ((ar, listOf ([] : List Value).toArray n) :: (Tg, tupOf (vs.map (·.2))) :: (rl, listOf rv.toArray n3) :: (cm, listOf cv.toArray n5) :: c4 L o4 o3 o2 o1 (τ ++ X))) from N8) ((cells_push w ⟨self, dx, n2i, 4, t1, t2, t5, t6, .ref ar, v3, .int b t, o, infos⟩ _ _).trans (cells_perm w ⟨self, dx, n2i, 4, t1, t2, t5, t6, .ref ar, v3, .int b t, o, infos⟩ (List.Perm.swap _ _ _)))
  refine call_meth (by k_asm) (by k_mem) ?_
  clear N8 N7 F7 l7
  refine done_spec (rd := []) (vs := vs) (C0 _ rfl rfl) F8 N9 ok8 rfl rfl rfl hvs (fun _ h => nomatch h) (by exact o55 hz) (by have := hroom default; rw [depth_deeper] at this ⊢; exact o125 this) hcl hlen hout fun h9 tk9 n9 t9 infos9 rd9 F9 N9 ok9 hst hrd9 => ?_
  (try dsimp only)
  have P1 : (Sor.cells w ⟨self, dx, n2i, 4, t1, t2, t5, t6, .ref ar, v3, .int (b + vs.length) t9, o, infos9⟩ ((ar, listOf (rd9.map (·.2)).toArray n9) :: (q7, methodObj (.ref 120) (.ref self)) :: (Tg, tupOf (vs.map (·.2))) :: (rl, listOf rv.toArray n3) :: (cm, listOf cv.toArray n5) :: c4 L o4 o3 o2 o1 (τ ++ X))) = Sor.cells w ⟨self, dx, n2i, 4, t1, t2, t5, t6, .ref ar, v3, .int (b + vs.length) t9, o, infos9⟩ [(ar, listOf (rd9.map (·.2)).toArray n9), (q7, methodObj (.ref 120) (.ref self)), (Tg, tupOf (vs.map (·.2))), (rl, listOf rv.toArray n3)] ++ (cm, listOf cv.toArray n5) :: c4 L o4 o3 o2 o1 (τ ++ X) := by simp [Sor.cells]
  obtain ⟨PP, hPP⟩ : ∃ PP, PP = Sor.cells w ⟨self, dx, n2i, 4, t1, t2, t5, t6, .ref ar, v3, .int (b + vs.length) t9, o, infos9⟩ [(ar, listOf (rd9.map (·.2)).toArray n9), (q7, methodObj (.ref 120) (.ref self)), (Tg, tupOf (vs.map (·.2))), (rl, listOf rv.toArray n3)] := ⟨_, rfl⟩
  have K9 : Keys (PP ++ (cm, listOf cv.toArray n5) :: c4 L o4 o3 o2 o1 (τ ++ X)) := by have := ok9.keys; rw [hPP, ← P1]; exact this
  have N10 : News h₀ L h9 (PP ++ (cm, listOf cv.toArray n5) :: c4 L o4 o3 o2 o1 (τ ++ X)) := by rw [hPP, ← P1]; exact N9
  have mrl : (rl, listOf rv.toArray n3) ∈ PP := by rw [hPP]; exact .tail _ (.tail _ (.tail _ (List.mem_append_right _ (.tail _ (.tail _ (.tail _ (.head _)))))))
  have mcm : (cm, listOf cv.toArray n5) ∈ PP ++ (cm, listOf cv.toArray n5) :: c4 L o4 o3 o2 o1 (τ ++ X) := List.mem_append_right _ (.head _)
  have mrl2 : (rl, listOf rv.toArray n3) ∈ PP ++ (cm, listOf cv.toArray n5) :: c4 L o4 o3 o2 o1 (τ ++ X) := List.mem_append_left _ mrl
  clear F8 N9 hout hlen
  (try k_unmd); (try k_fold)
  k_steps
  unfold Stopped
  refine wpAny_execs_cons ?_
  (try k_unmd); (try k_fold)
  k_steps
  unfold Stopped
  (try dsimp only)
  refine extend_k PP (c4 L o4 o3 o2 o1 (τ ++ X)) F9 N10 K9 rfl mrl2 (by exact o131 hcr) fun h11 n11 F11 N11 K11 => ?_
  (try dsimp only)
  have P2 : PP ++ (cm, listOf (cv ++ rv).toArray n11) :: c4 L o4 o3 o2 o1 (τ ++ X) = (Sor.cells w ⟨self, dx, n2i, 4, t1, t2, t5, t6, .ref ar, v3, .int (b + vs.length) t9, o, infos9⟩ ((ar, listOf (rd9.map (·.2)).toArray n9) :: (q7, methodObj (.ref 120) (.ref self)) :: (Tg, tupOf (vs.map (·.2))) :: (rl, listOf rv.toArray n3) :: (cm, listOf (cv ++ rv).toArray n11) :: c4 L o4 o3 o2 o1 (τ ++ X))) := by rw [hPP]; simp [Sor.cells]
  have ok11 : Sor.Ok w ⟨self, dx, n2i, 4, t1, t2, t5, t6, .ref ar, v3, .int (b + vs.length) t9, o, infos9⟩ ((ar, listOf (rd9.map (·.2)).toArray n9) :: (q7, methodObj (.ref 120) (.ref self)) :: (Tg, tupOf (vs.map (·.2))) :: (rl, listOf rv.toArray n3) :: (cm, listOf (cv ++ rv).toArray n11) :: c4 L o4 o3 o2 o1 (τ ++ X)) := ⟨ok9.dict, P2 ▸ K11, ok9.lo, ok9.good, ok9.apart⟩
  rw [P2] at N11
  k_steps
  unfold Stopped
  refine k _ _ n9 n11 t9 infos9 rd9 F11 (News.sub N11 fun p hp => ?_) (ok11.sub ?_) hst hrd9
  · rcases List.mem_cons.mp hp with rfl | hp
    · exact .head _
    rcases List.mem_cons.mp hp with rfl | hp
    · exact .tail _ (.head _)
    rcases List.mem_cons.mp hp with rfl | hp
    · exact .tail _ (.tail _ (.head _))
    refine .tail _ (.tail _ (.tail _ ?_))
    rcases List.mem_append.mp hp with hp | hp
    · exact List.mem_append_left _ hp
    · refine List.mem_append_right _ ?_
      rcases List.mem_cons.mp hp with rfl | hp
      · exact .head _
      · exact .tail _ (.tail _ (.tail _ (.tail _ hp)))
  · exact (List.Sublist.cons_cons _ (.cons _ (.cons _ (.cons _ (List.Sublist.refl _))))).map _
end
end

section
set_option Elab.async false
set_option maxRecDepth 100000
set_option maxHeartbeats 8000000
open LCg (NsObj ns_obj lst)
section

local macro_rules | `(tactic| walk_at "eval ListComp") => `(tactic| (k_here; refine stop_intro ?_))
local macro_rules | `(tactic| walk_at "call ref") => `(tactic| (k_here; refine stop_intro ?_))
theorem law_R3 {w : World} {s : Shared} {h₀ : Heap} {L fa : Addr} {hm : Heap} {mg mb : Str → Option Value} {cd2 : Value} {ob : Obj} {o1 o2 o3 o4 : Obj} {Q : Flow → Shared → Prop} {E : Value → Shared → Prop} {many : Nat} {tm : Tok} {qn rw wa oa : Nat} {rows : List (List Nat)} {O : List Nat} {τ X : Led} {u3 u4 u_turn u_graph u_sorter u_kept u_name u_info u_due u_wanted u_behind u_ringed u_ready u_given u_x u_total u_script : Option Value}
    (hlk : (heapK w.params).lookup 177 = some ob)
    (B0 : Below callerA h₀ [] h₀) (XK : (heapK w.params).In h₀) (T : TopAt hm mg mb h₀) (HC : CodeHd h₀ 171 169) (l9 : @LT.lt Nat _ 169 L)
    (hτ : Tab τ) (d1 : o1.data = .cell (some (.ref qn))) (d2 : o2.data = .cell (some (.ref rw))) (d3 : o3.data = .cell u3) (d4 : o4.data = .cell u4)
    (S : LawS X qn rw wa many rows) (hO : LD X oa (dN O)) (hOr : ∀ p ∈ O, p < many) (hOn : O.Nodup) (hOl : O.length = many) {σ : Sor} {ar cm ad n n5 : Nat} {rdv cv : List Value} {came : List Nat}
    (F : Fr h₀ L s.heap (upds emp [(Str.ofString "order", some (.ref oa)), (Str.ofString "turn", u_turn), (Str.ofString "graph", u_graph), (Str.ofString "sorter", some (.ref σ.self)), (Str.ofString "kept", u_kept), (Str.ofString "name", u_name), (Str.ofString "info", u_info), (Str.ofString "due", some (.ref ad)), (Str.ofString "wanted", u_wanted), (Str.ofString "behind", u_behind), (Str.ofString "ringed", u_ringed), (Str.ofString "ready", u_ready), (Str.ofString "given", u_given), (Str.ofString "ways", some (.ref wa)), (Str.ofString "x", u_x), (Str.ofString "many", some (.int (many : Int) tm)), (Str.ofString "total", u_total), (Str.ofString "script", u_script)]))
    (N : News h₀ L s.heap (σ.cells w ((ar, listOf rdv.toArray n) :: (cm, listOf cv.toArray n5) :: c4 L o4 o3 o2 o1 (τ ++ X))))
    (ok : σ.Ok w ((ar, listOf rdv.toArray n) :: (cm, listOf cv.toArray n5) :: c4 L o4 o3 o2 o1 (τ ++ X)))
    (e4 : o4.data = .cell (some (.ref cm))) (hcv : DatAll [] cv (dN came)) (hcl : came.length ≤ 100)
    (k : ∀ h' tk (rl n3 : Nat) (rv : List Value) l τ', Fr h₀ L h' (upds emp [(Str.ofString "order", some (.ref oa)), (Str.ofString "turn", u_turn), (Str.ofString "graph", u_graph), (Str.ofString "sorter", some (.ref σ.self)), (Str.ofString "kept", u_kept), (Str.ofString "name", u_name), (Str.ofString "info", u_info), (Str.ofString "due", some (.ref ad)), (Str.ofString "wanted", u_wanted), (Str.ofString "behind", u_behind), (Str.ofString "ringed", u_ringed), (Str.ofString "ready", some (.ref rl)), (Str.ofString "given", u_given), (Str.ofString "ways", some (.ref wa)), (Str.ofString "x", u_x), (Str.ofString "many", some (.int (many : Int) tm)), (Str.ofString "total", u_total), (Str.ofString "script", u_script)]) →
      News h₀ L h' (σ.cells w ((ar, listOf rdv.toArray n) :: (rl, listOf rv.toArray n3) :: (cm, listOf cv.toArray n5) :: c4 L o4 o3 o2 o1 (τ' ++ X))) →
      σ.Ok w ((ar, listOf rdv.toArray n) :: (rl, listOf rv.toArray n3) :: (cm, listOf cv.toArray n5) :: c4 L o4 o3 o2 o1 (τ' ++ X)) → Tab τ' → DatAll [] rv (dN l) → IsReady rows came (O.filter fun p => !decide (p ∈ came)) l →
      wpAny (model PG w) (callerA.deeper (envOfC (fnQ ob) (fnS ob) L fa cd2)) (execs (restB 5 (forB 14 (forB 7 (fnB ob)))) (envOfC (fnQ ob) (fnS ob) L fa cd2)) Q E { s with heap := h', toks := tk }) :
    wpAny (model PG w) (callerA.deeper (envOfC (fnQ ob) (fnS ob) L fa cd2)) (execs (restB 4 (forB 14 (forB 7 (fnB ob)))) (envOfC (fnQ ob) (fnS ob) L fa cd2)) Q E s := by
  have X₀ := XK; have hPG : PG = Challenge.rw_dm0132_06.row.prog := rfl; revert hPG X₀; k_fill; intro X₀ hPG; clear hPG X₀
  refine' lk_use hlk ?lk ?_
  case lk => k_is
  intro e
  cases e
  clear hlk
  dsimp only [restB, forB, fnB, fnQ, fnS] at k ⊢
  have hrow := S.row
  have h6 := S.six
  have hrl := S.len
  have C0 : ∀ env : Env, env.frame = some L → env.scope.kind = .function → Cx w (callerA.deeper env) h₀ L := fun env h1 h2 => ⟨⟨callerA, h₀, [], env, hm, mg, mb, B0, rfl, h1, h2, T, XK, T, fun b hb => (nomatch hb)⟩, XK, rfl⟩
  have hroom : ∀ env, (callerA.deeper env).depth + 60 < recursionLimit := fun env => by rw [depth_deeper]; decide
  have hun : ∀ env, (callerA.deeper env).units + 100 < cLine := fun env => by rw [units_deeper]; show 4 + 3 + 100 < _; decide
  have hu1 : ∀ env, (callerA.deeper env).units < cLine := fun env => Nat.lt_of_le_of_lt (Nat.le_add_right _ _) (hun env)
  obtain ⟨P, hP⟩ : ∃ P, P = σ.cells w [(ar, listOf rdv.toArray n), (cm, listOf cv.toArray n5)] ++ [(L + 1 + 1 + 1 + 1, o4), (L + 1 + 1 + 1, o3), (L + 1 + 1, o2), (L + 1, o1)] := ⟨_, rfl⟩
  have eP : ∀ Z, σ.cells w ((ar, listOf rdv.toArray n) :: (cm, listOf cv.toArray n5) :: c4 L o4 o3 o2 o1 Z) = P ++ Z := fun Z => by rw [hP]; simp [Sor.cells]
  rw [eP] at N
  have K1 : Keys (P ++ (τ ++ X)) := by rw [← eP]; exact ok.keys
  have PM : (P ++ (τ ++ X)).Perm (τ ++ (P ++ X)) := List.perm_append_comm_assoc _ _ _
  have N4 := News.perm N PM
  have K4 := K1.perm PM
  obtain ⟨DD, hDD⟩ : ∃ DD, DD = τ ++ (P ++ X) := ⟨_, rfl⟩
  rw [← hDD] at N4 K4
  have mP : ∀ p ∈ P, p ∈ DD := fun p hp => by rw [hDD]; exact List.mem_append_right _ (List.mem_append_left _ hp)
  have hXD : ∀ p ∈ X, p ∈ DD := fun p hp => by rw [hDD]; exact List.mem_append_right _ (List.mem_append_right _ hp)
  have m4 : (L + 1 + 1 + 1 + 1, o4) ∈ DD := mP _ (by rw [hP]; exact List.mem_append_right _ (.head _))
  have m2 : (L + 1 + 1, o2) ∈ DD := mP _ (by rw [hP]; exact List.mem_append_right _ (.tail _ (.tail _ (.head _))))
  have mcm0 : (cm, listOf cv.toArray n5) ∈ P := by rw [hP]; exact List.mem_append_left _ (.tail _ (.tail _ (.tail _ (List.mem_append_right _ (.tail _ (.head _))))))
  have mcm : (cm, listOf cv.toArray n5) ∈ DD := mP _ mcm0
  clear N
  refine wpAny_execs_cons ?_
  (try k_unmd); (try k_fold)
  k_steps
  unfold Stopped
  refine eval_comp (cl := _) (fun _ => rfl) rfl rfl (by decide) rfl ?_
  intro Qn1 qn1
  k_steps
  unfold Stopped
  refine comp_ld (X := X) (fun _ _ _ => turn1 _ _ _ _ _ _ _ _ _ _) rfl F N4 hO hXD
    (fun j mC ys D' => A4 (D' = DD) (DatAll [] ys (dN ((O.take j).filter fun p => !decide (p ∈ came)))) (ys.length ≤ j) (∃ u, mC = upds emp [(Str.ofString "place", u)]))
    (fun j mC ys D' hK q hq => by obtain ⟨rfl, _⟩ := hK; exact hXD q hq) ⟨rfl, .nil, Nat.le_refl _, none, by walk_at "maps"⟩ ?_ ?_ (by decide) rfl rfl
  · rintro I2 oi2 acc2 C2 ltI2 j v2 oC2 mC2 ys2 n2 DD h2 tk2 hj hv2 ⟨rfl, hys2, hyl, u2, rfl⟩ F2 N2 hC2 off2 hIa2 haC2
    rw [List.getElem_map] at hv2
    have hj' : j < O.length := by simpa using hj
    generalize hpj : O[j] = p at hv2
    obtain ⟨tp, rfl⟩ := dat_int hv2
    have htk : O.take (j + 1) = O.take j ++ [p] := by rw [List.take_add_one, List.getElem?_eq_getElem hj', hpj]; rfl
    refine wpAny_tests_one ?_
    (try k_unmd); (try k_fold)
    k_steps
    · rename_i hc
      have hc' : p ∈ came := by
        simp at hc
        obtain ⟨x, hx, e⟩ := hc
        have : x = p := by exact o132 e
        exact this ▸ hx
      refine ⟨_, _, _, _, _, _, _, rfl, F2, N2, hC2, off2, rfl, ?_, ?_, _, by walk_at "maps"⟩
      · rw [htk, List.filter_append, List.filter_cons_of_neg (by simp [hc']), List.filter_nil, List.append_nil]
        exact hys2
      · exact o133 hyl
    · rename_i hc
      have hc' : p ∉ came := fun hm => by
        simp at hc
        exact hc p hm rfl
      refine emit_next (ys := ys2) (n := n2) hC2 off2 (Nat.ne_of_lt hIa2) (Nat.ne_of_lt haC2) ?_
      (try k_unmd); (try k_fold)
      k_steps
      refine EltEnd.mk [] F2 N2 (fun _ h => nomatch h) ?_ ⟨rfl, ?_, ?_, _, by walk_at "maps"⟩
      · rw [sizeLine_eq]; exact o134 hj' hOl hyl h6
      · rw [htk, List.filter_append, List.filter_cons_of_pos (by simp [hc']), List.filter_nil]
        unfold dN
        rw [List.map_append]
        exact hys2.append (.one (.int _ _))
      · rw [List.length_append]; simp; omega
  · rintro acc2 C2 lacc2 oC2 mC2 ys2 n2 DD h2 tk2 ⟨rfl, hys2, hyl, u2, rfl⟩ F2 N2 hC2 off21 off22
    refine comp_fin F2 N2 hC2 off21 fun h3 F3 N3 => qn1 _ _ ?_
    have eO : O.take (dN O).length = O := by rw [List.length_map]; exact List.take_of_length_le (Nat.le_refl _)
    rw [eO] at hys2
    rw [List.length_map] at hyl
    (try dsimp only)
    (try k_unmd); (try k_fold)
    k_steps
    unfold Stopped
    (try dsimp only)
    have hLD : LD ((acc2, listOf ys2.toArray n2) :: (cm, listOf cv.toArray n5) :: X) acc2 (dN (O.filter fun p => !decide (p ∈ came))) := ⟨ys2, n2, .head _, hys2.mono fun p hp => by cases hp⟩
    have hLC : LD ((acc2, listOf ys2.toArray n2) :: (cm, listOf cv.toArray n5) :: X) cm (dN came) := ⟨cv, n5, .tail _ (.head _), hcv.mono fun p hp => by cases hp⟩
    have PM2 : ((acc2, listOf ys2.toArray n2) :: (τ ++ (P ++ X))).Perm (τ ++ ((acc2, listOf ys2.toArray n2) :: (P ++ X))) := List.perm_middle.symm
    have K5 : Keys ((acc2, listOf ys2.toArray n2) :: (τ ++ (P ++ X))) := by rw [← hDD]; exact K4.cons off22
    rw [hDD] at N3
    have K6 := K5.perm PM2
    have h9 : ∀ p ∈ (acc2, listOf ys2.toArray n2) :: (P ++ X), p.1 ≠ 169 := by
      have h9m : ∃ t9, (169, t9) ∈ τ := by
        rcases hτ with rfl | ⟨c', oc', vs', t', rfl, _⟩
        · exact ⟨_, .head _⟩
        · exact ⟨_, .head _⟩
      obtain ⟨t9, h9m⟩ := h9m
      intro p hp e
      have hK := K6
      unfold Keys at hK
      rw [List.map_append] at hK
      exact (List.nodup_append.mp hK).2.2 _ (List.mem_map_of_mem h9m) _ (List.mem_map_of_mem hp) e.symm
    refine wpAny_call (ready_spec (X := (acc2, listOf ys2.toArray n2) :: (cm, listOf cv.toArray n5) :: X) (rows := rows) (came := came) (left := O.filter fun p => !decide (p ∈ came)) (D := (acc2, listOf ys2.toArray n2) :: (P ++ X)) (C0 _ rfl rfl) F3 (News.perm N3 PM2) hτ HC h9 (hrow.mono fun p hp => .tail _ (.tail _ hp)) hLC hLD ?_ ?_ (by exact o135 hrl h6) (fun r hr => Nat.le_trans (S.short r hr) (by decide)) ?_ hcl (hroom _) (hun _) fun h5 tk5 rl rv n3 l τ' F5 N5 lt5 hτ' hKK hrv hrd => ?_)
    · intro p hp
      rcases List.mem_cons.mp hp with rfl | hp
      · exact .head _
      rcases List.mem_cons.mp hp with rfl | hp
      · exact .tail _ (List.mem_append_left _ mcm0)
      · exact .tail _ (List.mem_append_right _ hp)
    · intro p hp
      rw [hrl]; exact hOr p (List.mem_filter.mp hp).1
    · exact Nat.le_trans (List.length_filter_le _ _) (by exact o135 hOl h6)
    refine store_l F5 N5 rfl rfl rfl fun h7 tk7 F7 N7 => ?_
    have K8 := (hKK K6).cons (a := rl) (o := listOf rv.toArray n3) fun q hq => Nat.ne_of_lt (lt5 q hq)
    (try dsimp only)
    have eP2 : σ.cells w ((ar, listOf rdv.toArray n) :: (rl, listOf rv.toArray n3) :: (cm, listOf cv.toArray n5) :: c4 L o4 o3 o2 o1 (τ' ++ X)) = σ.cells w [(ar, listOf rdv.toArray n)] ++ (rl, listOf rv.toArray n3) :: ((cm, listOf cv.toArray n5) :: c4 L o4 o3 o2 o1 (τ' ++ X)) := by simp [Sor.cells]
    have eP3 : P = σ.cells w [(ar, listOf rdv.toArray n)] ++ ((cm, listOf cv.toArray n5) :: [(L + 1 + 1 + 1 + 1, o4), (L + 1 + 1 + 1, o3), (L + 1 + 1, o2), (L + 1, o1)]) := by rw [hP]; simp [Sor.cells]
    have PM3 : ((rl, listOf rv.toArray n3) :: (τ' ++ (P ++ X))).Perm (σ.cells w ((ar, listOf rdv.toArray n) :: (rl, listOf rv.toArray n3) :: (cm, listOf cv.toArray n5) :: c4 L o4 o3 o2 o1 (τ' ++ X))) := by
      rw [eP2]
      refine List.Perm.trans (.cons _ ?_) List.perm_middle.symm
      refine (List.perm_append_comm_assoc τ' P X).trans ?_
      rw [eP3]
      refine List.Perm.of_eq ?_
      simp
    have N9 : News h₀ L h7 ((rl, listOf rv.toArray n3) :: (τ' ++ (P ++ X))) := News.sub N7 fun p hp => by
      rcases List.mem_cons.mp hp with rfl | hp
      · exact .head _
      · refine .tail _ ?_
        rcases List.mem_append.mp hp with hp | hp
        · exact List.mem_append_left _ hp
        · exact List.mem_append_right _ (.tail _ hp)
    have K9 : Keys ((rl, listOf rv.toArray n3) :: (τ' ++ (P ++ X))) := by
      unfold Keys at K8 ⊢
      exact K8.sublist ((List.Sublist.cons_cons _ ((List.Sublist.refl τ').append (List.sublist_cons_self _ (P ++ X)))).map _)
    exact k _ _ rl n3 rv l τ' (fr_cast F7 (by walk_at "maps")) (News.perm N9 PM3) ⟨ok.dict, K9.perm PM3, ok.lo, ok.good, ok.apart⟩ hτ' hrv hrd
end
end

section
set_option Elab.async false
/-! lists put together with each number once, where it first stands -/
noncomputable def put (d : List Nat) (x : Nat) : List Nat := if x ∈ d then d else d ++ [x]
noncomputable def uni (d l : List Nat) : List Nat := l.foldl put d
theorem uni_nil (d : List Nat) : uni d [] = d := rfl
theorem uni_cons (d : List Nat) (x : Nat) (l : List Nat) : uni d (x :: l) = uni (put d x) l := rfl
theorem uni_append (d a b : List Nat) : uni d (a ++ b) = uni (uni d a) b := List.foldl_append
theorem mem_put {d : List Nat} {x y : Nat} : y ∈ put d x ↔ y ∈ d ∨ y = x := by
  unfold put
  split
  · next h => exact ⟨.inl, fun e => e.elim id fun e => e ▸ h⟩
  · simp
theorem mem_uni {y : Nat} : ∀ {l d : List Nat}, y ∈ uni d l ↔ y ∈ d ∨ y ∈ l
  | [], d => by simp [uni_nil]
  | x :: l, d => by rw [uni_cons, mem_uni, mem_put, List.mem_cons, or_assoc]
theorem put_old {d : List Nat} {x : Nat} (h : x ∈ d) : put d x = d := if_pos h
theorem put_new {d : List Nat} {x : Nat} (h : x ∉ d) : put d x = d ++ [x] := if_neg h
theorem uni_old : ∀ {l d : List Nat}, (∀ x ∈ l, x ∈ d) → uni d l = d
  | [], _, _ => rfl
  | x :: l, d, h => by rw [uni_cons, put_old (h x (.head _))]; exact uni_old fun y hy => h y (.tail _ hy)
theorem put_nodup {d : List Nat} {x : Nat} (h : d.Nodup) : (put d x).Nodup := by
  unfold put
  split
  · exact h
  · next hx => rw [List.nodup_append]; exact ⟨h, by simp, fun a ha b hb e => hx (by rw [List.mem_singleton] at hb; exact hb ▸ e ▸ ha)⟩
theorem uni_nodup : ∀ {l d : List Nat}, d.Nodup → (uni d l).Nodup
  | [], _, h => h
  | _ :: l, _, h => uni_nodup (l := l) (put_nodup h)
theorem put_pre (d : List Nat) (x : Nat) : d <+: put d x := by
  unfold put
  split
  · exact List.prefix_refl _
  · exact List.prefix_append _ _
theorem uni_pre : ∀ (l d : List Nat), d <+: uni d l
  | [], _ => List.prefix_refl _
  | x :: l, d => (put_pre d x).trans (uni_pre l _)
theorem uni_id : ∀ {l d : List Nat}, (d ++ l).Nodup → uni d l = d ++ l
  | [], d, _ => by simp [uni_nil]
  | x :: l, d, h => by
    have hx : x ∉ d := fun hm => (List.nodup_append.mp h).2.2 x hm x (.head _) rfl
    rw [uni_cons, put_new hx, uni_id (by simpa using h)]; simp
/-- what was left out before may be left in -/
theorem uni_flat (f : Nat → List Nat) (d : List Nat) : ∀ (l e : List Nat), uni d ((uni e l).flatMap f) = uni d ((e ++ l).flatMap f)
  | [], e => by simp [uni_nil]
  | x :: l, e => by
    rw [uni_cons, uni_flat f d l]
    by_cases hx : x ∈ e
    · rw [put_old hx]
      simp only [List.flatMap_append, List.flatMap_cons]
      rw [uni_append, uni_append, uni_append]
      congr 1
      refine (uni_old fun y hy => ?_).symm
      rw [mem_uni]
      exact .inr (List.mem_flatMap.mpr ⟨x, hx, hy⟩)
    · rw [put_new hx]; simp
theorem uni_flat0 (f : Nat → List Nat) (d l : List Nat) : uni d ((uni [] l).flatMap f) = uni d (l.flatMap f) := by rw [uni_flat]; rfl
/-- blocks of the same meaning -/
theorem uni_same {f g : Nat → List Nat} : ∀ {l : List Nat}, (∀ x ∈ l, ∀ d, uni d (f x) = uni d (g x)) → ∀ d, uni d (l.flatMap f) = uni d (l.flatMap g)
  | [], _, _ => rfl
  | x :: l, h, d => by
    rw [List.flatMap_cons, List.flatMap_cons, uni_append, uni_append, h x (.head _)]
    exact uni_same (fun y hy => h y (.tail _ hy)) _
/-- the step of one sorter -/
noncomputable def stepF (way : Nat → List Nat) (l : List Nat) : List Nat := uni [] (l.flatMap fun p => p :: way p)
theorem head_uni (P : Nat → Bool) {d l : List Nat} (hd : ∀ x ∈ d, P x = true) : ((uni d l).filter fun x => !P x).head? = (l.filter fun x => !P x).head? := by
  induction l generalizing d with
  | nil =>
    rw [uni_nil, List.filter_eq_nil_iff.mpr fun x hx => by simp [hd x hx]]; rfl
  | cons x l ih =>
    rw [uni_cons, List.filter_cons]
    cases hP : P x with
    | true =>
      rw [ih (d := put d x) fun y hy => (mem_put.mp hy).elim (hd y) fun e => e ▸ hP]; simp
    | false =>
      have hx : x ∉ d := fun hm => by rw [hd x hm] at hP; cases hP
      obtain ⟨t, ht⟩ := uni_pre l (put d x)
      rw [← ht, put_new hx, List.filter_append, List.filter_append, List.filter_eq_nil_iff.mpr fun y hy => by simp [hd y hy]]
      simp [hP]
/-- the first one outside of a closed part stays the first one -/
theorem head_flat (P : Nat → Bool) {G : Nat → List Nat} {l : List Nat} (hG : ∀ x ∈ l, ∃ r, G x = x :: r) (hP : ∀ x ∈ l, P x = true → ∀ y ∈ G x, P y = true) :
    ((uni [] (l.flatMap G)).filter fun x => !P x).head? = (l.filter fun x => !P x).head? := by
  rw [head_uni P (d := []) (by simp)]
  induction l with
  | nil => rfl
  | cons x l ih =>
    rw [List.flatMap_cons, List.filter_append, List.filter_cons]
    cases hx : P x with
    | true =>
      rw [List.filter_eq_nil_iff.mpr fun y hy => by simp [hP x (.head _) hx y hy]]
      simpa using ih (fun y hy => hG y (.tail _ hy)) fun y hy => hP y (.tail _ hy)
    | false =>
      obtain ⟨r, hr⟩ := hG x (.head _)
      rw [hr]; simp [hx]
/-- a list of numbers below n, each once, with every number -/
structure Whole (n : Nat) (l : List Nat) : Prop where
  nodup : l.Nodup
  all : ∀ p, p ∈ l ↔ p < n
theorem sub_len : ∀ {a b : List Nat}, a.Nodup → (∀ x ∈ a, x ∈ b) → a.length ≤ b.length
  | [], _, _, _ => Nat.zero_le _
  | x :: r, b, hn, h => by
    have hx := h x (.head _)
    have h1 := sub_len (a := r) (b := b.erase x) (List.nodup_cons.mp hn).2 fun y hy => by
      have hne : y ≠ x := fun e => (List.nodup_cons.mp hn).1 (e ▸ hy)
      exact (List.mem_erase_of_ne hne).mpr (h y (.tail _ hy))
    have h2 := List.length_erase_of_mem hx
    have h3 := List.length_pos_of_mem hx
    simp only [List.length_cons]
    omega
theorem nodup_below (n : Nat) {l : List Nat} (hn : l.Nodup) (h : ∀ q ∈ l, q < n) : l.length ≤ n := by
  simpa using sub_len hn fun x hx => List.mem_range.mpr (h x hx)
theorem Whole.length {n : Nat} {l : List Nat} (h : Whole n l) : l.length = n := by
  refine Nat.le_antisymm (nodup_below n h.nodup fun q hq => (h.all q).mp hq) ?_
  simpa using sub_len (List.nodup_range (n := n)) fun x hx => (h.all x).mpr (List.mem_range.mp hx)
theorem whole_range (n : Nat) : Whole n (List.range n) := ⟨List.nodup_range, fun _ => List.mem_range⟩
theorem Whole.step {n : Nat} {l : List Nat} {way : Nat → List Nat} (h : Whole n l) (hw : ∀ p, p < n → ∀ q ∈ way p, q < n) : Whole n (stepF way l) := by
  refine ⟨uni_nodup List.nodup_nil, fun p => ?_⟩
  unfold stepF
  rw [mem_uni, List.mem_flatMap]
  constructor
  · rintro (h1 | ⟨q, hq, h1⟩)
    · cases h1
    · rcases List.mem_cons.mp h1 with rfl | h1
      · exact (h.all _).mp hq
      · exact hw q ((h.all q).mp hq) p h1
  · exact fun hp => .inr ⟨p, (h.all p).mpr hp, .head _⟩
end

section
set_option Elab.async false
noncomputable def lev (way : Nat → List Nat) (r : Nat) : Nat → List Nat
  | 0 => [r]
  | k + 1 => (lev way r k).flatMap way
noncomputable def levs (way : Nat → List Nat) (k r : Nat) : List Nat := (List.range k).flatMap (lev way r)
theorem levs_succ (way : Nat → List Nat) (k r : Nat) : levs way (k + 1) r = levs way k r ++ lev way r k := by
  unfold levs; rw [List.range_succ, List.flatMap_append]; simp
theorem mem_levs {way : Nat → List Nat} {k r x : Nat} : x ∈ levs way k r ↔ ∃ i, i < k ∧ x ∈ lev way r i := by
  unfold levs; simp [List.mem_flatMap]
theorem uni_seen {way : Nat → List Nat} : ∀ {e D : List Nat}, (∀ x ∈ e, x ∈ D) → uni D (e.flatMap fun p => p :: way p) = uni D (e.flatMap way)
  | [], _, _ => rfl
  | x :: e, D, h => by
    rw [List.flatMap_cons, List.flatMap_cons, List.cons_append, uni_cons, put_old (h x (.head _)), uni_append, uni_append]
    exact uni_seen fun y hy => mem_uni.mpr (.inl (h y (.tail _ hy)))
theorem levs_step (way : Nat → List Nat) (r : Nat) : ∀ (k : Nat) (D : List Nat), uni D ((levs way (k + 1) r).flatMap fun p => p :: way p) = uni D (levs way (k + 2) r)
  | 0, D => by simp [levs, lev, List.range_succ]
  | k + 1, D => by
    rw [levs_succ way (k + 1), List.flatMap_append, uni_append, levs_step way r k, levs_succ way (k + 2), uni_append]
    exact uni_seen fun x hx => mem_uni.mpr (.inr (by rw [levs_succ]; exact List.mem_append_right _ hx))
theorem lev_lt {way : Nat → List Nat} {n r : Nat} (hw : ∀ p, p < n → ∀ q ∈ way p, q < n) (hr : r < n) : ∀ k, ∀ x ∈ lev way r k, x < n
  | 0, x, hx => by rw [lev, List.mem_singleton] at hx; exact hx ▸ hr
  | k + 1, x, hx => by
    rw [lev, List.mem_flatMap] at hx
    obtain ⟨y, hy, hx⟩ := hx
    exact hw y (lev_lt hw hr k y hy) x hx
theorem levs_grow {way : Nat → List Nat} {r : Nat} : ∀ (k : Nat), (∀ j, j < k → ∃ x ∈ lev way r j, x ∉ levs way j r) → k ≤ (uni [] (levs way k r)).length
  | 0, _ => Nat.zero_le _
  | k + 1, h => by
    have h1 := levs_grow k fun j hj => h j (by exact o172 hj)
    obtain ⟨x, hx, hn⟩ := h k (by exact o175)
    rw [levs_succ, uni_append]
    have hn' : x ∉ uni [] (levs way k r) := fun hm => (mem_uni.mp hm).elim (fun h => nomatch h) hn
    have h2 := sub_len (a := x :: uni [] (levs way k r)) (b := uni (uni [] (levs way k r)) (lev way r k)) (List.nodup_cons.mpr ⟨hn', uni_nodup List.nodup_nil⟩) fun y hy => by
      rw [mem_uni]
      rcases List.mem_cons.mp hy with rfl | hy
      · exact .inr hx
      · exact .inl hy
    simp only [List.length_cons] at h2
    exact o184 h2 h1
theorem levs_closed {way : Nat → List Nat} {r j : Nat} (h : ∀ x ∈ lev way r j, x ∈ levs way j r) (h0 : 0 < j) : ∀ i, ∀ x ∈ lev way r i, x ∈ levs way j r
  | 0, x, hx => mem_levs.mpr ⟨0, h0, hx⟩
  | i + 1, x, hx => by
    rw [lev, List.mem_flatMap] at hx
    obtain ⟨y, hy, hx⟩ := hx
    obtain ⟨a, ha, hy⟩ := mem_levs.mp (levs_closed h h0 i y hy)
    have hx' : x ∈ lev way r (a + 1) := by rw [lev, List.mem_flatMap]; exact ⟨y, hy, hx⟩
    rcases Nat.lt_or_eq_of_le (Nat.succ_le_of_lt ha) with h1 | h1
    · exact mem_levs.mpr ⟨a + 1, h1, hx'⟩
    · have e : a + 1 = j := h1
      exact h x (e ▸ hx')
theorem levs_end {way : Nat → List Nat} {n r : Nat} (hw : ∀ p, p < n → ∀ q ∈ way p, q < n) (hr : r < n) : ∀ x ∈ lev way r n, x ∈ levs way n r := by
  apply Classical.byContradiction
  intro hc
  have h1 : ∀ j, j < n + 1 → ∃ x ∈ lev way r j, x ∉ levs way j r := by
    intro j hj
    apply Classical.byContradiction
    intro h2
    have h3 : ∀ x ∈ lev way r j, x ∈ levs way j r := fun x hx => Classical.byContradiction fun h4 => h2 ⟨x, hx, h4⟩
    have h0 : 0 < j := by
      cases j with
      | zero => exact absurd (h3 r (by simp [lev])) (by simp [levs])
      | succ j => exact o185
    refine hc fun x hx => ?_
    obtain ⟨i, hi, hx⟩ := mem_levs.mp (levs_closed h3 h0 n x hx)
    exact mem_levs.mpr ⟨i, by exact o186 hi hj, hx⟩
  have h2 := levs_grow (n + 1) h1
  have h3 := nodup_below n (l := uni [] (levs way (n + 1) r)) (uni_nodup List.nodup_nil) fun q hq => by
    rcases mem_uni.mp hq with h | h
    · cases h
    · obtain ⟨i, _, hx⟩ := mem_levs.mp h
      exact lev_lt hw hr i q hx
  exact (o187 h2 h3).elim
/-- the order by nearness -/
noncomputable def nearF (way : Nat → List Nat) (n : Nat) : List Nat := uni [] ((List.range n).flatMap (levs way n))
theorem near_fix {way : Nat → List Nat} {n : Nat} (hw : ∀ p, p < n → ∀ q ∈ way p, q < n) : stepF way (nearF way n) = nearF way n := by
  unfold stepF nearF
  rw [uni_flat0, List.flatMap_assoc]
  refine uni_same (fun r hr D => ?_) []
  have hr := List.mem_range.mp hr
  cases n with
  | zero => exact (o188 hr).elim
  | succ k =>
    rw [levs_step, levs_succ way (k + 1), uni_append]
    exact uni_old fun x hx => mem_uni.mpr (.inr (levs_end hw hr x hx))
theorem near_whole {way : Nat → List Nat} {n : Nat} (hw : ∀ p, p < n → ∀ q ∈ way p, q < n) : Whole n (nearF way n) := by
  refine ⟨uni_nodup List.nodup_nil, fun p => ?_⟩
  unfold nearF
  rw [mem_uni, List.mem_flatMap]
  constructor
  · rintro (h | ⟨r, hr, h⟩)
    · cases h
    · obtain ⟨i, _, h⟩ := mem_levs.mp h
      exact lev_lt hw (List.mem_range.mp hr) i p h
  · exact fun hp => .inr ⟨p, List.mem_range.mpr hp, mem_levs.mpr ⟨0, by exact o189 hp, by simp [lev]⟩⟩
/-- outside of each closed part the least one stands first -/
noncomputable def Firsts (way : Nat → List Nat) (n : Nat) (l : List Nat) : Prop :=
  ∀ P : Nat → Bool, (∀ x, x < n → P x = true → ∀ y ∈ way x, P y = true) → (l.filter fun x => !P x).head? = ((List.range n).filter fun x => !P x).head?
theorem firsts_step {way : Nat → List Nat} {n : Nat} {l : List Nat} (hl : Whole n l) (h : Firsts way n l) : Firsts way n (stepF way l) := fun P hP => by
  unfold stepF
  rw [head_flat P (fun x _ => ⟨_, rfl⟩) fun x hx hPx y hy => ?_]
  · exact h P hP
  · rcases List.mem_cons.mp hy with rfl | hy
    · exact hPx
    · exact hP x ((hl.all x).mp hx) hPx y hy
theorem firsts_near {way : Nat → List Nat} {n : Nat} (hw : ∀ p, p < n → ∀ q ∈ way p, q < n) : Firsts way n (nearF way n) := fun P hP => by
  unfold nearF
  refine head_flat P (fun x hx => ?_) fun x hx hPx y hy => ?_
  · have hx := List.mem_range.mp hx
    cases n with
    | zero => exact (o188 hx).elim
    | succ k => exact ⟨_, by unfold levs; rw [List.range_succ_eq_map, List.flatMap_cons, lev]; rfl⟩
  · have hx := List.mem_range.mp hx
    obtain ⟨i, _, hy⟩ := mem_levs.mp hy
    have : ∀ i, ∀ y ∈ lev way x i, P y = true := by
      intro i
      induction i with
      | zero => intro y hy; rw [lev, List.mem_singleton] at hy; exact hy ▸ hPx
      | succ i ih =>
        intro y hy
        rw [lev, List.mem_flatMap] at hy
        obtain ⟨z, hz, hy⟩ := hy
        exact hP z (lev_lt hw hx i z hz) (ih z hz) y hy
    exact this i y hy
theorem take_next {j : Nat} {p l m : List Nat} (hl : l.Nodup) (hm : m.Nodup) (h1 : l.take j = p) (h2 : m.take j = p) (hf : (l.filter fun x => !decide (x ∈ p)).head? = (m.filter fun x => !decide (x ∈ p)).head?) : l.take (j + 1) = m.take (j + 1) := by
  have key : ∀ {l : List Nat}, l.Nodup → l.take j = p → (l.filter fun x => !decide (x ∈ p)).head? = l[j]? := by
    intro l hl h
    have e : l = p ++ l.drop j := by rw [← h, List.take_append_drop]
    have h3 : ∀ x ∈ l.drop j, x ∉ p := fun x hx hxp => by
      rw [e] at hl
      exact (List.nodup_append.mp hl).2.2 x hxp x hx rfl
    conv => lhs; rw [e]
    rw [List.filter_append, List.filter_eq_nil_iff.mpr (fun x hx => by simp [hx]), List.filter_eq_self.mpr (fun x hx => by simp [h3 x hx]), List.nil_append, List.head?_drop]
  rw [List.take_add_one, List.take_add_one, h1, h2, ← key hl h1, ← key hm h2, hf]
theorem agree_step {way : Nat → List Nat} {n j : Nat} {l : List Nat} (hw : ∀ p, p < n → ∀ q ∈ way p, q < n) (hl : Whole n l) (hf : Firsts way n l) (hj : j < n) (h : l.take j = (nearF way n).take j) : (stepF way l).take (j + 1) = (nearF way n).take (j + 1) := by
  have hB := near_whole hw
  generalize hBe : nearF way n = B at h hB ⊢
  have hfix : stepF way B = B := by rw [← hBe]; exact near_fix hw
  have hfB : Firsts way n B := by rw [← hBe]; exact firsts_near hw
  have hBl := hB.length
  generalize hp : B.take j = p at h
  have hpl : p.length = j := by rw [← hp, List.length_take]; exact o190 hj hBl
  have pre : ∀ {m : List Nat}, m.take j = p → uni [] (p.flatMap fun q => q :: way q) <+: stepF way m := fun {m} hm => by
    unfold stepF
    conv => rhs; rw [← List.take_append_drop j m, hm]
    rw [List.flatMap_append, uni_append]
    exact uni_pre _ _
  have c1 := pre h
  have c2 := pre hp
  rw [hfix] at c2
  generalize hc : uni [] (p.flatMap fun q => q :: way q) = c at c1 c2
  have hcn : c.Nodup := hc ▸ uni_nodup List.nodup_nil
  have hcm : ∀ x, x ∈ c ↔ ∃ q ∈ p, x ∈ q :: way q := fun x => by rw [← hc, mem_uni, List.mem_flatMap]; simp
  rcases Nat.lt_or_ge j c.length with hlt | hge
  · have ht : ∀ {m : List Nat}, c <+: m → m.take (j + 1) = c.take (j + 1) := fun {m} hm => by
      obtain ⟨t, rfl⟩ := hm
      rw [List.take_append_of_le_length (by exact o191 hlt)]
    rw [ht c1, ht c2]
  · have hpn : p.Nodup := hp ▸ hB.nodup.sublist (List.take_sublist _ _)
    have h1 := sub_len hpn fun x hx => (hcm x).mpr ⟨x, hx, .head _⟩
    have e : c = p := by
      rw [List.prefix_iff_eq_take.mp c2, ← hp]; congr 1; exact o192 hpl hge h1
    have hcl : ∀ x, x < n → decide (x ∈ p) = true → ∀ y ∈ way x, decide (y ∈ p) = true := fun x _ hx y hy => by
      simp only [decide_eq_true_eq] at hx ⊢
      rw [← e]
      exact (hcm y).mpr ⟨x, hx, .tail _ hy⟩
    refine take_next (p := p) (uni_nodup List.nodup_nil) hB.nodup ?_ hp ?_
    · rw [e] at c1
      rw [← hpl]; exact (List.prefix_iff_eq_take.mp c1).symm
    · rw [firsts_step hl hf _ hcl, hfB _ hcl]
noncomputable def itF (way : Nat → List Nat) (n : Nat) : Nat → List Nat
  | 0 => List.range n
  | k + 1 => stepF way (itF way n k)
theorem itF_ok {way : Nat → List Nat} {n : Nat} (hw : ∀ p, p < n → ∀ q ∈ way p, q < n) : ∀ k, Whole n (itF way n k) ∧ Firsts way n (itF way n k)
  | 0 => ⟨whole_range n, fun _ _ => rfl⟩
  | k + 1 => ⟨(itF_ok hw k).1.step hw, firsts_step (itF_ok hw k).1 (itF_ok hw k).2⟩
theorem itF_agree {way : Nat → List Nat} {n : Nat} (hw : ∀ p, p < n → ∀ q ∈ way p, q < n) : ∀ k j, j ≤ k + 1 → j ≤ n → (itF way n k).take j = (nearF way n).take j
  | _, 0, _, _ => by simp
  | 0, j + 1, h1, h2 => by
    have e : j = 0 := by exact o193 h1
    subst e
    have h := firsts_near hw (fun _ => false) (fun _ _ h => nomatch h)
    refine take_next (p := []) (whole_range n).nodup (near_whole hw).nodup rfl rfl ?_
    simpa [itF] using h.symm
  | k + 1, j + 1, h1, h2 => agree_step hw (itF_ok hw k).1 (itF_ok hw k).2 (by exact o194 h2) (itF_agree hw k j (by exact o195 h1) (by exact o18 h2))
theorem itF_near {way : Nat → List Nat} {n k : Nat} (hw : ∀ p, p < n → ∀ q ∈ way p, q < n) (hk : n ≤ k + 1) : itF way n k = nearF way n := by
  have h := itF_agree hw k n hk (Nat.le_refl _)
  rwa [List.take_of_length_le (Nat.le_of_eq (itF_ok hw k).1.length), List.take_of_length_le (Nat.le_of_eq (near_whole hw).length)] at h
end

section
set_option Elab.async false
set_option maxRecDepth 100000
theorem fold_ends (ways : List (List Nat)) (p : Nat) : ∀ (ws : List (List Nat)) (d : List Nat), ws.foldl (fun d w => addEnd d (endN ways p w)) d = uni d (ws.filterMap (endN ways p))
  | [], _ => rfl
  | w :: ws, d => by
    rw [List.foldl_cons, List.filterMap_cons, fold_ends ways p ws]
    cases endN ways p w with
    | none => rfl
    | some q => rfl
theorem endN_snoc (ways : List (List Nat)) (s : Nat) : ∀ (w : List Nat) (p : Nat), endN ways p (w ++ [s]) = (endN ways p w).bind fun e => if (ways.getD e []).length < s then none else some (stepN ways e s)
  | [], p => by simp [endN]
  | t :: w, p => by
    simp only [List.cons_append, endN]
    split
    · rfl
    · exact endN_snoc ways s w _
theorem way_pick (l : List Nat) (f : Nat → Nat) : ∀ (n : Nat), l.length ≤ n → (∀ i, f (i + 1) = l.getD i 0) → (List.range' 1 n).filterMap (fun s => if l.length < s then none else some (f s)) = l := by
  intro n
  induction n generalizing l f with
  | zero =>
    intro h _
    have : l = [] := List.length_eq_zero_iff.mp (by exact o196 h)
    rw [this]; rfl
  | succ n ih =>
    intro h hf
    cases l with
    | nil =>
      rw [List.filterMap_eq_nil_iff]
      intro s hs
      have := List.mem_range'.mp hs
      obtain ⟨i, _, e⟩ := this
      rw [if_pos (by simp; exact o197 e)]
    | cons x l =>
      rw [List.range'_succ, List.filterMap_cons, if_neg (by simp)]
      have e1 : f 1 = x := by rw [hf 0]; rfl
      have e2 : List.range' (1 + 1) n = (List.range' 1 n).map (1 + ·) := by rw [List.map_add_range']
      rw [e1, e2, List.filterMap_map]
      have e3 := ih l (fun s => f (s + 1)) (by simpa using h) fun i => by rw [hf (i + 1)]; rfl
      dsimp only
      congr 1
      conv => rhs; rw [← e3]
      congr 1
      funext s
      dsimp only [Function.comp]
      by_cases hs : l.length < s
      · rw [if_pos hs, if_pos (by simp only [List.length_cons]; exact o198 hs)]
      · rw [if_neg hs, if_neg (by simp only [List.length_cons]; exact o199 hs)]
        congr 2
        exact o200
noncomputable abbrev wayF (ways : List (List Nat)) (p : Nat) : List Nat := ways.getD p []
theorem signs1 {ways : List (List Nat)} {n e : Nat} (h : (ways.getD e []).length ≤ n) : (List.range' 1 n).filterMap (fun s => if (ways.getD e []).length < s then none else some (stepN ways e s)) = wayF ways e :=
  way_pick _ (stepN ways e) n h fun i => by unfold stepN; rw [if_neg (by exact o201)]; rfl
theorem signs0 {ways : List (List Nat)} {n e : Nat} (h : (ways.getD e []).length ≤ n) : (List.range' 0 (n + 1)).filterMap (fun s => if (ways.getD e []).length < s then none else some (stepN ways e s)) = e :: wayF ways e := by
  rw [List.range'_succ, List.filterMap_cons, if_neg (by exact o202)]
  have : stepN ways e 0 = e := by unfold stepN; rw [if_pos rfl]
  rw [this, Nat.zero_add, signs1 h]
theorem ends_succ {ways : List (List Nat)} {first last : Nat} (p : Nat) (G : Nat → List Nat) (hG : ∀ e, (List.range' first (last + 1 - first)).filterMap (fun s => if (ways.getD e []).length < s then none else some (stepN ways e s)) = G e) (k : Nat) :
    (wordsN first last (k + 1)).filterMap (endN ways p) = ((wordsN first last k).filterMap (endN ways p)).flatMap G := by
  rw [wordsN]
  generalize wordsN first last k = ws
  induction ws with
  | nil => rfl
  | cons w ws ih =>
    rw [List.flatMap_cons, List.filterMap_append, ih, List.filterMap_cons, List.filterMap_map]
    have e : ((endN ways p) ∘ fun s => w ++ [s]) = fun s => (endN ways p w).bind fun e => if (ways.getD e []).length < s then none else some (stepN ways e s) := by
      funext s; exact endN_snoc ways s w p
    rw [e]
    cases endN ways p w with
    | none =>
      have : (fun s : Nat => (none : Option Nat).bind fun e => if (ways.getD e []).length < s then none else some (stepN ways e s)) = fun _ => none := rfl
      rw [this]; simp
    | some q =>
      simp only [Option.bind_some, List.flatMap_cons]
      rw [hG q]
theorem foldl_uni (f : Nat → List Nat) (g : List Nat → Nat → List Nat) (hg : ∀ d p, g d p = uni d (f p)) : ∀ (l d : List Nat), l.foldl g d = uni d (l.flatMap f)
  | [], _ => rfl
  | p :: l, d => by rw [List.foldl_cons, hg, foldl_uni f g hg l, List.flatMap_cons, uni_append]
theorem getD_len {ways : List (List Nat)} {n : Nat} (h : ∀ r ∈ ways, r.length ≤ n) (e : Nat) : (ways.getD e []).length ≤ n := by
  rcases Nat.lt_or_ge e ways.length with h1 | h1
  · exact h _ (getD_mem h1)
  · rw [List.getD_eq_getElem?_getD, List.getElem?_eq_none h1]; exact Nat.zero_le _
theorem least_eq {ways : List (List Nat)} (h : ∀ r ∈ ways, r.length ≤ ways.length) (k : Nat) : leastN ways k = itF (wayF ways) ways.length k := by
  have e0 : ∀ k, leastN ways k = uni [] ((List.range ways.length).flatMap fun p => (wordsN 0 ways.length k).filterMap (endN ways p)) := fun k => by
    unfold leastN
    exact foldl_uni (fun p => (wordsN 0 ways.length k).filterMap (endN ways p)) _ (fun d p => by unfold leastAt; exact fold_ends ways p _ d) _ _
  induction k with
  | zero =>
    rw [e0]
    have e1 : ((List.range ways.length).flatMap fun p => (wordsN 0 ways.length 0).filterMap (endN ways p)) = List.range ways.length := by
      have : (fun p => (wordsN 0 ways.length 0).filterMap (endN ways p)) = fun p => [p] := by
        funext p; simp [wordsN, endN]
      rw [this]; simp
    rw [e1, uni_id (by simpa using List.nodup_range)]
    simp [itF]
  | succ k ih =>
    rw [e0, itF, ← ih, e0 k]
    unfold stepF
    rw [uni_flat0, List.flatMap_assoc]
    congr 1
    congr 1
    funext p
    exact ends_succ p (fun e => e :: wayF ways e) (fun e => by rw [Nat.sub_zero]; exact signs0 (getD_len h e)) k
theorem levs_way {way : Nat → List Nat} {n r : Nat} (hw : ∀ p, p < n → ∀ q ∈ way p, q < n) (hr : r < n) {x y : Nat} (hx : x ∈ levs way n r) (hy : y ∈ way x) : y ∈ levs way n r := by
  obtain ⟨i, hi, hx⟩ := mem_levs.mp hx
  have h1 : y ∈ lev way r (i + 1) := by rw [lev, List.mem_flatMap]; exact ⟨x, hx, hy⟩
  rcases Nat.lt_or_eq_of_le (Nat.succ_le_of_lt hi) with h | h
  · exact mem_levs.mpr ⟨i + 1, h, h1⟩
  · have e : i + 1 = n := h
    exact levs_end hw hr y (e ▸ h1)
theorem levs_sub {way : Nat → List Nat} {n r x : Nat} (hw : ∀ p, p < n → ∀ q ∈ way p, q < n) (hr : r < n) (hx : x ∈ levs way n r) : ∀ j, ∀ y ∈ lev way x j, y ∈ levs way n r
  | 0, y, hy => by rw [lev, List.mem_singleton] at hy; exact hy ▸ hx
  | j + 1, y, hy => by
    rw [lev, List.mem_flatMap] at hy
    obtain ⟨z, hz, hy⟩ := hy
    exact levs_way hw hr (levs_sub hw hr hx j z hz) hy
theorem near_eq {ways : List (List Nat)} (h : ∀ r ∈ ways, r.length ≤ ways.length) (hin : ∀ r ∈ ways, ∀ q ∈ r, q < ways.length) : nearN ways = nearF (wayF ways) ways.length := by
  have hw : ∀ p, p < ways.length → ∀ q ∈ wayF ways p, q < ways.length := fun p hp => hin _ (getD_mem hp)
  have hl : ∀ (k r : Nat), (wordsN 1 ways.length k).filterMap (endN ways r) = lev (wayF ways) r k := by
    intro k r
    induction k with
    | zero => simp [wordsN, endN, lev]
    | succ k ih => rw [lev, ← ih]; exact ends_succ r (wayF ways) (fun e => by rw [Nat.add_sub_cancel]; exact signs1 (getD_len h e)) k
  have key : ∀ i, i ≤ ways.length → (List.range i).foldl (nearRoot ways) [] = uni [] ((List.range i).flatMap (levs (wayF ways) ways.length)) := by
    intro i
    induction i with
    | zero => intro _; rfl
    | succ i ih =>
      intro hi
      rw [List.range_succ, List.foldl_append, ih (by exact o18 hi), List.foldl_cons, List.foldl_nil, List.flatMap_append, uni_append]
      generalize hd : uni [] ((List.range i).flatMap (levs (wayF ways) ways.length)) = d
      have e2 : (List.range ways.length).foldl (nearAt ways i) d = uni d (levs (wayF ways) ways.length i) := by
        unfold levs
        exact foldl_uni (fun k => lev (wayF ways) i k) _ (fun d k => by unfold nearAt; rw [fold_ends, hl]) _ _
      unfold nearRoot
      rw [e2]
      simp only [List.flatMap_cons, List.flatMap_nil, List.append_nil]
      split
      · next hm =>
        rw [← hd, mem_uni, List.mem_flatMap] at hm
        rcases hm with hm | ⟨r, hr, hm⟩
        · cases hm
        · have hr' := List.mem_range.mp hr
          refine (uni_old fun y hy => ?_).symm
          obtain ⟨j, _, hy⟩ := mem_levs.mp hy
          rw [← hd, mem_uni, List.mem_flatMap]
          exact .inr ⟨r, hr, levs_sub hw (by exact o203 hr' hi) hm j y hy⟩
      · rfl
  unfold nearN nearF
  exact key _ (Nat.le_refl _)
theorem ways_small {many : Nat} {rows : List (List Nat)} (hl : rows.length = many) (hin : ∀ r ∈ rows, ∀ q ∈ r, q < many) : ∀ r ∈ rows.map wayN, r.length ≤ (rows.map wayN).length := fun r hr => by
  obtain ⟨r', hr', rfl⟩ := List.mem_map.mp hr
  rw [List.length_map, hl]
  exact nodup_below many (wayN_nodup r') fun q hq => hin r' hr' q (wayN_mem.mp hq)
theorem due_eq {many ti : Nat} {rows : List (List Nat)} (hl : rows.length = many) (hin : ∀ r ∈ rows, ∀ q ∈ r, q < many) : dueN rows many ti = itF (wayF (rows.map wayN)) many ti := by
  have h1 := ways_small hl hin
  have h2 : (rows.map wayN).length = many := by rw [List.length_map, hl]
  have h3 : ∀ r ∈ rows.map wayN, ∀ q ∈ r, q < (rows.map wayN).length := fun r hr q hq => by
    obtain ⟨r', hr', rfl⟩ := List.mem_map.mp hr
    rw [h2]; exact hin r' hr' q (wayN_mem.mp hq)
  unfold dueN
  split
  · rw [least_eq h1, h2]
  · next hn =>
    rw [near_eq h1 h3]
    have h4 := itF_near (way := wayF (rows.map wayN)) (n := (rows.map wayN).length) (k := ti) (fun p hp q hq => h3 _ (getD_mem hp) q hq) (by exact o204 h2 hn)
    rw [h2] at h4 ⊢
    exact h4.symm
/-- a row as a way: each once -/
theorem wayTo_uni {row : List Nat} : ∀ {j : Nat}, j ≤ row.length → ∀ d, uni d (wayTo row j) = uni d (row.take j)
  | 0, _, d => by simp [wayTo]
  | j + 1, h, d => by
    have hj : j < row.length := h
    have e : row.getD j 0 = row[j] := by rw [List.getD_eq_getElem?_getD, List.getElem?_eq_getElem hj]; rfl
    rw [wayTo_succ, uni_append, wayTo_uni (Nat.le_of_lt hj), List.take_add_one, List.getElem?_eq_getElem hj, uni_append, e]
    simp only [Option.toList_some]
    by_cases hm : row[j] ∈ row.take j
    · rw [if_neg (by simp [hm]), uni_nil]
      exact (uni_old fun x hx => by rw [List.mem_singleton.mp hx, mem_uni]; exact .inr hm).symm
    · rw [if_pos (by simp [hm])]
theorem way_uni (row d : List Nat) : uni d (wayN row) = uni d row := by
  unfold wayN
  rw [wayTo_uni (Nat.le_refl _), List.take_of_length_le (Nat.le_refl _)]
theorem way_at {rows : List (List Nat)} (p : Nat) : wayF (rows.map wayN) p = wayN (rows.getD p []) := by
  unfold wayF
  rw [List.getD_eq_getElem?_getD, List.getD_eq_getElem?_getD, List.getElem?_map]
  cases rows[p]? <;> rfl
theorem step_rows {rows : List (List Nat)} (O : List Nat) : stepF (wayF (rows.map wayN)) O = uni [] (O.flatMap fun p => p :: rows.getD p []) := by
  unfold stepF
  refine uni_same (fun x _ d => ?_) []
  rw [uni_cons, uni_cons, way_at, way_uni]
end

section
set_option Elab.async false
set_option maxRecDepth 100000
/-! the records, in plain words -/
noncomputable def mkA (keys : List Nat) (f : Nat → Int × List Nat) : Abs := keys.map fun p => (p, f p)
theorem mk_congr {keys : List Nat} {f g : Nat → Int × List Nat} (h : ∀ p ∈ keys, f p = g p) : mkA keys f = mkA keys g := List.map_congr_left fun p hp => by rw [h p hp]
theorem hasP_mk {keys : List Nat} {f : Nat → Int × List Nat} {p : Nat} : hasP (mkA keys f) p = decide (p ∈ keys) := by
  unfold hasP mkA
  rw [List.any_map]
  by_cases h : p ∈ keys
  · rw [decide_eq_true h, List.any_eq_true]; exact ⟨p, h, by simp⟩
  · rw [decide_eq_false h, List.any_eq_false]
    intro x hx
    simp only [Function.comp, beq_iff_eq]
    exact fun e => h (e ▸ hx)
theorem mod_mk {keys : List Nat} {f : Nat → Int × List Nat} {q : Nat} {g : Int × List Nat → Int × List Nat} : modAbs q g (mkA keys f) = mkA keys (fun p => if p = q then g (f p) else f p) := by
  unfold modAbs mkA
  rw [List.map_map]
  refine List.map_congr_left fun p _ => ?_
  simp only [Function.comp]
  split <;> rfl
theorem get_mk {keys : List Nat} {f : Nat → Int × List Nat} {p : Nat} (h : p ∉ keys → f p = (0, [])) : getInfo p (mkA keys f) = mkA (put keys p) f := by
  unfold getInfo put
  rw [hasP_mk]
  by_cases hp : p ∈ keys
  · rw [if_pos (decide_eq_true hp), if_pos hp]
  · rw [if_neg (by simp [hp]), if_neg hp]
    unfold mkA
    rw [List.map_append, List.map_singleton, h hp]
theorem entry_mk {f : Nat → Int × List Nat} {p : Nat} : ∀ {keys : List Nat}, p ∈ keys → entryOf (mkA keys f) p = f p
  | q :: keys, h => by
    unfold entryOf mkA
    rw [List.map_cons]
    by_cases e : q = p
    · subst e; rw [List.find?_cons_of_pos (by simp)]
    · rw [List.find?_cons_of_neg (by simpa using e)]
      exact entry_mk ((List.mem_cons.mp h).resolve_left fun h => e h.symm)
noncomputable abbrev hitsN (l : List Nat) (r p : Nat) : List Nat := (l.filter fun q => decide (q = r)).map fun _ => p
theorem preds_mk {p : Nat} : ∀ (l keys : List Nat) (f : Nat → Int × List Nat), (∀ r, r ∉ keys → f r = (0, [])) → l.foldl (addPred p) (mkA keys f) = mkA (uni keys l) fun r => ((f r).1, (f r).2 ++ hitsN l r p)
  | [], keys, f, _ => by simp [uni_nil, hitsN]
  | q :: l, keys, f, h => by
    rw [List.foldl_cons, addPred, get_mk (h q), mod_mk, preds_mk l _ _ fun r hr => ?_, uni_cons]
    · refine mk_congr fun r _ => ?_
      by_cases e : r = q
      · subst e
        simp [hitsN, List.filter_cons_of_pos]
      · have e' : ¬ q = r := fun x => e x.symm
        simp [hitsN, e, e', List.filter_cons_of_neg]
    · rw [mem_put] at hr
      rw [if_neg fun e => hr (.inr e)]
      exact h r fun hm => hr (.inl hm)
theorem addP_mk {p : Nat} {l keys : List Nat} {f : Nat → Int × List Nat} (h : ∀ r, r ∉ keys → f r = (0, [])) : addP p l (mkA keys f) = mkA (uni (put keys p) l) fun r => ((f r).1 + (if r = p then (l.length : Int) else 0), (f r).2 ++ hitsN l r p) := by
  unfold addP
  rw [get_mk (h p), mod_mk, preds_mk l _ _ fun r hr => ?_]
  · refine mk_congr fun r _ => ?_
    by_cases e : r = p
    · simp [e]
    · simp [e]
  · rw [mem_put] at hr
    rw [if_neg fun e => hr (.inr e)]
    exact h r fun hm => hr (.inl hm)
section
variable {row : Nat → List Nat}
/-- who waits for r, in the order handed in -/
noncomputable def behF (row : Nat → List Nat) (O : List Nat) (r : Nat) : List Nat := O.flatMap fun o => hitsN (row o) r o
theorem init_mk : ∀ (g keys : List Nat) (f : Nat → Int × List Nat), g.Nodup → (∀ r, r ∉ keys → f r = (0, [])) →
    g.foldl (fun a p => addP p (row p) a) (mkA keys f) = mkA (uni keys (g.flatMap fun p => p :: row p)) fun r => ((f r).1 + (if r ∈ g then ((row r).length : Int) else 0), (f r).2 ++ behF row g r)
  | [], keys, f, _, _ => by simp [uni_nil, behF]
  | p :: g, keys, f, hn, h => by
    have hn' := List.nodup_cons.mp hn
    rw [List.foldl_cons, addP_mk h, init_mk g _ _ hn'.2 fun r hr => ?_, List.flatMap_cons, uni_append, uni_cons]
    · refine mk_congr fun r _ => ?_
      have e2 : behF row (p :: g) r = hitsN (row p) r p ++ behF row g r := by unfold behF; rw [List.flatMap_cons]
      rw [e2]
      by_cases e : r = p
      · subst e
        simp [hn'.1]
      · simp [e]
    · have h1 : r ∉ keys ∧ r ≠ p ∧ r ∉ row p := by
        rw [mem_uni, mem_put] at hr
        exact ⟨fun x => hr (.inl (.inl x)), fun x => hr (.inl (.inr x)), fun x => hr (.inr x)⟩
      rw [h r h1.1]
      have h2 : hitsN (row p) r p = [] := by
        unfold hitsN
        rw [List.filter_eq_nil_iff.mpr fun x hx => by simp only [decide_eq_true_eq]; exact fun e => h1.2.2 (e ▸ hx)]; rfl
      simp [h2, h1.2.1]
theorem init_eq {O : List Nat} (hn : O.Nodup) (hin : ∀ p ∈ O, ∀ q ∈ row p, q ∈ O) : initP (O.map fun p => (p, row p)) = mkA (uni [] (O.flatMap fun p => p :: row p)) fun r => ((row r).length, behF row O r) := by
  unfold initP
  rw [List.foldl_map]
  have h := init_mk (row := row) O [] (fun _ => (0, [])) hn fun _ _ => rfl
  have e0 : mkA [] (fun _ => ((0 : Int), ([] : List Nat))) = [] := rfl
  rw [e0] at h
  rw [h]
  refine mk_congr fun r hr => ?_
  have : r ∈ O := by
    rw [mem_uni, List.mem_flatMap] at hr
    rcases hr with hr | ⟨p, hp, hr⟩
    · cases hr
    · rcases List.mem_cons.mp hr with rfl | hr
      · exact hp
      · exact hin p hp r hr
  simp [this]
/-! a round -/
theorem out_mk {keys : List Nat} : ∀ (R : List Nat) (f : Nat → Int × List Nat), outAll R (mkA keys f) = mkA keys fun r => (if r ∈ R then -1 else (f r).1, (f r).2)
  | [], f => by unfold outAll; simp
  | q :: R, f => by
    unfold outAll
    rw [List.foldl_cons, mod_mk]
    have h := out_mk (keys := keys) R (fun p => if p = q then (-1, (f p).2) else f p)
    unfold outAll at h
    rw [h]
    refine mk_congr fun r _ => ?_
    by_cases e : r = q
    · simp [e]
    · simp [e]
theorem block {keys : List Nat} {o : Nat} (ho : o ∈ keys) : ∀ (c : Nat) (f : Nat → Int × List Nat) (rd : List Nat), (List.replicate c o).foldl doneStep (mkA keys f, rd) =
    (mkA keys (fun r => if r = o then ((f r).1 - c, (f r).2) else f r), if 1 ≤ (f o).1 ∧ (f o).1 ≤ c then rd ++ [o] else rd)
  | 0, f, rd => by
    rw [List.replicate_zero, List.foldl_nil, if_neg (by exact o205)]
    congr 1
    refine mk_congr fun r _ => ?_
    split <;> simp
  | c + 1, f, rd => by
    rw [List.replicate_succ, List.foldl_cons]
    have e : doneStep (mkA keys f, rd) o = (mkA keys (fun r => if r = o then ((f r).1 - 1, (f r).2) else f r), if (f o).1 = 1 then rd ++ [o] else rd) := by
      unfold doneStep
      rw [mod_mk, entry_mk ho]
    rw [e, block ho c]
    congr 1
    · refine mk_congr fun r _ => ?_
      by_cases e : r = o
      · simp only [e, if_true]; congr 1; exact o206
      · simp [e]
    · simp only [if_true]
      by_cases h1 : (f o).1 = 1
      · rw [if_neg (by exact o207 h1), if_pos h1, if_pos (by exact o208 h1)]
      · rw [if_neg h1]
        by_cases h2 : 1 ≤ (f o).1 - 1 ∧ (f o).1 - 1 ≤ c
        · rw [if_pos h2, if_pos (by exact o209 h2)]
        · rw [if_neg h2, if_neg (by exact o210 h1 h2)]
noncomputable abbrev cnF (row : Nat → List Nat) (q o : Nat) : Nat := ((row o).filter fun x => decide (x = q)).length
theorem beh_rep (O : List Nat) (q : Nat) : behF row O q = O.flatMap fun o => List.replicate (cnF row q o) o := by
  unfold behF hitsN
  congr 1
  funext o
  exact List.map_const'
theorem sweep {keys : List Nat} {q : Nat} : ∀ (P : List Nat) (f : Nat → Int × List Nat) (rd : List Nat), P.Nodup → (∀ o ∈ P, o ∈ keys) → (P.flatMap fun o => List.replicate (cnF row q o) o).foldl doneStep (mkA keys f, rd) =
    (mkA keys (fun r => if r ∈ P then ((f r).1 - cnF row q r, (f r).2) else f r), rd ++ P.filter fun o => decide (1 ≤ (f o).1 ∧ (f o).1 ≤ cnF row q o))
  | [], f, rd, _, _ => by simp
  | o :: P, f, rd, hn, hk => by
    have hn' := List.nodup_cons.mp hn
    rw [List.flatMap_cons, List.foldl_append, block (hk o (.head _)), sweep P _ _ hn'.2 fun x hx => hk x (.tail _ hx)]
    congr 1
    · refine mk_congr fun r _ => ?_
      by_cases e : r = o
      · subst e; simp [hn'.1]
      · simp [e]
    · have e1 : (P.filter fun x => decide (1 ≤ (if x = o then ((f x).1 - (cnF row q o : Int), (f x).2) else f x).1 ∧ (if x = o then ((f x).1 - (cnF row q o : Int), (f x).2) else f x).1 ≤ (cnF row q x : Int))) = P.filter fun x => decide (1 ≤ (f x).1 ∧ (f x).1 ≤ (cnF row q x : Int)) := by
        refine List.filter_congr fun x hx => ?_
        have : x ≠ o := fun e => hn'.1 (e ▸ hx)
        simp [this]
      rw [e1, List.filter_cons]
      by_cases h1 : 1 ≤ (f o).1 ∧ (f o).1 ≤ (cnF row q o : Int)
      · rw [if_pos h1, if_pos (decide_eq_true h1)]; simp
      · rw [if_neg h1, if_neg (by simpa using h1)]
theorem done_mk {O keys : List Nat} {q : Nat} {f : Nat → Int × List Nat} {rd : List Nat} (hn : O.Nodup) (hk : ∀ p, p ∈ keys ↔ p ∈ O) (hq : q ∈ O) (hf : (f q).2 = behF row O q) :
    doneP (mkA keys f, rd) q = (mkA keys (fun r => ((if r = q then -2 else (f r).1) - cnF row q r, (f r).2)), rd ++ O.filter fun o => decide (1 ≤ (if o = q then -2 else (f o).1) ∧ (if o = q then -2 else (f o).1) ≤ (cnF row q o : Int))) := by
  unfold doneP
  rw [entry_mk ((hk q).mpr hq), hf, beh_rep, mod_mk, sweep O _ _ hn fun o ho => (hk o).mpr ho]
  congr 1
  · refine mk_congr fun r hr => ?_
    rw [if_pos ((hk r).mp hr)]
    split <;> rfl
  · congr 1
    refine List.filter_congr fun x _ => ?_
    by_cases e : x = q <;> simp [e]
end
end

section
set_option Elab.async false
set_option maxRecDepth 100000
section
variable {row : Nat → List Nat}
noncomputable abbrev undN (C l : List Nat) : Nat := (l.filter fun q => !decide (q ∈ C)).length
theorem und_zero {C l : List Nat} (h : ∀ q ∈ l, q ∈ C) : undN C l = 0 := by
  unfold undN
  rw [List.filter_eq_nil_iff.mpr fun q hq => by simp [h q hq]]; rfl
theorem und_pos {C l : List Nat} : undN C l = 0 → ∀ q ∈ l, q ∈ C := by
  intro h q hq
  have := List.filter_eq_nil_iff.mp (List.length_eq_zero_iff.mp h) q hq
  simpa using this
theorem und_snoc {C : List Nat} {q : Nat} (hq : q ∉ C) : ∀ l : List Nat, undN C l = undN (C ++ [q]) l + (l.filter fun x => decide (x = q)).length
  | [] => rfl
  | x :: l => by
    have ih := und_snoc hq l
    unfold undN at ih ⊢
    by_cases e : x = q
    · subst e
      rw [List.filter_cons_of_pos (by simp [hq]), List.filter_cons_of_neg (by simp), List.filter_cons_of_pos (by simp)]
      simp only [List.length_cons]; exact o211 ih
    · by_cases hx : x ∈ C
      · rw [List.filter_cons_of_neg (by simp [hx]), List.filter_cons_of_neg (by simp [hx]), List.filter_cons_of_neg (by simp [e])]; exact ih
      · rw [List.filter_cons_of_pos (by simp [hx]), List.filter_cons_of_pos (by simp [hx, e]), List.filter_cons_of_neg (by simp [e])]
        simp only [List.length_cons]; exact o212 ih
noncomputable def cntF (row : Nat → List Nat) (C R : List Nat) (r : Nat) : Int := if r ∈ C then -2 else if r ∈ R then -1 else (undN C (row r) : Int)
noncomputable def newAll (row : Nat → List Nat) (O T : List Nat) : List Nat → List Nat → List Nat
  | _, [] => []
  | C, q :: r => (O.filter fun o => decide (o ∉ T ∧ q ∈ row o ∧ ∀ x ∈ row o, x ∈ C ++ [q])) ++ newAll row O T (C ++ [q]) r
/-- the ground of a round -/
structure Gr (row : Nat → List Nat) (O keys came R : List Nat) : Prop where
  on : O.Nodup
  ko : ∀ p, p ∈ keys ↔ p ∈ O
  nd : (came ++ R).Nodup
  lt : ∀ p ∈ came ++ R, p ∈ O
  cl : ∀ p ∈ came ++ R, ∀ q ∈ row p, q ∈ came
theorem cn_zero {q o : Nat} (h : q ∉ row o) : cnF row q o = 0 := by
  unfold cnF
  rw [List.filter_eq_nil_iff.mpr fun x hx => by simp only [decide_eq_true_eq]; exact fun e => h (e ▸ hx)]; rfl
theorem cn_pos {q o : Nat} (h : q ∈ row o) : 1 ≤ cnF row q o :=
  List.length_pos_of_mem (List.mem_filter.mpr ⟨h, by simp⟩)
theorem cnt_step {O keys came R C rest : List Nat} {q : Nat} (G : Gr row O keys came R) (hT : C ++ q :: rest = came ++ R) (hc : ∀ x ∈ came, x ∈ C) (r : Nat) :
    (if r = q then -2 else cntF row C R r) - (cnF row q r : Int) = cntF row (C ++ [q]) R r := by
  have hnd := G.nd
  rw [← hT] at hnd
  have hqC : q ∉ C := fun hm => (List.nodup_append.mp hnd).2.2 q hm q (.head _) rfl
  have hqc : q ∉ came := fun hm => hqC (hc q hm)
  have hqT : q ∈ came ++ R := by rw [← hT]; exact List.mem_append_right _ (.head _)
  have done : r ∈ came ++ R → cnF row q r = 0 := fun hr => cn_zero fun hm => hqc (G.cl r hr q hm)
  unfold cntF
  by_cases e : r = q
  · subst e
    rw [if_pos rfl, if_pos (by simp), done hqT]; rfl
  · rw [if_neg e]
    by_cases h1 : r ∈ C
    · rw [if_pos h1, if_pos (List.mem_append_left _ h1), done (by rw [← hT]; exact List.mem_append_left _ h1)]; rfl
    · have h3 : r ∉ C ++ [q] := by simp [h1, e]
      rw [if_neg h1, if_neg h3]
      by_cases h2 : r ∈ R
      · rw [if_pos h2, if_pos h2, done (List.mem_append_right _ h2)]; rfl
      · rw [if_neg h2, if_neg h2]
        have := und_snoc hqC (row r)
        unfold cnF
        exact o213 this
theorem new_step {O keys came R C rest : List Nat} {q : Nat} (G : Gr row O keys came R) (hT : C ++ q :: rest = came ++ R) (hc : ∀ x ∈ came, x ∈ C) (o : Nat) :
    (1 ≤ (if o = q then -2 else cntF row C R o) ∧ (if o = q then -2 else cntF row C R o) ≤ (cnF row q o : Int)) ↔ (o ∉ came ++ R ∧ q ∈ row o ∧ ∀ x ∈ row o, x ∈ C ++ [q]) := by
  have hnd := G.nd
  rw [← hT] at hnd
  have hqC : q ∉ C := fun hm => (List.nodup_append.mp hnd).2.2 q hm q (.head _) rfl
  have hqT : q ∈ came ++ R := by rw [← hT]; exact List.mem_append_right _ (.head _)
  have hCT : ∀ x ∈ C, x ∈ came ++ R := fun x hx => by rw [← hT]; exact List.mem_append_left _ hx
  by_cases e : o = q
  · subst e
    rw [if_pos rfl]
    exact ⟨fun h => absurd h.1 (by decide), fun h => absurd hqT h.1⟩
  rw [if_neg e]
  unfold cntF
  by_cases h1 : o ∈ C
  · rw [if_pos h1]
    exact ⟨fun h => absurd h.1 (by decide), fun h => absurd (hCT o h1) h.1⟩
  rw [if_neg h1]
  by_cases h2 : o ∈ R
  · rw [if_pos h2]
    exact ⟨fun h => absurd h.1 (by decide), fun h => absurd (List.mem_append_right _ h2) h.1⟩
  rw [if_neg h2]
  have hu := und_snoc hqC (row o)
  have hcn : cnF row q o = ((row o).filter fun x => decide (x = q)).length := rfl
  constructor
  · rintro ⟨h3, h4⟩
    refine ⟨fun hm => (List.mem_append.mp hm).elim (fun h => h1 (hc o h)) h2, ?_, und_pos (by exact o214 hu h4)⟩
    exact Classical.byContradiction fun hn => by have := cn_zero (row := row) hn; exact (o215 this h3 h4).elim
  · rintro ⟨_, h3, h4⟩
    have h5 := und_zero h4
    have h6 := cn_pos h3
    exact o216 hu h5 h6
theorem round_mk {O keys came R : List Nat} (G : Gr row O keys came R) : ∀ (l rest C rd : List Nat), C ++ (l ++ rest) = came ++ R → (∀ x ∈ came, x ∈ C) →
    l.foldl doneP (mkA keys (fun r => (cntF row C R r, behF row O r)), rd) = (mkA keys (fun r => (cntF row (C ++ l) R r, behF row O r)), rd ++ newAll row O (came ++ R) C l)
  | [], rest, C, rd, hT, _ => by
    simp [newAll]
  | q :: l, rest, C, rd, hT, hc => by
    have hT : C ++ q :: (l ++ rest) = came ++ R := hT
    have hq : q ∈ O := G.lt q (by rw [← hT]; exact List.mem_append_right _ (.head _))
    rw [List.foldl_cons, done_mk G.on G.ko hq rfl]
    dsimp only
    have e1 : (mkA keys fun r => ((if r = q then -2 else cntF row C R r) - (cnF row q r : Int), behF row O r)) = mkA keys fun r => (cntF row (C ++ [q]) R r, behF row O r) := mk_congr fun r _ => by rw [cnt_step G hT hc r]
    rw [e1, round_mk G l rest (C ++ [q]) _ (by simpa using hT) fun x hx => List.mem_append_left _ (hc x hx)]
    have e2 : C ++ [q] ++ l = C ++ q :: l := by simp
    rw [e2]
    congr 1
    rw [newAll, List.append_assoc]
    congr 2
    refine List.filter_congr fun o _ => ?_
    exact decide_eq_decide.mpr (new_step G hT hc o)
theorem mem_newAll {O T : List Nat} {o : Nat} (hn : T.Nodup) : ∀ {rest C : List Nat}, C ++ rest = T → (o ∈ newAll row O T C rest ↔ o ∈ O ∧ o ∉ T ∧ (∀ x ∈ row o, x ∈ T) ∧ ∃ x ∈ row o, x ∉ C)
  | [], C, hT => by
    rw [List.append_nil] at hT
    subst hT
    exact ⟨fun h => (nomatch h), fun ⟨_, _, h, x, hx, hc⟩ => absurd (h x hx) hc⟩
  | q :: rest, C, hT => by
    have hT' : (C ++ [q]) ++ rest = T := by simpa using hT
    have hq : q ∉ C := fun hm => by rw [← hT] at hn; exact (List.nodup_append.mp hn).2.2 q hm q (.head _) rfl
    rw [newAll, List.mem_append, mem_newAll hn hT', List.mem_filter, decide_eq_true_eq]
    constructor
    · rintro (⟨h1, h2, h3, h4⟩ | ⟨h1, h2, h3, x, hx, hc⟩)
      · refine ⟨h1, h2, fun x hx => ?_, q, h3, hq⟩
        rw [← hT']; exact List.mem_append_left _ (h4 x hx)
      · exact ⟨h1, h2, h3, x, hx, fun h => hc (List.mem_append_left _ h)⟩
    · rintro ⟨h1, h2, h3, x, hx, hc⟩
      by_cases h4 : ∃ y ∈ row o, y ∉ C ++ [q]
      · exact .inr ⟨h1, h2, h3, h4⟩
      · have h5 : ∀ y ∈ row o, y ∈ C ++ [q] := fun y hy => Classical.byContradiction fun hc => h4 ⟨y, hy, hc⟩
        have h6 : x = q := (List.mem_append.mp (h5 x hx)).elim (fun h => absurd h hc) fun h => List.mem_singleton.mp h
        exact .inl ⟨h1, h2, h6 ▸ hx, h5⟩
end
end

section
set_option Elab.async false
set_option maxRecDepth 100000
noncomputable abbrev rowN (rows : List (List Nat)) (p : Nat) : List Nat := rows.getD p []
theorem idx_pw {l : List Nat} (hn : l.Nodup) : l.Pairwise fun x y => l.idxOf x < l.idxOf y :=
  List.pairwise_iff_getElem.mpr fun i j hi hj h => by rw [hn.idxOf_getElem, hn.idxOf_getElem]; exact h
noncomputable abbrev LtK (rows : List (List Nat)) (T left : List Nat) (x y : Nat) : Prop := keyN rows T x < keyN rows T y ∨ (keyN rows T x = keyN rows T y ∧ left.idxOf x < left.idxOf y)
theorem ready_is {rows : List (List Nat)} {T left l m : List Nat} (hl : IsReady rows T left l) (hn : left.Nodup) (hm : ∀ o, o ∈ m ↔ o ∈ freeN rows T left) (pw : m.Pairwise (LtK rows T left)) : l = m := by
  obtain ⟨p, hp, hpw, rfl⟩ := hl
  have hfs : (freeN rows T left).Sublist left := List.filter_sublist
  generalize hfr : freeN rows T left = fr at hp hpw hm hfs ⊢
  have hfn : fr.Nodup := hn.sublist hfs
  have hmn : m.Nodup := pw.imp fun {x y} h e => by
    subst e
    rcases h with h | ⟨_, h⟩
    · exact absurd h (Int.lt_irrefl _)
    · exact absurd h (Nat.lt_irrefl _)
  have e1 : (List.range fr.length).map (fun i => fr.getD i 0) = fr := List.ext_getElem (by simp) fun i h1 h2 => by
    simp [List.getD_eq_getElem?_getD, List.getElem?_eq_getElem h2]
  have P1 : (p.map fun i => fr.getD i 0).Perm fr := by
    have := hp.map (fun i => fr.getD i 0)
    rwa [e1] at this
  have P2 : m.Perm fr := (List.perm_ext_iff_of_nodup hmn hfn).mpr hm
  refine List.Perm.eq_of_pairwise (le := LtK rows T left) ?_ ?_ pw (P1.trans P2.symm)
  · intro a b _ _ h1 h2
    rcases h1 with h1 | ⟨h1, h3⟩ <;> rcases h2 with h2 | ⟨h2, h4⟩
    all_goals exfalso; (first | exact (o217 h1 h2).elim | exact (o218 h1 h2).elim | exact (o218 h2 h1).elim | exact (o219 h3 h4).elim)
  · rw [List.pairwise_map]
    have hfp := (idx_pw hn).sublist hfs
    rw [List.pairwise_iff_getElem] at hfp
    refine List.Pairwise.imp_of_mem (fun {i j} hi hj h => ?_) hpw
    have hi' := List.mem_range.mp (hp.mem_iff.mp hi)
    have hj' := List.mem_range.mp (hp.mem_iff.mp hj)
    rcases h with h | ⟨h1, h2⟩
    · exact .inl h
    · refine .inr ⟨h1, ?_⟩
      have := hfp i j hi' hj' h2
      simp only [List.getD_eq_getElem?_getD, List.getElem?_eq_getElem hi', List.getElem?_eq_getElem hj', Option.getD_some]
      exact this
theorem key_new {rows : List (List Nat)} {C rest : List Nat} {q o : Nat} (hq : q ∉ C) (h1 : q ∈ rowN rows o) (h2 : ∀ x ∈ rowN rows o, x ∈ C ++ [q]) : keyN rows (C ++ q :: rest) o = C.length := by
  have hx : (C ++ q :: rest).idxOf q = C.length := by rw [List.idxOf_append, if_neg hq, List.idxOf_cons_self, Nat.zero_add]
  symm
  refine keyN_is (.tail _ (List.mem_map.mpr ⟨q, h1, by rw [hx]⟩)) fun a ha => ?_
  rcases List.mem_cons.mp ha with rfl | ha
  · exact o220
  · obtain ⟨x, hxr, rfl⟩ := List.mem_map.mp ha
    rcases List.mem_append.mp (h2 x hxr) with h | h
    · have := List.idxOf_lt_length_iff.mpr h
      rw [List.idxOf_append, if_pos h]; exact o221 this
    · rw [List.mem_singleton.mp h, hx]; exact o222
theorem key_ge {rows : List (List Nat)} {C rest : List Nat} {x o : Nat} (h1 : x ∈ rowN rows o) (h2 : x ∉ C) : (C.length : Int) ≤ keyN rows (C ++ rest) o := by
  have := (foldl_max_le ((rowN rows o).map fun q => ((C ++ rest).idxOf q : Int)) (-1)).2 _ (List.mem_map.mpr ⟨x, h1, rfl⟩)
  rw [List.idxOf_append, if_neg h2] at this
  show (C.length : Int) ≤ ((rowN rows o).map fun q => ((C ++ rest).idxOf q : Int)).foldl max (-1)
  exact o223 this
theorem new_pw {rows : List (List Nat)} {O T : List Nat} (hT : T.Nodup) (hO : O.Nodup) : ∀ (rest C : List Nat), C ++ rest = T → (newAll (rowN rows) O T C rest).Pairwise (LtK rows T (O.filter fun p => !decide (p ∈ T)))
  | [], _, _ => .nil
  | q :: rest, C, e => by
    have e' : (C ++ [q]) ++ rest = T := by simpa using e
    have hq : q ∉ C := fun hm => by rw [← e] at hT; exact (List.nodup_append.mp hT).2.2 q hm q (.head _) rfl
    have hk : ∀ x, q ∈ rowN rows x → (∀ y ∈ rowN rows x, y ∈ C ++ [q]) → keyN rows T x = C.length := fun x h1 h2 => by rw [← e]; exact key_new hq h1 h2
    rw [newAll, List.pairwise_append]
    refine ⟨?_, new_pw hT hO rest (C ++ [q]) e', fun x hx y hy => ?_⟩
    · have hs : (O.filter fun o => decide (o ∉ T ∧ q ∈ rowN rows o ∧ ∀ x ∈ rowN rows o, x ∈ C ++ [q])).Sublist (O.filter fun p => !decide (p ∈ T)) := by
        have : (O.filter fun o => decide (o ∉ T ∧ q ∈ rowN rows o ∧ ∀ x ∈ rowN rows o, x ∈ C ++ [q])) = (O.filter fun p => !decide (p ∈ T)).filter fun o => decide (o ∉ T ∧ q ∈ rowN rows o ∧ ∀ x ∈ rowN rows o, x ∈ C ++ [q]) := by
          rw [List.filter_filter]
          refine List.filter_congr fun x _ => ?_
          by_cases h : x ∈ T <;> simp [h]
        rw [this]; exact List.filter_sublist
      refine List.Pairwise.imp_of_mem (fun {x y} hx hy h => ?_) ((idx_pw (hO.sublist List.filter_sublist)).sublist hs)
      have hx' := (of_decide_eq_true (List.mem_filter.mp hx).2).2
      have hy' := (of_decide_eq_true (List.mem_filter.mp hy).2).2
      exact .inr ⟨by rw [hk x hx'.1 hx'.2, hk y hy'.1 hy'.2], h⟩
    · have hx' := (of_decide_eq_true (List.mem_filter.mp hx).2).2
      obtain ⟨_, _, _, z, hz, hzn⟩ := (mem_newAll hT e').mp hy
      have h1 := hk x hx'.1 hx'.2
      have h2 := key_ge (rest := rest) hz hzn
      rw [e', List.length_append, List.length_singleton] at h2
      refine .inl ?_
      rw [h1]; exact o224 h2
/-- between two rounds -/
structure Inv (rows : List (List Nat)) (O due : List Nat) (a : Abs) (R came : List Nat) : Prop where
  ab : a = mkA due fun r => (if r ∈ came then -2 else (undN came (rowN rows r) : Int), behF (rowN rows) O r)
  nd : (came ++ R).Nodup
  lt : ∀ p ∈ came ++ R, p ∈ O
  cl : ∀ p ∈ came ++ R, ∀ q ∈ rowN rows p, q ∈ came
  bu : Topo (rowN rows) came.reverse
  op : ∀ p ∈ O, p ∉ came → p ∉ R → ∃ q ∈ rowN rows p, q ∉ came
theorem topo_app {row : Nat → List Nat} {fin : List Nat} (h : Topo row fin) : ∀ (R : List Nat), (∀ p ∈ R, ∀ q ∈ row p, q ∈ fin) → Topo row (R ++ fin)
  | [], _ => h
  | p :: R, hR => ⟨fun q hq => List.mem_append_right _ (hR p (.head _) q hq), topo_app h R fun x hx => hR x (.tail _ hx)⟩
theorem Inv.gr {rows : List (List Nat)} {O due : List Nat} {a : Abs} {R came : List Nat} (I : Inv rows O due a R came) (hO : O.Nodup) (hd : ∀ p, p ∈ due ↔ p ∈ O) : Gr (rowN rows) O due came R := ⟨hO, hd, I.nd, I.lt, I.cl⟩
theorem Inv.outs {rows : List (List Nat)} {O due : List Nat} {a : Abs} {R came : List Nat} (I : Inv rows O due a R came) : outAll R a = mkA due fun r => (cntF (rowN rows) came R r, behF (rowN rows) O r) := by
  rw [I.ab, out_mk]
  refine mk_congr fun r _ => ?_
  unfold cntF
  by_cases h1 : r ∈ R
  · have h2 : r ∉ came := fun h => (List.nodup_append.mp I.nd).2.2 r h r h1 rfl
    simp [h1, h2]
  · simp [h1]
theorem Inv.hout {rows : List (List Nat)} {O due : List Nat} {a : Abs} {R came : List Nat} (I : Inv rows O due a R came) (hO : O.Nodup) (hd : ∀ p, p ∈ due ↔ p ∈ O) (j : Nat) (hj : j < R.length) : (entryOf ((R.take j).foldl doneP (outAll R a, [])).1 R[j]).1 = -1 := by
  have hR := List.mem_append_right came (List.getElem_mem hj)
  have hnd := I.nd
  have e : R = R.take j ++ R[j] :: R.drop (j + 1) := by
    conv => lhs; rw [← List.take_append_drop j R, List.drop_eq_getElem_cons hj]
  have h1 : R[j] ∉ came := fun h => (List.nodup_append.mp hnd).2.2 _ h _ (List.getElem_mem hj) rfl
  have h2 : R[j] ∉ R.take j := fun h => by
    have h3 := (List.nodup_append.mp hnd).2.1
    rw [e] at h3
    exact (List.nodup_append.mp h3).2.2 _ h _ (.head _) rfl
  have h4 := round_mk (I.gr hO hd) (R.take j) (R[j] :: R.drop (j + 1)) came [] (by rw [← e]) fun x hx => hx
  rw [I.outs, h4]
  dsimp only
  rw [entry_mk ((hd _).mpr (I.lt _ hR))]
  show cntF _ _ _ _ = -1
  unfold cntF
  rw [if_neg (by rw [List.mem_append]; exact fun h => h.elim h1 h2), if_pos (List.getElem_mem hj)]
theorem mem_free {rows : List (List Nat)} {T left : List Nat} {o : Nat} : o ∈ freeN rows T left ↔ o ∈ left ∧ ∀ x ∈ rowN rows o, x ∈ T := by
  unfold freeN
  rw [List.mem_filter, List.all_eq_true]
  simp only [decide_eq_true_eq]
theorem Inv.step {rows : List (List Nat)} {O due : List Nat} {a : Abs} {R came l : List Nat} (I : Inv rows O due a R came) (hO : O.Nodup) (hd : ∀ p, p ∈ due ↔ p ∈ O) (hl : IsReady rows (came ++ R) (O.filter fun p => !decide (p ∈ came ++ R)) l) :
    ∃ a', R.foldl doneP (outAll R a, []) = (a', l) ∧ Inv rows O due a' l (came ++ R) := by
  have h4 := round_mk (I.gr hO hd) R [] came [] (by simp) fun x hx => hx
  rw [← I.outs, List.nil_append] at h4
  have hpw := new_pw (rows := rows) I.nd hO R came rfl
  have hmem : ∀ o, o ∈ newAll (rowN rows) O (came ++ R) came R ↔ o ∈ freeN rows (came ++ R) (O.filter fun p => !decide (p ∈ came ++ R)) := fun o => by
    rw [mem_newAll I.nd rfl, mem_free, List.mem_filter]
    simp only [Bool.not_eq_true', decide_eq_false_iff_not]
    constructor
    · rintro ⟨h1, h2, h3, _⟩
      exact ⟨⟨h1, h2⟩, h3⟩
    · rintro ⟨⟨h1, h2⟩, h3⟩
      exact ⟨h1, h2, h3, I.op o h1 (fun h => h2 (List.mem_append_left _ h)) fun h => h2 (List.mem_append_right _ h)⟩
  have el := ready_is hl (hO.sublist List.filter_sublist) hmem hpw
  rw [← el] at h4 hmem hpw
  have hm2 : ∀ o, o ∈ l ↔ o ∈ O ∧ o ∉ came ++ R ∧ ∀ x ∈ rowN rows o, x ∈ came ++ R := fun o => by
    rw [hmem, mem_free, List.mem_filter]
    simp only [Bool.not_eq_true', decide_eq_false_iff_not, and_assoc]
  have hln : l.Nodup := hpw.imp fun {x y} h e => by
    subst e
    rcases h with h | ⟨_, h⟩
    · exact absurd h (Int.lt_irrefl _)
    · exact absurd h (Nat.lt_irrefl _)
  refine ⟨_, h4, ?_, ?_, ?_, ?_, ?_, ?_⟩
  · refine mk_congr fun r _ => ?_
    unfold cntF
    by_cases h1 : r ∈ came ++ R
    · rw [if_pos h1, if_pos h1]
    · rw [if_neg h1, if_neg h1, if_neg fun h => h1 (List.mem_append_right _ h)]
  · rw [List.nodup_append]
    exact ⟨I.nd, hln, fun x hx y hy e => ((hm2 y).mp hy).2.1 (e ▸ hx)⟩
  · intro p hp
    rcases List.mem_append.mp hp with hp | hp
    · exact I.lt p hp
    · exact ((hm2 p).mp hp).1
  · intro p hp q hq
    rcases List.mem_append.mp hp with hp | hp
    · exact List.mem_append_left _ (I.cl p hp q hq)
    · exact ((hm2 p).mp hp).2.2 q hq
  · rw [List.reverse_append]
    exact topo_app I.bu _ fun p hp q hq => List.mem_reverse.mpr (I.cl p (List.mem_append_right _ (List.mem_reverse.mp hp)) q hq)
  · intro p hp h1 h2
    refine Classical.byContradiction fun hn => h2 ((hm2 p).mpr ⟨hp, h1, fun x hx => Classical.byContradiction fun hx' => hn ⟨x, hx, hx'⟩⟩)
theorem Inv.start {rows : List (List Nat)} {O due l : List Nat} (hn : due.Nodup) (hd : ∀ p, p ∈ due ↔ p ∈ O) (hl : IsReady rows [] due l) :
    Inv rows O due (mkA due fun r => (((rowN rows r).length : Int), behF (rowN rows) O r)) l [] ∧ readyP (mkA due fun r => (((rowN rows r).length : Int), behF (rowN rows) O r)) = l := by
  have hm : ∀ o, o ∈ (due.filter fun p => decide (rowN rows p = [])) ↔ o ∈ freeN rows [] due := fun o => by
    rw [mem_free, List.mem_filter, decide_eq_true_eq]
    constructor
    · rintro ⟨h1, h2⟩
      exact ⟨h1, by rw [h2]; exact fun _ h => nomatch h⟩
    · rintro ⟨h1, h2⟩
      exact ⟨h1, List.eq_nil_iff_forall_not_mem.mpr fun x hx => nomatch h2 x hx⟩
  have el : l = due.filter fun p => decide (rowN rows p = []) := by
    refine ready_is hl hn hm ?_
    refine List.Pairwise.imp_of_mem (fun {x y} hx hy h => ?_) ((idx_pw hn).sublist List.filter_sublist)
    have hx' := of_decide_eq_true (List.mem_filter.mp hx).2
    have hy' := of_decide_eq_true (List.mem_filter.mp hy).2
    refine .inr ⟨?_, h⟩
    unfold keyN
    rw [show rows.getD x [] = [] from hx', show rows.getD y [] = [] from hy']
  have hm2 : ∀ o, o ∈ l ↔ o ∈ O ∧ rowN rows o = [] := fun o => by
    rw [el, List.mem_filter, decide_eq_true_eq, hd]
  refine ⟨⟨?_, ?_, ?_, ?_, ?_, ?_⟩, ?_⟩
  · refine mk_congr fun r _ => ?_
    rw [if_neg (by simp)]
    unfold undN
    rw [List.filter_eq_self.mpr (by simp)]
  · rw [List.nil_append, el]; exact hn.sublist List.filter_sublist
  · rw [List.nil_append]; exact fun p hp => ((hm2 p).mp hp).1
  · rw [List.nil_append]; intro p hp q hq
    rw [((hm2 p).mp hp).2] at hq; exact hq
  · trivial
  · intro p hp _ h2
    match hr : rowN rows p with
    | [] => exact absurd ((hm2 p).mpr ⟨hp, hr⟩) h2
    | q :: _ => exact ⟨q, .head _, fun h => nomatch h⟩
  · rw [el]
    unfold readyP mkA
    rw [List.filter_map, List.map_map]
    have e1 : ((fun e : Nat × Int × List Nat => e.1) ∘ fun p => (p, ((rowN rows p).length : Int), behF (rowN rows) O p)) = id := rfl
    rw [e1, List.map_id]
    refine List.filter_congr fun x _ => ?_
    simp only [Function.comp]
    cases rowN rows x <;> simp
    exact o225
theorem mem_beh {row : Nat → List Nat} {O : List Nat} {p q : Nat} : p ∈ behF row O q ↔ p ∈ O ∧ q ∈ row p := by
  unfold behF hitsN
  rw [List.mem_flatMap]
  constructor
  · rintro ⟨o, ho, h⟩
    obtain ⟨x, hx, rfl⟩ := List.mem_map.mp h
    obtain ⟨h1, h2⟩ := List.mem_filter.mp hx
    exact ⟨ho, of_decide_eq_true h2 ▸ h1⟩
  · rintro ⟨h1, h2⟩
    exact ⟨p, h1, List.mem_map.mpr ⟨q, List.mem_filter.mpr ⟨h2, by simp⟩, rfl⟩⟩
theorem topo_all {g : Nat → List Nat} {C : Nat → Prop} : ∀ {fin : List Nat}, fin.Nodup → Topo g fin → (∀ p ∈ fin, ¬ C p → ∃ q ∈ fin, ¬ C q ∧ p ∈ g q) → ∀ p ∈ fin, C p
  | [], _, _, _ => fun _ h => nomatch h
  | x :: fin, hn, ht, h => by
    have hn' := List.nodup_cons.mp hn
    have sub : ∀ {fin : List Nat}, Topo g fin → ∀ q ∈ fin, ∀ p ∈ g q, p ∈ fin := by
      intro fin
      induction fin with
      | nil => intro _ q hq; cases hq
      | cons y fin ih =>
        intro ht q hq p hp
        rcases List.mem_cons.mp hq with rfl | hq
        · exact .tail _ (ht.1 p hp)
        · exact .tail _ (ih ht.2 q hq p hp)
    have hx : C x := Classical.byContradiction fun hx => by
      obtain ⟨q, hq, _, hp⟩ := h x (.head _) hx
      rcases List.mem_cons.mp hq with rfl | hq
      · exact hn'.1 (ht.1 _ hp)
      · exact hn'.1 (sub ht.2 q hq x hp)
    intro p hp
    rcases List.mem_cons.mp hp with rfl | hp
    · exact hx
    · refine topo_all hn'.2 ht.2 (fun p hp hpc => ?_) p hp
      obtain ⟨q, hq, hqc, hpq⟩ := h p (.tail _ hp) hpc
      rcases List.mem_cons.mp hq with rfl | hq
      · exact absurd hx hqc
      · exact ⟨q, hq, hqc, hpq⟩
theorem topo_sub {row : Nat → List Nat} : ∀ {fin : List Nat}, Topo row fin → ∀ q ∈ fin, ∀ p ∈ row q, p ∈ fin
  | y :: fin, ht, q, hq, p, hp => by
    rcases List.mem_cons.mp hq with rfl | hq
    · exact .tail _ (ht.1 p hp)
    · exact .tail _ (topo_sub ht.2 q hq p hp)
theorem ring_none {row : Nat → List Nat} : ∀ {fin : List Nat}, fin.Nodup → Topo row fin → ∀ c : List Nat, (∀ q ∈ c, q ∈ fin) → (∀ q ∈ c, ∃ q' ∈ c, q' ∈ row q) → c = []
  | [], _, _, c, h, _ => List.eq_nil_iff_forall_not_mem.mpr fun x hx => nomatch h x hx
  | x :: fin, hn, ht, c, h, hc => by
    have hn' := List.nodup_cons.mp hn
    have hsub : ∀ q ∈ c.filter (fun y => decide (y ≠ x)), q ∈ fin := fun q hq => by
      obtain ⟨h1, h2⟩ := List.mem_filter.mp hq
      exact (List.mem_cons.mp (h q h1)).resolve_left (of_decide_eq_true h2)
    have e := ring_none hn'.2 ht.2 (c.filter fun y => decide (y ≠ x)) hsub fun q hq => by
      obtain ⟨q', h1, h2⟩ := hc q (List.mem_filter.mp hq).1
      have h3 := topo_sub ht.2 q (hsub q hq) q' h2
      exact ⟨q', List.mem_filter.mpr ⟨h1, decide_eq_true fun e => hn'.1 (e ▸ h3)⟩, h2⟩
    have hx : ∀ q ∈ c, q = x := fun q hq => Classical.byContradiction fun hne => by
      have : q ∈ c.filter fun y => decide (y ≠ x) := List.mem_filter.mpr ⟨hq, decide_eq_true hne⟩
      rw [e] at this; cases this
    refine List.eq_nil_iff_forall_not_mem.mpr fun q hq => ?_
    obtain ⟨q', h1, h2⟩ := hc q hq
    rw [hx q hq] at h2
    rw [hx q' h1] at h2
    exact hn'.1 (ht.1 _ h2)
theorem Inv.none {rows : List (List Nat)} {O due fin : List Nat} {a : Abs} {came : List Nat} {many : Nat} {g : Nat → List Nat} (I : Inv rows O due a [] came) (hO : Whole many O) (hg : ∀ q, q < many → g q = behF (rowN rows) O q) (hin : ∀ p, p < many → ∀ q ∈ rowN rows p, q < many) (hn : fin.Nodup) (ht : Topo g fin) (hf : ∀ p, p < many → p ∈ fin) : came.length = many := by
  have hall := topo_all (C := fun p => p < many → p ∈ came) hn ht fun p hp hpc => by
    have hpm : p < many := Classical.byContradiction fun h => hpc fun h' => absurd h' h
    have hpc : p ∉ came := fun h => hpc fun _ => h
    obtain ⟨q, hq, hqc⟩ := I.op p ((hO.all p).mpr hpm) hpc fun h => nomatch h
    have hqm := hin p hpm q hq
    exact ⟨q, hf q hqm, fun h => hqc (h hqm), by rw [hg q hqm, mem_beh]; exact ⟨(hO.all p).mpr hpm, hq⟩⟩
  have hnd := I.nd
  rw [List.append_nil] at hnd
  refine Nat.le_antisymm (nodup_below many hnd fun p hp => (hO.all p).mp (I.lt p (by rw [List.append_nil]; exact hp))) ?_
  have := sub_len (List.nodup_range (n := many)) fun x hx => hall x (hf x (List.mem_range.mp hx)) (List.mem_range.mp hx)
  rwa [List.length_range] at this
theorem Inv.ring {rows : List (List Nat)} {O due c R : List Nat} {a : Abs} {came : List Nat} {many : Nat} {g : Nat → List Nat} (I : Inv rows O due a R came) (hO : Whole many O) (hg : ∀ q, q < many → g q = behF (rowN rows) O q) (hr : Ring g c) (hc : ∀ p ∈ c, p < many) : came.length < many := by
  have hnd := (List.nodup_append.mp I.nd).1
  have hlt : ∀ p ∈ came, p < many := fun p hp => (hO.all p).mp (I.lt p (List.mem_append_left _ hp))
  have hstep : ∀ q ∈ c, ∃ q' ∈ c, q' ∈ rowN rows q := fun q hq => by
    obtain ⟨q', h1, h2⟩ := hr.2 q hq
    rw [hg q' (hc q' h1), mem_beh] at h2
    exact ⟨q', h1, h2.2⟩
  have : ∃ q ∈ c, q ∉ came := Classical.byContradiction fun hn => hr.1 (ring_none (fin := came.reverse) ((List.reverse_perm came).nodup_iff.mpr hnd) I.bu c (fun q hq => List.mem_reverse.mpr (Classical.byContradiction fun h => hn ⟨q, hq, h⟩)) hstep)
  obtain ⟨q, hq, hqc⟩ := this
  have := nodup_below many (l := q :: came) (List.nodup_cons.mpr ⟨hqc, hnd⟩) fun x hx => by
    rcases List.mem_cons.mp hx with rfl | hx
    · exact hc _ hq
    · exact hlt x hx
  rw [List.length_cons] at this
  exact this
theorem Inv.room {rows : List (List Nat)} {O due R : List Nat} {a : Abs} {came : List Nat} {many : Nat} (I : Inv rows O due a R came) (hO : Whole many O) : came.length + R.length ≤ many := by
  have := nodup_below many I.nd fun p hp => (hO.all p).mp (I.lt p hp)
  rwa [List.length_append] at this
theorem Inv.len {rows : List (List Nat)} {O due R : List Nat} {a : Abs} {came : List Nat} {many : Nat} (I : Inv rows O due a R came) (hO : Whole many O) (hd : ∀ p, p ∈ due ↔ p ∈ O) : (R.foldl doneP (outAll R a, [])).2.length ≤ many := by
  have h4 := round_mk (I.gr hO.nodup hd) R [] came [] (by simp) fun x hx => hx
  rw [← I.outs, List.nil_append] at h4
  rw [h4]
  have hpw := new_pw (rows := rows) I.nd hO.nodup R came rfl
  refine nodup_below many (hpw.imp fun {x y} h e => ?_) fun p hp => (hO.all p).mp ((mem_newAll I.nd rfl).mp hp).1
  subst e
  rcases h with h | ⟨_, h⟩
  · exact absurd h (Int.lt_irrefl _)
  · exact absurd h (Nat.lt_irrefl _)
theorem closed_mk {row : Nat → List Nat} {O due : List Nat} {f : Nat → Int} (hd : ∀ p, p ∈ due ↔ p ∈ O) : Closed (mkA due fun r => (f r, behF row O r)) := by
  intro e he q hq
  obtain ⟨p, hp, rfl⟩ := List.mem_map.mp he
  rw [hasP_mk, decide_eq_true_eq, hd]
  exact (mem_beh.mp hq).1
theorem Inv.has {rows : List (List Nat)} {O due R : List Nat} {a : Abs} {came : List Nat} (I : Inv rows O due a R came) (p : Nat) : hasP a p = decide (p ∈ due) := by rw [I.ab, hasP_mk]
end

section
set_option Elab.async false
set_option maxRecDepth 100000
set_option maxHeartbeats 8000000
/-- the state between two rounds -/
structure RS (w : World) (rows : List (List Nat)) (O due : List Nat) (σ : Sor) (ar : Nat) (rd : List (Nat × Value)) (rv cv : List Value) (R came : List Nat) (j : Nat) : Prop where
  rn : σ.rn = .ref ar
  n4 : σ.n = 4
  cnt : ∃ a t3 t4, σ.v3 = .int a t3 ∧ σ.v4 = .int a t4
  rd1 : rd.map (·.1) = R
  rdn : ∀ q ∈ rd, nmIs q.1 q.2 = true
  rvd : DatAll [] rv (dN R)
  cvd : DatAll [] cv (dN came)
  inv : Inv rows O due σ.abs R came
  len : j ≤ came.length ∨ R = []
section
theorem law_R {w : World} {s : Shared} {h₀ : Heap} {L fa : Addr} {hm : Heap} {mg mb : Str → Option Value} {cd2 : Value} {ob : Obj} {o1 o2 o3 o4 : Obj} {Q : Flow → Shared → Prop} {E : Value → Shared → Prop} {many : Nat} {tm : Tok} {qn rw wa oa : Nat} {rows : List (List Nat)} {O : List Nat} {τ X : Led} {u3 u4 u_turn u_graph u_sorter u_kept u_name u_info u_due u_wanted u_behind u_ringed u_ready u_given u_x u_total u_script : Option Value}
    (hlk : (heapK w.params).lookup 177 = some ob)
    (B0 : Below callerA h₀ [] h₀) (XK : (heapK w.params).In h₀) (T : TopAt hm mg mb h₀) (HC : CodeHd h₀ 171 169) (l9 : @LT.lt Nat _ 169 L)
    (hτ : Tab τ) (d1 : o1.data = .cell (some (.ref qn))) (d2 : o2.data = .cell (some (.ref rw))) (d3 : o3.data = .cell u3) (d4 : o4.data = .cell u4)
    (S : LawS X qn rw wa many rows) (hO : LD X oa (dN O)) (hOr : ∀ p ∈ O, p < many) (hOn : O.Nodup) (hOl : O.length = many) {σ : Sor} {due : List Nat} {ar rl cm ad n n3 n5 j : Nat} {rd : List (Nat × Value)} {rv cv : List Value} {R came : List Nat}
    (F : Fr h₀ L s.heap (upds emp [(Str.ofString "order", some (.ref oa)), (Str.ofString "turn", u_turn), (Str.ofString "graph", u_graph), (Str.ofString "sorter", some (.ref σ.self)), (Str.ofString "kept", u_kept), (Str.ofString "name", u_name), (Str.ofString "info", u_info), (Str.ofString "due", some (.ref ad)), (Str.ofString "wanted", u_wanted), (Str.ofString "behind", u_behind), (Str.ofString "ringed", u_ringed), (Str.ofString "ready", some (.ref rl)), (Str.ofString "given", u_given), (Str.ofString "ways", some (.ref wa)), (Str.ofString "x", u_x), (Str.ofString "many", some (.int (many : Int) tm)), (Str.ofString "total", u_total), (Str.ofString "script", u_script)]))
    (N : News h₀ L s.heap (σ.cells w ((ar, listOf (rd.map (·.2)).toArray n) :: (rl, listOf rv.toArray n3) :: (cm, listOf cv.toArray n5) :: c4 L o4 o3 o2 o1 (τ ++ X))))
    (ok : σ.Ok w ((ar, listOf (rd.map (·.2)).toArray n) :: (rl, listOf rv.toArray n3) :: (cm, listOf cv.toArray n5) :: c4 L o4 o3 o2 o1 (τ ++ X)))
    (e4 : o4.data = .cell (some (.ref cm))) (hW : Whole many O) (hd : ∀ p, p ∈ due ↔ p ∈ O) (H : RS w rows O due σ ar rd rv cv R came j)
    (k : ∀ h' tk (σ' : Sor) rl' n' n3' n5' rd' rv' cv' R' came' τ' u_given, σ'.self = σ.self → σ'.dx = σ.dx → σ'.n2i = σ.n2i → Fr h₀ L h' (upds emp [(Str.ofString "order", some (.ref oa)), (Str.ofString "turn", u_turn), (Str.ofString "graph", u_graph), (Str.ofString "sorter", some (.ref σ'.self)), (Str.ofString "kept", u_kept), (Str.ofString "name", u_name), (Str.ofString "info", u_info), (Str.ofString "due", some (.ref ad)), (Str.ofString "wanted", u_wanted), (Str.ofString "behind", u_behind), (Str.ofString "ringed", u_ringed), (Str.ofString "ready", some (.ref rl')), (Str.ofString "given", u_given), (Str.ofString "ways", some (.ref wa)), (Str.ofString "x", u_x), (Str.ofString "many", some (.int (many : Int) tm)), (Str.ofString "total", u_total), (Str.ofString "script", u_script)]) →
      News h₀ L h' (σ'.cells w ((ar, listOf (rd'.map (·.2)).toArray n') :: (rl', listOf rv'.toArray n3') :: (cm, listOf cv'.toArray n5') :: c4 L o4 o3 o2 o1 (τ' ++ X))) →
      σ'.Ok w ((ar, listOf (rd'.map (·.2)).toArray n') :: (rl', listOf rv'.toArray n3') :: (cm, listOf cv'.toArray n5') :: c4 L o4 o3 o2 o1 (τ' ++ X)) → Tab τ' → RS w rows O due σ' ar rd' rv' cv' R' came' (j + 1) →
      wpAny (model PG w) (callerA.deeper (envOfC (fnQ ob) (fnS ob) L fa cd2)) (execs (restB 5 (forB 14 (forB 7 (fnB ob)))) (envOfC (fnQ ob) (fnS ob) L fa cd2)) Q E { s with heap := h', toks := tk }) :
    wpAny (model PG w) (callerA.deeper (envOfC (fnQ ob) (fnS ob) L fa cd2)) (execs (forB 14 (forB 7 (fnB ob))) (envOfC (fnQ ob) (fnS ob) L fa cd2)) Q E s := by
  have h6 := S.six
  obtain ⟨a, t3, t4, hv3, hv4⟩ := H.cnt
  have I := H.inv
  have hroom := I.room hW
  have hrdl : rd.length = R.length := by rw [← H.rd1, List.length_map]
  have hRO : ∀ p ∈ R, p < many := fun p hp => (hW.all p).mp (I.lt p (List.mem_append_right _ hp))
  have hrdm : ∀ q ∈ rd, q.1 ∈ R := fun q hq => by rw [← H.rd1]; exact List.mem_map_of_mem hq
  have hrd : ∀ q ∈ rd, nmIs q.1 q.2 = true ∧ hasP σ.abs q.1 = true := fun q hq => ⟨H.rdn q hq, by rw [I.has, decide_eq_true_eq, hd]; exact I.lt _ (List.mem_append_right _ (hrdm q hq))⟩
  have hcvl : cv.length = came.length := by have := H.cvd.length; rwa [List.length_map] at this
  have hrvl : rv.length = R.length := by have := H.rvd.length; rwa [List.length_map] at this
  refine law_R1 (u_sorter := none) (u_due := none) (u_ready := none) hlk B0 XK T HC l9 hτ d1 d2 d3 d4 S hO hOr hOn hOl F N ok (fun p hp => .tail _ (.tail _ (.tail _ (.tail _ (.tail _ (.tail _ (List.mem_append_right _ hp))))))) (.head _) (.tail _ (.tail _ (.tail _ (.tail _ (.tail _ (.head _)))))) H.rn hv3 hv4 H.n4 hrd H.rd1 H.rvd hRO (by exact o118 hroom h6) fun h1 tk1 Tg n1 t1 infos1 F1 N1 ok1 ab1 => ?_
  have ab1' : (Sor.abs { σ with v3 := .int (a + rd.length) t1, infos := infos1 }) = outAll R σ.abs := ab1
  have hvs : ∀ q ∈ rd, nmIs q.1 q.2 = true ∧ hasP (Sor.abs { σ with v3 := .int (a + rd.length) t1, infos := infos1 }) q.1 = true := fun q hq => ⟨(hrd q hq).1, by rw [ab1', hasP_out]; exact (hrd q hq).2⟩
  refine law_R2 (u_sorter := none) (u_due := none) (u_ready := none) (u_given := none) hlk B0 XK T HC l9 hτ d1 d2 d3 d4 S hO hOr hOn hOl (σ := { σ with v3 := .int (a + rd.length) t1, infos := infos1 }) F1 N1 ok1 e4 H.rn hv4 H.n4 hvs (by exact o119 hrdl hroom h6) ?_ ?_ ?_ (by exact o120 hcvl hrvl hroom h6) fun h2 tk2 n2 n52 t2 infos2 rd2 F2 N2 ok2 st2 hrd2 => ?_
  · rw [ab1', I.outs]; exact closed_mk hd
  · rw [ab1', H.rd1]
    exact Nat.le_trans (I.len hW hd) (by exact o121 h6)
  · intro i hi
    have := I.hout hW.nodup hd i (by exact o122 hi hrdl)
    rw [ab1', H.rd1]
    have e : rd[i].1 = R[i]'(by exact o122 hi hrdl) := by
      have h3 : (rd.map (·.1))[i]? = R[i]? := by rw [H.rd1]
      rw [List.getElem?_map, List.getElem?_eq_getElem hi, List.getElem?_eq_getElem (by exact o122 hi hrdl)] at h3
      exact Option.some.inj h3
    rw [e]; exact this
  have hcr : DatAll [] (cv ++ rv) (dN (came ++ R)) := by
    unfold dN
    rw [List.map_append]
    exact H.cvd.append H.rvd
  refine law_R3 (u_sorter := none) (u_due := none) hlk B0 XK T HC l9 hτ d1 d2 d3 d4 S hO hOr hOn hOl (σ := { σ with v3 := .int (a + rd.length) t1, v4 := .int (a + rd.length) t2, infos := infos2 }) F2 N2 ok2 e4 hcr (by rw [List.length_append]; exact o123 hroom h6) fun h3 tk3 rl3 n3' rv3 l τ3 F3 N3 ok3 hτ3 hrv3 hl => ?_
  obtain ⟨a', hst, I'⟩ := I.step hW.nodup hd hl
  rw [ab1', H.rd1, hst] at st2
  have e1 := congrArg Prod.fst st2
  have e2 := congrArg Prod.snd st2
  dsimp only at e1 e2
  refine k _ _ { σ with v3 := .int (a + rd.length) t1, v4 := .int (a + rd.length) t2, infos := infos2 } rl3 _ _ _ rd2 rv3 (cv ++ rv) l (came ++ R) τ3 _ rfl rfl rfl F3 N3 ok3 hτ3 ⟨H.rn, H.n4, ⟨_, _, _, rfl, rfl⟩, e2, fun q hq => (hrd2 q hq).1, hrv3, hcr, ?_, ?_⟩
  · show Inv rows O due (infos2.map Info.abs) l (came ++ R)
    rw [e1]; exact I'
  · rcases H.len with h | h
    · by_cases hR : R = []
      · right
        subst hR
        have := congrArg Prod.snd hst
        exact this.symm
      · left
        have := List.length_pos_iff.mpr hR
        rw [List.length_append]; exact o124 this h
    · right
      subst h
      have := congrArg Prod.snd hst
      exact this.symm
end
end

section
set_option Elab.async false
set_option maxRecDepth 100000
set_option maxHeartbeats 8000000
open LCg (NsObj ns_obj lst)
theorem LawS.mono {X Y : Led} {qn rw wa many : Nat} {rows : List (List Nat)} (S : LawS X qn rw wa many rows) (h : ∀ p ∈ X, p ∈ Y) : LawS Y qn rw wa many rows := ⟨S.nam.mono h, S.row.mono h, S.way.mono h, S.one, S.six, S.len, S.inn, S.short⟩
section

theorem law_T8 {w : World} {s : Shared} {h₀ : Heap} {L fa : Addr} {hm : Heap} {mg mb : Str → Option Value} {cd2 : Value} {ob : Obj} {o1 o2 o3 o4 : Obj} {Q : Flow → Shared → Prop} {E : Value → Shared → Prop} {many : Nat} {tm : Tok} {qn rw wa oa : Nat} {rows : List (List Nat)} {O : List Nat} {τ X : Led} {u3 u4 u_turn u_graph u_sorter u_kept u_name u_info u_due u_wanted u_behind u_ringed u_ready u_given u_x u_total u_script : Option Value}
    (hlk : (heapK w.params).lookup 177 = some ob)
    (B0 : Below callerA h₀ [] h₀) (XK : (heapK w.params).In h₀) (T : TopAt hm mg mb h₀) (HC : CodeHd h₀ 171 169) (l9 : @LT.lt Nat _ 169 L)
    (hτ : Tab τ) (d1 : o1.data = .cell (some (.ref qn))) (d2 : o2.data = .cell (some (.ref rw))) (d3 : o3.data = .cell u3) (d4 : o4.data = .cell u4)
    (S : LawS X qn rw wa many rows) (hO : LD X oa (dN O)) (hOr : ∀ p ∈ O, p < many) (hOn : O.Nodup) (hOl : O.length = many) {σ : Sor} {due : List Nat} {ar rl cm ad n n3 n5 : Nat} {rd : List (Nat × Value)} {rv cv : List Value} {R came : List Nat}
    (F : Fr h₀ L s.heap (upds emp [(Str.ofString "order", some (.ref oa)), (Str.ofString "turn", u_turn), (Str.ofString "graph", u_graph), (Str.ofString "sorter", some (.ref σ.self)), (Str.ofString "kept", u_kept), (Str.ofString "name", u_name), (Str.ofString "info", u_info), (Str.ofString "due", some (.ref ad)), (Str.ofString "wanted", u_wanted), (Str.ofString "behind", u_behind), (Str.ofString "ringed", u_ringed), (Str.ofString "ready", some (.ref rl)), (Str.ofString "given", u_given), (Str.ofString "ways", some (.ref wa)), (Str.ofString "x", u_x), (Str.ofString "many", some (.int (many : Int) tm)), (Str.ofString "total", u_total), (Str.ofString "script", u_script)]))
    (N : News h₀ L s.heap (σ.cells w ((ar, listOf (rd.map (·.2)).toArray n) :: (rl, listOf rv.toArray n3) :: (cm, listOf cv.toArray n5) :: c4 L o4 o3 o2 o1 (τ ++ X))))
    (ok : σ.Ok w ((ar, listOf (rd.map (·.2)).toArray n) :: (rl, listOf rv.toArray n3) :: (cm, listOf cv.toArray n5) :: c4 L o4 o3 o2 o1 (τ ++ X)))
    (e4 : o4.data = .cell (some (.ref cm))) (hW : Whole many O) (hd : ∀ p, p ∈ due ↔ p ∈ O) (H : RS w rows O due σ ar rd rv cv R came 0)
    (k : ∀ h' tk (σ' : Sor) rl' n' n3' n5' rd' rv' cv' R' came' τ' u_given u_name, σ'.self = σ.self → Fr h₀ L h' (upds emp [(Str.ofString "order", some (.ref oa)), (Str.ofString "turn", u_turn), (Str.ofString "graph", u_graph), (Str.ofString "sorter", some (.ref σ'.self)), (Str.ofString "kept", u_kept), (Str.ofString "name", u_name), (Str.ofString "info", u_info), (Str.ofString "due", some (.ref ad)), (Str.ofString "wanted", u_wanted), (Str.ofString "behind", u_behind), (Str.ofString "ringed", u_ringed), (Str.ofString "ready", some (.ref rl')), (Str.ofString "given", u_given), (Str.ofString "ways", some (.ref wa)), (Str.ofString "x", u_x), (Str.ofString "many", some (.int (many : Int) tm)), (Str.ofString "total", u_total), (Str.ofString "script", u_script)]) →
      News h₀ L h' (σ'.cells w ((ar, listOf (rd'.map (·.2)).toArray n') :: (rl', listOf rv'.toArray n3') :: (cm, listOf cv'.toArray n5') :: c4 L o4 o3 o2 o1 (τ' ++ X))) →
      σ'.Ok w ((ar, listOf (rd'.map (·.2)).toArray n') :: (rl', listOf rv'.toArray n3') :: (cm, listOf cv'.toArray n5') :: c4 L o4 o3 o2 o1 (τ' ++ X)) → Tab τ' → RS w rows O due σ' ar rd' rv' cv' R' came' many →
      wpAny (model PG w) (callerA.deeper (envOfC (fnQ ob) (fnS ob) L fa cd2)) (execs (restB 15 (forB 7 (fnB ob))) (envOfC (fnQ ob) (fnS ob) L fa cd2)) Q E { s with heap := h', toks := tk }) :
    wpAny (model PG w) (callerA.deeper (envOfC (fnQ ob) (fnS ob) L fa cd2)) (execs (restB 14 (forB 7 (fnB ob))) (envOfC (fnQ ob) (fnS ob) L fa cd2)) Q E s := by
  have hlk2 := hlk
  have X₀ := XK; have hPG : PG = Challenge.rw_dm0132_06.row.prog := rfl; revert hPG X₀; k_fill; intro X₀ hPG; clear hPG X₀
  refine' lk_use hlk ?lk ?_
  case lk => k_is
  intro e
  cases e
  clear hlk
  dsimp only [restB, forB, fnB, fnQ, fnS] at k ⊢
  have hnam := S.nam
  have hXX : ∀ (σ : Sor) (q1 q2 q3 : Addr × Obj) (τ : Led), ∀ p ∈ X, p ∈ σ.cells w (q1 :: q2 :: q3 :: c4 L o4 o3 o2 o1 (τ ++ X)) := fun σ q1 q2 q3 τ p hp => .tail _ (.tail _ (.tail _ (List.mem_append_right _ (.tail _ (.tail _ (.tail _ (.tail _ (.tail _ (.tail _ (.tail _ (List.mem_append_right _ hp)))))))))))
  have PM : ∀ (σ : Sor) (q1 q2 q3 : Addr × Obj) (τ : Led) (q : Addr × Obj), (q :: σ.cells w (q1 :: q2 :: q3 :: c4 L o4 o3 o2 o1 (τ ++ X))).Perm (σ.cells w (q1 :: q2 :: q3 :: c4 L o4 o3 o2 o1 (τ ++ q :: X))) := fun σ q1 q2 q3 τ q => by
    have e1 : σ.cells w (q1 :: q2 :: q3 :: c4 L o4 o3 o2 o1 (τ ++ X)) = σ.cells w (q1 :: q2 :: q3 :: c4 L o4 o3 o2 o1 τ) ++ X := by simp [Sor.cells]
    have e2 : σ.cells w (q1 :: q2 :: q3 :: c4 L o4 o3 o2 o1 (τ ++ q :: X)) = σ.cells w (q1 :: q2 :: q3 :: c4 L o4 o3 o2 o1 τ) ++ q :: X := by simp [Sor.cells]
    rw [e1, e2]
    exact List.perm_middle.symm
  refine wpAny_execs_cons ?_
  (try k_unmd); (try k_fold)
  k_steps
  unfold Stopped
  refine for_ldN (X := X) rfl F N hnam (hXX _ _ _ _ _)
    (fun j m' D' => X13 fun (σ' : Sor) (rl' : Nat) (n' : Nat) (n3' : Nat) (n5' : Nat) (rd' : List (Nat × Value)) (rv' : List Value) (cv' : List Value) (R' : List Nat) (came' : List Nat) (τ' : Led) (u_given : Option Value) (u_name : Option Value) => A6 (σ'.self = σ.self) (D' = σ'.cells w ((ar, listOf (rd'.map (·.2)).toArray n') :: (rl', listOf rv'.toArray n3') :: (cm, listOf cv'.toArray n5') :: c4 L o4 o3 o2 o1 (τ' ++ X))) (σ'.Ok w ((ar, listOf (rd'.map (·.2)).toArray n') :: (rl', listOf rv'.toArray n3') :: (cm, listOf cv'.toArray n5') :: c4 L o4 o3 o2 o1 (τ' ++ X))) (Tab τ') (RS w rows O due σ' ar rd' rv' cv' R' came' j) (m' = upds emp [(Str.ofString "order", some (.ref oa)), (Str.ofString "turn", u_turn), (Str.ofString "graph", u_graph), (Str.ofString "sorter", some (.ref σ'.self)), (Str.ofString "kept", u_kept), (Str.ofString "name", u_name), (Str.ofString "info", u_info), (Str.ofString "due", some (.ref ad)), (Str.ofString "wanted", u_wanted), (Str.ofString "behind", u_behind), (Str.ofString "ringed", u_ringed), (Str.ofString "ready", some (.ref rl')), (Str.ofString "given", u_given), (Str.ofString "ways", some (.ref wa)), (Str.ofString "x", u_x), (Str.ofString "many", some (.int (many : Int) tm)), (Str.ofString "total", u_total), (Str.ofString "script", u_script)]))
    (fun j m D hTel p hp => by obtain ⟨_, _, _, _, _, _, _, _, _, _, _, _, _, _, e, _⟩ := hTel; rw [e]; exact hXX _ _ _ _ _ p hp)
    ⟨σ, rl, n, n3, n5, rd, rv, cv, R, came, τ, _, _, rfl, rfl, ok, hτ, H, by walk_at "maps"⟩ ?_ ?_
  · rintro I oi ltI j v _ _ h tk hj hv Rn1 nx1 rt1 ⟨σ', rl', n', n3', n5', rd', rv', cv', R', came', τ', ug, un, hself, rfl, ok', hτ', H', rfl⟩ F N off
    have F2 : Fr h₀ L h (upds emp [(Str.ofString "order", some (.ref oa)), (Str.ofString "turn", u_turn), (Str.ofString "graph", u_graph), (Str.ofString "sorter", some (.ref σ'.self)), (Str.ofString "kept", u_kept), (Str.ofString "name", some v), (Str.ofString "info", u_info), (Str.ofString "due", some (.ref ad)), (Str.ofString "wanted", u_wanted), (Str.ofString "behind", u_behind), (Str.ofString "ringed", u_ringed), (Str.ofString "ready", some (.ref rl')), (Str.ofString "given", ug), (Str.ofString "ways", some (.ref wa)), (Str.ofString "x", u_x), (Str.ofString "many", some (.int (many : Int) tm)), (Str.ofString "total", u_total), (Str.ofString "script", u_script)]) := fr_cast F (by walk_at "maps")
    have N2 := News.perm N (PM _ _ _ _ _ _)
    have K2 := (ok'.keys.cons (o := oi) off).perm (PM _ _ _ _ _ _)
    have ok2 : σ'.Ok w ((ar, listOf (rd'.map (·.2)).toArray n') :: (rl', listOf rv'.toArray n3') :: (cm, listOf cv'.toArray n5') :: c4 L o4 o3 o2 o1 (τ' ++ (I, oi) :: X)) := ⟨ok'.dict, K2, ok'.lo, ok'.good, ok'.apart⟩
    refine law_R (u_sorter := none) (u_due := none) (u_ready := none) hlk2 B0 XK T HC l9 hτ' d1 d2 d3 d4 (S.mono fun p hp => .tail _ hp) (hO.mono fun p hp => .tail _ hp) hOr hOn hOl (σ := σ') F2 N2 ok2 e4 hW hd H' fun h3 tk3 σ3 rl3 n3 n33 n53 rd3 rv3 cv3 R3 came3 τ3 ug3 hs3 hdx3 hn3 F3 N3 ok3 hτ3 H3 => ?_
    have N4 := News.perm N3 (PM _ _ _ _ _ _).symm
    have K4 := ok3.keys.perm (PM _ _ _ _ _ _).symm
    refine wpAny_execs_nil ?_
    refine nx1 _ _ _ _ F3 N4 K4.off ⟨σ3, rl3, n3, n33, n53, rd3, rv3, cv3, R3, came3, τ3, _, _, hs3.trans hself, rfl, ⟨ok3.dict, K4.tail, ok3.lo, ok3.good, ok3.apart⟩, hτ3, H3, by walk_at "maps"⟩
  · rintro _ _ h tk ⟨σ', rl', n', n3', n5', rd', rv', cv', R', came', τ', ug, un, hself, rfl, ok', hτ', H', rfl⟩ F N
    rw [List.length_map, List.length_range] at H'
    exact k _ _ σ' rl' n' n3' n5' rd' rv' cv' R' came' τ' ug un hself F N ok' hτ' H'
end
end

section
set_option Elab.async false
set_option maxRecDepth 100000
set_option maxHeartbeats 8000000
open LCg (NsObj ns_obj lst)
section

local macro_rules | `(tactic| walk_at "call ref") => `(tactic| (k_here; refine stop_intro ?_))
local macro_rules | `(tactic| walk_at "compareOp NotEq bool bool") => `(tactic| (k_here; refine ne_same (by assumption) ?_))
local macro_rules | `(tactic| walk_at "execs cons") => `(tactic| (k_here; refine stop_intro ?_))
theorem law_T9 {w : World} {s : Shared} {h₀ : Heap} {L fa : Addr} {hm : Heap} {mg mb : Str → Option Value} {cd2 : Value} {ob : Obj} {o1 o2 o3 o4 : Obj} {Q : Flow → Shared → Prop} {E : Value → Shared → Prop} {many : Nat} {tm : Tok} {qn rw wa oa : Nat} {rows : List (List Nat)} {O : List Nat} {τ X : Led} {u3 u4 u_turn u_graph u_sorter u_kept u_name u_info u_due u_wanted u_behind u_ringed u_ready u_given u_x u_total u_script : Option Value}
    (hlk : (heapK w.params).lookup 177 = some ob)
    (B0 : Below callerA h₀ [] h₀) (XK : (heapK w.params).In h₀) (T : TopAt hm mg mb h₀) (HC : CodeHd h₀ 171 169) (l9 : @LT.lt Nat _ 169 L)
    (hτ : Tab τ) (d1 : o1.data = .cell (some (.ref qn))) (d2 : o2.data = .cell (some (.ref rw))) (d3 : o3.data = .cell u3) (d4 : o4.data = .cell u4)
    (S : LawS X qn rw wa many rows) (hO : LD X oa (dN O)) (hOr : ∀ p ∈ O, p < many) (hOn : O.Nodup) (hOl : O.length = many) {σ : Sor} {ar rl cm ad n n3 n5 : Nat} {rv cv : List Value} {came : List Nat} {a : Int} {t3 t4 : Tok} {ringed : Bool}
    (F : Fr h₀ L s.heap (upds emp [(Str.ofString "order", some (.ref oa)), (Str.ofString "turn", u_turn), (Str.ofString "graph", u_graph), (Str.ofString "sorter", some (.ref σ.self)), (Str.ofString "kept", u_kept), (Str.ofString "name", u_name), (Str.ofString "info", u_info), (Str.ofString "due", some (.ref ad)), (Str.ofString "wanted", u_wanted), (Str.ofString "behind", u_behind), (Str.ofString "ringed", some (.bool ringed)), (Str.ofString "ready", some (.ref rl)), (Str.ofString "given", u_given), (Str.ofString "ways", some (.ref wa)), (Str.ofString "x", u_x), (Str.ofString "many", some (.int (many : Int) tm)), (Str.ofString "total", u_total), (Str.ofString "script", u_script)]))
    (N : News h₀ L s.heap (σ.cells w ((ar, listOf ([] : List Value).toArray n) :: (rl, listOf rv.toArray n3) :: (cm, listOf cv.toArray n5) :: c4 L o4 o3 o2 o1 (τ ++ X))))
    (ok : σ.Ok w ((ar, listOf ([] : List Value).toArray n) :: (rl, listOf rv.toArray n3) :: (cm, listOf cv.toArray n5) :: c4 L o4 o3 o2 o1 (τ ++ X)))
    (e4 : o4.data = .cell (some (.ref cm))) (hrn : σ.rn = .ref ar) (h3 : σ.v3 = .int a t3) (h4 : σ.v4 = .int a t4) (hn4 : σ.n = 4) (hcv : DatAll [] cv (dN came)) (hcl : came.length ≤ 6) (hri : ringed = decide ((came.length : Int) < (many : Int)))
    (k : ∀ h' tk, Fr h₀ L h' (upds emp [(Str.ofString "order", some (.ref ad)), (Str.ofString "turn", u_turn), (Str.ofString "graph", u_graph), (Str.ofString "sorter", some (.ref σ.self)), (Str.ofString "kept", u_kept), (Str.ofString "name", u_name), (Str.ofString "info", u_info), (Str.ofString "due", some (.ref ad)), (Str.ofString "wanted", u_wanted), (Str.ofString "behind", u_behind), (Str.ofString "ringed", some (.bool ringed)), (Str.ofString "ready", some (.ref rl)), (Str.ofString "given", u_given), (Str.ofString "ways", some (.ref wa)), (Str.ofString "x", u_x), (Str.ofString "many", some (.int (many : Int) tm)), (Str.ofString "total", u_total), (Str.ofString "script", u_script)]) →
      News h₀ L h' (c4 L o4 o3 o2 o1 (τ ++ X)) → Keys (c4 L o4 o3 o2 o1 (τ ++ X)) →
      Q .next { s with heap := h', toks := tk }) :
    wpAny (model PG w) (callerA.deeper (envOfC (fnQ ob) (fnS ob) L fa cd2)) (execs (restB 15 (forB 7 (fnB ob))) (envOfC (fnQ ob) (fnS ob) L fa cd2)) Q E s := by
  have X₀ := XK; have hPG : PG = Challenge.rw_dm0132_06.row.prog := rfl; revert hPG X₀; k_fill; intro X₀ hPG; clear hPG X₀
  refine' lk_use hlk ?lk ?_
  case lk => k_is
  intro e
  cases e
  clear hlk
  dsimp only [restB, forB, fnB, fnQ, fnS] at k ⊢
  have h6 := S.six
  have C0 : ∀ env : Env, env.frame = some L → env.scope.kind = .function → Cx w (callerA.deeper env) h₀ L := fun env h1 h2 => ⟨⟨callerA, h₀, [], env, hm, mg, mb, B0, rfl, h1, h2, T, XK, T, fun b hb => (nomatch hb)⟩, XK, rfl⟩
  have hroom : ∀ env, (callerA.deeper env).depth + 60 < recursionLimit := fun env => by rw [depth_deeper]; decide
  obtain ⟨self, dx, n2i, nn, t1, t2, t5, t6, rn, v3, v4, o, infos⟩ := σ
  dsimp only at hn4 hrn h3 h4
  subst hn4 hrn h3 h4
  have N1 := N
  unfold Sor.cells at N1
  dsimp only at N1 F
  have KD : Keys (c4 L o4 o3 o2 o1 (τ ++ X)) := by
    have h1 := ok.keys
    unfold Keys Sor.cells at h1
    unfold Keys
    refine h1.sublist (List.Sublist.map _ ?_)
    exact .cons _ (.cons _ (.cons _ ((List.Sublist.cons _ (.cons _ (.cons _ (List.Sublist.refl _)))).trans (List.sublist_append_right _ _))))
  refine wpAny_execs_cons ?_
  (try k_unmd); (try k_fold)
  k_steps
  unfold Stopped
  (try dsimp only)
  have N5 : News h₀ L s.heap (Sor.cells w ⟨self, dx, n2i, 4, t1, t2, t5, t6, .ref ar, .int a t3, .int a t4, o, infos⟩ ((ar, listOf (([] : List (Nat × Value)).map (·.2)).toArray n) :: (rl, listOf rv.toArray n3) :: (cm, listOf cv.toArray n5) :: c4 L o4 o3 o2 o1 (τ ++ X))) := N
  refine wpAny_call (is_active_spec (σ := ⟨self, dx, n2i, 4, t1, t2, t5, t6, .ref ar, .int a t3, .int a t4, o, infos⟩) (C0 _ rfl rfl) F N5 rfl rfl rfl (by simp) (by have := hroom default; rw [depth_deeper] at this ⊢; exact o125 this) fun h6 tk6 F6 N6 => ?_)
  have eB : (decide (a < a) || !([] : List (Nat × Value)).isEmpty) = false := by simp
  rw [eB]
  clear N5 N1 N F
  obtain ⟨DD, hDD⟩ : ∃ DD, DD = Sor.cells w ⟨self, dx, n2i, 4, t1, t2, t5, t6, .ref ar, .int a t3, .int a t4, o, infos⟩ ((ar, listOf ([] : List Value).toArray n) :: (rl, listOf rv.toArray n3) :: (cm, listOf cv.toArray n5) :: c4 L o4 o3 o2 o1 (τ ++ X)) := ⟨_, rfl⟩
  replace N6 : News h₀ L h6 DD := by rw [hDD]; exact N6
  have hYD : ∀ p ∈ (cm, listOf cv.toArray n5) :: c4 L o4 o3 o2 o1 (τ ++ X), p ∈ DD := fun p hp => by rw [hDD]; exact .tail _ (.tail _ (.tail _ (List.mem_append_right _ (.tail _ (.tail _ hp)))))
  have mcm := hYD _ (.head _)
  have m4 : (L + 1 + 1 + 1 + 1, o4) ∈ DD := hYD _ (.tail _ (.head _))
  have hLC : LD [(cm, listOf cv.toArray n5)] cm (dN came) := ⟨cv, n5, .head _, hcv.mono fun p hp => by cases hp⟩
  have hsC : ∀ p ∈ [(cm, listOf cv.toArray n5)], p ∈ DD := fun p hp => by rw [List.mem_singleton.mp hp]; exact mcm
  (try dsimp only)
  (try k_unmd); (try k_fold)
  k_steps
  unfold Stopped
  refine wpAny_execs_cons ?_
  (try k_unmd); (try k_fold)
  k_steps
  rename_i h9 F9 N9
  exact k _ _ (fr_cast F9 (by walk_at "maps")) (News.sub N9 fun p hp => hYD p (.tail _ hp)) KD
end
end

section
set_option Elab.async false
set_option maxRecDepth 100000
set_option maxHeartbeats 8000000
open LCg (NsObj ns_obj lst)
theorem two_perm {a b : Addr × Obj} {P C : Led} : (a :: b :: (P ++ C)).Perm (P ++ ([a, b] ++ C)) := List.perm_append_comm_assoc [a, b] P C
section
theorem law_turn {w : World} {s : Shared} {h₀ : Heap} {L fa : Addr} {hm : Heap} {mg mb : Str → Option Value} {cd2 : Value} {ob : Obj} {o1 o2 o3 o4 : Obj} {Q : Flow → Shared → Prop} {E : Value → Shared → Prop} {many : Nat} {tm : Tok} {qn rw wa oa : Nat} {rows : List (List Nat)} {O : List Nat} {τ X : Led} {u3 u4 u_turn u_graph u_sorter u_kept u_name u_info u_due u_wanted u_behind u_ringed u_ready u_given u_x u_total u_script : Option Value}
    (hlk : (heapK w.params).lookup 177 = some ob)
    (B0 : Below callerA h₀ [] h₀) (XK : (heapK w.params).In h₀) (T : TopAt hm mg mb h₀) (HC : CodeHd h₀ 171 169) (l9 : @LT.lt Nat _ 169 L)
    (hτ : Tab τ) (d1 : o1.data = .cell (some (.ref qn))) (d2 : o2.data = .cell (some (.ref rw))) (d3 : o3.data = .cell u3) (d4 : o4.data = .cell u4)
    (S : LawS X qn rw wa many rows) (hO : LD X oa (dN O)) (hOr : ∀ p ∈ O, p < many) (hOn : O.Nodup) (hOl : O.length = many) {ti : Nat} {tti : Tok} (hti : ti ≤ 5) (hW : Whole many O) (hF : Whole many (dueN rows many ti)) (hst : dueN rows many ti = uni [] (O.flatMap fun p => p :: rowN rows p))
    (hPE : ∀ e : Addr, PassesOwnAt (model PG w) ((callerA.deeper (envOfC (fnQ ob) (fnS ob) L fa cd2)).mark (some (.ref e))) (callerA.deeper (envOfC (fnQ ob) (fnS ob) L fa cd2)) (envOfC (fnQ ob) (fnS ob) L fa cd2) E)
    (F : Fr h₀ L s.heap (upds emp [(Str.ofString "order", some (.ref oa)), (Str.ofString "turn", some (.int (ti : Int) tti)), (Str.ofString "graph", u_graph), (Str.ofString "sorter", u_sorter), (Str.ofString "kept", u_kept), (Str.ofString "name", u_name), (Str.ofString "info", u_info), (Str.ofString "due", u_due), (Str.ofString "wanted", u_wanted), (Str.ofString "behind", u_behind), (Str.ofString "ringed", u_ringed), (Str.ofString "ready", u_ready), (Str.ofString "given", u_given), (Str.ofString "ways", some (.ref wa)), (Str.ofString "x", u_x), (Str.ofString "many", some (.int (many : Int) tm)), (Str.ofString "total", u_total), (Str.ofString "script", u_script)])) (N : News h₀ L s.heap (c4 L o4 o3 o2 o1 (τ ++ X))) (KD : Keys (c4 L o4 o3 o2 o1 (τ ++ X)))
    (k : ∀ h' tk o3' o4' u3' u4' ad dv dn τ' u_turn u_graph u_sorter u_kept u_name u_info u_due u_wanted u_behind u_ringed u_ready u_given, o3'.data = .cell u3' → o4'.data = .cell u4' → Fr h₀ L h' (upds emp [(Str.ofString "order", some (.ref ad)), (Str.ofString "turn", u_turn), (Str.ofString "graph", u_graph), (Str.ofString "sorter", u_sorter), (Str.ofString "kept", u_kept), (Str.ofString "name", u_name), (Str.ofString "info", u_info), (Str.ofString "due", u_due), (Str.ofString "wanted", u_wanted), (Str.ofString "behind", u_behind), (Str.ofString "ringed", u_ringed), (Str.ofString "ready", u_ready), (Str.ofString "given", u_given), (Str.ofString "ways", some (.ref wa)), (Str.ofString "x", u_x), (Str.ofString "many", some (.int (many : Int) tm)), (Str.ofString "total", u_total), (Str.ofString "script", u_script)]) →
      News h₀ L h' (c4 L o4' o3' o2 o1 (τ' ++ (ad, listOf dv.toArray dn) :: X)) → Keys (c4 L o4' o3' o2 o1 (τ' ++ (ad, listOf dv.toArray dn) :: X)) → Tab τ' → DatAll [] dv (dN (dueN rows many ti)) → Q .next { s with heap := h', toks := tk }) :
    wpAny (model PG w) (callerA.deeper (envOfC (fnQ ob) (fnS ob) L fa cd2)) (execs (forB 7 (fnB ob)) (envOfC (fnQ ob) (fnS ob) L fa cd2)) Q E s := by
  have h6 := S.six
  have hdl : (dueN rows many ti).length ≤ 6 := by rw [hF.length]; exact h6
  have hdO : ∀ p, p ∈ dueN rows many ti ↔ p ∈ O := fun p => by rw [hF.all, hW.all]
  have hrow : ∀ p, p < many → ∀ q ∈ rowN rows p, q < many := fun p hp => S.inn _ (getD_mem (by rw [S.len]; exact hp))
  have hinit : initP (O.map fun p => (p, rows.getD p [])) = mkA (dueN rows many ti) fun r => (((rowN rows r).length : Int), behF (rowN rows) O r) := by
    rw [hst]
    exact init_eq (row := rowN rows) hW.nodup fun p hp q hq => (hW.all q).mpr (hrow p ((hW.all p).mp hp) q hq)
  refine law_T1 (u_graph := u_graph) hlk B0 XK T HC l9 hτ d1 d2 d3 d4 S hO hOr hOn hOl F N KD fun h1 tk1 o31 u31 ag ugr gr og e31 F1 N1 K1 G1 hga _ => ?_
  (try dsimp only)
  refine law_T2 (u_graph := none) hlk B0 XK T HC l9 hτ d1 d2 e31 d4 S hO hOr hOn hOl F1 N1 K1 G1 hga fun σ h2 tk2 t5 t6 F2 N2 ok2 rn2 v32 v42 n42 ab2 => ?_
  (try dsimp only)
  rw [hinit] at ab2
  refine law_T3 (u_sorter := none) hlk B0 XK T HC l9 hτ d1 d2 e31 d4 S hO hOr hOn hOl F2 N2 ok2 n42 fun h3 tk3 kp kv kn Z un3 ui3 F3 N3 K3 hkv => ?_
  (try dsimp only)
  refine law_T4 (u_turn := none) (D := (kp, listOf kv.toArray kn) :: (Z ++ σ.cells w (c4 L o4 o31 o2 o1 (τ ++ X)))) (ti := ti) (tti := tti) hlk B0 XK T HC l9 hτ d1 d2 e31 d4 S hO hOr hOn hOl hti (fun p hp => .tail _ (List.mem_append_right _ (.tail _ (.tail _ (.tail _ (List.mem_append_right _ (.tail _ (.tail _ (.tail _ (.tail _ (List.mem_append_right _ hp)))))))))))
    F3 N3 fun h4 tk4 ad dv dn F4 N4 lt4 hdv => ?_
  (try dsimp only)
  have hdm : ∀ p ∈ dueN rows many ti, p < many := fun p hp => (hF.all p).mp hp
  have eP : ∀ o3, (ad, listOf dv.toArray dn) :: (kp, listOf kv.toArray kn) :: (Z ++ σ.cells w (c4 L o4 o3 o2 o1 (τ ++ X))) = ((ad, listOf dv.toArray dn) :: (kp, listOf kv.toArray kn) :: (Z ++ σ.cells w [])) ++ c4 L o4 o3 o2 o1 (τ ++ X) := fun o3 => by simp [Sor.cells]
  have K4 : Keys (((ad, listOf dv.toArray dn) :: (kp, listOf kv.toArray kn) :: (Z ++ σ.cells w [])) ++ c4 L o4 o31 o2 o1 (τ ++ X)) := by
    rw [← eP]; exact K3.cons fun q hq => Nat.ne_of_lt (lt4 q hq)
  rw [eP] at N4
  have hkw : σ.abs.map keptD = (dueN rows many ti).map (wantD O rows) := by
    rw [ab2]; unfold mkA; rw [List.map_map]; rfl
  rw [hkw] at hkv
  refine law_T5 (u_kept := none) (u_due := none) hlk B0 XK T HC l9 hτ d1 d2 e31 d4 S hO hOr hOn hOl F4 N4 K4 (PX := Z ++ infosL σ.infos) ?hPX (.tail _ (.head _)) hkv (.head _) hdv hdm hdl fun h5 tk5 o35 u35 uw5 ub5 e35 F5 N5 K5 => ?_
  case hPX =>
    intro p hp
    refine .tail _ (.tail _ ?_)
    rcases List.mem_append.mp hp with hp | hp
    · exact List.mem_append_left _ hp
    · exact List.mem_append_right _ (.tail _ (.tail _ (.tail _ (List.mem_append_left _ hp))))
  (try dsimp only)
  have PM0 : ∀ q, (q :: σ.cells w (c4 L o4 o35 o2 o1 (τ ++ X))).Perm (σ.cells w (c4 L o4 o35 o2 o1 (τ ++ q :: X))) := fun q => by
    have e1 : σ.cells w (c4 L o4 o35 o2 o1 (τ ++ X)) = σ.cells w (c4 L o4 o35 o2 o1 τ) ++ X := by simp [Sor.cells]
    have e2 : σ.cells w (c4 L o4 o35 o2 o1 (τ ++ q :: X)) = σ.cells w (c4 L o4 o35 o2 o1 τ) ++ q :: X := by simp [Sor.cells]
    rw [e1, e2]
    exact List.perm_middle.symm
  rw [← eP] at N5 K5
  have N6 := News.perm (News.sub N5 (l' := (ad, listOf dv.toArray dn) :: σ.cells w (c4 L o4 o35 o2 o1 (τ ++ X))) fun p hp => by
    rcases List.mem_cons.mp hp with rfl | hp
    · exact .head _
    · exact .tail _ (.tail _ (List.mem_append_right _ hp))) (PM0 _)
  have K6 : Keys (σ.cells w (c4 L o4 o35 o2 o1 (τ ++ (ad, listOf dv.toArray dn) :: X))) := by
    refine Keys.perm (l := (ad, listOf dv.toArray dn) :: σ.cells w (c4 L o4 o35 o2 o1 (τ ++ X))) ?_ (PM0 _)
    unfold Keys at K5 ⊢
    exact K5.sublist ((List.Sublist.cons_cons _ (.cons _ (List.sublist_append_right Z _))).map _)
  have ok6 : σ.Ok w (c4 L o4 o35 o2 o1 (τ ++ (ad, listOf dv.toArray dn) :: X)) := ⟨ok2.dict, K6, ok2.lo, ok2.good, ok2.apart⟩
  clear N5 K5 N4 K4 N3 K3 N2 N1 K1
  have S' := S.mono fun p hp => List.Mem.tail (ad, listOf dv.toArray dn) hp
  have hO' := hO.mono fun p hp => List.Mem.tail (ad, listOf dv.toArray dn) hp
  have hcl6 : Closed σ.abs := by rw [ab2]; exact closed_mk hdO
  refine law_T6 (u_sorter := none) (u_due := none) (due := []) hlk B0 XK T HC l9 hτ d1 d2 e35 d4 S' hO' hOr hOn hOl F5 N6 ok6 rn2 n42 hcl6 hPE fun h6 tk6 ar n6 rd ringed F6 N6 ok6 hrd hrdn hnr hri => ?_
  (try dsimp only)
  have eP6 : ∀ o4 τ, Sor.cells w { σ with rn := .ref ar } ((ar, listOf (rd.map (·.2)).toArray n6) :: c4 L o4 o35 o2 o1 τ) = Sor.cells w { σ with rn := .ref ar } [(ar, listOf (rd.map (·.2)).toArray n6)] ++ c4 L o4 o35 o2 o1 τ := fun o4 τ => by simp [Sor.cells]
  have K6' := ok6.keys
  rw [eP6] at N6 K6'
  have hdue : LD ((ad, listOf dv.toArray dn) :: X) ad (dN (dueN rows many ti)) := ⟨dv, dn, .head _, hdv.mono fun p hp => by cases hp⟩
  refine law_T7 (u_due := none) hlk B0 XK T HC l9 hτ d1 d2 e35 d4 S' hO' hOr hOn hOl hdue hdm hdl F6 N6 K6' fun h7 tk7 cm rl n7 rv l τ7 o47 e47 F7 N7 K7 hτ7 hrv hl => ?_
  (try dsimp only)
  obtain ⟨I0, hr0⟩ := Inv.start (O := O) hF.nodup hdO hl
  have PM7 : ((rl, listOf rv.toArray n7) :: (cm, listOf ([] : List Value).toArray 0) :: (Sor.cells w { σ with rn := .ref ar } [(ar, listOf (rd.map (·.2)).toArray n6)] ++ c4 L o47 o35 o2 o1 (τ7 ++ (ad, listOf dv.toArray dn) :: X))).Perm
      (Sor.cells w { σ with rn := .ref ar } ((ar, listOf (rd.map (·.2)).toArray n6) :: (rl, listOf rv.toArray n7) :: (cm, listOf ([] : List Value).toArray 0) :: c4 L o47 o35 o2 o1 (τ7 ++ (ad, listOf dv.toArray dn) :: X))) := by
    have e : Sor.cells w { σ with rn := .ref ar } ((ar, listOf (rd.map (·.2)).toArray n6) :: (rl, listOf rv.toArray n7) :: (cm, listOf ([] : List Value).toArray 0) :: c4 L o47 o35 o2 o1 (τ7 ++ (ad, listOf dv.toArray dn) :: X)) =
        Sor.cells w { σ with rn := .ref ar } [(ar, listOf (rd.map (·.2)).toArray n6)] ++ ([(rl, listOf rv.toArray n7), (cm, listOf ([] : List Value).toArray 0)] ++ c4 L o47 o35 o2 o1 (τ7 ++ (ad, listOf dv.toArray dn) :: X)) := by simp [Sor.cells]
    rw [e]
    exact two_perm
  have ok7 : Sor.Ok w { σ with rn := .ref ar } ((ar, listOf (rd.map (·.2)).toArray n6) :: (rl, listOf rv.toArray n7) :: (cm, listOf ([] : List Value).toArray 0) :: c4 L o47 o35 o2 o1 (τ7 ++ (ad, listOf dv.toArray dn) :: X)) := ⟨ok6.dict, K7.perm PM7, ok6.lo, ok6.good, ok6.apart⟩
  have H0 : RS w rows O (dueN rows many ti) { σ with rn := .ref ar } ar rd rv [] l [] 0 :=
    ⟨rfl, n42, ⟨_, _, _, v32, v42⟩, by rw [hrd, ab2]; exact hr0, fun q hq => (hrdn q hq).1, hrv, .nil, by show Inv _ _ _ σ.abs _ _; rw [ab2]; exact I0, .inl (Nat.zero_le _)⟩
  refine law_T8 (u_sorter := none) (u_due := none) (u_ready := none) hlk B0 XK T HC l9 hτ7 d1 d2 e35 e47 S' hO' hOr hOn hOl (σ := { σ with rn := .ref ar }) F7 (News.perm N7 PM7) ok7 e47 hW hdO H0 fun h8 tk8 σ8 rl8 n8 n38 n58 rd8 rv8 cv8 R8 came8 τ8 ug8 un8 hs8 F8 N8 ok8 hτ8 H8 => ?_
  (try dsimp only)
  have I8 := H8.inv
  have hroom := I8.room hW
  have hR8 : R8 = [] := by
    rcases H8.len with h | h
    · exact List.length_eq_zero_iff.mp (by exact o155 hroom h)
    · exact h
  have hrd8 : rd8 = [] := by
    have h1 := H8.rd1
    rw [hR8] at h1
    exact List.map_eq_nil_iff.mp h1
  subst hR8 hrd8
  obtain ⟨a8, t38, t48, hv38, hv48⟩ := H8.cnt
  have hgg : ∀ q, q < many → gOf σ q = behF (rowN rows) O q := fun q hq => by
    unfold gOf
    rw [ab2, entry_mk ((hF.all q).mpr hq)]
  have hring : ringed = decide ((came8.length : Int) < (many : Int)) := by
    cases ringed with
    | false =>
      obtain ⟨fin, f1, f2, f3⟩ := hnr rfl
      have := I8.none hW hgg hrow f1 f2 fun p hp => by
        have h1 : hasP σ.abs p = true := by rw [ab2, hasP_mk, decide_eq_true_eq]; exact (hF.all p).mpr hp
        obtain ⟨i, hi, rfl⟩ := abs_hasP.mp h1
        exact f3 i hi
      exact (decide_eq_false (by exact o156 this)).symm
    | true =>
      obtain ⟨c, c1, c2⟩ := hri rfl
      have := I8.ring hW hgg c1 fun p hp => by
        have h1 := c2 p hp
        rw [ab2, hasP_mk, decide_eq_true_eq] at h1
        exact (hF.all p).mp h1
      exact (decide_eq_true (by exact o157 this)).symm
  refine law_T9 (u_sorter := none) (u_due := none) (u_ready := none) (u_ringed := none) hlk B0 XK T HC l9 hτ8 d1 d2 e35 e47 S' hO' hOr hOn hOl (σ := σ8) F8 N8 ok8 e47 H8.rn hv38 hv48 H8.n4 H8.cvd (by exact o158 hroom (by assumption)) hring fun h9 tk9 F9 N9 K9 => ?_
  (try dsimp only)
  exact k _ _ o35 o47 u35 _ ad dv dn τ8 _ _ _ _ _ _ _ _ _ _ _ _ e35 e47 F9 N9 K9 hτ8 hdv
end
end

section
set_option Elab.async false
set_option maxRecDepth 100000
set_option maxHeartbeats 8000000
open LCg (NsObj ns_obj lst)
section

local macro_rules | `(tactic| walk_at "call type:list") => `(tactic| (k_here; refine stop_intro ?_))
local macro_rules | `(tactic| walk_at "execs cons") => `(tactic| (k_here; refine stop_intro ?_))
theorem law_D {w : World} {s : Shared} {h₀ : Heap} {L fa : Addr} {hm : Heap} {mg mb : Str → Option Value} {cd2 : Value} {ob : Obj} {sc : Addr} {o1 o2 o3 o4 : Obj} {Q : Flow → Shared → Prop} {E : Value → Shared → Prop} {many : Nat} {tot : Int} {tm tT : Tok} {u u3 u4 : Option Value} {qn rw wa : Nat} {rows : List (List Nat)} {X : Led}
    (hlk : (heapK w.params).lookup 177 = some ob)
    (B0 : Below callerA h₀ [] h₀) (XK : (heapK w.params).In h₀) (T : TopAt hm mg mb h₀) (HC : CodeHd h₀ 171 169) (l9 : @LT.lt Nat _ 169 L)
    (F : Fr h₀ L s.heap (upds emp [(Str.ofString "ways", some (.ref wa)), (Str.ofString "x", u), (Str.ofString "many", some (.int (many : Int) tm)), (Str.ofString "total", some (.int tot tT)), (Str.ofString "script", some (.ref sc))]))
    (N : News h₀ L s.heap (lawL L o4 o3 o2 o1 ++ X)) (KD : Keys (lawL L o4 o3 o2 o1 ++ X)) (d1 : o1.data = .cell (some (.ref qn))) (d2 : o2.data = .cell (some (.ref rw))) (d3 : o3.data = .cell u3) (d4 : o4.data = .cell u4)
    (S : LawS X qn rw wa many rows)
    (k : ∀ h' tk m' D' τ', Fr h₀ L h' m' → News h₀ L h' (τ' ++ D') → Tab τ' → Q (.ret (.bool true)) { s with heap := h', toks := tk }) :
    wpAny (model PG w) (callerA.deeper (envOfC (fnQ ob) (fnS ob) L fa cd2)) (execs (restB 6 (fnB ob)) (envOfC (fnQ ob) (fnS ob) L fa cd2)) Q E s := by
  have hlk2 := hlk
  have X₀ := XK; have hPG : PG = Challenge.rw_dm0132_06.row.prog := rfl; revert hPG X₀; k_fill; intro X₀ hPG; clear hPG X₀
  refine' lk_use hlk ?lk ?_
  case lk => k_is
  intro e
  cases e
  clear hlk
  dsimp only [restB, forB, fnB, fnQ, fnS] at k ⊢
  have h6 := S.six
  have h1 := S.one
  refine wpAny_execs_cons ?_
  (try k_unmd); (try k_fold)
  k_steps
  unfold Stopped
  (try dsimp only)
  rename IsRange _ _ _ _ _ _ _ _ => hr
  rename Fr _ _ _ _ => F1
  rename News _ _ _ _ => N1
  refine kll_range (n := many) rfl F1 N1 hr (small_n (Nat.le_trans h6 (Nat.le_of_ble_eq_true rfl))) (by rw [rangeSize_nat]; simp) (Nat.le_trans h6 (by decide)) fun oa ov on h2 tk2 F2 N2 lt2 hI2 => ?_
  clear hr N1 F1
  have hO : LD ((oa, listOf ov.toArray on) :: X) oa (dN (List.range many)) := ⟨ov, on, .head _, by
    have h := dat_ints (X := (oa, listOf ov.toArray on) :: X) hI2
    have e : dI (rangeKs 0 many) = dN (List.range many) := by unfold dI dN rangeKs; rw [List.map_map]; refine List.map_congr_left fun i _ => ?_; simp
    rw [e] at h; exact h⟩
  have PM : ((oa, listOf ov.toArray on) :: (lawL L o4 o3 o2 o1 ++ X)).Perm (c4 L o4 o3 o2 o1 ([(169, tabObj #[])] ++ (oa, listOf ov.toArray on) :: X)) := by
    have e1 : lawL L o4 o3 o2 o1 ++ X = lawL L o4 o3 o2 o1 ++ X := rfl
    exact (List.perm_middle (a := (oa, listOf ov.toArray on)) (l₁ := lawL L o4 o3 o2 o1) (l₂ := X)).symm
  have N3 := News.perm N2 PM
  have K3 := (KD.cons (a := oa) (o := listOf ov.toArray on) fun q hq => Nat.ne_of_lt (lt2 q hq)).perm PM
  have S3 := S.mono fun p hp => List.Mem.tail (oa, listOf ov.toArray on) hp
  clear N2 KD
  generalize hX3 : (oa, listOf ov.toArray on) :: X = X3 at N3 K3 S3 hO
  (try dsimp only)
  (try k_unmd); (try k_fold)
  k_steps
  unfold Stopped
  refine wpAny_execs_cons ?_
  (try k_unmd); (try k_fold)
  k_steps
  unfold Stopped
  (try dsimp only)
  rename IsRange _ _ _ _ _ _ _ _ => hr
  rename Fr _ _ _ _ => F4
  rename News _ _ _ _ => N4
  obtain ⟨n, hn, hn5⟩ : ∃ n : Nat, ((if (many : Int) > 2 then (many : Int) else 2) - 1).toNat = n ∧ n ≤ 5 := ⟨_, rfl, by split <;> (first | exact o92 h6 | exact o93 | assumption)⟩
  have hb1 : (2 : Int) ≤ (if (many : Int) > 2 then (many : Int) else 2) := by split <;> (first | exact o94 (by assumption) | exact o95 | assumption)
  have hb2 : (if (many : Int) > 2 then (many : Int) else 2) ≤ 6 := by split <;> (first | exact o96 h6 | exact o97 | assumption)
  have hwin : ∀ p, p < many → ∀ q ∈ wayF (rows.map wayN) p, q < many := fun p hp q hq => by
    rw [way_at] at hq
    exact S3.inn _ (getD_mem (by rw [S3.len]; exact hp)) q (wayN_mem.mp hq)
  refine for_rangeN (n := n) rfl F4 N4 hr (small_one (by omega) (by omega) (by omega) (by omega)) (by rw [rangeSize_nat, hn])
    (fun j m' D' => X19 fun (o3' : Obj) (o4' : Obj) (u3' : Option Value) (u4' : Option Value) (τ' : Led) (X' : Led) (oa' : Nat) (u_turn : Option Value) (u_graph : Option Value) (u_sorter : Option Value) (u_kept : Option Value) (u_name : Option Value) (u_info : Option Value) (u_due : Option Value) (u_wanted : Option Value) (u_behind : Option Value) (u_ringed : Option Value) (u_ready : Option Value) (u_given : Option Value) => A8 (D' = c4 L o4' o3' o2 o1 (τ' ++ X')) (Keys D') (o3'.data = .cell u3') (o4'.data = .cell u4') (Tab τ') (LawS X' qn rw wa many rows) (LD X' oa' (dN (itF (wayF (rows.map wayN)) many j))) (m' = upds emp [(Str.ofString "order", some (.ref oa')), (Str.ofString "turn", u_turn), (Str.ofString "graph", u_graph), (Str.ofString "sorter", u_sorter), (Str.ofString "kept", u_kept), (Str.ofString "name", u_name), (Str.ofString "info", u_info), (Str.ofString "due", u_due), (Str.ofString "wanted", u_wanted), (Str.ofString "behind", u_behind), (Str.ofString "ringed", u_ringed), (Str.ofString "ready", u_ready), (Str.ofString "given", u_given), (Str.ofString "ways", some (.ref wa)), (Str.ofString "x", u), (Str.ofString "many", some (.int (many : Int) tm)), (Str.ofString "total", some (.int tot tT)), (Str.ofString "script", some (.ref sc))]))
    ⟨o3, o4, u3, u4, _, X3, oa, none, none, none, none, none, none, none, none, none, none, none, none, rfl, K3, d3, d4, .inl rfl, S3, hO, by walk_at "maps"⟩ ?_ ?_
  · rintro I oi ltI j t _ _ h tk hj Rn1 nx1 rt1 ⟨o3', o4', u3', u4', τ', X', oa', ut, ug, us, uk, un, ui, ud, uw, ub, ur, urd, ugv, rfl, KJ, dJ3, dJ4, hτJ, SJ, hOJ, rfl⟩ F N off
    obtain ⟨hWJ, _⟩ := itF_ok hwin j
    have hWJ1 := (itF_ok hwin (j + 1)).1
    have hdue : dueN rows many (j + 1) = itF (wayF (rows.map wayN)) many (j + 1) := due_eq S3.len S3.inn
    have e1 : (1 : Int) + (j : Int) = ((j + 1 : Nat) : Int) := by exact o98
    rw [e1] at F
    have F2 : Fr h₀ L h (upds emp [(Str.ofString "order", some (.ref oa')), (Str.ofString "turn", some (.int ((j + 1 : Nat) : Int) t)), (Str.ofString "graph", ug), (Str.ofString "sorter", us), (Str.ofString "kept", uk), (Str.ofString "name", un), (Str.ofString "info", ui), (Str.ofString "due", ud), (Str.ofString "wanted", uw), (Str.ofString "behind", ub), (Str.ofString "ringed", ur), (Str.ofString "ready", urd), (Str.ofString "given", ugv), (Str.ofString "ways", some (.ref wa)), (Str.ofString "x", u), (Str.ofString "many", some (.int (many : Int) tm)), (Str.ofString "total", some (.int tot tT)), (Str.ofString "script", some (.ref sc))]) := fr_cast F (by walk_at "maps")
    have PMJ : ((I, oi) :: c4 L o4' o3' o2 o1 (τ' ++ X')).Perm (c4 L o4' o3' o2 o1 (τ' ++ (I, oi) :: X')) := (List.perm_middle (a := (I, oi)) (l₁ := c4 L o4' o3' o2 o1 τ') (l₂ := X')).symm
    have N2 := News.perm N PMJ
    have K2 := (KJ.cons (o := oi) off).perm PMJ
    refine law_turn (u_turn := none) (ti := j + 1) (O := itF (wayF (rows.map wayN)) many j) hlk2 B0 XK T HC l9 hτJ d1 d2 dJ3 dJ4 (SJ.mono fun p hp => .tail _ hp) (hOJ.mono fun p hp => .tail _ hp) (fun p hp => (hWJ.all p).mp hp) hWJ.nodup hWJ.length (by exact o99 hj hn5) hWJ (by rw [hdue]; exact hWJ1) (by rw [hdue, itF, step_rows]) (fun e => by unfold LoopErr; passes_own) F2 N2 K2
      fun h5 tk5 o35 o45 u35 u45 ad dv dn τ5 a1 a2 a3 a4 a5 a6 a7 a8 a9 a10 a11 a12 e35 e45 F5 N5 K5 hτ5 hdv => ?_
    rw [hdue] at hdv
    have PM5 : (c4 L o45 o35 o2 o1 (τ5 ++ (ad, listOf dv.toArray dn) :: (I, oi) :: X')).Perm ((I, oi) :: c4 L o45 o35 o2 o1 (τ5 ++ (ad, listOf dv.toArray dn) :: X')) := by
      have e2 : c4 L o45 o35 o2 o1 (τ5 ++ (ad, listOf dv.toArray dn) :: (I, oi) :: X') = c4 L o45 o35 o2 o1 (τ5 ++ [(ad, listOf dv.toArray dn)]) ++ (I, oi) :: X' := by simp
      have e3 : c4 L o45 o35 o2 o1 (τ5 ++ (ad, listOf dv.toArray dn) :: X') = c4 L o45 o35 o2 o1 (τ5 ++ [(ad, listOf dv.toArray dn)]) ++ X' := by simp
      rw [e2, e3]
      exact List.perm_middle
    have K6 := K5.perm PM5
    refine nx1 _ _ _ _ F5 (News.perm N5 PM5) K6.off ⟨o35, o45, u35, u45, τ5, (ad, listOf dv.toArray dn) :: X', ad, _, _, _, _, _, _, _, _, _, _, _, _, rfl, K6.tail, e35, e45, hτ5, SJ.mono fun p hp => .tail _ hp, ⟨dv, dn, .head _, hdv.mono fun p hp => by cases hp⟩, by walk_at "maps"⟩
  · rintro _ _ h tk ⟨o3', o4', u3', u4', τ', X', oa', ut, ug, us, uk, un, ui, ud, uw, ub, ur, urd, ugv, rfl, KJ, dJ3, dJ4, hτJ, SJ, hOJ, rfl⟩ F N
    (try dsimp only)
    (try k_unmd); (try k_fold)
    k_steps
    unfold Stopped
    refine wpAny_execs_cons ?_
    (try k_unmd); (try k_fold)
    k_steps
    exact k _ _ _ _ τ' F (News.perm N (List.perm_append_comm_assoc [(L + 1 + 1 + 1 + 1, o4'), (L + 1 + 1 + 1, o3'), (L + 1 + 1, o2), (L + 1, o1)] τ' X')) hτJ
end
end

section
set_option Elab.async false
set_option maxRecDepth 100000
set_option maxHeartbeats 8000000
open LCg (NsObj ns_obj lst)
section

local macro_rules | `(tactic| walk_at "eval ListComp") => `(tactic| (k_here; refine stop_intro ?_))
local macro_rules | `(tactic| walk_at "subscriptTail Name Slice ref ref") => `(tactic| (k_here; k_dflt (refine slice_raw (by k_asm) (by k_asm) (by k_mem) (by kmk_part) (by kmk_part) (by simp) ?_ (by with_unfolding_all rfl) (by kmk_pure)); intro q' h' zs' ez' lz' F' N' lq'; (try k_lt lq')))
local macro_rules | `(tactic| walk_at "storeName ref") => `(tactic| (k_here; k_dflt (refine store_c (by k_asm) (by k_asm) rfl (by k_updF) (by assumption) rfl rfl ?_); intro h' o' F' N' d'; (try dsimp only at N')))
theorem law_A {w : World} {s : Shared} {h₀ : Heap} {L fa : Addr} {hm : Heap} {mg mb : Str → Option Value} {cd2 : Value} {ob : Obj} {sc : Addr} {sv : List Value} {ns : List Int} {o1 o2 o3 o4 : Obj} {Q : Flow → Shared → Prop} {E : Value → Shared → Prop}
    (hlk : (heapK w.params).lookup 177 = some ob)
    (B0 : Below callerA h₀ [] h₀) (X : (heapK w.params).In h₀) (T : TopAt hm mg mb h₀) (l9 : @LT.lt Nat _ 169 L)
    (F : Fr h₀ L s.heap (upds emp [(Str.ofString "script", some (.ref sc))])) (N : News h₀ L s.heap (lawL L o4 o3 o2 o1))
    (d1 : o1.data = .cell none) (d2 : o2.data = .cell none) (hsl : h₀.IsList sc sv.toArray) (hI : IntsAre sv ns) (hns : ns.length ≤ 63)
    (k : ∀ h' tk (many : Nat) tm tot tT (o1' o2' : Obj) (qn rw n0 : Nat) (rs : List RW) (zs : List Value), 1 ≤ many → many ≤ 6 → zs.length = many → (∀ i v, zs[i]? = some v → nmIs i v = true) → o1'.data = .cell (some (.ref qn)) → o2'.data = .cell (some (.ref rw)) →
      Fr h₀ L h' (upds emp [(Str.ofString "many", some (.int (many : Int) tm)), (Str.ofString "total", some (.int tot tT)), (Str.ofString "script", some (.ref sc))]) →
      News h₀ L h' ((rw, listOf (rs.map fun r => Value.ref r.1).toArray n0) :: (rowL rs ++ ((qn, listOf zs.toArray 0) :: lawL L o4 o3 o2' o1'))) → Keys (rowL rs) → (∀ r ∈ rs, @LT.lt Nat _ qn r.1 ∧ @Ne Nat r.1 rw) → @LT.lt Nat _ qn rw → @LT.lt Nat _ (L + 4) qn → rs.length = many → RowsOk many 0 rs →
      wpAny (model PG w) (callerA.deeper (envOfC (fnQ ob) (fnS ob) L fa cd2)) (execs (restB 4 (fnB ob)) (envOfC (fnQ ob) (fnS ob) L fa cd2)) Q E { s with heap := h', toks := tk }) :
    wpAny (model PG w) (callerA.deeper (envOfC (fnQ ob) (fnS ob) L fa cd2)) (execs (fnB ob) (envOfC (fnQ ob) (fnS ob) L fa cd2)) Q E s := by
  have X₀ := X; have hPG : PG = Challenge.rw_dm0132_06.row.prog := rfl; revert hPG X₀; k_fill; intro X₀ hPG; clear hPG X₀
  refine' lk_use hlk ?lk ?_
  case lk => k_is
  intro e
  cases e
  clear hlk
  dsimp only [restB, fnB, fnQ, fnS] at k ⊢
  (try k_unmd); (try k_fold)
  k_steps
  rename _ = kms_pick _ _ _ => ez
  rename_i l5 h5 F5 N5 ls5 qn hq zs lz Fz Nz lq h4 oN F4 N4 dN1
  obtain ⟨many, hm1, hm6, hmT, hml, hnm⟩ := names_ok ez
  obtain ⟨tT, F6⟩ : ∃ tT, Fr h₀ L h4 (upds emp [(Str.ofString "total", some (.int (ns.sum + 3) tT)), (Str.ofString "script", some (.ref sc))]) := ⟨_, F4⟩
  have N6 : News h₀ L h4 ((qn, listOf zs.toArray 0) :: lawL L o4 o3 o2 oN) := News.sub N4 fun p hp => by
    rcases List.mem_cons.mp hp with rfl | hp
    · exact .head _
    · exact .tail _ (.tail _ hp)
  replace lq := lq.2
  clear F5 N5 ls5 Fz Nz F4 N4 lz ez
  refine len_raw N6 (.head _) (by exact o63 hml hm6) fun tk1 tk2 => ?_
  rw [hml]
  k_steps
  rename_i h7 F7 N7
  unfold Stopped
  walk_at "exec Assign"
  k_steps
  unfold Stopped
  refine eval_comp (cl := []) (fun _ => rfl) rfl rfl (by decide) rfl ?_
  intro Qn1 qn1
  k_steps
  unfold Stopped
  have hLD : LD [(qn, listOf zs.toArray 0)] qn ((List.range many).map nmDat) := ⟨zs, 0, .head _, dat_names hml hnm⟩
  refine comp_ld (fun _ _ _ => turn1 _ _ _ _ _ _ _ _ _ _) rfl F7 N7 hLD (fun p hp => by rw [List.mem_singleton.mp hp]; exact .head _)
    (fun j mC ys D' => X1 fun (rs : List RW) => A8 (ys = (rs.map fun r => Value.ref r.1)) (rs.length = j) (RowsOk many 0 rs) (Keys (rowL rs)) ((∀ r ∈ rs, @LT.lt Nat _ qn r.1)) ((∀ q ∈ rowL rs.reverse ++ ((qn, listOf zs.toArray 0) :: lawL L o4 o3 o2 oN), q ∈ D')) ((∀ q ∈ D', q ∈ rowL rs.reverse ++ ((qn, listOf zs.toArray 0) :: lawL L o4 o3 o2 oN))) (∃ u, mC = upds emp [(Str.ofString "name", u)]))
    (fun j mC ys D' hK p hp => by obtain ⟨rs, _, _, _, _, _, h1, _⟩ := hK; rw [List.mem_singleton.mp hp]; exact h1 _ (List.mem_append_right _ (.head _))) ⟨[], rfl, rfl, (fun _ h => nomatch h), .nil, (fun _ h => nomatch h), (fun _ h => h), (fun _ h => h), none, by walk_at "maps"⟩ ?_ ?_ (by decide) rfl rfl
  · rintro I oi acc C1 ltI j v oC mC ys n' D h tk hj hv ⟨rs, rfl, hrl, hok, hKs, hqs, hD1, hD2, u, rfl⟩ F N hC off hIa haC
    refine wpAny_tests_nil ?_
    rw [if_pos rfl]
    refine emit_next (ys := rs.map fun r => Value.ref r.1) (n := n') hC off (Nat.ne_of_lt hIa) (Nat.ne_of_lt haC) ?_
    (try k_unmd); (try k_fold)
    k_steps
    rename_i l' h' F' N' lt'
    have ltD : ∀ q ∈ D, q.1 < l' := fun q hq => allLt_mem lt'.2.2.2 q hq
    have hrl' : ∀ r ∈ rs, r.1 < l' := fun r hr => ltD (r.1, listOf r.2.2.1.toArray r.2.2.2) (hD1 _ (List.mem_append_left _ (List.mem_map_of_mem (f := fun r => (r.1, listOf r.2.2.1.toArray r.2.2.2)) (List.mem_reverse.mpr hr))))
    refine EltEnd.mk [(l', listOf ([] : List Value).toArray 0)] F' N' ?_ ?_ ⟨rs ++ [(l', [], [], 0)], ?_, ?_, ?_, ?_, ?_, ?_, ?_, some v, by walk_at "maps"⟩
    · intro p hp; rw [List.mem_singleton.mp hp]
      exact ⟨neN (by dsimp only; exact o64 lt'.1), neN (by dsimp only; exact o64 lt'.2.1), neN (by dsimp only; exact o64 lt'.2.2.1)⟩
    · simp only [List.length_map, List.length_range] at hj ⊢; unfold sizeLine; omega
    · simp
    · simp [hrl]
    · intro r hr
      rcases List.mem_append.mp hr with hr | hr
      · exact hok r hr
      · rw [List.mem_singleton.mp hr]; exact ⟨.nil, fun _ h => (nomatch h), Nat.le_refl _⟩
    · unfold Keys at hKs ⊢
      rw [rows_fst] at hKs ⊢
      rw [List.map_append]
      refine List.nodup_append.mpr ⟨hKs, by simp, ?_⟩
      intro a ha b hb
      simp at hb; subst hb
      obtain ⟨r, hr, rfl⟩ := List.mem_map.mp ha
      exact Nat.ne_of_lt (hrl' r hr)
    · intro r hr
      rcases List.mem_append.mp hr with hr | hr
      · exact hqs r hr
      · rw [List.mem_singleton.mp hr]
        exact ltD _ (hD1 _ (List.mem_append_right _ (.head _)))
    · intro q hq
      rw [List.reverse_append] at hq
      rcases List.mem_cons.mp hq with rfl | hq
      · exact .head _
      · exact .tail _ (hD1 q hq)
    · intro q hq
      rw [List.reverse_append]
      rcases List.mem_cons.mp hq with rfl | hq
      · exact .head _
      · exact .tail _ (hD2 q hq)
  · rintro acc C1 ltA oC mC ys n' D h tk ⟨rs, rfl, hrl, hok, hKs, hqs, hD1, hD2, u, rfl⟩ F N hC off offA
    refine comp_fin F N hC off fun h' F' N' => qn1 _ _ ?_
    (try dsimp only)
    have ltA' : @LT.lt Nat _ qn acc := ltA _ (.head _)
    have hrA : ∀ r ∈ rs, @Ne Nat r.1 acc := fun r hr => offA (r.1, listOf r.2.2.1.toArray r.2.2.2) (hD1 _ (List.mem_append_left _ (List.mem_map_of_mem (f := fun r => (r.1, listOf r.2.2.1.toArray r.2.2.2)) (List.mem_reverse.mpr hr))))
    have N9 : News h₀ L h' (((acc, listOf (rs.map fun r => Value.ref r.1).toArray n') :: (rowL rs ++ [(qn, listOf zs.toArray 0), (L + 1 + 1 + 1 + 1, o4), (L + 1 + 1 + 1, o3)])) ++ (L + 1 + 1, o2) :: [(L + 1, oN), (169, tabObj #[])]) := News.sub N' fun p hp => by
      rcases List.mem_cons.mp hp with rfl | hp
      · exact .head _
      · refine .tail _ (hD1 _ ?_)
        replace hp : p ∈ (rowL rs ++ [(qn, listOf zs.toArray 0), (L + 1 + 1 + 1 + 1, o4), (L + 1 + 1 + 1, o3)]) ++ [(L + 1 + 1, o2), (L + 1, oN), (169, tabObj #[])] := hp
        rw [List.append_assoc] at hp
        rcases List.mem_append.mp hp with hp | hp
        · refine List.mem_append_left _ ?_
          obtain ⟨r, hr, rfl⟩ := List.mem_map.mp hp
          exact List.mem_map_of_mem (f := fun r => (r.1, listOf r.2.2.1.toArray r.2.2.2)) (List.mem_reverse.mpr hr)
        · exact List.mem_append_right _ hp
    refine store_cs _ F' N9 rfl ?_ ?_ d2 rfl rfl fun h9 o2' F10 N10 d10 => ?_
    · intro p hp
      refine neN ?_
      rcases List.mem_cons.mp hp with rfl | hp
      · dsimp only; exact o65 lq.1 ltA'
      rcases List.mem_append.mp hp with hp | hp
      · obtain ⟨r, hr, rfl⟩ := List.mem_map.mp hp
        have := hqs r hr
        dsimp only; exact o65 lq.1 this
      · simp only [List.mem_cons, List.not_mem_nil, or_false] at hp
        rcases hp with rfl | rfl | rfl <;> dsimp only <;> (first | exact o66 lq.1 | exact o67 | exact o68 | assumption)
    · intro p hp
      refine neN ?_
      simp only [List.mem_cons, List.not_mem_nil, or_false] at hp
      rcases hp with rfl | rfl <;> dsimp only <;> (first | exact o69 | exact o70 l9 | assumption)
    · refine k _ _ many _ _ _ oN o2' qn acc n' rs zs hm1 hm6 hml hnm ‹_› d10 F10 (News.sub N10 fun p hp => ?_) hKs (fun r hr => ⟨hqs r hr, hrA r hr⟩) ltA' (by exact o71 lq.1) (hrl.trans (by simp)) hok
      rw [List.cons_append, List.append_assoc]; exact hp
end
end

section
set_option Elab.async false
set_option maxRecDepth 100000
set_option maxHeartbeats 8000000
theorem rows_dat {X : Led} : ∀ {rs : List RW}, (∀ r ∈ rs, (r.1, listOf r.2.2.1.toArray r.2.2.2) ∈ X ∧ DatAll [] r.2.2.1 (dN r.2.1)) → DatAll X (rs.map fun r => Value.ref r.1) (dNL (rs.map fun r => r.2.1))
  | [], _ => .nil
  | r :: rs, h => .cons (.list (h r (.head _)).1 ((h r (.head _)).2.mono fun p hp => by cases hp)) (rows_dat fun x hx => h x (.tail _ hx))
theorem law_E {w : World} {s : Shared} {h₀ : Heap} {L fa : Addr} {hm : Heap} {mg mb : Str → Option Value} {cd2 : Value} {ob : Obj} {sc : Addr} {sv : List Value} {ns : List Int} {o1 o2 o3 o4 : Obj} {Q : Flow → Shared → Prop} {E : Value → Shared → Prop}
    (hlk : (heapK w.params).lookup 177 = some ob)
    (B0 : Below callerA h₀ [] h₀) (X : (heapK w.params).In h₀) (T : TopAt hm mg mb h₀) (HC : CodeHd h₀ 171 169) (l9 : @LT.lt Nat _ 169 L)
    (F : Fr h₀ L s.heap (upds emp [(Str.ofString "script", some (.ref sc))])) (N : News h₀ L s.heap (lawL L o4 o3 o2 o1))
    (d1 : o1.data = .cell none) (d2 : o2.data = .cell none) (d3 : o3.data = .cell none) (d4 : o4.data = .cell none) (hsl : h₀.IsList sc sv.toArray) (hI : IntsAre sv ns) (hns : ns.length ≤ 63)
    (k : ∀ h' tk m' D' τ', Fr h₀ L h' m' → News h₀ L h' (τ' ++ D') → Tab τ' → Q (.ret (.bool true)) { s with heap := h', toks := tk }) :
    wpAny (model PG w) (callerA.deeper (envOfC (fnQ ob) (fnS ob) L fa cd2)) (execs (fnB ob) (envOfC (fnQ ob) (fnS ob) L fa cd2)) Q E s := by
  refine law_A hlk B0 X T l9 F N d1 d2 hsl hI hns fun h1 tk1 many tm tot tT o1' o2' qn rw n0 rs zs ha1 ha6 hzl hzs e1 e2 F1 N1 K1 hlt hqr hqn hrl hok => ?_
  (try dsimp only)
  refine law_B hlk B0 X T F1 N1 K1 hlt hqr hqn l9 e2 hrl ha1 ha6 hok hsl hI hns fun h2 tk2 u rs' F2 N2 hfst hok2 => ?_
  (try dsimp only)
  have hfst2 : (rs.map fun r => Value.ref r.1) = rs'.map fun r => Value.ref r.1 := by
    have h := congrArg (List.map Value.ref) hfst
    rw [List.map_map, List.map_map] at h
    exact h.symm
  rw [hfst2] at N2
  have hlt2 : ∀ r ∈ rs', @LT.lt Nat _ qn r.1 ∧ @Ne Nat r.1 rw := fun r hr => by
    have h : r.1 ∈ rs.map (·.1) := by rw [← hfst]; exact List.mem_map_of_mem hr
    obtain ⟨r0, hr0, e⟩ := List.mem_map.mp h
    have h9 := hlt r0 hr0
    rw [← e]; exact h9
  have hrl2 : rs'.length = many := by
    have h := congrArg List.length hfst
    rw [List.length_map, List.length_map] at h
    exact o100 h hrl
  have K2 : Keys (rowL rs') := by
    have e : ∀ rs : List RW, (rowL rs).map (·.1) = rs.map (·.1) := fun rs => by rw [List.map_map]; rfl
    unfold Keys at K1 ⊢
    rw [e] at K1 ⊢
    rw [hfst]; exact K1
  obtain ⟨Z, hZ⟩ : ∃ Z, Z = (rw, listOf (rs'.map fun r => Value.ref r.1).toArray n0) :: (rowL rs' ++ [(qn, listOf zs.toArray 0)]) := ⟨_, rfl⟩
  have PM : ((rw, listOf (rs'.map fun r => Value.ref r.1).toArray n0) :: (rowL rs' ++ ((qn, listOf zs.toArray 0) :: lawL L o4 o3 o2' o1'))).Perm (lawL L o4 o3 o2' o1' ++ Z) := by
    have e : (rw, listOf (rs'.map fun r => Value.ref r.1).toArray n0) :: (rowL rs' ++ ((qn, listOf zs.toArray 0) :: lawL L o4 o3 o2' o1')) = Z ++ lawL L o4 o3 o2' o1' := by rw [hZ]; simp
    rw [e]; exact List.perm_append_comm
  have KZ : Keys (lawL L o4 o3 o2' o1' ++ Z) := by
    refine Keys.perm ?_ PM
    refine Keys.cons ?_ ?_
    · unfold Keys
      rw [List.map_append, List.nodup_append]
      refine ⟨K2, ?_, ?_⟩
      · show Keys _
        simp only [keys_cons, List.forall_mem_cons]
        exact ⟨⟨neN (by exact o101 hqn), neN (by exact o102 hqn), neN (by exact o103 hqn), neN (by exact o104 hqn), neN (by exact o105 hqn l9), (fun _ h => nomatch h)⟩, ⟨neN (by exact o69), neN (by exact o106), neN (by exact o107), neN (by exact o108 l9), (fun _ h => nomatch h)⟩, ⟨neN (by exact o69), neN (by exact o106), neN (by exact o109 l9), (fun _ h => nomatch h)⟩, ⟨neN (by exact o69), neN (by exact o70 l9), (fun _ h => nomatch h)⟩, ⟨neN (by exact o110 l9), (fun _ h => nomatch h)⟩, (fun _ h => nomatch h), List.nodup_nil⟩
      · intro a ha b hb e
        obtain ⟨p, hp, rfl⟩ := List.mem_map.mp ha
        obtain ⟨r, hr, rfl⟩ := List.mem_map.mp hp
        have h1 := (hlt2 r hr).1
        obtain ⟨q, hq, rfl⟩ := List.mem_map.mp hb
        have h3 : @Eq Nat r.1 q.1 := e
        have h4 : @LE.le Nat _ q.1 qn := by
          rcases List.mem_cons.mp hq with rfl | hq
          · exact Nat.le_refl _
          · simp only [lawL, List.mem_cons, List.not_mem_nil, or_false] at hq
            rcases hq with rfl | rfl | rfl | rfl | rfl <;> dsimp only <;> (first | exact Nat.le_of_lt hqn | exact Nat.le_of_lt (Nat.lt_of_succ_lt hqn) | exact Nat.le_of_lt (Nat.lt_of_succ_lt (Nat.lt_of_succ_lt hqn)) | exact Nat.le_of_lt (Nat.lt_of_succ_lt (Nat.lt_of_succ_lt (Nat.lt_of_succ_lt hqn))) | exact Nat.le_of_lt (Nat.lt_trans l9 (Nat.lt_of_le_of_lt (Nat.le_add_right L 4) hqn)))
        exact (o111 h1 h3 h4).elim
    · intro q hq
      rcases List.mem_append.mp hq with hq | hq
      · obtain ⟨r, hr, rfl⟩ := List.mem_map.mp hq
        exact (hlt2 r hr).2
      · refine neN ?_
        have h4 : @LE.le Nat _ q.1 qn := by
          rcases List.mem_cons.mp hq with rfl | hq
          · exact Nat.le_refl _
          · simp only [lawL, List.mem_cons, List.not_mem_nil, or_false] at hq
            rcases hq with rfl | rfl | rfl | rfl | rfl <;> dsimp only <;> (first | exact o112 hqn | exact o113 hqn | exact o114 hqn | exact o115 hqn | exact o116 hqn l9 | assumption)
        exact o117 hqr h4
  have hrows : LD Z rw (dNL (rs'.map fun r => r.2.1)) := by
    refine ⟨_, n0, by rw [hZ]; exact .head _, rows_dat fun r hr => ⟨?_, (hok2 r hr).1⟩⟩
    rw [hZ]
    exact .tail _ (List.mem_append_left _ (List.mem_map.mpr ⟨r, hr, rfl⟩))
  have hnamZ : LD Z qn ((List.range many).map nmDat) := ⟨zs, 0, by rw [hZ]; exact .tail _ (List.mem_append_right _ (.head _)), dat_names hzl hzs⟩
  have hrl3 : (rs'.map fun r => r.2.1).length = many := by rw [List.length_map]; exact hrl2
  have h65 : ∀ r ∈ (rs'.map fun r => r.2.1), r.length ≤ 65 := fun r hr => by
    obtain ⟨x, hx, rfl⟩ := List.mem_map.mp hr
    exact (hok2 x hx).2.2
  have hinn : ∀ r ∈ (rs'.map fun r => r.2.1), ∀ q ∈ r, q < many := fun r hr => by
    obtain ⟨x, hx, rfl⟩ := List.mem_map.mp hr
    exact (hok2 x hx).2.1
  refine law_C hlk B0 X T F2 (News.perm N2 PM) KZ e2 hrows hrl3 ha6 h65 fun h3 tk3 wa X' F3 N3 K3 hsub hway => ?_
  (try dsimp only)
  exact law_D hlk B0 X T HC l9 F3 N3 K3 e1 e2 d3 d4 ⟨hnamZ.mono hsub, hrows.mono hsub, hway, ha1, ha6, hrl3, hinn, h65⟩ fun h4 tk4 m4 D4 τ4 F4 N4 hτ4 => k h4 tk4 m4 D4 τ4 F4 N4 hτ4
end

section
set_option maxRecDepth 100000
theorem post_true (args ds : List WData) : Challenge.rw_dm0132_06.row.claim.post args (.bool true) ds = true := by
  kernel_rfl
end

section
set_option Elab.async false
set_option maxRecDepth 100000
set_option maxHeartbeats 8000000
theorem fin_law : PySem.Challenge.rw_dm0132_06.Holds := by
  w_on
  refine holds_law (by kernel_rfl) fun said => ?_
  refine holds_open (q := viewK) (loose := [Str.ofString "_NodeInfo"]) (Xt := fun s => xlAt viewK [] s && recOk (RowW.records Challenge.rw_dm0132_06.row.toRowW) s) (XP := XL viewK []) (Yf := Hook.obs (kmHook heapK addrK addrK_is [169])) (Ya := Hook.val (kmHook heapK addrK addrK_is [169])) (YP := Hook.says (kmHook heapK addrK addrK_is [169])) (N := 2584) ?zzhl (Hook.of (kmHook heapK addrK addrK_is [169])) (Hook.keeps (kmHook heapK addrK addrK_is [169])) (fun s e => xl_of s (Bool.and_eq_true_iff.mp e).1) XL.keeps (by rfl) (by rfl) (by rfl) (fun s e => recFacts_of (Bool.and_eq_true_iff.mp e).2) (by rfl) (by first | assumption | decide +kernel) (by decide +kernel) ⟨rfl, rfl, rfl, rfl, rfl, by decide +kernel⟩ ?zzhw ?zzhc
  case zzhl => exact left_law
  case zzhw => w_witness2
  k_go0
  rename Below _ _ _ _ => B1
  rename Top topProg _ _ _ _ _ => T1
  rename IntsAre _ _ => hI
  rename @LT.lt Nat _ 169 _ => l9
  rename News _ _ _ _ => N1
  rename Fr _ _ _ _ => F1
  rename ¬ (63 : Int) < _ => h63
  rename Frag.In _ (ghostOf _ _) => XK
  rename_i o4 o3 o2 o1 e4 e3 e2 e1 X0
  refine' lk_have XK 177 ?zzlk ?zzgo
  case zzlk => k_is
  intro hlk
  refine' law_E hlk B1 XK T1 codeHd l9 ?zzF N1 ?zzd1 ?zzd2 ?zzd3 ?zzd4 lifted hI ?zzh63 ?zzk
  case zzd1 => exact e1
  case zzd2 => exact e2
  case zzd3 => exact e3
  case zzd4 => exact e4
  case zzh63 => exact o60 h63
  case zzF => exact fr_cast F1 (by with_unfolding_all rfl)
  case zzk =>
    intro h' tk m' D' τ' F' N' hτ'
    (try dsimp only)
    refine ⟨⟨.inl ⟨_, .bool true, [], rfl, fun _ => rfl, .bool _, ?_, ?_⟩, F'.keep, rfl, by assumption⟩, ?_, trivial⟩
    · exact post_true _ _
    · exact fun _ => ⟨List.nodup_nil, fun _ h => nomatch h⟩
    · rcases hτ' with rfl | ⟨_, _, _, _, rfl, _⟩
      · exact GrownAt.of N' (.head _)
      · exact GrownAt.of N' (.head _)
end

end
end Mine

set_option maxRecDepth 100000 in
set_option maxHeartbeats 8000000 in
theorem PySem.Challenge.cw_dm0132_06_holds : PySem.Challenge.rw_dm0132_06.Holds := by
  exact Mine.fin_law
